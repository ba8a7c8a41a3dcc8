import Derived.Test.Qxb6617558aPa
namespace Go.Proofs.Qxb6617558a
open Go.RowKit Go.Maps
set_option linter.unusedVariables false
/-- a VM as it is told -/
structure Vm where
  src : ByteArray
  id : ByteArray
  lat : Int
  nm : ByteArray
  tn : ByteArray
  np : Nat
  pl : Nat → Pl
/-- a tally as it is told -/
structure Ta where
  n : Nat
  m : Nat
  src : Nat → ByteArray
  cnt : Nat → Int
  vm : Nat → Vm
structure Vm.Ok (v : Vm) : Prop where
  src : v.src.size ≤ maxLen
  id : v.id.size ≤ maxLen
  nm : v.nm.size ≤ maxLen
  tn : v.tn.size ≤ maxLen
  lat : -9223372036854775808 ≤ v.lat ∧ v.lat ≤ 9223372036854775807
  np : v.np ≤ maxLen
  pl : ∀ j, j < v.np → (v.pl j).Ok
structure Ta.Ok (x : Ta) : Prop where
  n : x.n ≤ maxLen
  m : x.m ≤ maxLen
  src : ∀ i, i < x.n → (x.src i).size ≤ maxLen
  cnt : ∀ i, i < x.n → -9223372036854775808 ≤ x.cnt i ∧ x.cnt i ≤ 9223372036854775807
  vm : ∀ i, i < x.m → (x.vm i).Ok
structure Ta.Small (x : Ta) : Prop where
  n : x.n ≤ 4096
  m : x.m ≤ 4096
  np : ∀ i, i < x.m → (x.vm i).np ≤ 4096
structure Ta.Dist (x : Ta) : Prop where
  s : ∀ i j, i < x.n → j < x.n → x.src i = x.src j → i = j
  v : ∀ i j, i < x.m → j < x.m → (x.vm i).src = (x.vm j).src → (x.vm i).id = (x.vm j).id → i = j
  p : ∀ i a b, i < x.m → a < (x.vm i).np → b < (x.vm i).np → ((x.vm i).pl a).tn = ((x.vm i).pl b).tn → ((x.vm i).pl a).pl = ((x.vm i).pl b).pl → a = b
/-- where it is told -/
structure Loc where
  sa : Option Addr
  va : Option Addr
  sc : Nat
  vc : Nat
  pa : Nat → Option Addr
  pc : Nat → Nat
def Loc.arr (L : Loc) (x : Ta) : Array Value := #[.slice L.sa x.n L.sc, .slice L.va x.m L.vc]
def vcell (d : Vm) (v : Value) (c : Nat) : Value := if c = 0 then .string d.src else if c = 1 then .string d.id else if c = 2 then .int .i64 d.lat else if c = 3 then .string d.nm else if c = 4 then .string d.tn else v
structure Arg (w : World) (L : Loc) (x : Ta) : Prop where
  s : ∀ i, i < x.n → ∃ b o, L.sa = some ⟨b, o, none⟩ ∧ w.cell? ⟨b, o + i * 2, none⟩ = some (.string (x.src i)) ∧ w.cell? ⟨b, o + i * 2 + 1, none⟩ = some (.int .i64 (x.cnt i))
  v : ∀ i, i < x.m → ∃ b o, L.va = some ⟨b, o, none⟩ ∧ ∀ c, c < 6 → w.cell? ⟨b, o + i * 6 + c, none⟩ = some (vcell (x.vm i) (.slice (L.pa i) (x.vm i).np (L.pc i)) c)
  p : ∀ i j, i < x.m → j < (x.vm i).np → ∃ b o, L.pa i = some ⟨b, o, none⟩ ∧ ∀ c, c < 10 → w.cell? ⟨b, o + j * 10 + c, none⟩ = some (((x.vm i).pl j).cell c)
theorem cell_below {w w' : World} {a : Addr} {v : Value} (hb : Below w.heap.size w w') (h : w.cell? a = some v) : w'.cell? a = some v := (hb.cell (World.block_lt_of_cell? w a h)).trans h
theorem Arg.below {w w' : World} {L : Loc} {x : Ta} (h : Arg w L x) (hb : Below w.heap.size w w') : Arg w' L x := by
  refine ⟨fun i hi => ?_, fun i hi => ?_, fun i j hi hj => ?_⟩
  · obtain ⟨b, o, h1, h2, h3⟩ := h.s i hi
    exact ⟨b, o, h1, cell_below hb h2, cell_below hb h3⟩
  · obtain ⟨b, o, h1, h2⟩ := h.v i hi
    exact ⟨b, o, h1, fun c hc => cell_below hb (h2 c hc)⟩
  · obtain ⟨b, o, h1, h2⟩ := h.p i j hi hj
    exact ⟨b, o, h1, fun c hc => cell_below hb (h2 c hc)⟩

def skey (x : Ta) (σ : Nat → Nat) (i : Nat) : Value := .string (x.src (σ i))
def sval (x : Ta) (σ : Nat → Nat) (i : Nat) : Value := .int .i64 (x.cnt (σ i))
def vkey (x : Ta) (π : Nat → Nat) (i : Nat) : Value := .agg #[.string (x.vm (π i)).src, .string (x.vm (π i)).id]
def vval (vb : Nat → Nat) (i : Nat) : Value := .pointer (some ⟨vb i, 0, none⟩)
theorem keysS {x : Ta} (h : x.Ok) (hd : x.Dist) {p : Nat} {σ : Nat → Nat} (hl : ∀ i, i < p → σ i < x.n) (hi : ∀ i j, i < p → j < p → σ i = σ j → i = j) : Keys 9 p (skey x σ) :=
  ⟨fun i h1 => okS _ (h.src _ (hl i h1)), fun i j h1 h2 e => hi i j h1 h2 (hd.s _ _ (hl i h1) (hl j h2) (by simpa [skey] using e))⟩
theorem keysV {x : Ta} (h : x.Ok) (hd : x.Dist) {q : Nat} {π : Nat → Nat} (hl : ∀ i, i < q → π i < x.m) (hi : ∀ i j, i < q → j < q → π i = π j → i = j) : Keys 68 q (vkey x π) :=
  ⟨fun i h1 => okV _ _ (h.vm _ (hl i h1)).src (h.vm _ (hl i h1)).id, fun i j h1 h2 e => hi i j h1 h2 (by
    simp [vkey] at e
    exact hd.v _ _ (hl i h1) (hl j h2) e.1 e.2)⟩

/-- a VM of a tally in memory -/
def VmAt (R : Pl → Pl → Prop) (w : World) (g : Nat) (d : Vm) : Prop := ∃ v P, w.rowIs g 66 6 (vmf (d.lat % 1000000000) (d.lat / 1000000000) d.nm d.tn v) ∧ Places w 0 v d.np P ∧ ∀ j, j < d.np → R (P j) (d.pl j)
/-- a tally in memory: p snaps, told in the order σ; q VMs, told in the order π, in the blocks vb -/
structure Tal (R : Pl → Pl → Prop) (w : World) (T T0 T1 : Nat) (x : Ta) (p : Nat) (σ : Nat → Nat) (q : Nat) (π vb : Nat → Nat) : Prop where
  row : w.rowIs T 50 2 (tf T0 T1)
  s : MapIs w T0 p (skey x σ) (sval x σ)
  v : MapIs w T1 q (vkey x π) (vval vb)
  vm : ∀ i, i < q → VmAt R w (vb i) (x.vm (π i))
  apart : T0 ≠ T1
theorem map_ne {w : World} {b n r t N : Nat} {key val f : Nat → Value} (h : MapIs w b n key val) (h' : w.rowIs r t N f) : r ≠ b := by
  rintro rfl
  obtain ⟨c, h2, _⟩ := h'
  unfold MapIs at h
  rw [h] at h2
  cases h2
/-- block b alone has turned among those that were there -/
structure But (b : Nat) (w w' : World) : Prop where
  os : w'.os = w.os
  tape : w'.tape = w.tape
  output : w'.output = w.output
  size : w.heap.size ≤ w'.heap.size
  block : ∀ k, k < w.heap.size → k ≠ b → w'.heap[k]? = w.heap[k]?
theorem But.of_grown {b : Nat} {w w' : World} (h : w.grownBy w' (some b)) : But b w w' := ⟨h.os, h.tape, h.output, h.size, fun k hk hne => h.block k hk (by simpa using hne)⟩
theorem But.of_below {b : Nat} {w w' : World} (h : Below w.heap.size w w') : But b w w' := ⟨h.os, h.tape, h.output, h.size, fun k hk _ => h.block k hk⟩
theorem But.trans {b : Nat} {w w' w'' : World} (h : But b w w') (k : But b w' w'') : But b w w'' := ⟨k.os.trans h.os, k.tape.trans h.tape, k.output.trans h.output, Nat.le_trans h.size k.size, fun j hj hne => (k.block j (Nat.lt_of_lt_of_le hj h.size) hne).trans (h.block j hj hne)⟩
theorem But.thenBelow {b S : Nat} {w w' w'' : World} (h : But b w w') (k : Below S w' w'') (hS : w.heap.size ≤ S) : But b w w'' := ⟨k.os.trans h.os, k.tape.trans h.tape, k.output.trans h.output, Nat.le_trans h.size k.size, fun j hj hne => (k.block j (Nat.lt_of_lt_of_le hj hS)).trans (h.block j hj hne)⟩
theorem But.below {b B : Nat} {w w' : World} (h : But b w w') (hb : B ≤ b) (hB : B ≤ w.heap.size) : Below B w w' := ⟨h.os, h.tape, h.output, h.size, fun k hk => h.block k (by omega) (by omega)⟩
/-- block b is no row -/
def NotRow (w : World) (b : Nat) : Prop := ∀ r t N f, w.rowIs r t N f → r ≠ b
theorem MapIs.notRow {w : World} {b q : Nat} {key val : Nat → Value} (h : MapIs w b q key val) : NotRow w b := fun r t N f hr => map_ne h hr
theorem Iter.notRow {w : World} {b r n : Nat} {pi : List Nat} (h : Iter w b r n pi) : NotRow w r := by
  rintro _ t N f ⟨c, h2, _⟩ rfl
  unfold Iter at h
  rw [h] at h2
  cases h2
theorem Iter.ne {w : World} {b r n q m : Nat} {pi : List Nat} {key val : Nat → Value} (h : Iter w b r n pi) (hm : MapIs w q m key val) : q ≠ r := by
  rintro rfl
  unfold Iter at h
  unfold MapIs at hm
  rw [h] at hm
  cases hm
theorem Places.but {w w' : World} {S b n : Nat} {v : Value} {P : Nat → Pl} (h : Places w S v n P) (hm : NotRow w b) (hb : But b w w') : Places w' S v n P := by
  rcases h with h | ⟨r, cap, F, hv, h1, h2, h3, h4, h5⟩
  · exact .inl h
  · exact .inr ⟨r, cap, F, hv, h1, h2, h3, World.rowIs.of_block h4 (hb.block r h4.lt (hm _ _ _ _ h4)), h5⟩
theorem VmAt.but {R : Pl → Pl → Prop} {w w' : World} {b g : Nat} {d : Vm} (h : VmAt R w g d) (hm : NotRow w b) (hb : But b w w') : VmAt R w' g d := by
  obtain ⟨v, P, h1, h2, h3⟩ := h
  exact ⟨v, P, World.rowIs.of_block h1 (hb.block g h1.lt (hm _ _ _ _ h1)), h2.but hm hb, h3⟩
theorem Places.mono {w : World} {S S' n : Nat} {v : Value} {P : Nat → Pl} (h : Places w S v n P) (hS : S' ≤ S) : Places w S' v n P := by
  rcases h with h | ⟨r, cap, F, hv, h1, h2⟩
  · exact .inl h
  · exact .inr ⟨r, cap, F, hv, Nat.le_trans hS h1, h2⟩
theorem Tal.below {R : Pl → Pl → Prop} {w w' : World} {T T0 T1 : Nat} {x : Ta} {p q : Nat} {σ π vb : Nat → Nat} (h : Tal R w T T0 T1 x p σ q π vb) (hb : Below w.heap.size w w') : Tal R w' T T0 T1 x p σ q π vb :=
  ⟨World.rowIs.of_block h.row (hb.block T h.row.lt), h.s.below hb h.s.lt, h.v.below hb h.v.lt, fun i hi => (h.vm i hi).but h.v.notRow (But.of_below hb), h.apart⟩
theorem vval_upd (vb : Nat → Nat) (q g : Nat) : upd (vval vb) q (.pointer (some ⟨g, 0, none⟩)) = vval (upd vb q g) := by
  funext j
  by_cases e : j = q <;> simp [upd, vval, e]
/-- one VM more -/
theorem Tal.more {R : Pl → Pl → Prop} {w w' : World} {T T0 T1 : Nat} {x : Ta} {p q g : Nat} {σ π vb : Nat → Nat} (h : Tal R w T T0 T1 x p σ q π vb) (hb : But T1 w w') (hm : MapIs w' T1 (q + 1) (vkey x π) (vval (upd vb q g))) (hg : VmAt R w' g (x.vm (π q))) : Tal R w' T T0 T1 x p σ (q + 1) π (upd vb q g) := by
  refine ⟨World.rowIs.of_block h.row (hb.block T h.row.lt (map_ne h.v h.row)), h.s.of_block (hb.block T0 h.s.lt h.apart), hm, fun i hi => ?_, h.apart⟩
  by_cases e : i = q
  · subst e
    rw [upd_at]
    exact hg
  · rw [upd_ne _ _ _ (by omega)]
    exact (h.vm i (by omega)).but h.v.notRow hb
/-- one snap more -/
theorem Tal.snap {R : Pl → Pl → Prop} {w w' : World} {T T0 T1 : Nat} {x : Ta} {p q : Nat} {σ π vb : Nat → Nat} (h : Tal R w T T0 T1 x p σ q π vb) (hb : But T0 w w') (hm : MapIs w' T0 (p + 1) (skey x σ) (sval x σ)) : Tal R w' T T0 T1 x (p + 1) σ q π vb :=
  ⟨World.rowIs.of_block h.row (hb.block T h.row.lt (map_ne h.s h.row)), hm, h.v.of_block (hb.block T1 h.v.lt (Ne.symm h.apart)), fun i hi => (h.vm i hi).but h.s.notRow hb, h.apart⟩
theorem sval_upd (x : Ta) (σ : Nat → Nat) (p : Nat) : upd (sval x σ) p (.int .i64 (x.cnt (σ p))) = sval x σ := by
  funext j
  unfold upd sval
  split
  · rename_i h; rw [h]
  · rfl
/-- the order turned -/
theorem Tal.order {R : Pl → Pl → Prop} {w : World} {T T0 T1 : Nat} {x : Ta} {p q : Nat} {σ π vb σ' π' : Nat → Nat} (h : Tal R w T T0 T1 x p σ q π vb) (hs : ∀ i, i < p → σ i = σ' i) (hv : ∀ i, i < q → π i = π' i) : Tal R w T T0 T1 x p σ' q π' vb :=
  ⟨h.row, h.s.congr (fun i hi => by unfold skey; rw [hs i hi]) (fun i hi => by unfold sval; rw [hs i hi]), h.v.congr (fun i hi => by unfold vkey; rw [hv i hi]) (fun _ _ => rfl), fun i hi => by rw [← hv i hi]; exact h.vm i hi, h.apart⟩
theorem tal_new {R : Pl → Pl → Prop} {w w' : World} (h : NewPost w w') (x : Ta) (σ π vb : Nat → Nat) : Tal R w' (w.heap.size + 2) w.heap.size (w.heap.size + 1) x 0 σ 0 π vb :=
  ⟨h.row, h.m0 _ _, h.m1 _ _, fun i hi => absurd hi (by omega), by omega⟩
/-- the tally stands while a block that is none of its own turns -/
theorem Tal.but {R : Pl → Pl → Prop} {w w' : World} {T T0 T1 : Nat} {x : Ta} {p q b : Nat} {σ π vb : Nat → Nat} (h : Tal R w T T0 T1 x p σ q π vb) (hb : But b w w') (hn : NotRow w b) (h0 : T0 ≠ b) (h1 : T1 ≠ b) : Tal R w' T T0 T1 x p σ q π vb :=
  ⟨World.rowIs.of_block h.row (hb.block T h.row.lt (hn _ _ _ _ h.row)), h.s.of_block (hb.block T0 h.s.lt h0), h.v.of_block (hb.block T1 h.v.lt h1), fun i hi => (h.vm i hi).but hn hb, h.apart⟩
theorem Tal.weaken {w : World} {T T0 T1 : Nat} {x : Ta} {p q : Nat} {σ π vb : Nat → Nat} (h : Tal Eq w T T0 T1 x p σ q π vb) : Tal PlEq w T T0 T1 x p σ q π vb :=
  ⟨h.row, h.s, h.v, fun i hi => by
    obtain ⟨v, P, h1, h2, h3⟩ := h.vm i hi
    exact ⟨v, P, h1, h2, fun j hj => by rw [h3 j hj]; exact PlEq.refl _⟩, h.apart⟩
end Go.Proofs.Qxb6617558a
