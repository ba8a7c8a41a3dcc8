import Derived.Test.Qxb6617558aDa
import Derived.StillTailTactics
namespace Go.Proofs.Qxb6617558a
open Go.RowKit Go.Maps
set_option linter.unusedVariables false
def idx (pi : List Nat) (i : Nat) : Nat := pi.getD i 0
theorem idx_old (pi : List Nat) (k : Nat) {i : Nat} (h : i < pi.length) : idx pi i = idx (pi ++ [k]) i := by
  unfold idx
  rw [List.getD_eq_getElem?_getD, List.getD_eq_getElem?_getD, List.getElem?_append_left h]
theorem idx_new (pi : List Nat) (k : Nat) : idx (pi ++ [k]) pi.length = k := by
  unfold idx
  rw [List.getD_eq_getElem?_getD, List.getElem?_append_right (Nat.le_refl _)]
  simp
theorem idx_mem {pi : List Nat} {i : Nat} (h : i < pi.length) : idx pi i ∈ pi := by
  unfold idx
  rw [List.getD_eq_getElem?_getD, List.getElem?_eq_getElem h]
  simp
theorem idx_inj {pi : List Nat} (hd : pi.Nodup) {i j : Nat} (hi : i < pi.length) (hj : j < pi.length) (e : idx pi i = idx pi j) : i = j := by
  unfold idx at e
  rw [List.getD_eq_getElem?_getD, List.getD_eq_getElem?_getD, List.getElem?_eq_getElem hi, List.getElem?_eq_getElem hj] at e
  refine (List.getElem?_inj hi hd).1 ?_
  rw [List.getElem?_eq_getElem hi, List.getElem?_eq_getElem hj]
  simpa using e
theorem idx_sur {pi : List Nat} {k : Nat} (h : k ∈ pi) : ∃ j, j < pi.length ∧ idx pi j = k := by
  obtain ⟨j, hj, e⟩ := List.mem_iff_getElem.1 h
  refine ⟨j, hj, ?_⟩
  unfold idx
  rw [List.getD_eq_getElem?_getD, List.getElem?_eq_getElem hj]
  simpa using e
/-- σ tells 0 .. n - 1, each once -/
structure Ord (n : Nat) (σ : Nat → Nat) : Prop where
  lt : ∀ i, i < n → σ i < n
  inj : ∀ i j, i < n → j < n → σ i = σ j → i = j
  sur : ∀ k, k < n → ∃ j, j < n ∧ σ j = k
theorem ord_id (n : Nat) : Ord n id := ⟨fun _ h => h, fun _ _ _ _ e => e, fun k h => ⟨k, h, rfl⟩⟩
theorem ord_idx {n : Nat} {pi : List Nat} (hd : pi.Nodup) (hl : ∀ i, i ∈ pi → i < n) (ha : ∀ i, i < n → i ∈ pi) : pi.length = n ∧ Ord n (idx pi) := by
  have e : pi.length = n := Nat.le_antisymm (nodup_len n pi hd hl) (len_nodup n pi ha)
  refine ⟨e, fun i hi => hl _ (idx_mem (by omega)), fun i j hi hj => idx_inj hd (by omega) (by omega), fun k hk => ?_⟩
  obtain ⟨j, h1, h2⟩ := idx_sur (ha k hk)
  exact ⟨j, by omega, h2⟩
theorem nodup_push {pi : List Nat} {k : Nat} (hd : pi.Nodup) (h : k ∉ pi) : (pi ++ [k]).Nodup := by
  rw [List.nodup_append]
  refine ⟨hd, by simp, ?_⟩
  intro a ha b hb
  simp at hb
  subst hb
  rintro rfl
  exact h ha
/-- merge in the snaps' loop -/
structure Ms (D : Nat) (w : World) (T T0 T1 U U0 U1 : Nat) (x : Ta) (vb : Nat → Nat) (r : Nat) (pi : List Nat) (wr : World) : Prop where
  t : Tal PlEq wr T T0 T1 x pi.length (idx pi) 0 id (fun _ => 0)
  o : Tal Eq wr U U0 U1 x x.n id x.m id vb
  it : Iter wr U0 r x.n pi
  nd : pi.Nodup
  lt : ∀ i, i ∈ pi → i < x.n
  below : Below D w wr
  hD : D ≤ wr.heap.size
/-- the step's world -/
theorem Tal.iter {R : Pl → Pl → Prop} {w w' : World} {T T0 T1 : Nat} {x : Ta} {p q b r n : Nat} {σ π vb : Nat → Nat} {pi : List Nat} (h : Tal R w T T0 T1 x p σ q π vb) (hi : Iter w b r n pi) (hg : w.grownBy w' (some r)) : Tal R w' T T0 T1 x p σ q π vb :=
  h.but (But.of_grown hg) hi.notRow (hi.ne h.s) (hi.ne h.v)
/-- .. an entry has come: number i -/
structure Ms1 (D : Nat) (w : World) (T T0 T1 U U0 U1 : Nat) (x : Ta) (vb : Nat → Nat) (r : Nat) (pi : List Nat) (i : Nat) (w1 : World) : Prop where
  t : Tal PlEq w1 T T0 T1 x pi.length (idx (pi ++ [i])) 0 id (fun _ => 0)
  o : Tal Eq w1 U U0 U1 x x.n id x.m id vb
  it : Iter w1 U0 r x.n (pi ++ [i])
  nd : (pi ++ [i]).Nodup
  lt : ∀ k, k ∈ pi ++ [i] → k < x.n
  below : Below D w w1
  hD : D ≤ w1.heap.size
theorem Ms.next {D : Nat} {w : World} {T T0 T1 U U0 U1 : Nat} {x : Ta} {vb : Nat → Nat} {r : Nat} {pi : List Nat} {wr w1 : World} {i : Nat} (h : Ms D w T T0 T1 U U0 U1 x vb r pi wr) (hr : D ≤ r) (hi : i < x.n) (hn : i ∉ pi) (hit : Iter w1 U0 r x.n (pi ++ [i])) (hg : wr.grownBy w1 (some r)) : Ms1 D w T T0 T1 U U0 U1 x vb r pi i w1 :=
  ⟨(h.t.iter h.it hg).order (fun k hk => idx_old pi i hk) (fun _ _ => rfl), h.o.iter h.it hg, hit, nodup_push h.nd hn, fun k hk => by
    rcases List.mem_append.1 hk with hk | hk
    · exact h.lt k hk
    · simp at hk; omega, h.below.trans ((But.of_grown hg).below hr h.hD), Nat.le_trans h.hD hg.size⟩
theorem Ms1.keys {D : Nat} {w : World} {T T0 T1 U U0 U1 : Nat} {x : Ta} {vb : Nat → Nat} {r : Nat} {pi : List Nat} {w1 : World} {i : Nat} (h : Ms1 D w T T0 T1 U U0 U1 x vb r pi i w1) (hok : x.Ok) (hd : x.Dist) : Keys 9 (pi.length + 1) (skey x (idx (pi ++ [i]))) :=
  keysS hok hd (fun k hk => h.lt _ (idx_mem (by simp; omega))) (fun k j hk hj e => idx_inj h.nd (by simp; omega) (by simp; omega) e)
theorem Ms1.store {D : Nat} {w : World} {T T0 T1 U U0 U1 : Nat} {x : Ta} {vb : Nat → Nat} {r : Nat} {pi : List Nat} {w1 w2 : World} {i : Nat} (h : Ms1 D w T T0 T1 U U0 U1 x vb r pi i w1) (hD0 : D ≤ T0) (h0 : U0 ≠ T0) (h1 : U1 ≠ T0)
    (hm : MapIs w2 T0 (pi.length + 1) (skey x (idx (pi ++ [i]))) (upd (sval x (idx (pi ++ [i]))) pi.length (.int .i64 (x.cnt i)))) (hg : w1.grownBy w2 (some T0)) : Ms D w T T0 T1 U U0 U1 x vb r (pi ++ [i]) w2 ∧ w2.rangeLeft U0 r = w1.rangeLeft U0 r := by
  have e1 : upd (sval x (idx (pi ++ [i]))) pi.length (.int .i64 (x.cnt i)) = sval x (idx (pi ++ [i])) := by
    have := sval_upd x (idx (pi ++ [i])) pi.length
    rw [idx_new] at this
    exact this
  rw [e1] at hm
  have hb := But.of_grown hg
  have hrn : r ≠ T0 := Ne.symm (h.it.ne h.t.s)
  refine ⟨⟨?_, h.o.but hb h.t.s.notRow h0 h1, h.it.of_block (hb.block r h.it.lt hrn), h.nd, h.lt, h.below.trans (hb.below hD0 h.hD), Nat.le_trans h.hD hb.size⟩, left_same (hb.block r h.it.lt hrn) (hb.block U0 h.o.s.lt h0)⟩
  have e2 : (pi ++ [i]).length = pi.length + 1 := by simp
  rw [e2]
  exact h.t.snap hb hm
/-- merge in the VMs' loop -/
structure Mv (D : Nat) (w : World) (T T0 T1 U U0 U1 : Nat) (x : Ta) (vb σ : Nat → Nat) (r : Nat) (pi : List Nat) (vb2 : Nat → Nat) (wr : World) : Prop where
  t : Tal PlEq wr T T0 T1 x x.n σ pi.length (idx pi) vb2
  o : Tal Eq wr U U0 U1 x x.n id x.m id vb
  it : Iter wr U1 r x.m pi
  nd : pi.Nodup
  lt : ∀ i, i ∈ pi → i < x.m
  below : Below D w wr
  hD : D ≤ wr.heap.size
/-- .. an entry has come: number i -/
structure Mv1 (D : Nat) (w : World) (T T0 T1 U U0 U1 : Nat) (x : Ta) (vb σ : Nat → Nat) (r : Nat) (pi : List Nat) (vb2 : Nat → Nat) (i : Nat) (w1 : World) : Prop where
  t : Tal PlEq w1 T T0 T1 x x.n σ pi.length (idx (pi ++ [i])) vb2
  o : Tal Eq w1 U U0 U1 x x.n id x.m id vb
  it : Iter w1 U1 r x.m (pi ++ [i])
  nd : (pi ++ [i]).Nodup
  lt : ∀ k, k ∈ pi ++ [i] → k < x.m
  below : Below D w w1
  hD : D ≤ w1.heap.size
  hi : i < x.m
theorem Mv.next {D : Nat} {w : World} {T T0 T1 U U0 U1 : Nat} {x : Ta} {vb σ : Nat → Nat} {r : Nat} {pi : List Nat} {vb2 : Nat → Nat} {wr w1 : World} {i : Nat} (h : Mv D w T T0 T1 U U0 U1 x vb σ r pi vb2 wr) (hr : D ≤ r) (hi : i < x.m) (hn : i ∉ pi) (hit : Iter w1 U1 r x.m (pi ++ [i])) (hg : wr.grownBy w1 (some r)) : Mv1 D w T T0 T1 U U0 U1 x vb σ r pi vb2 i w1 :=
  ⟨(h.t.iter h.it hg).order (fun _ _ => rfl) (fun k hk => idx_old pi i hk), h.o.iter h.it hg, hit, nodup_push h.nd hn, fun k hk => by
    rcases List.mem_append.1 hk with hk | hk
    · exact h.lt k hk
    · simp at hk; omega, h.below.trans ((But.of_grown hg).below hr h.hD), Nat.le_trans h.hD hg.size, hi⟩
theorem Mv1.keys {D : Nat} {w : World} {T T0 T1 U U0 U1 : Nat} {x : Ta} {vb σ : Nat → Nat} {r : Nat} {pi : List Nat} {vb2 : Nat → Nat} {w1 : World} {i : Nat} (h : Mv1 D w T T0 T1 U U0 U1 x vb σ r pi vb2 i w1) (hok : x.Ok) (hd : x.Dist) : Keys 68 (pi.length + 1) (vkey x (idx (pi ++ [i]))) :=
  keysV hok hd (fun k hk => h.lt _ (idx_mem (by simp; omega))) (fun k j hk hj e => idx_inj h.nd (by simp; omega) (by simp; omega) e)
/-- .. VM number i in the making, in block g -/
structure Mm (D : Nat) (w : World) (T T0 T1 U U0 U1 : Nat) (x : Ta) (vb σ : Nat → Nat) (r : Nat) (pi : List Nat) (vb2 : Nat → Nat) (i : Nat) (w1 : World) (v0 : Value) (S g : Nat) (w3 : World) : Prop where
  m1 : Mv1 D w T T0 T1 U U0 U1 x vb σ r pi vb2 i w1
  but : But T1 w1 w3
  map : MapIs w3 T1 (pi.length + 1) (vkey x (idx (pi ++ [i]))) (vval (upd vb2 pi.length g))
  hS : S ≤ g
  hw : w1.heap.size ≤ S
  src : w3.rowIs (vb i) 66 6 (vmf ((x.vm i).lat % 1000000000) ((x.vm i).lat / 1000000000) (x.vm i).nm (x.vm i).tn v0)
  pls : Places w3 0 v0 (x.vm i).np (x.vm i).pl
  src1 : vb i < w1.heap.size
  pls1 : Places w1 0 v0 (x.vm i).np (x.vm i).pl
theorem Mm.step {D : Nat} {w : World} {T T0 T1 U U0 U1 : Nat} {x : Ta} {vb σ : Nat → Nat} {r : Nat} {pi : List Nat} {vb2 : Nat → Nat} {i : Nat} {w1 : World} {v0 : Value} {S g : Nat} {w3 w4 : World} (h : Mm D w T T0 T1 U U0 U1 x vb σ r pi vb2 i w1 v0 S g w3) (hb : Below S w3 w4) : Mm D w T T0 T1 U U0 U1 x vb σ r pi vb2 i w1 v0 S g w4 := by
  have hT1 := h.m1.t.v.lt
  have hw := h.hw
  have hbut := h.but.thenBelow hb h.hw
  exact ⟨h.m1, hbut, h.map.below hb (by omega), h.hS, h.hw, World.rowIs.of_block h.src (hb.block _ (Nat.lt_of_lt_of_le h.src1 h.hw)), h.pls1.but h.m1.t.v.notRow hbut, h.src1, h.pls1⟩
theorem mv_vm {D : Nat} {w : World} {T T0 T1 U U0 U1 : Nat} {x : Ta} {vb σ : Nat → Nat} {r : Nat} {pi : List Nat} {vb2 : Nat → Nat} {w1 : World} {i : Nat} {v0 : Value} (h : Mv1 D w T T0 T1 U U0 U1 x vb σ r pi vb2 i w1) (hok : x.Ok) (hd : x.Dist) (hv0 : w1.rowIs (vb i) 66 6 (vmf ((x.vm i).lat % 1000000000) ((x.vm i).lat / 1000000000) (x.vm i).nm (x.vm i).tn v0)) (hp0 : Places w1 0 v0 (x.vm i).np (x.vm i).pl) (o : Obj) :
    Calls Try.prog 22 #[.pointer (some ⟨T, 0, none⟩), .agg #[.string (x.vm i).src, .string (x.vm i).id]] (w1.alloc o) fun e w3 => ∃ g, e = .returned (.pointer (some ⟨g, 0, none⟩)) ∧ Mm D w T T0 T1 U U0 U1 x vb σ r pi vb2 i w1 v0 (w1.heap.size + 1) g w3 ∧ w3.rowIs g 66 6 (vmf 0 0 ByteArray.empty ByteArray.empty (.slice none 0 0)) := by
  have K := h.keys hok hd
  have hb1 : Below w1.heap.size w1 (w1.alloc o) := (Below.refl _ _).alloc (Nat.le_refl _) _
  have ht := h.t.below hb1
  refine (vm_any T T0 T1 pi.length (vkey x (idx (pi ++ [i]))) (vval vb2) (x.vm i).src (x.vm i).id (w1.alloc o) ht.row ht.v (fun k hk => K.ok k (by omega)) (K.ok pi.length (by omega)) (fun k hk e => by have := K.inj k pi.length (by omega) (by omega) e; omega) (by rw [vkey, idx_new])).mono ?_
  rintro e w3 ⟨g, rfl, hv⟩
  have hm := hv.map
  rw [vval_upd] at hm
  have hnew := hv.new
  have e1 : (w1.alloc o).heap.size = w1.heap.size + 1 := by simp
  have hbut := (But.of_below (b := T1) hb1).trans (But.of_grown hv.grown)
  exact ⟨g, rfl, ⟨h, hbut, hm, by omega, by omega, World.rowIs.of_block hv0 (hbut.block _ hv0.lt (map_ne h.t.v hv0)), hp0.but h.t.v.notRow hbut, hv0.lt, hp0⟩, hv.row⟩
theorem Mm.done {D : Nat} {w : World} {T T0 T1 U U0 U1 : Nat} {x : Ta} {vb σ : Nat → Nat} {r : Nat} {pi : List Nat} {vb2 : Nat → Nat} {i : Nat} {w1 : World} {v0 : Value} {S g : Nat} {w3 : World} (h : Mm D w T T0 T1 U U0 U1 x vb σ r pi vb2 i w1 v0 S g w3) (hD1 : D ≤ T1) (h0 : U0 ≠ T1) (h1 : U1 ≠ T1) (hg : VmAt PlEq w3 g (x.vm i)) :
    Mv D w T T0 T1 U U0 U1 x vb σ r (pi ++ [i]) (upd vb2 pi.length g) w3 ∧ w3.rangeLeft U1 r = w1.rangeLeft U1 r := by
  have hrn : r ≠ T1 := Ne.symm (h.m1.it.ne h.m1.t.v)
  have e2 : (pi ++ [i]).length = pi.length + 1 := by simp
  refine ⟨⟨?_, h.m1.o.but h.but h.m1.t.v.notRow h0 h1, h.m1.it.of_block (h.but.block r h.m1.it.lt hrn), h.m1.nd, h.m1.lt, h.m1.below.trans (h.but.below hD1 h.m1.hD), Nat.le_trans h.m1.hD h.but.size⟩, left_same (h.but.block r h.m1.it.lt hrn) (h.but.block U1 h.m1.o.v.lt h1)⟩
  rw [e2]
  exact h.m1.t.more h.but h.map (by rw [idx_new]; exact hg)
theorem Places.congr {w : World} {S n : Nat} {v : Value} {P P' : Nat → Pl} (h : Places w S v n P) (e : ∀ j, j < n → P j = P' j) : Places w S v n P' := by
  rcases h with h | ⟨r, cap, F, hv, h1, h2, h3, h4, h5⟩
  · exact .inl h
  · exact .inr ⟨r, cap, F, hv, h1, h2, h3, h4, fun j c hj hc => by rw [h5 j c hj hc, e j hj]⟩
/-- .. j of its places told -/
structure Ml (D : Nat) (w : World) (T T0 T1 U U0 U1 : Nat) (x : Ta) (vb σ : Nat → Nat) (r : Nat) (pi : List Nat) (vb2 : Nat → Nat) (i : Nat) (w1 : World) (v0 : Value) (S g j : Nat) (w3 : World) : Prop where
  mm : Mm D w T T0 T1 U U0 U1 x vb σ r pi vb2 i w1 v0 S g w3
  row : ∃ v P, w3.rowIs g 66 6 (vmf ((x.vm i).lat % 1000000000) ((x.vm i).lat / 1000000000) (x.vm i).nm (x.vm i).tn v) ∧ Places w3 S v j P ∧ ∀ k, k < j → PlEq (P k) ((x.vm i).pl k)
/-- .. the next place laid, its usage still nought -/
structure Mi (D : Nat) (w : World) (T T0 T1 U U0 U1 : Nat) (x : Ta) (vb σ : Nat → Nat) (r : Nat) (pi : List Nat) (vb2 : Nat → Nat) (i : Nat) (w1 : World) (v0 : Value) (S g j r2 cap : Nat) (w3 : World) : Prop where
  mm : Mm D w T T0 T1 U U0 U1 x vb σ r pi vb2 i w1 v0 S g w3
  row : w3.rowIs g 66 6 (vmf ((x.vm i).lat % 1000000000) ((x.vm i).lat / 1000000000) (x.vm i).nm (x.vm i).tn (.slice (some ⟨r2, 0, none⟩) (j + 1) cap))
  pls : ∃ P, Places w3 S (.slice (some ⟨r2, 0, none⟩) (j + 1) cap) (j + 1) (upd P j (fresh ((x.vm i).pl j).tn ((x.vm i).pl j).pl)) ∧ ∀ k, k < j → PlEq (P k) ((x.vm i).pl k)
section
variable {D : Nat} {w : World} {T T0 T1 U U0 U1 : Nat} {x : Ta} {vb σ : Nat → Nat} {r : Nat} {pi : List Nat} {vb2 : Nat → Nat} {i : Nat} {w1 : World} {v0 : Value} {S g j r2 cap : Nat} {w3 : World}
theorem Mm.drew (h : Mm D w T T0 T1 U U0 U1 x vb σ r pi vb2 i w1 v0 S g w3) : Mm D w T T0 T1 U U0 U1 x vb σ r pi vb2 i w1 v0 S g w3.drew := h.step (Below.refl _ _).drew
theorem place_in (h : Ml D w T T0 T1 U U0 U1 x vb σ r pi vb2 i w1 v0 S g j w3) (hs : x.Small) (hd : x.Dist) (hj : j < (x.vm i).np) (p : Pl) (hp : p = (x.vm i).pl j) (wq : World) (hq : wq = w3.alloc (.cells #[.string p.tn, .string p.pl, .int .i64 p.sm, .int .i64 p.po, .float .f64 (p.f 0), .float .f64 (p.f 1), .float .f64 (p.f 2), .float .f64 (p.f 3), .float .f64 (p.f 4), .float .f64 (p.f 5)] 76) ∨
      wq = (w3.alloc (.cells #[.string p.tn, .string p.pl, .int .i64 p.sm, .int .i64 p.po, .float .f64 (p.f 0), .float .f64 (p.f 1), .float .f64 (p.f 2), .float .f64 (p.f 3), .float .f64 (p.f 4), .float .f64 (p.f 5)] 76)).drew) :
    Calls Try.prog 24 #[.pointer (some ⟨g, 0, none⟩), .agg #[.string p.tn, .string p.pl]] wq fun e w6 => ∃ r2 cap, e = .returned (.pointer (some ⟨r2, j * 10 + 2, none⟩)) ∧
      (w6.cell? ⟨w3.heap.size, 2, none⟩ = some (.int .i64 p.sm) ∧ w6.cell? ⟨w3.heap.size, 3, none⟩ = some (.int .i64 p.po) ∧ w6.cell? ⟨w3.heap.size, 4, none⟩ = some (.float .f64 (p.f 0)) ∧ w6.cell? ⟨w3.heap.size, 5, none⟩ = some (.float .f64 (p.f 1)) ∧
       w6.cell? ⟨w3.heap.size, 6, none⟩ = some (.float .f64 (p.f 2)) ∧ w6.cell? ⟨w3.heap.size, 7, none⟩ = some (.float .f64 (p.f 3)) ∧ w6.cell? ⟨w3.heap.size, 8, none⟩ = some (.float .f64 (p.f 4)) ∧ w6.cell? ⟨w3.heap.size, 9, none⟩ = some (.float .f64 (p.f 5))) ∧
      Mi D w T T0 T1 U U0 U1 x vb σ r pi vb2 i w1 v0 S g j r2 cap w6 := by
  generalize ho : (Obj.cells #[Value.string p.tn, .string p.pl, .int .i64 p.sm, .int .i64 p.po, .float .f64 (p.f 0), .float .f64 (p.f 1), .float .f64 (p.f 2), .float .f64 (p.f 3), .float .f64 (p.f 4), .float .f64 (p.f 5)] 76) = o at hq
  have hsz := hs.np i h.mm.m1.hi
  obtain ⟨v, P, h1, h2, h3⟩ := h.row
  have hgl := h1.lt
  have hSg := h.mm.hS
  have hheap : wq.heap = (w3.alloc o).heap := by rcases hq with rfl | rfl <;> rfl
  have hbq : Below w3.heap.size w3 wq := by
    rcases hq with rfl | rfl
    · exact (Below.refl _ _).alloc (Nat.le_refl _) _
    · exact ((Below.refl _ _).alloc (Nat.le_refl _) _).drew
  have hE : wq.rowIs w3.heap.size 76 10 p.cell := by
    refine World.rowIs.of_block (w := w3.alloc o) ?_ (by rw [hheap])
    rw [← ho]
    exact World.rowIs_alloc w3 #[.string p.tn, .string p.pl, .int .i64 p.sm, .int .i64 p.po, .float .f64 (p.f 0), .float .f64 (p.f 1), .float .f64 (p.f 2), .float .f64 (p.f 3), .float .f64 (p.f 4), .float .f64 (p.f 5)] 76 _ fun c hc => by simpa using plcells p c hc
  have h1q : wq.rowIs g 66 6 (vmf ((x.vm i).lat % 1000000000) ((x.vm i).lat / 1000000000) (x.vm i).nm (x.vm i).tn v) := World.rowIs.of_block h1 (hbq.block g hgl)
  have h2q : Places wq S v j P := h2.but h.mm.map.notRow (But.of_below hbq)
  refine (in_any S g j _ _ _ _ v P p.tn p.pl wq h1q hSg h2q (by omega) (fun k hk hc => ?_)).mono ?_
  · have hk3 := h3 k hk
    rw [hk3.tn, hk3.pl, hp] at hc
    have := hd.p i k j h.mm.m1.hi (by omega) hj hc.1 hc.2
    omega
  · rintro e w6 ⟨r2, cap, rfl, hI⟩
    have hfar : some w3.heap.size ≠ v.ownBlock := by
      rcases h2 with ⟨rfl, _⟩ | ⟨rr, c2, F, rfl, _, _, _, hF, _⟩
      · simp [Value.ownBlock]
      · have := hF.lt
        simp [Value.ownBlock]
        omega
    have hE6 : w6.rowIs w3.heap.size 76 10 p.cell := World.rowIs.of_block hE (hI.far _ hE.lt (by omega) hfar)
    refine ⟨r2, cap, rfl, ⟨hE6.cell (i := 2) (by decide), hE6.cell (i := 3) (by decide), hE6.cell (i := 4) (by decide), hE6.cell (i := 5) (by decide), hE6.cell (i := 6) (by decide), hE6.cell (i := 7) (by decide), hE6.cell (i := 8) (by decide), hE6.cell (i := 9) (by decide)⟩, (h.mm.step (hbq.mono (by omega))).step hI.below, hI.row, P, ?_, h3⟩
    rw [← hp]
    exact hI.pls
theorem place_merge (h : Mi D w T T0 T1 U U0 U1 x vb σ r pi vb2 i w1 v0 S g j r2 cap w3) (hok : x.Ok) (hj : j < (x.vm i).np) (p : Pl) (hp : p = (x.vm i).pl j) :
    Calls Try.prog 25 #[.pointer (some ⟨r2, j * 10 + 2, none⟩), .agg #[.int .i64 p.sm, .int .i64 p.po, .float .f64 (p.f 0), .float .f64 (p.f 1), .float .f64 (p.f 2), .float .f64 (p.f 3), .float .f64 (p.f 4), .float .f64 (p.f 5)]] w3 fun e w7 => e = .returned (.tuple #[]) ∧ Ml D w T T0 T1 U U0 U1 x vb σ r pi vb2 i w1 v0 S g (j + 1) w7 := by
  obtain ⟨P, h2, h3⟩ := h.pls
  rcases h2 with ⟨h0, _⟩ | ⟨rr, c2, F, hv, k1, k2, k3, k4, k5⟩
  · cases h0
  · cases hv
    have hF : Fresh F (j * 10 + 2) := by
      refine ⟨?_, ?_, fun k hk => ?_⟩
      · rw [k5 j 2 (by omega) (by omega), upd_at]; rfl
      · rw [Nat.add_assoc, k5 j 3 (by omega) (by omega), upd_at]; rfl
      · rw [Nat.add_assoc, Nat.add_assoc, k5 j (2 + (2 + k)) (by omega) (by omega), upd_at]
        unfold Pl.cell
        rw [if_neg (by omega), if_neg (by omega), if_neg (by omega), if_neg (by omega)]
        rfl
    refine (usemerge_any r2 (j * 10 + 2) 76 (cap * 10) F p w3 k4 (by omega) hF (hp ▸ (hok.vm i h.mm.m1.hi).pl j hj)).mono ?_
    rintro e w7 ⟨rfl, q, hq, hT⟩
    have hgr := hT.grown
    have hgn : g ≠ r2 := row_ne h.row k4 (by decide)
    have hrow := hT.row _ _ _ k4
    have hb : Below S w3 w7 := ⟨hgr.os, hgr.tape, hgr.output, hgr.size, fun k hk => hgr.block k (by have := k4.lt; omega) (by simp; omega)⟩
    refine ⟨rfl, h.mm.step hb, _, upd P j ⟨((x.vm i).pl j).tn, ((x.vm i).pl j).pl, q.sm, q.po, q.f⟩, World.rowIs.of_block h.row (hgr.block g h.row.lt (by simpa using hgn)), .inr ⟨r2, cap, _, rfl, k1, k2, k3, hrow, fun a c ha hc => ?_⟩, fun k hk => ?_⟩
    · show (if a * 10 + c < j * 10 + 2 then F (a * 10 + c) else if a * 10 + c < j * 10 + 2 + 8 then q.cell (a * 10 + c - (j * 10 + 2) + 2) else F (a * 10 + c)) = _
      by_cases e : a = j
      · subst e
        rw [upd_at]
        by_cases hc2 : c < 2
        · rw [if_pos (by omega), k5 a c ha hc, upd_at]
          have : c = 0 ∨ c = 1 := by omega
          rcases this with rfl | rfl <;> rfl
        · rw [if_neg (by omega), if_pos (by omega)]
          have e1 : a * 10 + c - (a * 10 + 2) + 2 = c := by omega
          rw [e1]
          unfold Pl.cell
          simp only [if_neg (show ¬ c = 0 by omega), if_neg (show ¬ c = 1 by omega)]
      · rw [if_pos (by omega), k5 a c ha hc, upd_ne _ _ _ (by omega), upd_ne _ _ _ (by omega)]
    · by_cases e : k = j
      · subst e
        rw [upd_at, ← hp]
        exact ⟨rfl, rfl, hq.sm, hq.po, hq.f⟩
      · rw [upd_ne _ _ _ (by omega)]
        exact h3 k (by omega)
end
theorem mixed0 : Try.prog.follows .mixedOrders = true := by kernel_rfl
structure MergePost (D : Nat) (T T0 T1 : Nat) (x : Ta) (σ π vb' : Nat → Nat) (w w' : World) : Prop where
  tal : Tal PlEq w' T T0 T1 x x.n σ x.m π vb'
  s : Ord x.n σ
  v : Ord x.m π
  below : Below D w w'
set_option maxHeartbeats 1000000 in
set_option maxRecDepth 100000 in
theorem merge_any (D T T0 T1 U U0 U1 : Nat) (x : Ta) (vb : Nat → Nat) (w : World) (ht : Tal PlEq w T T0 T1 x 0 (idx []) 0 id (fun _ => 0)) (ho : Tal Eq w U U0 U1 x x.n id x.m id vb) (hok : x.Ok) (hs : x.Small) (hd : x.Dist) (hD0 : D ≤ T0) (hD1 : D ≤ T1) (hDw : D ≤ w.heap.size) (n00 : U0 ≠ T0) (n10 : U1 ≠ T0) (n01 : U0 ≠ T1) (n11 : U1 ≠ T1) :
    Calls Try.prog 15 #[.pointer (some ⟨T, 0, none⟩), .pointer (some ⟨U, 0, none⟩)] w fun e w' => e = .returned (.tuple #[]) ∧ ∃ σ π vb', MergePost D T T0 T1 x σ π vb' w w' := by
  have c0 : w.cell? ⟨U, 0, none⟩ = some (.map (some U0)) := ho.row.cell (i := 0) (by decide)
  have HT := hide ht
  have HO := hide ho
  have HK := hide hok
  have HS := hide hs
  have HD := hide hd
  have HN := hide (And.intro (And.intro n00 n10) (And.intro n01 n11))
  clear ht ho hok hs hd n00 n10 n01 n11
  go_enter Try.func15, Try.ntmps15
  go_wp2_with (first | (at_range; refine wpList_range rfl _ _ rfl Try.underlying47 (unhide HO).s rfl ?_))
  try go_frame
  generalize hwk : World.alloc w _ = wk
  have K : Ms D w T T0 T1 U U0 U1 x vb w.heap.size [] wk := by
    have hb : Below w.heap.size w wk := by rw [← hwk]; exact (Below.refl _ _).alloc (Nat.le_refl _) _
    exact ⟨(unhide HT).below hb, (unhide HO).below hb, by rw [← hwk]; exact iter_new w U0 x.n, List.nodup_nil, fun i hi => by simp at hi, hb.mono hDw, Nat.le_trans hDw hb.size⟩
  have HM := hide K
  clear K hwk HT HO
  generalize hr1 : w.heap.size = r1 at HM hDw ⊢
  go_loopw [16] (fun _ wr => ∃ pi, Ms D w T T0 T1 U U0 U1 x vb r1 pi wr) (fun _ wr => wr.rangeLeft U0 r1)
  case atStart => exact ⟨[], unhide HM⟩
  case round =>
    obtain ⟨pi, hst⟩ := hrel
    have c1 : wr.cell? ⟨U, 1, none⟩ = some (.map (some U1)) := hst.o.row.cell (i := 1) (by decide)
    have HST := hide hst
    clear hst HM c0
    go_wp2_with (first | (at_next; refine wpList_next rfl _ rfl (unhide HST).o.s (unhide HST).it rfl ?_ ?_) | go_in)
    · intro hall
      obtain ⟨elen, hord⟩ := ord_idx (unhide HST).nd (unhide HST).lt hall
      have HORD := hide hord
      go_wp2_with (first | (at_range; refine wpList_range rfl _ _ rfl Try.underlying48 (unhide HST).o.v rfl ?_) | go_in)
      try go_frame
      generalize hwk : World.alloc wr _ = wk
      have K : Mv D w T T0 T1 U U0 U1 x vb (idx pi) wr.heap.size [] (fun _ => 0) wk := by
        have hb : Below wr.heap.size wr wk := by rw [← hwk]; exact (Below.refl _ _).alloc (Nat.le_refl _) _
        have ht := (unhide HST).t.below hb
        rw [elen] at ht
        exact ⟨ht.order (fun _ _ => rfl) (fun _ h => absurd h (by omega)), (unhide HST).o.below hb, by rw [← hwk]; exact iter_new wr U1 x.m, List.nodup_nil, fun i hi => by simp at hi, (unhide HST).below.trans (hb.mono (unhide HST).hD), Nat.le_trans (unhide HST).hD hb.size⟩
      have hD2 : D ≤ wr.heap.size := (unhide HST).hD
      have HM := hide K
      clear K hwk hord HST elen hall c1
      generalize idx pi = σ at HM HORD
      generalize hr2 : wr.heap.size = r2 at HM hD2 ⊢
      go_loopw [34] (fun _ wr => ∃ pi vb2, Mv D w T T0 T1 U U0 U1 x vb σ r2 pi vb2 wr) (fun _ wr => wr.rangeLeft U1 r2)
      case atStart => exact ⟨[], _, unhide HM⟩
      case round =>
        obtain ⟨pi, vb2, hst⟩ := hrel
        have HST := hide hst
        clear hst HM
        go_wp2_with (first | (at_next; refine wpList_next rfl _ rfl (unhide HST).o.v (unhide HST).it rfl ?_ ?_) | go_in)
        · intro hall
          obtain ⟨elen, hord⟩ := ord_idx (unhide HST).nd (unhide HST).lt hall
          go_wp2
          go_end0
          have ht := (unhide HST).t
          rw [elen] at ht
          exact ⟨rfl, σ, idx pi, vb2, ht, unhide HORD, hord, (unhide HST).below⟩
        · intro i w1 hi hni hit hgr hsz hlt hen
          have M1 := (unhide HST).next hD2 hi hni hit hgr
          have hen' : (Instr.entry (.pointer (some ⟨r2, 0, none⟩))).run Try.prog w1 = .ok (.tuple #[.agg #[.string (x.vm i).src, .string (x.vm i).id], .pointer (some ⟨vb i, 0, none⟩)]) w1 := hen
          obtain ⟨v0, P0, hv0, hp0, he0⟩ := M1.o.vm i hi
          have hv : ∃ ad cap, v0 = .slice ad (x.vm i).np cap := by
            rcases hp0 with ⟨e1, e2⟩ | ⟨rr, cap, F, e1, _⟩
            · exact ⟨none, 0, by rw [e1]; exact (congrArg (fun k => Value.slice none k 0) e2).symm⟩
            · exact ⟨_, _, e1⟩
          obtain ⟨ad, vc, rfl⟩ := hv
          have VM := hide (fun o => mv_vm M1 (unhide HK) (unhide HD) hv0 (hp0.congr he0) o)
          have HL := hide hlt
          clear hen hni hit hgr M1 hlt HST hv0 hp0 he0
          go_upto_region 8 with (go_at_call 22; refine (unhide VM _).mono ?_; rintro e w3 ⟨g, rfl, hm, hrow⟩)
          have d0 : w3.cell? ⟨vb i, 0, none⟩ = some (.int .u64 ((x.vm i).lat % 1000000000)) := hm.src.cell (i := 0) (by decide)
          have d1 : w3.cell? ⟨vb i, 1, none⟩ = some (.int .i64 ((x.vm i).lat / 1000000000)) := hm.src.cell (i := 1) (by decide)
          have d2 : w3.cell? ⟨vb i, 2, none⟩ = some (.pointer none) := hm.src.cell (i := 2) (by decide)
          have d3 : w3.cell? ⟨vb i, 3, none⟩ = some (.string (x.vm i).nm) := hm.src.cell (i := 3) (by decide)
          have d4 : w3.cell? ⟨vb i, 4, none⟩ = some (.string (x.vm i).tn) := hm.src.cell (i := 4) (by decide)
          have SE := hide (seen_any (w1.heap.size + 1) g ((x.vm i).lat % 1000000000) ((x.vm i).lat / 1000000000) (x.vm i).nm (x.vm i).tn ByteArray.empty ByteArray.empty w3.drew hrow hm.hS)
          have HM := hide hm
          clear hm hrow VM hen'
          go_still_tail 13, mixed0
          go_upto_region 9 with (go_at_call 23; refine (unhide SE).mono ?_; rintro e w4 ⟨rfl, hsn⟩)
          have M4 : Ml D w T T0 T1 U U0 U1 x vb σ r2 pi vb2 i w1 (.slice ad (x.vm i).np vc) (w1.heap.size + 1) g 0 w4 := ⟨(unhide HM).drew.step hsn.2, _, (x.vm i).pl, hsn.1, .inl ⟨rfl, rfl⟩, fun k hk => absurd hk (by omega)⟩
          have f5 : w4.cell? ⟨vb i, 5, none⟩ = some (.slice ad (x.vm i).np vc) := M4.mm.src.cell (i := 5) (by decide)
          have H4 := hide M4
          clear M4 HM hsn d0 d1 d2 d3 d4 SE
          have hnp := (unhide HS).np i hi
          go_wp2
          go_loopw [61] (fun c w5 => ∃ j : Nat, j ≤ (x.vm i).np ∧ c = .int .i64 j ∧ Ml D w T T0 T1 U U0 U1 x vb σ r2 pi vb2 i w1 (.slice ad (x.vm i).np vc) (w1.heap.size + 1) g j w5) (fun c _ => (x.vm i).np - (intOf c).toNat)
          case atStart => exact ⟨0, Nat.zero_le _, rfl, unhide H4⟩
          case round =>
            obtain ⟨j, hj, rfl, hml⟩ := hrel
            by_cases hjl : j < (x.vm i).np
            · obtain ⟨rr, ea, s1⟩ : ∃ rr, ad = some ⟨rr, 0, none⟩ ∧ ∀ c, c < 10 → wr.cell? ⟨rr, j * 10 + c, none⟩ = some (((x.vm i).pl j).cell c) := by
                rcases hml.mm.pls with ⟨_, e2⟩ | ⟨rr, cap, F, e1, _, _, _, hF, hc⟩
                · omega
                · cases e1
                  exact ⟨rr, rfl, fun c hc' => by rw [hF.cell (by omega), hc j c hjl hc']⟩
              have PI := hide (fun wq hq => place_in hml (unhide HS) (unhide HD) hjl ((x.vm i).pl j) rfl wq hq)
              have PM := hide (fun r3 cap3 w6 (h6 : Mi D w T T0 T1 U U0 U1 x vb σ r2 pi vb2 i w1 (.slice ad (x.vm i).np vc) (w1.heap.size + 1) g j r3 cap3 w6) => place_merge h6 (unhide HK) hjl ((x.vm i).pl j) rfl)
              subst ea
              clear hml H4
              generalize (x.vm i).pl j = p at s1 PI PM
              have p0 : wr.cell? ⟨rr, j * 10, none⟩ = some (.string p.tn) := s1 0 (by decide)
              have p1 : wr.cell? ⟨rr, j * 10 + 1, none⟩ = some (.string p.pl) := s1 1 (by decide)
              have p2 : wr.cell? ⟨rr, j * 10 + 2, none⟩ = some (.int .i64 p.sm) := s1 2 (by decide)
              have p3 : wr.cell? ⟨rr, j * 10 + 3, none⟩ = some (.int .i64 p.po) := s1 3 (by decide)
              have p4 : wr.cell? ⟨rr, j * 10 + 4, none⟩ = some (.float .f64 (p.f 0)) := s1 4 (by decide)
              have p5 : wr.cell? ⟨rr, j * 10 + 5, none⟩ = some (.float .f64 (p.f 1)) := s1 5 (by decide)
              have p6 : wr.cell? ⟨rr, j * 10 + 6, none⟩ = some (.float .f64 (p.f 2)) := s1 6 (by decide)
              have p7 : wr.cell? ⟨rr, j * 10 + 7, none⟩ = some (.float .f64 (p.f 3)) := s1 7 (by decide)
              have p8 : wr.cell? ⟨rr, j * 10 + 8, none⟩ = some (.float .f64 (p.f 4)) := s1 8 (by decide)
              have p9 : wr.cell? ⟨rr, j * 10 + 9, none⟩ = some (.float .f64 (p.f 5)) := s1 9 (by decide)
              clear s1
              go_upto_region 12 with fail
              clear p0 p1 p2 p3 p4 p5 p6 p7 p8 p9
              go_region_with (first | (go_at_call 24; refine (unhide PI _ (by first | exact Or.inl rfl | exact Or.inr rfl)).mono ?_; rintro e w6 ⟨r3, cap3, rfl, ⟨e2, e3, e4, e5, e6, e7, e8, e9⟩, hMi⟩; have HMi := hide hMi; clear hMi) | (go_at_call 25; refine (unhide PM _ _ _ (unhide HMi)).mono ?_; rintro e w7 ⟨rfl, h7⟩))
              all_goals
                go_wp2
                exact ⟨⟨j + 1, by omega, by go_num, h7⟩, by simp [intOf]; omega⟩
            · have hjn : j = (x.vm i).np := by omega
              obtain ⟨v, P, k1, k2, k3⟩ := hml.row
              rw [hjn] at k2 k3
              have h5 := hide (hml.mm.done hD1 (unhide HN).2.1 (unhide HN).2.2 ⟨v, P, k1, k2.mono (Nat.zero_le _), k3⟩)
              clear hml H4 k1 k2 k3
              go_wp2
              refine ⟨⟨_, _, (unhide h5).1⟩, ?_⟩
              rw [(unhide h5).2]
              exact unhide HL
    · intro i w1 hi hni hit hgr hsz hlt hen
      have M1 := (unhide HST).next hDw hi hni hit hgr
      have hen' : (Instr.entry (.pointer (some ⟨r1, 0, none⟩))).run Try.prog w1 = .ok (.tuple #[.string (x.src i), .int .i64 (x.cnt i)]) w1 := hen
      obtain ⟨q1, q2⟩ := (unhide HK).cnt i hi
      have t0 : w1.cell? ⟨T, 0, none⟩ = some (.map (some T0)) := M1.t.row.cell (i := 0) (by decide)
      have KS := hide (M1.keys (unhide HK) (unhide HD))
      have HM1 := hide M1
      have HL := hide hlt
      clear hen hni hit hgr M1 hlt
      go_wp2_with (first | (at_lookup; refine wpList_miss rfl _ _ _ rfl lawS Try.underlying47 (unhide HM1).t.s (fun k hk => (unhide KS).ok k (by omega)) (.string (x.src i)) (.int .i64 0) (okS _ ((unhide HK).src i hi)) (fun k hk e => by have := (unhide KS).inj k pi.length (by omega) (by omega) (by rw [e, skey, idx_new]); omega) (zero3 _) rfl rfl ?_) | (at_mapUpdate; refine wpList_store rfl _ _ _ _ rfl lawS Try.underlying47 (unhide HM1).t.s (fun k hk => (unhide KS).ok k (by omega)) ((unhide KS).ok pi.length (by omega)) (fun k hk e => by have := (unhide KS).inj k pi.length (by omega) (by omega) e; omega) (.int .i64 (x.cnt i)) rfl (by show Value.string (x.src i) = skey x _ _; rw [skey, idx_new]) rfl ?_; intro w2 m1 m2 m3; go_frame) | go_in)
      have h2 := (unhide HM1).store hD0 (unhide HN).1.1 (unhide HN).1.2 m1 m2
      have H2 := hide h2
      clear h2 m1 m2 m3
      go_roundw
      case rel => exact ⟨_, (unhide H2).1⟩
      case measure => rw [(unhide H2).2]; exact unhide HL
end Go.Proofs.Qxb6617558a
