import Derived.Test.Qxb6617531aRows
import Derived.Test.Qxb6617531aTj
import Derived.WalkKit
import Derived.WalkSpells
import Derived.WalkLawsBesides
import Derived.Deep.QuietTactic
import Derived.BigQuiet
import Derived.Deep.OwnRows
import Derived.Deep.LoopGhost
import Derived.RegionTactic
import Derived.BigRegion
namespace Go.Proofs.Qxb6617531a
open Go.RowKit
set_option linter.unusedVariables false

theorem hide {p : Prop} (h : p) : Hid p := h
theorem unhide {p : Prop} (h : Hid p) : p := h

theorem Try.info3 : (Try.prog.info? 3).map (fun i => (i.zero, i.size, i.bytes)) = some (some (.int .i64 0), 1, 8) := by kernel_rfl
theorem Try.info4 : (Try.prog.info? 4).map (fun i => (i.zero, i.size, i.bytes)) = some (some (.bool false), 1, 1) := by kernel_rfl
theorem Try.info24 : (Try.prog.info? 24).map (fun i => (i.zero, i.size, i.bytes)) = some (some (.slice none 0 0), 1, 24) := by kernel_rfl
theorem Try.info29 : (Try.prog.info? 29).map (fun i => (i.zero, i.size, i.bytes)) = some (some (.slice none 0 0), 1, 24) := by kernel_rfl
theorem Try.info31 : (Try.prog.info? 31).map (fun i => (i.zero, i.size, i.bytes)) = some (some (.agg #[.int .i64 0, .int .i64 0]), 2, 16) := by kernel_rfl

/-- a number in a cell -/
def ival (a : Nat) : Value := .int .i64 a

/-! ### an append of one element to a row of the call's own: and where the row lies behind it -/
theorem run_push {P : Program} (w : World) (base : Nat) (t ty e : TypeId) (i : TypeInfo) (z : Value) (bytes : Nat) (ht : P.underlying t = some (.slice e)) (hi : P.info? e = some i) (hz : i.zero = some z)
    (hsize : i.size = 1) (hby : i.bytes = bytes) (hzs : z.cells.size = 1)
    (v : Value) (n : Nat) (xs : List Value) (hown : w.ownsRow base e 1 v n xs)
    (a : Addr) (m c : Nat) (news : List Value) (hm : 0 < m) (hl : news.length = m) (hnews : ∀ j u, news[j]? = some u → w.cell? (a.add j) = some u) (h1 : ∀ u ∈ news, u.oneCell' = true)
    (h63 : n + m ≤ maxLen) (hbytes : (n + m) * bytes ≤ 140737488355328) (hbase : base ≤ w.heap.size) :
    ∃ v' w', (Builtin.append_ #[t, t] ty #[v, .slice (some a) m c]).run P w = .ok v' w' ∧ w'.ownsRow base e 1 v' (n + m) (xs ++ news) ∧ w.grownBy w' v.ownBlock ∧
      (v'.ownBlock = v.ownBlock ∨ v'.ownBlock = some w.heap.size) := by
  obtain ⟨v', w', hr, h2, h3, _⟩ := run_append_own (P := P) w base t ty e i z 1 bytes ht hi hz hsize hby hzs (by decide) v n xs hown a m c news (by rw [hl, Nat.mul_one]) hnews h1 h63 hbytes hbase
  refine ⟨v', w', hr, h2, h3, ?_⟩
  rcases hown.2 with ⟨rfl, rfl⟩ | ⟨g, cap, cur, rfl, hbg, hg, hnc, hcm, hcs, htake⟩
  · have hr' := run_append_nil (P := P) w t ty e i z ht hi hz a m c news (by rw [hl, hsize, Nat.mul_one]) hnews hm (by unfold maxLen at h63; omega) (by rw [hby]; rw [Nat.zero_add] at hbytes; omega)
    rw [hr] at hr'
    injection hr' with e1 e2
    subst e1
    exact .inr rfl
  · by_cases hroom : n + m ≤ cap
    · have hr' := run_append_room (P := P) w t ty e i ht hi g n cap cur hg a m c news (by rw [hl, hsize, Nat.mul_one]) hnews h1 hroom (by rw [hl, hsize, hcs]; omega)
      rw [hr] at hr'
      injection hr' with e1 e2
      subst e1
      exact .inl rfl
    · have holds : ∀ j u, xs[j]? = some u → w.cell? ((⟨g, 0, none⟩ : Addr).add j) = some u := hown.cells (g := g) rfl
      have hr' := run_append_grow (P := P) w t ty e i z ht hi hz ⟨g, 0, none⟩ n cap xs (by rw [hown.1, hsize]) holds a m c news (by rw [hl, hsize, Nat.mul_one]) hnews (by omega) (by unfold maxLen at h63; omega) (growslice_fits (by omega) (by rw [hby]; exact hbytes))
      rw [hr] at hr'
      injection hr' with e1 e2
      subst e1
      exact .inr rfl

theorem wpList_push {P : Program} (w : World) {ops : Array Oper} {rest : List Oper} {o : Oper} {a : Act} {Q : Exit → Act → World → Prop} (hgd : o.guard = none) (s x : Operand) (t : TypeId)
    (ho : o.op = .call { callee := .builtin .append, args := #[s, x], argTypes := #[t, t] })
    (base : Nat) (e : TypeId) (z : Value) (bytes : Nat) (ht : P.underlying t = some (.slice e)) (hinfo : (P.info? e).map (fun i => (i.zero, i.size, i.bytes)) = some (some z, 1, bytes)) (hzs : z.cells.size = 1)
    (v : Value) (n : Nat) (xs : List Value) (hs : a.eval s = v) (hown : w.ownsRow base e 1 v n xs)
    (ad : Addr) (m c : Nat) (news : List Value) (hx : a.eval x = .slice (some ad) m c) (hm : 0 < m) (hl : news.length = m) (hnews : ∀ j u, news[j]? = some u → w.cell? (ad.add j) = some u) (h1 : ∀ u ∈ news, u.oneCell' = true)
    (h63 : n + m ≤ maxLen) (hbytes : (n + m) * bytes ≤ 140737488355328) (hbase : base ≤ w.heap.size)
    (h : ∀ v' w', w'.ownsRow base e 1 v' (n + m) (xs ++ news) → w.grownBy w' v.ownBlock → (v'.ownBlock = v.ownBlock ∨ v'.ownBlock = some w.heap.size) → wpList P ops Q rest (a.put o.dst v') w') : wpList P ops Q (o :: rest) a w := by
  obtain ⟨i, hi, hz0, hz1, hz2⟩ := info_parts hinfo
  refine wpList_plain hgd fun _ hK => ?_
  obtain ⟨v', w', hr, h2, h3, h4⟩ := run_push (P := P) w base t o.type e i z bytes ht hi hz0 hz1 hz2 hzs v n xs hown ad m c news hm hl hnews h1 h63 hbytes hbase
  unfold Oper.wp execOp
  simp only [ho, resolve, invoke, builtin, Sem.run_bind, Sem.run_pure, Result.andThen_ok, List.map_toArray, List.map_cons, List.map_nil, hs, hx, hr]
  exact hK _ _ (h v' w' h2 h3 h4)

/-! ### the memory of 'components' -/
/-- the blocks: 0 to 5 the boxes of order, low, open, reached, walk, count; 6 to 9 the arrays order, low, next, open -/
structure Blks where
  b : Nat → Nat
  base : Nat

/-- boxes, arrays, the two stacks -/
structure Mem (K : Blks) (n : Nat) (ord low nxt : Nat → Nat) (opn : Nat → Bool) (rl wl : List Nat) (cnt : Nat) (rv wv : Value) (w : World) : Prop where
  dist : ∀ i j, i < 10 → j < 10 → i ≠ j → K.b i ≠ K.b j
  lb : ∀ i, i < 10 → K.b i < K.base
  sz : K.base ≤ w.heap.size
  obo : w.heap[(K.b 0)]? = some (.cells #[.slice (some ⟨(K.b 6), 0, none⟩) n n] 24 (0, 0))
  obl : w.heap[(K.b 1)]? = some (.cells #[.slice (some ⟨(K.b 7), 0, none⟩) n n] 24 (0, 0))
  obp : w.heap[(K.b 2)]? = some (.cells #[.slice (some ⟨(K.b 9), 0, none⟩) n n] 26 (0, 0))
  obr : w.heap[(K.b 3)]? = some (.cells #[rv] 24 (0, 0))
  obw : w.heap[(K.b 4)]? = some (.cells #[wv] 24 (0, 0))
  obc : w.heap[(K.b 5)]? = some (.cells #[.int .i64 cnt] 3 (0, 0))
  rao : w.rowIs (K.b 6) 3 n fun i => .int .i64 (ord i)
  ral : w.rowIs (K.b 7) 3 n fun i => .int .i64 (low i)
  ran : w.rowIs (K.b 8) 3 n fun i => .int .i64 (nxt i)
  rap : w.rowIs (K.b 9) 4 n fun i => .bool (opn i)
  owr : w.ownsRow K.base 3 1 rv rl.length (rl.map ival)
  oww : w.ownsRow K.base 3 1 wv wl.length (wl.map ival)
  disj : rv.ownBlock = none ∨ rv.ownBlock ≠ wv.ownBlock

section
variable {K : Blks} {n : Nat} {ord low nxt : Nat → Nat} {opn : Nat → Bool} {rl wl : List Nat} {cnt : Nat} {rv wv : Value} {w w' : World}

theorem own_ge {base : Nat} {e : TypeId} {v : Value} {k : Nat} {xs : List Value} (h : w.ownsRow base e 1 v k xs) {b : Nat} (hb : b < base) : v.ownBlock ≠ some b := by
  intro he
  have := (h.lt b he).1
  omega
theorem own_of_block {base : Nat} {e : TypeId} {v : Value} {k : Nat} {xs : List Value} (h : w.ownsRow base e 1 v k xs) (hb : ∀ g, v.ownBlock = some g → w'.heap[g]? = w.heap[g]?) : w'.ownsRow base e 1 v k xs := by
  obtain ⟨h1, h2⟩ := h
  refine ⟨h1, ?_⟩
  rcases h2 with h2 | ⟨g, cap, cur, hv, hg, hh, r⟩
  · exact .inl h2
  · refine .inr ⟨g, cap, cur, hv, hg, ?_, r⟩
    rw [hb g (by rw [hv]; rfl)]; exact hh

/-- all of the memory's blocks stand as they were -/
theorem Mem.keep (h : Mem K n ord low nxt opn rl wl cnt rv wv w) (hs : w.heap.size ≤ w'.heap.size) (hb : ∀ b, b < w.heap.size → w'.heap[b]? = w.heap[b]?) : Mem K n ord low nxt opn rl wl cnt rv wv w' := by
  have hl : ∀ i, i < 10 → w'.heap[K.b i]? = w.heap[K.b i]? := fun i hi => hb _ (Nat.lt_of_lt_of_le (h.lb i hi) h.sz)
  exact ⟨h.dist, h.lb, Nat.le_trans h.sz hs, (hl _ (by decide)).trans h.obo, (hl _ (by decide)).trans h.obl, (hl _ (by decide)).trans h.obp, (hl _ (by decide)).trans h.obr,
    (hl _ (by decide)).trans h.obw, (hl _ (by decide)).trans h.obc, h.rao.of_block (hl _ (by decide)), h.ral.of_block (hl _ (by decide)), h.ran.of_block (hl _ (by decide)),
    h.rap.of_block (hl _ (by decide)), own_of_block h.owr (fun g hg => hb g (h.owr.lt g hg).2), own_of_block h.oww (fun g hg => hb g (h.oww.lt g hg).2), h.disj⟩
theorem Mem.alloc (h : Mem K n ord low nxt opn rl wl cnt rv wv w) (o : Obj) : Mem K n ord low nxt opn rl wl cnt rv wv (w.alloc o) :=
  h.keep (by simp) fun b hb => Below.heap_alloc _ _ _ hb
theorem Mem.drewN (h : Mem K n ord low nxt opn rl wl cnt rv wv w) (k : Nat) : Mem K n ord low nxt opn rl wl cnt rv wv (w.drewN k) :=
  h.keep (Nat.le_refl _) fun _ _ => rfl
theorem Mem.drew (h : Mem K n ord low nxt opn rl wl cnt rv wv w) : Mem K n ord low nxt opn rl wl cnt rv wv w.drew :=
  h.keep (Nat.le_refl _) fun _ _ => rfl

/-- what a store into block x leaves of the others -/
theorem set_ne (w : World) {x i b : Nat} (hb : b ≠ x) (u : Value) : (w.setCell ⟨x, i, none⟩ u).heap[b]? = w.heap[b]? := Below.heap_setCell _ _ _ _ hb
theorem own_set {base : Nat} {e : TypeId} {v : Value} {k x i : Nat} {xs : List Value} (h : w.ownsRow base e 1 v k xs) (hx : x < base) (u : Value) : (w.setCell ⟨x, i, none⟩ u).ownsRow base e 1 v k xs :=
  own_of_block h fun g hg => set_ne w (fun e => own_ge h hx (by rw [hg, e])) u
theorem row_upd {b t : Nat} {f : Nat → Value} {g : Nat → Nat} {a x : Nat} (h : w.rowIs b t n fun i => .int .i64 (g i)) : (w.setCell ⟨b, a, none⟩ (.int .i64 x)).rowIs b t n fun i => .int .i64 ((Tj.upd g a x) i) := by
  refine (h.set a _).congr fun i _ => ?_
  unfold Tj.upd
  by_cases e : i = a
  · subst e; simp
  · simp [e]
theorem row_updB {b t : Nat} {g : Nat → Bool} {a : Nat} {x : Bool} (h : w.rowIs b t n fun i => .bool (g i)) : (w.setCell ⟨b, a, none⟩ (.bool x)).rowIs b t n fun i => .bool ((Tj.upd g a x) i) := by
  refine (h.set a _).congr fun i _ => ?_
  unfold Tj.upd
  by_cases e : i = a
  · subst e; simp
  · simp [e]

theorem Mem.setOrd (h : Mem K n ord low nxt opn rl wl cnt rv wv w) (a x : Nat) : Mem K n (Tj.upd ord a x) low nxt opn rl wl cnt rv wv (w.setCell ⟨(K.b 6), a, none⟩ (.int .i64 x)) := by
  have d : ∀ i j, i < 10 → j < 10 → i ≠ j → K.b i ≠ K.b j := h.dist
  have hx : K.b 6 < K.base := h.lb 6 (by decide)
  exact ⟨h.dist, h.lb, by simpa using h.sz, (set_ne w (d _ _ (by decide) (by decide) (by decide)) _).trans h.obo, (set_ne w (d _ _ (by decide) (by decide) (by decide)) _).trans h.obl, (set_ne w (d _ _ (by decide) (by decide) (by decide)) _).trans h.obp, (set_ne w (d _ _ (by decide) (by decide) (by decide)) _).trans h.obr, (set_ne w (d _ _ (by decide) (by decide) (by decide)) _).trans h.obw,
    (set_ne w (d _ _ (by decide) (by decide) (by decide)) _).trans h.obc, row_upd (f := fun _ => .int .i64 0) h.rao, h.ral.of_block (set_ne w (d _ _ (by decide) (by decide) (by decide)) _), h.ran.of_block (set_ne w (d _ _ (by decide) (by decide) (by decide)) _), h.rap.of_block (set_ne w (d _ _ (by decide) (by decide) (by decide)) _), own_set h.owr hx _, own_set h.oww hx _, h.disj⟩
theorem Mem.setLow (h : Mem K n ord low nxt opn rl wl cnt rv wv w) (a x : Nat) : Mem K n ord (Tj.upd low a x) nxt opn rl wl cnt rv wv (w.setCell ⟨(K.b 7), a, none⟩ (.int .i64 x)) := by
  have d : ∀ i j, i < 10 → j < 10 → i ≠ j → K.b i ≠ K.b j := h.dist
  have hx : K.b 7 < K.base := h.lb 7 (by decide)
  exact ⟨h.dist, h.lb, by simpa using h.sz, (set_ne w (d _ _ (by decide) (by decide) (by decide)) _).trans h.obo, (set_ne w (d _ _ (by decide) (by decide) (by decide)) _).trans h.obl, (set_ne w (d _ _ (by decide) (by decide) (by decide)) _).trans h.obp, (set_ne w (d _ _ (by decide) (by decide) (by decide)) _).trans h.obr, (set_ne w (d _ _ (by decide) (by decide) (by decide)) _).trans h.obw,
    (set_ne w (d _ _ (by decide) (by decide) (by decide)) _).trans h.obc, h.rao.of_block (set_ne w (d _ _ (by decide) (by decide) (by decide)) _), row_upd (f := fun _ => .int .i64 0) h.ral, h.ran.of_block (set_ne w (d _ _ (by decide) (by decide) (by decide)) _), h.rap.of_block (set_ne w (d _ _ (by decide) (by decide) (by decide)) _), own_set h.owr hx _, own_set h.oww hx _, h.disj⟩
theorem Mem.setNxt (h : Mem K n ord low nxt opn rl wl cnt rv wv w) (a x : Nat) : Mem K n ord low (Tj.upd nxt a x) opn rl wl cnt rv wv (w.setCell ⟨(K.b 8), a, none⟩ (.int .i64 x)) := by
  have d : ∀ i j, i < 10 → j < 10 → i ≠ j → K.b i ≠ K.b j := h.dist
  have hx : K.b 8 < K.base := h.lb 8 (by decide)
  exact ⟨h.dist, h.lb, by simpa using h.sz, (set_ne w (d _ _ (by decide) (by decide) (by decide)) _).trans h.obo, (set_ne w (d _ _ (by decide) (by decide) (by decide)) _).trans h.obl, (set_ne w (d _ _ (by decide) (by decide) (by decide)) _).trans h.obp, (set_ne w (d _ _ (by decide) (by decide) (by decide)) _).trans h.obr, (set_ne w (d _ _ (by decide) (by decide) (by decide)) _).trans h.obw,
    (set_ne w (d _ _ (by decide) (by decide) (by decide)) _).trans h.obc, h.rao.of_block (set_ne w (d _ _ (by decide) (by decide) (by decide)) _), h.ral.of_block (set_ne w (d _ _ (by decide) (by decide) (by decide)) _), row_upd (f := fun _ => .int .i64 0) h.ran, h.rap.of_block (set_ne w (d _ _ (by decide) (by decide) (by decide)) _), own_set h.owr hx _, own_set h.oww hx _, h.disj⟩
theorem Mem.setOpn (h : Mem K n ord low nxt opn rl wl cnt rv wv w) (a : Nat) (x : Bool) : Mem K n ord low nxt (Tj.upd opn a x) rl wl cnt rv wv (w.setCell ⟨(K.b 9), a, none⟩ (.bool x)) := by
  have d : ∀ i j, i < 10 → j < 10 → i ≠ j → K.b i ≠ K.b j := h.dist
  have hx : K.b 9 < K.base := h.lb 9 (by decide)
  exact ⟨h.dist, h.lb, by simpa using h.sz, (set_ne w (d _ _ (by decide) (by decide) (by decide)) _).trans h.obo, (set_ne w (d _ _ (by decide) (by decide) (by decide)) _).trans h.obl, (set_ne w (d _ _ (by decide) (by decide) (by decide)) _).trans h.obp, (set_ne w (d _ _ (by decide) (by decide) (by decide)) _).trans h.obr, (set_ne w (d _ _ (by decide) (by decide) (by decide)) _).trans h.obw,
    (set_ne w (d _ _ (by decide) (by decide) (by decide)) _).trans h.obc, h.rao.of_block (set_ne w (d _ _ (by decide) (by decide) (by decide)) _), h.ral.of_block (set_ne w (d _ _ (by decide) (by decide) (by decide)) _), h.ran.of_block (set_ne w (d _ _ (by decide) (by decide) (by decide)) _), row_updB h.rap, own_set h.owr hx _, own_set h.oww hx _, h.disj⟩
theorem Mem.setCnt (h : Mem K n ord low nxt opn rl wl cnt rv wv w) (x : Nat) : Mem K n ord low nxt opn rl wl x rv wv (w.setCell ⟨(K.b 5), 0, none⟩ (.int .i64 x)) := by
  have d : ∀ i j, i < 10 → j < 10 → i ≠ j → K.b i ≠ K.b j := h.dist
  have hx : K.b 5 < K.base := h.lb 5 (by decide)
  exact ⟨h.dist, h.lb, by simpa using h.sz, (set_ne w (d _ _ (by decide) (by decide) (by decide)) _).trans h.obo, (set_ne w (d _ _ (by decide) (by decide) (by decide)) _).trans h.obl, (set_ne w (d _ _ (by decide) (by decide) (by decide)) _).trans h.obp, (set_ne w (d _ _ (by decide) (by decide) (by decide)) _).trans h.obr, (set_ne w (d _ _ (by decide) (by decide) (by decide)) _).trans h.obw,
    one_setCell h.obc, h.rao.of_block (set_ne w (d _ _ (by decide) (by decide) (by decide)) _), h.ral.of_block (set_ne w (d _ _ (by decide) (by decide) (by decide)) _), h.ran.of_block (set_ne w (d _ _ (by decide) (by decide) (by decide)) _), h.rap.of_block (set_ne w (d _ _ (by decide) (by decide) (by decide)) _), own_set h.owr hx _, own_set h.oww hx _, h.disj⟩

/-- the reached stack has become rv' (an append or a cut), stored into its box -/
theorem Mem.setReached {rl' : List Nat} {rv' : Value} {w1 : World} (h : Mem K n ord low nxt opn rl wl cnt rv wv w) (hg : w.grownBy w1 rv.ownBlock) (ho : w1.ownsRow K.base 3 1 rv' rl'.length (rl'.map ival)) (hn : rv'.ownBlock = rv.ownBlock ∨ rv'.ownBlock = some w.heap.size) :
    Mem K n ord low nxt opn rl' wl cnt rv' wv (w1.setCell ⟨(K.b 3), 0, none⟩ rv') := by
  have d : ∀ i j, i < 10 → j < 10 → i ≠ j → K.b i ≠ K.b j := h.dist
  have hx : K.b 3 < K.base := h.lb 3 (by decide)
  have hl : ∀ i, i < 10 → w1.heap[K.b i]? = w.heap[K.b i]? := fun i hi => hg.block _ (Nat.lt_of_lt_of_le (h.lb i hi) h.sz) (fun e => own_ge h.owr (h.lb i hi) e.symm)
  have hww : w1.ownsRow K.base 3 1 wv wl.length (wl.map ival) := h.oww.kept hg (by
    rcases h.disj with e | e
    · rw [e]; cases h' : wv.ownBlock <;> simp
    · exact .inr fun e' => e e'.symm)
  refine ⟨h.dist, h.lb, by have := h.sz; have := hg.size; simp; omega, (set_ne w1 (d _ _ (by decide) (by decide) (by decide)) _).trans ((hl _ (by decide)).trans h.obo), (set_ne w1 (d _ _ (by decide) (by decide) (by decide)) _).trans ((hl _ (by decide)).trans h.obl),
    (set_ne w1 (d _ _ (by decide) (by decide) (by decide)) _).trans ((hl _ (by decide)).trans h.obp), one_setCell ((hl _ (by decide)).trans h.obr), (set_ne w1 (d _ _ (by decide) (by decide) (by decide)) _).trans ((hl _ (by decide)).trans h.obw),
    (set_ne w1 (d _ _ (by decide) (by decide) (by decide)) _).trans ((hl _ (by decide)).trans h.obc), (h.rao.of_block (hl _ (by decide))).of_block (set_ne w1 (d _ _ (by decide) (by decide) (by decide)) _), (h.ral.of_block (hl _ (by decide))).of_block (set_ne w1 (d _ _ (by decide) (by decide) (by decide)) _),
    (h.ran.of_block (hl _ (by decide))).of_block (set_ne w1 (d _ _ (by decide) (by decide) (by decide)) _), (h.rap.of_block (hl _ (by decide))).of_block (set_ne w1 (d _ _ (by decide) (by decide) (by decide)) _), own_set ho hx _, own_set hww hx _, ?_⟩
  rcases hn with e | e
  · rw [e]; exact h.disj
  · rw [e]
    right
    intro e'
    have := (h.oww.lt _ e'.symm).2
    omega
/-- the way has become wv' -/
theorem Mem.setWalk {wl' : List Nat} {wv' : Value} {w1 : World} (h : Mem K n ord low nxt opn rl wl cnt rv wv w) (hg : w.grownBy w1 wv.ownBlock) (ho : w1.ownsRow K.base 3 1 wv' wl'.length (wl'.map ival)) (hn : wv'.ownBlock = wv.ownBlock ∨ wv'.ownBlock = some w.heap.size) :
    Mem K n ord low nxt opn rl wl' cnt rv wv' (w1.setCell ⟨(K.b 4), 0, none⟩ wv') := by
  have d : ∀ i j, i < 10 → j < 10 → i ≠ j → K.b i ≠ K.b j := h.dist
  have hx : K.b 4 < K.base := h.lb 4 (by decide)
  have hl : ∀ i, i < 10 → w1.heap[K.b i]? = w.heap[K.b i]? := fun i hi => hg.block _ (Nat.lt_of_lt_of_le (h.lb i hi) h.sz) (fun e => own_ge h.oww (h.lb i hi) e.symm)
  have hrr : w1.ownsRow K.base 3 1 rv rl.length (rl.map ival) := h.owr.kept hg h.disj
  refine ⟨h.dist, h.lb, by have := h.sz; have := hg.size; simp; omega, (set_ne w1 (d _ _ (by decide) (by decide) (by decide)) _).trans ((hl _ (by decide)).trans h.obo), (set_ne w1 (d _ _ (by decide) (by decide) (by decide)) _).trans ((hl _ (by decide)).trans h.obl),
    (set_ne w1 (d _ _ (by decide) (by decide) (by decide)) _).trans ((hl _ (by decide)).trans h.obp), (set_ne w1 (d _ _ (by decide) (by decide) (by decide)) _).trans ((hl _ (by decide)).trans h.obr), one_setCell ((hl _ (by decide)).trans h.obw),
    (set_ne w1 (d _ _ (by decide) (by decide) (by decide)) _).trans ((hl _ (by decide)).trans h.obc), (h.rao.of_block (hl _ (by decide))).of_block (set_ne w1 (d _ _ (by decide) (by decide) (by decide)) _), (h.ral.of_block (hl _ (by decide))).of_block (set_ne w1 (d _ _ (by decide) (by decide) (by decide)) _),
    (h.ran.of_block (hl _ (by decide))).of_block (set_ne w1 (d _ _ (by decide) (by decide) (by decide)) _), (h.rap.of_block (hl _ (by decide))).of_block (set_ne w1 (d _ _ (by decide) (by decide) (by decide)) _), own_set hrr hx _, own_set ho hx _, ?_⟩
  rcases hn with e | e
  · rw [e]; exact h.disj
  · rw [e]
    by_cases e0 : rv.ownBlock = none
    · exact .inl e0
    · right
      intro e'
      have := (h.owr.lt _ e').2
      omega
end

end Go.Proofs.Qxb6617531a
