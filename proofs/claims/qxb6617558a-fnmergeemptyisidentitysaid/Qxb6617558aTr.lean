import Derived.Test.Qxb6617558aTl
namespace Go.Proofs.Qxb6617558a
open Go.RowKit Go.Maps
set_option linter.unusedVariables false
/-- the worlds that have all of W0's blocks -/
structure Like (W0 : World) where
  val : World
  ok : Below W0.heap.size W0 val
instance likeNonempty (W0 : World) : Nonempty (Like W0) := ⟨⟨W0, Below.refl _ _⟩⟩
theorem region_like {id : Nat} {l : List Oper} {Q : Exit → Act → World → Prop} {a : Act} {w : World} (W0 : World) (hm : Try.prog.follows .mixedOrders = true) (hB : Region.lexB .any l.toArray = true) (hw : Below W0.heap.size W0 w)
    (h : wpQuiet Try.prog l.toArray (fun w' => ∃ n : Like W0, w' = n.val) (fun a' => ∀ w', (∃ n : Like W0, w' = n.val) → Q .normal a' w') l a) : (Code.region id l.toArray true).wp Try.prog Q a w :=
  wp_region_quiet (C := fun w' => ∃ n : Like W0, w' = n.val) hm hB ⟨⟨w.drew, hw.drew⟩, rfl⟩ (by simpa using h)
/-- VM i of a tally's map lies in block g -/
structure VmHit (w : World) (T T0 T1 m i g : Nat) (key val : Nat → Value) (src id : ByteArray) : Prop where
  row : w.rowIs T 50 2 (tf T0 T1)
  map : MapIs w T1 m key val
  keys : Keys 68 m key
  lt : i < m
  key : key i = .agg #[.string src, .string id]
  val : val i = .pointer (some ⟨g, 0, none⟩)
set_option maxRecDepth 100000 in
theorem zzvm_any (T T0 T1 m i g np vc : Nat) (key val : Nat → Value) (src id nm tn : ByteArray) (d : Int) (ad : Option Addr) (w : World) (h : VmHit w T T0 T1 m i g key val src id) (hg : w.rowIs g 66 6 (vmf (d % 1000000000) (d / 1000000000) nm tn (.slice ad np vc))) (hd : -9223372036854775808 ≤ d) (hd2 : d ≤ 9223372036854775807) :
    Calls Try.prog 19 #[.pointer (some ⟨T, 0, none⟩), .string src, .string id] w fun e w' => e = .returned (.tuple #[.bool true, .int .i64 d, .string nm, .string tn, .int .i64 np]) ∧ Below w.heap.size w w' := by
  have hgl := hg.lt
  have hvi := h.val
  have c1 : w.cell? ⟨T, 1, none⟩ = some (.map (some T1)) := h.row.cell (i := 1) (by decide)
  have d0 : w.cell? ⟨g, 0, none⟩ = some (.int .u64 (d % 1000000000)) := hg.cell (i := 0) (by decide)
  have d1 : w.cell? ⟨g, 1, none⟩ = some (.int .i64 (d / 1000000000)) := hg.cell (i := 1) (by decide)
  have d2 : w.cell? ⟨g, 2, none⟩ = some (.pointer none) := hg.cell (i := 2) (by decide)
  have d3 : w.cell? ⟨g, 3, none⟩ = some (.string nm) := hg.cell (i := 3) (by decide)
  have d4 : w.cell? ⟨g, 4, none⟩ = some (.string tn) := hg.cell (i := 4) (by decide)
  have d5 : w.cell? ⟨g, 5, none⟩ = some (.slice ad np vc) := hg.cell (i := 5) (by decide)
  have CA : ∀ n : Like w, Calls Try.prog 26 #[.agg #[.int .u64 (d % 1000000000), .int .i64 (d / 1000000000), .pointer none], .agg #[.int .u64 0, .int .i64 0, .pointer none]] n.val fun e w2 => e = .returned (.int .i64 d) ∧ ∃ m : Like w, w2 = m.val := by
    intro n
    refine (sub_any d n.val hd hd2).mono ?_
    rintro e w2 ⟨rfl, hb⟩
    exact ⟨rfl, ⟨w2, n.ok.trans (hb.mono n.ok.size)⟩, rfl⟩
  have HA := hide CA
  have H := hide h
  clear CA h hg
  generalize d % 1000000000 = x at HA d0 ⊢
  generalize d / 1000000000 = y at HA d1 ⊢
  have F0 : ∀ n : Like w, n.val.cell? ⟨g, 0, none⟩ = some (.int .u64 x) := fun n => (n.ok.cell (p := ⟨g, 0, none⟩) hgl).trans d0
  have F1 : ∀ n : Like w, n.val.cell? ⟨g, 1, none⟩ = some (.int .i64 y) := fun n => (n.ok.cell (p := ⟨g, 1, none⟩) hgl).trans d1
  have F2 : ∀ n : Like w, n.val.cell? ⟨g, 2, none⟩ = some (.pointer none) := fun n => (n.ok.cell (p := ⟨g, 2, none⟩) hgl).trans d2
  have F3 : ∀ n : Like w, n.val.cell? ⟨g, 3, none⟩ = some (.string nm) := fun n => (n.ok.cell (p := ⟨g, 3, none⟩) hgl).trans d3
  have F4 : ∀ n : Like w, n.val.cell? ⟨g, 4, none⟩ = some (.string tn) := fun n => (n.ok.cell (p := ⟨g, 4, none⟩) hgl).trans d4
  have F5 : ∀ n : Like w, n.val.cell? ⟨g, 5, none⟩ = some (.slice ad np vc) := fun n => (n.ok.cell (p := ⟨g, 5, none⟩) hgl).trans d5
  go_enter Try.func19, Try.ntmps19
  go_upto_region 4 with (at_lookup; refine wpList_hit rfl _ _ _ _ rfl lawV Try.underlying48 (unhide H).map (unhide H).keys (unhide H).lt rfl (unhide H).key.symm ?_; simp only [hvi, Bool.false_eq_true, if_false])
  refine region_like w (by kernel_rfl) (by kernel_rfl) (Below.refl _ _) ?_
  repeat (go_big_quiet_step ((go_at_call 26; exact unhide HA _)))
  refine wpQuiet_nil ?_
  rintro _ ⟨n, rfl⟩
  go_wp2
  refine bodyPost_ret (v := .tuple #[.bool true, .int .i64 d, .string nm, .string tn, .int .i64 np]) (by simp [results, Try.results19, go_sem]) rfl ⟨rfl, n.ok⟩
set_option maxRecDepth 100000 in
theorem zzplace_any (T T0 T1 m i g j np vc r : Nat) (key val : Nat → Value) (src id nm tn : ByteArray) (x y : Int) (p : Pl) (w : World) (h : VmHit w T T0 T1 m i g key val src id) (hg : w.rowIs g 66 6 (vmf x y nm tn (.slice (some ⟨r, 0, none⟩) np vc))) (hj : j < np)
    (hp : ∀ c, c < 10 → w.cell? ⟨r, j * 10 + c, none⟩ = some (p.cell c)) :
    Calls Try.prog 27 #[.pointer (some ⟨T, 0, none⟩), .string src, .string id, .int .i64 j] w fun e w' => e = .returned (.tuple #[.string p.tn, .string p.pl, .int .i64 p.sm, .int .i64 p.po, .float .f64 (p.f 0), .float .f64 (p.f 1), .float .f64 (p.f 2), .float .f64 (p.f 3), .float .f64 (p.f 4), .float .f64 (p.f 5)]) ∧ Below w.heap.size w w' := by
  have hgl := hg.lt
  have hvi := h.val
  have c1 : w.cell? ⟨T, 1, none⟩ = some (.map (some T1)) := h.row.cell (i := 1) (by decide)
  have d5 : w.cell? ⟨g, 5, none⟩ = some (.slice (some ⟨r, 0, none⟩) np vc) := hg.cell (i := 5) (by decide)
  have p0 : w.cell? ⟨r, j * 10, none⟩ = some (.string p.tn) := hp 0 (by decide)
  have p1 : w.cell? ⟨r, j * 10 + 1, none⟩ = some (.string p.pl) := hp 1 (by decide)
  have p2 : w.cell? ⟨r, j * 10 + 2, none⟩ = some (.int .i64 p.sm) := hp 2 (by decide)
  have p3 : w.cell? ⟨r, j * 10 + 3, none⟩ = some (.int .i64 p.po) := hp 3 (by decide)
  have p4 : w.cell? ⟨r, j * 10 + 4, none⟩ = some (.float .f64 (p.f 0)) := hp 4 (by decide)
  have p5 : w.cell? ⟨r, j * 10 + 5, none⟩ = some (.float .f64 (p.f 1)) := hp 5 (by decide)
  have p6 : w.cell? ⟨r, j * 10 + 6, none⟩ = some (.float .f64 (p.f 2)) := hp 6 (by decide)
  have p7 : w.cell? ⟨r, j * 10 + 7, none⟩ = some (.float .f64 (p.f 3)) := hp 7 (by decide)
  have p8 : w.cell? ⟨r, j * 10 + 8, none⟩ = some (.float .f64 (p.f 4)) := hp 8 (by decide)
  have p9 : w.cell? ⟨r, j * 10 + 9, none⟩ = some (.float .f64 (p.f 5)) := hp 9 (by decide)
  have H := hide h
  clear h hg hp
  go_enter Try.func27, Try.ntmps27
  go_upto_region 2 with (at_lookup; refine wpList_hit rfl _ _ _ _ rfl lawV Try.underlying48 (unhide H).map (unhide H).keys (unhide H).lt rfl (unhide H).key.symm ?_; simp only [hvi, Bool.false_eq_true, if_false])
  generalize hwk : World.alloc w _ = wk
  have HB : Hid (Below w.heap.size w wk) := by rw [← hwk]; exact (Below.refl _ w).alloc (Nat.le_refl _) _
  have q0 : wk.cell? ⟨w.heap.size, 0, none⟩ = some (.string p.tn) := by rw [← hwk]; simp
  have q1 : wk.cell? ⟨w.heap.size, 1, none⟩ = some (.string p.pl) := by rw [← hwk]; simp
  have q2 : wk.cell? ⟨w.heap.size, 2, none⟩ = some (.int .i64 p.sm) := by rw [← hwk]; simp
  have q3 : wk.cell? ⟨w.heap.size, 3, none⟩ = some (.int .i64 p.po) := by rw [← hwk]; simp
  have q4 : wk.cell? ⟨w.heap.size, 4, none⟩ = some (.float .f64 (p.f 0)) := by rw [← hwk]; simp
  have q5 : wk.cell? ⟨w.heap.size, 5, none⟩ = some (.float .f64 (p.f 1)) := by rw [← hwk]; simp
  have q6 : wk.cell? ⟨w.heap.size, 6, none⟩ = some (.float .f64 (p.f 2)) := by rw [← hwk]; simp
  have q7 : wk.cell? ⟨w.heap.size, 7, none⟩ = some (.float .f64 (p.f 3)) := by rw [← hwk]; simp
  have q8 : wk.cell? ⟨w.heap.size, 8, none⟩ = some (.float .f64 (p.f 4)) := by rw [← hwk]; simp
  have q9 : wk.cell? ⟨w.heap.size, 9, none⟩ = some (.float .f64 (p.f 5)) := by rw [← hwk]; simp
  clear hwk p0 p1 p2 p3 p4 p5 p6 p7 p8 p9 d5 c1
  generalize hBn : w.heap.size = B at HB q0 q1 q2 q3 q4 q5 q6 q7 q8 q9 ⊢
  go_quiet (fail)
  go_wp2
  refine bodyPost_ret (v := .tuple #[.string p.tn, .string p.pl, .int .i64 p.sm, .int .i64 p.po, .float .f64 (p.f 0), .float .f64 (p.f 1), .float .f64 (p.f 2), .float .f64 (p.f 3), .float .f64 (p.f 4), .float .f64 (p.f 5)]) (by simp [results, Try.results27, go_sem]) rfl ⟨rfl, ?_⟩
  rw [hBn]
  exact ⟨(unhide HB).os, (unhide HB).tape, (unhide HB).output, (unhide HB).size, (unhide HB).block⟩
end Go.Proofs.Qxb6617558a
