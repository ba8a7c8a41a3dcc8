import Derived.Test.Qxb6617558aTr
namespace Go.Proofs.Qxb6617558a
open Go.RowKit Go.Maps
set_option linter.unusedVariables false
set_option maxHeartbeats 1000000 in
set_option maxRecDepth 100000 in
theorem placeat_any (T T0 T1 m i g j np vc r : Nat) (key val : Nat → Value) (src id nm tn : ByteArray) (x y : Int) (q p : Pl) (w : World) (h : VmHit w T T0 T1 m i g key val src id) (hg : w.rowIs g 66 6 (vmf x y nm tn (.slice (some ⟨r, 0, none⟩) np vc))) (hj : j < np) (hrl : r < w.heap.size)
    (hq : ∀ c, c < 10 → w.cell? ⟨r, j * 10 + c, none⟩ = some (q.cell c)) (he : PlEq q p) :
    Calls Try.prog 20 #[.pointer (some ⟨T, 0, none⟩), .string src, .string id, .int .i64 j, .agg #[.string p.tn, .string p.pl, .int .i64 p.sm, .int .i64 p.po, .float .f64 (p.f 0), .float .f64 (p.f 1), .float .f64 (p.f 2), .float .f64 (p.f 3), .float .f64 (p.f 4), .float .f64 (p.f 5)]] w fun e w' => e = .returned (.bool true) ∧ Below w.heap.size w w' := by
  have hgl := hg.lt
  have hTl := h.row.lt
  have hMl := h.map.lt
  have e0 := he.tn
  have e1 := he.pl
  have e2 := he.sm
  have e3 := he.po
  have CP : ∀ wq : World, Below w.heap.size w wq → Calls Try.prog 27 #[.pointer (some ⟨T, 0, none⟩), .string src, .string id, .int .i64 j] wq fun e w' => e = .returned (.tuple #[.string p.tn, .string p.pl, .int .i64 p.sm, .int .i64 p.po, .float .f64 (q.f 0), .float .f64 (q.f 1), .float .f64 (q.f 2), .float .f64 (q.f 3), .float .f64 (q.f 4), .float .f64 (q.f 5)]) ∧ Below wq.heap.size wq w' := by
    intro wq hb
    have h1 := zzplace_any T T0 T1 m i g j np vc r key val src id nm tn x y q wq ⟨World.rowIs.of_block h.row (hb.block T hTl), h.map.below hb hMl, h.keys, h.lt, h.key, h.val⟩ (World.rowIs.of_block hg (hb.block g hgl)) hj (fun c hc => (hb.cell (p := ⟨r, j * 10 + c, none⟩) hrl).trans (hq c hc))
    rw [e0, e1, e2, e3] at h1
    exact h1
  have HCP := hide CP
  have HF := hide he.f
  clear CP he hq h hg e0 e1 e2 e3
  go_enter Try.func20, Try.ntmps20
  go_upto_region 1 with fail
  generalize hwk : World.alloc w _ = wk
  have HB : Hid (Below w.heap.size w wk) := by rw [← hwk]; exact (Below.refl _ w).alloc (Nat.le_refl _) _
  have hBl : w.heap.size < wk.heap.size := by rw [← hwk]; simp
  have q0 : wk.cell? ⟨w.heap.size, 0, none⟩ = some (.string p.tn) := by rw [← hwk]; simp
  have q1 : wk.cell? ⟨w.heap.size, 1, none⟩ = some (.string p.pl) := by rw [← hwk]; simp
  have q2 : wk.cell? ⟨w.heap.size, 2, none⟩ = some (.int .i64 p.sm) := by rw [← hwk]; simp
  have q3 : wk.cell? ⟨w.heap.size, 3, none⟩ = some (.int .i64 p.po) := by rw [← hwk]; simp
  have q4 : wk.cell? ⟨w.heap.size, 4, none⟩ = some (.float .f64 (p.f 0)) := by rw [← hwk]; simp
  have q5 : wk.cell? ⟨w.heap.size, 5, none⟩ = some (.float .f64 (p.f 1)) := by rw [← hwk]; simp
  have q6 : wk.cell? ⟨w.heap.size, 6, none⟩ = some (.float .f64 (p.f 2)) := by rw [← hwk]; simp
  have q7 : wk.cell? ⟨w.heap.size, 7, none⟩ = some (.float .f64 (p.f 3)) := by rw [← hwk]; simp
  have q8 : wk.cell? ⟨w.heap.size, 8, none⟩ = some (.float .f64 (p.f 4)) := by rw [← hwk]; simp
  have q9 : wk.cell? ⟨w.heap.size, 9, none⟩ = some (.float .f64 (p.f 5)) := by rw [← hwk]; simp
  clear hwk
  go_upto_region 2 with (go_at_call 27; refine (unhide HCP _ (unhide HB)).mono ?_; rintro e w2 ⟨rfl, hb2⟩)
  have r0 : w2.cell? ⟨w.heap.size, 0, none⟩ = some (.string p.tn) := (hb2.cell (p := ⟨w.heap.size, 0, none⟩) hBl).trans q0
  have r1 : w2.cell? ⟨w.heap.size, 1, none⟩ = some (.string p.pl) := (hb2.cell (p := ⟨w.heap.size, 1, none⟩) hBl).trans q1
  have r2 : w2.cell? ⟨w.heap.size, 2, none⟩ = some (.int .i64 p.sm) := (hb2.cell (p := ⟨w.heap.size, 2, none⟩) hBl).trans q2
  have r3 : w2.cell? ⟨w.heap.size, 3, none⟩ = some (.int .i64 p.po) := (hb2.cell (p := ⟨w.heap.size, 3, none⟩) hBl).trans q3
  have r4 : w2.cell? ⟨w.heap.size, 4, none⟩ = some (.float .f64 (p.f 0)) := (hb2.cell (p := ⟨w.heap.size, 4, none⟩) hBl).trans q4
  have r5 : w2.cell? ⟨w.heap.size, 5, none⟩ = some (.float .f64 (p.f 1)) := (hb2.cell (p := ⟨w.heap.size, 5, none⟩) hBl).trans q5
  have r6 : w2.cell? ⟨w.heap.size, 6, none⟩ = some (.float .f64 (p.f 2)) := (hb2.cell (p := ⟨w.heap.size, 6, none⟩) hBl).trans q6
  have r7 : w2.cell? ⟨w.heap.size, 7, none⟩ = some (.float .f64 (p.f 3)) := (hb2.cell (p := ⟨w.heap.size, 7, none⟩) hBl).trans q7
  have r8 : w2.cell? ⟨w.heap.size, 8, none⟩ = some (.float .f64 (p.f 4)) := (hb2.cell (p := ⟨w.heap.size, 8, none⟩) hBl).trans q8
  have r9 : w2.cell? ⟨w.heap.size, 9, none⟩ = some (.float .f64 (p.f 5)) := (hb2.cell (p := ⟨w.heap.size, 9, none⟩) hBl).trans q9
  have HB2 : Hid (Below w.heap.size w w2) := (unhide HB).trans (hb2.mono (Nat.le_of_lt hBl))
  clear q0 q1 q2 q3 q4 q5 q6 q7 q8 q9 hb2 HB HCP hBl
  go_wp2_with (go_at_call 28; refine (feq_any _ _ _ (unhide HF _ (by decide))).mono ?_; rintro e w3 ⟨rfl, rfl⟩)
  go_ret
  exact ⟨rfl, unhide HB2⟩
end Go.Proofs.Qxb6617558a
