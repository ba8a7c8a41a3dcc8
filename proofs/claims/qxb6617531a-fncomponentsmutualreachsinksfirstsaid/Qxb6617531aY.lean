import Derived.Test.Qxb6617531aX
namespace Go.Proofs.Qxb6617531a
open Go.RowKit
set_option linter.unusedVariables false

set_option maxHeartbeats 1000000 in
set_option maxRecDepth 100000 in
/-- a step to an open activity -/
theorem round_low (K : Blks) (n fb fo fc : Nat) (ord low nxt : Nat → Nat) (opn : Nat → Bool) (rl ys : List Nat) (cnt : Nat) (rv wv gv : Value) (w : World) (a b eb eo dg dc : Nat) (c1 c2 c12 c18 c20 c21 c22 c23 c24 c25 c26 c27 c28 c29 c30 c31 c32 c33 c34 c35 c36 c37 c38 c39 c40 c41 c42 c43 c44 c45 c173 c174 : Value) (u13 u14 u15 u16 u17 u19 u46 u47 u48 u49 u50 u51 u52 u53 u54 u55 u56 u57 u58 u59 u60 u61 u62 u63 u64 u65 u66 u67 u68 u69 u70 u71 u72 u73 u74 u75 u76 u77 u78 u79 u80 u81 u82 u83 u84 u85 u86 u87 u88 u89 u90 u91 u92 u93 u94 u95 u96 u97 u98 u99 u100 u101 u102 u103 u104 u105 u106 u107 u108 u109 u110 u111 u112 u113 u114 u115 u116 u117 u118 u119 u120 u121 u122 u123 u124 u125 u126 u127 u128 u129 u130 u131 u132 u133 u134 u135 u136 u137 u138 u139 u140 u141 u142 u143 u144 u145 u146 u147 u148 u149 u150 u151 u152 u153 u154 u155 u156 u157 u158 u159 u160 u161 u162 u163 u164 u165 u166 u167 u168 u169 u170 u171 u172 : Value)
    (h : Mem K n ord low nxt opn rl (ys ++ [a]) cnt rv wv w) (hn : n ≤ 512) (ha : a < n) (hb : b < n) (hys : ys.length ≤ 511) (hrl : rl.length ≤ 512) (hlt : nxt a < dg) (hdg : dg ≤ 32768)
    (hfr : w.cell? ⟨fb, fo + a, none⟩ = some (.slice (some ⟨eb, eo, none⟩) dg dc)) (hto : w.cell? ⟨eb, eo + nxt a * 2 + 1, none⟩ = some (.int .i64 b)) (ho : ord b ≠ 0) (hop : opn b = true) (hlb : low a ≤ 512) (hob : ord b ≤ 512) :
    Code.wp Try.prog ((Try.f7.body.bind firstLoop).bind firstLoop |>.getD .skip) (After K n fb fo fc c1 c2 c12 c18 c20 c21 c22 c23 c24 c25 c26 c27 c28 c29 c30 c31 c32 c33 c34 c35 c36 c37 c38 c39 c40 c41 c42 c43 c44 c45 c173 c174 fun gv' w' => Mem K n ord (Tj.upd low a (min (low a) (ord b))) (Tj.upd nxt a (nxt a + 1)) opn rl (ys ++ [a]) cnt rv wv w' ∧ Kept K rv wv rv wv w w' ∧ gv' = gv) ⟨#[.slice (some ⟨fb, fo, none⟩) n fc, c1, c2, .pointer (some ⟨K.b 0, 0, none⟩), .pointer (some ⟨K.b 1, 0, none⟩), .slice (some ⟨K.b 8, 0, none⟩) n n, .pointer (some ⟨K.b 2, 0, none⟩), .pointer (some ⟨K.b 3, 0, none⟩), .pointer (some ⟨K.b 4, 0, none⟩), gv, .pointer (some ⟨K.b 5, 0, none⟩), .func (.func 8) #[] #[.pointer (some ⟨K.b 5, 0, none⟩), .pointer (some ⟨K.b 0, 0, none⟩), .pointer (some ⟨K.b 1, 0, none⟩), .pointer (some ⟨K.b 2, 0, none⟩), .pointer (some ⟨K.b 3, 0, none⟩), .pointer (some ⟨K.b 4, 0, none⟩)], c12, u13, u14, u15, u16, u17, c18, u19, c20, c21, c22, c23, c24, c25, c26, c27, c28, c29, c30, c31, c32, c33, c34, c35, c36, c37, c38, c39, c40, c41, c42, c43, c44, c45, u46, u47, u48, u49, u50, u51, u52, u53, u54, u55, u56, u57, u58, u59, u60, u61, u62, u63, u64, u65, u66, u67, u68, u69, u70, u71, u72, u73, u74, u75, u76, u77, u78, u79, u80, u81, u82, u83, u84, u85, u86, u87, u88, u89, u90, u91, u92, u93, u94, u95, u96, u97, u98, u99, u100, u101, u102, u103, u104, u105, u106, u107, u108, u109, u110, u111, u112, u113, u114, u115, u116, u117, u118, u119, u120, u121, u122, u123, u124, u125, u126, u127, u128, u129, u130, u131, u132, u133, u134, u135, u136, u137, u138, u139, u140, u141, u142, u143, u144, u145, u146, u147, u148, u149, u150, u151, u152, u153, u154, u155, u156, u157, u158, u159, u160, u161, u162, u163, u164, u165, u166, u167, u168, u169, u170, u171, u172, c173, c174], []⟩ w := by
  have c8 := cell_of_one h.obw
  have c3 := cell_of_one h.obo
  have c4 := cell_of_one h.obl
  have c6 := cell_of_one h.obp
  have o8 := h.oww
  rw [List.length_append, List.length_singleton] at o8
  obtain ⟨wg, wc, rfl⟩ := own_some o8
  have l8 := own_last o8
  have rn := h.ran.cell ha
  have fn := h.ran.frozen a
  have rla := h.ral.cell ha
  have fla := h.ral.frozen a
  have ro := h.rao.cell hb
  have rp := h.rap.cell hb
  have d : ∀ i j, i < 10 → j < 10 → i ≠ j → K.b i ≠ K.b j := h.dist
  have d80 : (K.b 8 = K.b 0) = False := eq_false (d 8 0 (by decide) (by decide) (by decide))
  have d08 : (K.b 0 = K.b 8) = False := eq_false (d 0 8 (by decide) (by decide) (by decide))
  have d81 : (K.b 8 = K.b 1) = False := eq_false (d 8 1 (by decide) (by decide) (by decide))
  have d18 : (K.b 1 = K.b 8) = False := eq_false (d 1 8 (by decide) (by decide) (by decide))
  have d82 : (K.b 8 = K.b 2) = False := eq_false (d 8 2 (by decide) (by decide) (by decide))
  have d28 : (K.b 2 = K.b 8) = False := eq_false (d 2 8 (by decide) (by decide) (by decide))
  have d86 : (K.b 8 = K.b 6) = False := eq_false (d 8 6 (by decide) (by decide) (by decide))
  have d68 : (K.b 6 = K.b 8) = False := eq_false (d 6 8 (by decide) (by decide) (by decide))
  have d89 : (K.b 8 = K.b 9) = False := eq_false (d 8 9 (by decide) (by decide) (by decide))
  have d98 : (K.b 9 = K.b 8) = False := eq_false (d 9 8 (by decide) (by decide) (by decide))
  have d87 : (K.b 8 = K.b 7) = False := eq_false (d 8 7 (by decide) (by decide) (by decide))
  have d78 : (K.b 7 = K.b 8) = False := eq_false (d 7 8 (by decide) (by decide) (by decide))
  clear d
  have hb0 : (((ord b : Nat) : Int) == 0) = false := by simp; exact ho
  have hlt' : ((nxt a : Nat) : Int) < (dg : Int) := by omega
  clear ho
  have hmin : (low a ≤ ord b ∧ min (low a) (ord b) = low a) ∨ (ord b < low a ∧ min (low a) (ord b) = ord b) := by omega
  rcases hmin with ⟨hle, hmin⟩ | ⟨hle, hmin⟩
  all_goals
    have HM := hide hmin
    clear hmin
    conv => arg 2; whnf
    go_wp2
    go_quiet (fail)
    go_wp2
    go_quiet (fail)
    go_upto_region 22 with fail
    generalize hw0 : World.drewN w _ = w0
    have M0 : Mem K n ord low nxt opn rl (ys ++ [a]) cnt rv (.slice (some ⟨wg, 0, none⟩) (ys.length + 1) wc) w0 := by rw [← hw0]; exact h.drewN _
    have K0 : Kept K rv (.slice (some ⟨wg, 0, none⟩) (ys.length + 1) wc) rv (.slice (some ⟨wg, 0, none⟩) (ys.length + 1) wc) w w0 := by rw [← hw0]; exact (Kept.refl K rv _ w).drewN _
    have M1 := M0.setNxt a (nxt a + 1)
    have K1 := K0.set 8 (by decide) a (.int .i64 ((nxt a + 1 : Nat) : Int))
    have ec : ((nxt a + 1 : Nat) : Int) = ((nxt a : Nat) : Int) + 1 := by omega
    rw [ec] at M1 K1
    clear ec M0 K0 hw0
    generalize hw1 : World.setCell _ _ _ = w1 at M1 K1 ⊢
    clear hw1 c8 c3 c4 c6 o8 l8 rn fn rla fla ro rp d80 d08 d81 d18 d82 d28 d86 d68 d89 d98 d87 d78 hb0 hlt' hfr hto h hlt hdg hrl hys hop
    have c4 := cell_of_one M1.obl
    have c3 := cell_of_one M1.obo
    have rla := M1.ral.cell ha
    have fla := M1.ral.frozen a
    have ro := M1.rao.cell hb
    have HM1 := hide M1
    have HK1 := hide K1
    clear M1 K1
    go_still_tail 11, Try.mixed
    rw [World.drew_eq w1]
    go_wp2
    refine after_mk (⟨?_, ((unhide HK1).set 7 (by decide) a _).drew, rfl⟩)
    try rw [unhide HM]
    exact ((unhide HM1).setLow a _).drew
end Go.Proofs.Qxb6617531a
