import Derived.Test.Qxb6617531aX
namespace Go.Proofs.Qxb6617531a
open Go.RowKit
set_option linter.unusedVariables false

set_option maxHeartbeats 1000000 in
set_option maxRecDepth 100000 in
/-- an activity is done; it heads no group -/
theorem round_merge (K : Blks) (n fb fo fc : Nat) (ord low nxt : Nat → Nat) (opn : Nat → Bool) (low' : Nat → Nat) (rl ys : List Nat) (cnt : Nat) (rv wv gv : Value) (w : World) (a dg dc : Nat) (fe : Option Addr) (c1 c2 c12 c18 c20 c21 c22 c23 c24 c25 c26 c27 c28 c29 c30 c31 c32 c33 c34 c35 c36 c37 c38 c39 c40 c41 c42 c43 c44 c45 c173 c174 : Value) (u13 u14 u15 u16 u17 u19 u46 u47 u48 u49 u50 u51 u52 u53 u54 u55 u56 u57 u58 u59 u60 u61 u62 u63 u64 u65 u66 u67 u68 u69 u70 u71 u72 u73 u74 u75 u76 u77 u78 u79 u80 u81 u82 u83 u84 u85 u86 u87 u88 u89 u90 u91 u92 u93 u94 u95 u96 u97 u98 u99 u100 u101 u102 u103 u104 u105 u106 u107 u108 u109 u110 u111 u112 u113 u114 u115 u116 u117 u118 u119 u120 u121 u122 u123 u124 u125 u126 u127 u128 u129 u130 u131 u132 u133 u134 u135 u136 u137 u138 u139 u140 u141 u142 u143 u144 u145 u146 u147 u148 u149 u150 u151 u152 u153 u154 u155 u156 u157 u158 u159 u160 u161 u162 u163 u164 u165 u166 u167 u168 u169 u170 u171 u172 : Value)
    (h : Mem K n ord low nxt opn rl (ys ++ [a]) cnt rv wv w) (hn : n ≤ 512) (ha : a < n) (hys : ys.length ≤ 511) (hrl : rl.length ≤ 512) (hge : dg ≤ nxt a) (hnx : nxt a ≤ 32768) (hdg : dg ≤ 32768) (hlo : ∀ v, v = a ∨ v ∈ ys → low v ≤ 512) (hor : ∀ v, ord v ≤ 512)
    (hfr : w.cell? ⟨fb, fo + a, none⟩ = some (.slice fe dg dc)) (hlow : (ys = [] ∧ low' = low) ∨ ∃ zs u, ys = zs ++ [u] ∧ u < n ∧ u ≠ a ∧ low' = Tj.upd low u (min (low u) (low a))) (hno : low a ≠ ord a) :
    Code.wp Try.prog ((Try.f7.body.bind firstLoop).bind firstLoop |>.getD .skip) (After K n fb fo fc c1 c2 c12 c18 c20 c21 c22 c23 c24 c25 c26 c27 c28 c29 c30 c31 c32 c33 c34 c35 c36 c37 c38 c39 c40 c41 c42 c43 c44 c45 c173 c174 fun gv' w' => (∃ wv', Mem K n ord low' nxt opn rl ys cnt rv wv' w' ∧ Kept K rv wv rv wv' w w') ∧ gv' = gv) ⟨#[.slice (some ⟨fb, fo, none⟩) n fc, c1, c2, .pointer (some ⟨K.b 0, 0, none⟩), .pointer (some ⟨K.b 1, 0, none⟩), .slice (some ⟨K.b 8, 0, none⟩) n n, .pointer (some ⟨K.b 2, 0, none⟩), .pointer (some ⟨K.b 3, 0, none⟩), .pointer (some ⟨K.b 4, 0, none⟩), gv, .pointer (some ⟨K.b 5, 0, none⟩), .func (.func 8) #[] #[.pointer (some ⟨K.b 5, 0, none⟩), .pointer (some ⟨K.b 0, 0, none⟩), .pointer (some ⟨K.b 1, 0, none⟩), .pointer (some ⟨K.b 2, 0, none⟩), .pointer (some ⟨K.b 3, 0, none⟩), .pointer (some ⟨K.b 4, 0, none⟩)], c12, u13, u14, u15, u16, u17, c18, u19, c20, c21, c22, c23, c24, c25, c26, c27, c28, c29, c30, c31, c32, c33, c34, c35, c36, c37, c38, c39, c40, c41, c42, c43, c44, c45, u46, u47, u48, u49, u50, u51, u52, u53, u54, u55, u56, u57, u58, u59, u60, u61, u62, u63, u64, u65, u66, u67, u68, u69, u70, u71, u72, u73, u74, u75, u76, u77, u78, u79, u80, u81, u82, u83, u84, u85, u86, u87, u88, u89, u90, u91, u92, u93, u94, u95, u96, u97, u98, u99, u100, u101, u102, u103, u104, u105, u106, u107, u108, u109, u110, u111, u112, u113, u114, u115, u116, u117, u118, u119, u120, u121, u122, u123, u124, u125, u126, u127, u128, u129, u130, u131, u132, u133, u134, u135, u136, u137, u138, u139, u140, u141, u142, u143, u144, u145, u146, u147, u148, u149, u150, u151, u152, u153, u154, u155, u156, u157, u158, u159, u160, u161, u162, u163, u164, u165, u166, u167, u168, u169, u170, u171, u172, c173, c174], []⟩ w := by
  have c8 := cell_of_one h.obw
  have f8 := free_of_one h.obw
  have c3 := cell_of_one h.obo
  have c4 := cell_of_one h.obl
  have o8 := h.oww
  rw [List.length_append, List.length_singleton] at o8
  obtain ⟨wg, wc, rfl⟩ := own_some o8
  have l8 := own_last o8
  have rn := h.ran.cell ha
  have rla := h.ral.cell ha
  have oy : w.ownsRow K.base 3 1 (.slice (some ⟨wg, 0, none⟩) ys.length wc) ys.length (ys.map ival) := ownsRow_pop (last := [ival a]) (by simp) (by simpa using o8)
  have HM1 := hide (fun k => (h.drewN k).setWalk (wl' := ys) (wv' := .slice (some ⟨wg, 0, none⟩) ys.length wc) (World.grownBy.refl (w.drewN k) _) oy (.inl rfl))
  have HK1 := hide (fun k => (((Kept.refl K rv (.slice (some ⟨wg, 0, none⟩) (ys.length + 1) wc) w).drewN k).grownW (wv2 := .slice (some ⟨wg, 0, none⟩) ys.length wc) (World.grownBy.refl (w.drewN k) _) (.inl rfl)).set 4 (by decide) 0 (.slice (some ⟨wg, 0, none⟩) ys.length wc))
  have hcap := own_cap o8
  have hge' : ¬ ((nxt a : Nat) : Int) < (dg : Int) := by omega
  have d : ∀ i j, i < 10 → j < 10 → i ≠ j → K.b i ≠ K.b j := h.dist
  have d40 : (K.b 4 = K.b 0) = False := eq_false (d 4 0 (by decide) (by decide) (by decide))
  have d04 : (K.b 0 = K.b 4) = False := eq_false (d 0 4 (by decide) (by decide) (by decide))
  have d41 : (K.b 4 = K.b 1) = False := eq_false (d 4 1 (by decide) (by decide) (by decide))
  have d14 : (K.b 1 = K.b 4) = False := eq_false (d 1 4 (by decide) (by decide) (by decide))
  have d46 : (K.b 4 = K.b 6) = False := eq_false (d 4 6 (by decide) (by decide) (by decide))
  have d64 : (K.b 6 = K.b 4) = False := eq_false (d 6 4 (by decide) (by decide) (by decide))
  have d47 : (K.b 4 = K.b 7) = False := eq_false (d 4 7 (by decide) (by decide) (by decide))
  have d74 : (K.b 7 = K.b 4) = False := eq_false (d 7 4 (by decide) (by decide) (by decide))
  clear d
  have HL := hide hlow
  have HNO := hide hno
  have HH := hide h
  have HLO := hide hlo
  have HOR := hide hor
  clear hlow h hlo hor hno
  conv => arg 2; whnf
  go_wp2
  go_quiet (fail)
  go_upto_if 113 with fail
  have M1 := unhide HM1 nq
  have K1 := unhide HK1 nq
  clear HM1 HK1 c8 f8 c3 c4 o8 l8 rla oy rn hfr
  generalize hw1 : World.setCell _ _ _ = w1 at M1 K1 ⊢
  clear hw1
  have HM1 := hide M1
  have HK1 := hide K1
  have c8 := cell_of_one M1.obw
  have oy := M1.oww
  clear M1 K1
  go_cut [13, 15] from 46 to 172 (fun s13 s15 w' => s13 = .int .i64 a ∧ Mem K n ord low' nxt opn rl ys cnt rv (.slice (some ⟨wg, 0, none⟩) ys.length wc) w' ∧ Kept K rv (.slice (some ⟨wg, 0, none⟩) (ys.length + 1) wc) rv (.slice (some ⟨wg, 0, none⟩) ys.length wc) w w')
  case first =>
    rcases unhide HL with ⟨hy, hl'⟩ | ⟨zs, u, hy, hu, hua, hl'⟩
    · subst hy
      subst hl'
      go_wp2
      go_meet
      case rel => exact ⟨rfl, unhide HM1, unhide HK1⟩
    · have hpos : 0 < ys.length := by rw [hy]; simp
      have cu : w1.cell? ⟨wg, ys.length - 1, none⟩ = some (.int .i64 u) := by
        have e1 : ys.length - 1 = zs.length := by rw [hy]; simp
        rw [e1, oy.cellAt zs.length (by rw [hy]; simp)]
        rw [hy]; simp [ival]
      have rlu := (unhide HM1).ral.cell hu
      have flu := (unhide HM1).ral.frozen u
      have rla := (unhide HM1).ral.cell ha
      have c4 := cell_of_one (unhide HM1).obl
      have hlu := unhide HLO u (.inr (by rw [hy]; simp))
      have hla := unhide HLO a (.inl rfl)
      have hmin : (low u ≤ low a ∧ min (low u) (low a) = low u) ∨ (low a < low u ∧ min (low u) (low a) = low a) := by omega
      have HL' := hide hl'
      clear hl' hy hua
      rcases hmin with ⟨hle, hmin⟩ | ⟨hle, hmin⟩
      all_goals
        have HMI := hide hmin
        clear hmin
        go_wp2
        go_still_tail 11, Try.mixed
        rw [World.drew_eq w1]
        go_wp2_with fail
        go_meet
        case rel =>
          refine ⟨rfl, ?_, ((unhide HK1).set 7 (by decide) u _).drew⟩
          rw [unhide HL']
          try rw [unhide HMI]
          exact ((unhide HM1).setLow u _).drew
  case rest =>
    obtain ⟨rfl, hM, hK⟩ := hcut
    have HM2 := hide hM
    have HK2 := hide hK
    have rla := hM.ral.cell ha
    have roa := hM.rao.cell ha
    have c4 := cell_of_one hM.obl
    have c3 := cell_of_one hM.obo
    have hne : (((low' a : Nat) : Int) == ((ord a : Nat) : Int)) = false := by
      have e : low' a = low a := by
        rcases unhide HL with ⟨_, e⟩ | ⟨zs, u, _, _, hua, e⟩
        · rw [e]
        · rw [e, Tj.upd_ne _ _ (fun h => hua h.symm)]
      rw [e]
      have := unhide HNO
      simp
      omega
    clear hM hK HM1 HK1 c8 oy
    go_wp2
    go_quiet (fail)
    go_wp2
    exact after_mk (⟨⟨_, (unhide HM2).drewN _, (unhide HK2).drewN _⟩, rfl⟩)
end Go.Proofs.Qxb6617531a
