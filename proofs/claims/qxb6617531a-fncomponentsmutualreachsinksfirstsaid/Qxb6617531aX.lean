import Derived.Test.Qxb6617531aR
import Derived.StillTailTactics
import Derived.Deep.CutRange
namespace Go.Proofs.Qxb6617531a
open Go.RowKit
set_option linter.unusedVariables false

def firstLoop : Code → Option Code
  | .loop c => some c
  | .seq a b => match firstLoop a with
    | some c => some c
    | none => firstLoop b
  | .block _ c => firstLoop c
  | .scope c => firstLoop c
  | .cond _ a b => match firstLoop a with
    | some c => some c
    | none => firstLoop b
  | _ => none

theorem Try.mixed : Try.prog.follows .mixedOrders = true := by kernel_rfl
theorem own_cap {w : World} {base : Nat} {e : TypeId} {g k c : Nat} {xs : List Value} (h : w.ownsRow base e 1 (.slice (some ⟨g, 0, none⟩) k c) k xs) : k ≤ c := by
  rcases h.2 with ⟨e, h0⟩ | ⟨g, cap, cur, e, _, _, hk, _⟩
  · cases e
  · cases e; exact hk
theorem own_some {w : World} {base : Nat} {e : TypeId} {v : Value} {k : Nat} {xs : List Value} (h : w.ownsRow base e 1 v (k + 1) xs) : ∃ g c, v = .slice (some ⟨g, 0, none⟩) (k + 1) c := by
  rcases h.2 with ⟨e, h0⟩ | ⟨g, cap, cur, e, _⟩
  · omega
  · exact ⟨_, _, e⟩
theorem own_last {w : World} {base g c : Nat} {ys : List Nat} {a : Nat} (h : w.ownsRow base 3 1 (.slice (some ⟨g, 0, none⟩) (ys.length + 1) c) (ys.length + 1) ((ys ++ [a]).map ival)) : w.cell? ⟨g, ys.length, none⟩ = some (.int .i64 a) := by
  rw [h.cellAt ys.length (by omega)]
  simp [ival]


set_option maxRecDepth 100000 in
/-- a round's end: whatever the scratch holds -/
def After (K : Blks) (n fb fo fc : Nat) (c1 c2 c12 c18 c20 c21 c22 c23 c24 c25 c26 c27 c28 c29 c30 c31 c32 c33 c34 c35 c36 c37 c38 c39 c40 c41 c42 c43 c44 c45 c173 c174 : Value) (R : Value → World → Prop) (e : Exit) (a' : Act) (w' : World) : Prop :=
  e = .normal ∧ ∃ gv' v13 v14 v15 v16 v17 v19 v46 v47 v48 v49 v50 v51 v52 v53 v54 v55 v56 v57 v58 v59 v60 v61 v62 v63 v64 v65 v66 v67 v68 v69 v70 v71 v72 v73 v74 v75 v76 v77 v78 v79 v80 v81 v82 v83 v84 v85 v86 v87 v88 v89 v90 v91 v92 v93 v94 v95 v96 v97 v98 v99 v100 v101 v102 v103 v104 v105 v106 v107 v108 v109 v110 v111 v112 v113 v114 v115 v116 v117 v118 v119 v120 v121 v122 v123 v124 v125 v126 v127 v128 v129 v130 v131 v132 v133 v134 v135 v136 v137 v138 v139 v140 v141 v142 v143 v144 v145 v146 v147 v148 v149 v150 v151 v152 v153 v154 v155 v156 v157 v158 v159 v160 v161 v162 v163 v164 v165 v166 v167 v168 v169 v170 v171 v172 : Value, R gv' w' ∧ a' = ⟨#[.slice (some ⟨fb, fo, none⟩) n fc, c1, c2, .pointer (some ⟨K.b 0, 0, none⟩), .pointer (some ⟨K.b 1, 0, none⟩), .slice (some ⟨K.b 8, 0, none⟩) n n, .pointer (some ⟨K.b 2, 0, none⟩), .pointer (some ⟨K.b 3, 0, none⟩), .pointer (some ⟨K.b 4, 0, none⟩), gv', .pointer (some ⟨K.b 5, 0, none⟩), .func (.func 8) #[] #[.pointer (some ⟨K.b 5, 0, none⟩), .pointer (some ⟨K.b 0, 0, none⟩), .pointer (some ⟨K.b 1, 0, none⟩), .pointer (some ⟨K.b 2, 0, none⟩), .pointer (some ⟨K.b 3, 0, none⟩), .pointer (some ⟨K.b 4, 0, none⟩)], c12, v13, v14, v15, v16, v17, c18, v19, c20, c21, c22, c23, c24, c25, c26, c27, c28, c29, c30, c31, c32, c33, c34, c35, c36, c37, c38, c39, c40, c41, c42, c43, c44, c45, v46, v47, v48, v49, v50, v51, v52, v53, v54, v55, v56, v57, v58, v59, v60, v61, v62, v63, v64, v65, v66, v67, v68, v69, v70, v71, v72, v73, v74, v75, v76, v77, v78, v79, v80, v81, v82, v83, v84, v85, v86, v87, v88, v89, v90, v91, v92, v93, v94, v95, v96, v97, v98, v99, v100, v101, v102, v103, v104, v105, v106, v107, v108, v109, v110, v111, v112, v113, v114, v115, v116, v117, v118, v119, v120, v121, v122, v123, v124, v125, v126, v127, v128, v129, v130, v131, v132, v133, v134, v135, v136, v137, v138, v139, v140, v141, v142, v143, v144, v145, v146, v147, v148, v149, v150, v151, v152, v153, v154, v155, v156, v157, v158, v159, v160, v161, v162, v163, v164, v165, v166, v167, v168, v169, v170, v171, v172, c173, c174], []⟩
set_option maxRecDepth 100000 in
theorem after_mk {K : Blks} {n fb fo fc : Nat} {c1 c2 c12 c18 c20 c21 c22 c23 c24 c25 c26 c27 c28 c29 c30 c31 c32 c33 c34 c35 c36 c37 c38 c39 c40 c41 c42 c43 c44 c45 c173 c174 : Value} {R : Value → World → Prop} {w' : World} {gv' v13 v14 v15 v16 v17 v19 v46 v47 v48 v49 v50 v51 v52 v53 v54 v55 v56 v57 v58 v59 v60 v61 v62 v63 v64 v65 v66 v67 v68 v69 v70 v71 v72 v73 v74 v75 v76 v77 v78 v79 v80 v81 v82 v83 v84 v85 v86 v87 v88 v89 v90 v91 v92 v93 v94 v95 v96 v97 v98 v99 v100 v101 v102 v103 v104 v105 v106 v107 v108 v109 v110 v111 v112 v113 v114 v115 v116 v117 v118 v119 v120 v121 v122 v123 v124 v125 v126 v127 v128 v129 v130 v131 v132 v133 v134 v135 v136 v137 v138 v139 v140 v141 v142 v143 v144 v145 v146 v147 v148 v149 v150 v151 v152 v153 v154 v155 v156 v157 v158 v159 v160 v161 v162 v163 v164 v165 v166 v167 v168 v169 v170 v171 v172 : Value} (h : R gv' w') : After K n fb fo fc c1 c2 c12 c18 c20 c21 c22 c23 c24 c25 c26 c27 c28 c29 c30 c31 c32 c33 c34 c35 c36 c37 c38 c39 c40 c41 c42 c43 c44 c45 c173 c174 R .normal ⟨#[.slice (some ⟨fb, fo, none⟩) n fc, c1, c2, .pointer (some ⟨K.b 0, 0, none⟩), .pointer (some ⟨K.b 1, 0, none⟩), .slice (some ⟨K.b 8, 0, none⟩) n n, .pointer (some ⟨K.b 2, 0, none⟩), .pointer (some ⟨K.b 3, 0, none⟩), .pointer (some ⟨K.b 4, 0, none⟩), gv', .pointer (some ⟨K.b 5, 0, none⟩), .func (.func 8) #[] #[.pointer (some ⟨K.b 5, 0, none⟩), .pointer (some ⟨K.b 0, 0, none⟩), .pointer (some ⟨K.b 1, 0, none⟩), .pointer (some ⟨K.b 2, 0, none⟩), .pointer (some ⟨K.b 3, 0, none⟩), .pointer (some ⟨K.b 4, 0, none⟩)], c12, v13, v14, v15, v16, v17, c18, v19, c20, c21, c22, c23, c24, c25, c26, c27, c28, c29, c30, c31, c32, c33, c34, c35, c36, c37, c38, c39, c40, c41, c42, c43, c44, c45, v46, v47, v48, v49, v50, v51, v52, v53, v54, v55, v56, v57, v58, v59, v60, v61, v62, v63, v64, v65, v66, v67, v68, v69, v70, v71, v72, v73, v74, v75, v76, v77, v78, v79, v80, v81, v82, v83, v84, v85, v86, v87, v88, v89, v90, v91, v92, v93, v94, v95, v96, v97, v98, v99, v100, v101, v102, v103, v104, v105, v106, v107, v108, v109, v110, v111, v112, v113, v114, v115, v116, v117, v118, v119, v120, v121, v122, v123, v124, v125, v126, v127, v128, v129, v130, v131, v132, v133, v134, v135, v136, v137, v138, v139, v140, v141, v142, v143, v144, v145, v146, v147, v148, v149, v150, v151, v152, v153, v154, v155, v156, v157, v158, v159, v160, v161, v162, v163, v164, v165, v166, v167, v168, v169, v170, v171, v172, c173, c174], []⟩ w' :=
  ⟨rfl, gv', v13, v14, v15, v16, v17, v19, v46, v47, v48, v49, v50, v51, v52, v53, v54, v55, v56, v57, v58, v59, v60, v61, v62, v63, v64, v65, v66, v67, v68, v69, v70, v71, v72, v73, v74, v75, v76, v77, v78, v79, v80, v81, v82, v83, v84, v85, v86, v87, v88, v89, v90, v91, v92, v93, v94, v95, v96, v97, v98, v99, v100, v101, v102, v103, v104, v105, v106, v107, v108, v109, v110, v111, v112, v113, v114, v115, v116, v117, v118, v119, v120, v121, v122, v123, v124, v125, v126, v127, v128, v129, v130, v131, v132, v133, v134, v135, v136, v137, v138, v139, v140, v141, v142, v143, v144, v145, v146, v147, v148, v149, v150, v151, v152, v153, v154, v155, v156, v157, v158, v159, v160, v161, v162, v163, v164, v165, v166, v167, v168, v169, v170, v171, v172, h, rfl⟩


set_option maxHeartbeats 1000000 in
set_option maxRecDepth 100000 in
/-- a step to an activity that lies in a group: nothing but the count of steps taken -/
theorem round_skip (K : Blks) (n fb fo fc : Nat) (ord low nxt : Nat → Nat) (opn : Nat → Bool) (rl ys : List Nat) (cnt : Nat) (rv wv gv : Value) (w : World) (a b eb eo dg dc : Nat) (c1 c2 c12 c18 c20 c21 c22 c23 c24 c25 c26 c27 c28 c29 c30 c31 c32 c33 c34 c35 c36 c37 c38 c39 c40 c41 c42 c43 c44 c45 c173 c174 : Value) (u13 u14 u15 u16 u17 u19 u46 u47 u48 u49 u50 u51 u52 u53 u54 u55 u56 u57 u58 u59 u60 u61 u62 u63 u64 u65 u66 u67 u68 u69 u70 u71 u72 u73 u74 u75 u76 u77 u78 u79 u80 u81 u82 u83 u84 u85 u86 u87 u88 u89 u90 u91 u92 u93 u94 u95 u96 u97 u98 u99 u100 u101 u102 u103 u104 u105 u106 u107 u108 u109 u110 u111 u112 u113 u114 u115 u116 u117 u118 u119 u120 u121 u122 u123 u124 u125 u126 u127 u128 u129 u130 u131 u132 u133 u134 u135 u136 u137 u138 u139 u140 u141 u142 u143 u144 u145 u146 u147 u148 u149 u150 u151 u152 u153 u154 u155 u156 u157 u158 u159 u160 u161 u162 u163 u164 u165 u166 u167 u168 u169 u170 u171 u172 : Value) 
    (h : Mem K n ord low nxt opn rl (ys ++ [a]) cnt rv wv w) (hn : n ≤ 512) (ha : a < n) (hb : b < n) (hys : ys.length ≤ 512) (hlt : nxt a < dg) (hdg : dg ≤ 32768) (ho : ord b ≠ 0) (hop : opn b = false)
    (hfr : w.cell? ⟨fb, fo + a, none⟩ = some (.slice (some ⟨eb, eo, none⟩) dg dc)) (hto : w.cell? ⟨eb, eo + nxt a * 2 + 1, none⟩ = some (.int .i64 b)) :
    Code.wp Try.prog ((Try.f7.body.bind firstLoop).bind firstLoop |>.getD .skip) (After K n fb fo fc c1 c2 c12 c18 c20 c21 c22 c23 c24 c25 c26 c27 c28 c29 c30 c31 c32 c33 c34 c35 c36 c37 c38 c39 c40 c41 c42 c43 c44 c45 c173 c174 fun gv' w' => Mem K n ord low (Tj.upd nxt a (nxt a + 1)) opn rl (ys ++ [a]) cnt rv wv w' ∧ Kept K rv wv rv wv w w' ∧ gv' = gv) ⟨#[.slice (some ⟨fb, fo, none⟩) n fc, c1, c2, .pointer (some ⟨K.b 0, 0, none⟩), .pointer (some ⟨K.b 1, 0, none⟩), .slice (some ⟨K.b 8, 0, none⟩) n n, .pointer (some ⟨K.b 2, 0, none⟩), .pointer (some ⟨K.b 3, 0, none⟩), .pointer (some ⟨K.b 4, 0, none⟩), gv, .pointer (some ⟨K.b 5, 0, none⟩), .func (.func 8) #[] #[.pointer (some ⟨K.b 5, 0, none⟩), .pointer (some ⟨K.b 0, 0, none⟩), .pointer (some ⟨K.b 1, 0, none⟩), .pointer (some ⟨K.b 2, 0, none⟩), .pointer (some ⟨K.b 3, 0, none⟩), .pointer (some ⟨K.b 4, 0, none⟩)], c12, u13, u14, u15, u16, u17, c18, u19, c20, c21, c22, c23, c24, c25, c26, c27, c28, c29, c30, c31, c32, c33, c34, c35, c36, c37, c38, c39, c40, c41, c42, c43, c44, c45, u46, u47, u48, u49, u50, u51, u52, u53, u54, u55, u56, u57, u58, u59, u60, u61, u62, u63, u64, u65, u66, u67, u68, u69, u70, u71, u72, u73, u74, u75, u76, u77, u78, u79, u80, u81, u82, u83, u84, u85, u86, u87, u88, u89, u90, u91, u92, u93, u94, u95, u96, u97, u98, u99, u100, u101, u102, u103, u104, u105, u106, u107, u108, u109, u110, u111, u112, u113, u114, u115, u116, u117, u118, u119, u120, u121, u122, u123, u124, u125, u126, u127, u128, u129, u130, u131, u132, u133, u134, u135, u136, u137, u138, u139, u140, u141, u142, u143, u144, u145, u146, u147, u148, u149, u150, u151, u152, u153, u154, u155, u156, u157, u158, u159, u160, u161, u162, u163, u164, u165, u166, u167, u168, u169, u170, u171, u172, c173, c174], []⟩ w := by
  have c8 := cell_of_one h.obw
  have c3 := cell_of_one h.obo
  have c6 := cell_of_one h.obp
  have o8 := h.oww
  rw [List.length_append, List.length_singleton] at o8
  obtain ⟨wg, wc, rfl⟩ := own_some o8
  have l8 := own_last o8
  have rn := h.ran.cell ha
  have fn := h.ran.frozen a
  have ro := h.rao.cell hb
  have rp := h.rap.cell hb
  have d : ∀ i j, i < 10 → j < 10 → i ≠ j → K.b i ≠ K.b j := h.dist
  have d80 : (K.b 8 = K.b 0) = False := eq_false (d 8 0 (by decide) (by decide) (by decide))
  have d08 : (K.b 0 = K.b 8) = False := eq_false (d 0 8 (by decide) (by decide) (by decide))
  have d82 : (K.b 8 = K.b 2) = False := eq_false (d 8 2 (by decide) (by decide) (by decide))
  have d28 : (K.b 2 = K.b 8) = False := eq_false (d 2 8 (by decide) (by decide) (by decide))
  have d86 : (K.b 8 = K.b 6) = False := eq_false (d 8 6 (by decide) (by decide) (by decide))
  have d68 : (K.b 6 = K.b 8) = False := eq_false (d 6 8 (by decide) (by decide) (by decide))
  have d89 : (K.b 8 = K.b 9) = False := eq_false (d 8 9 (by decide) (by decide) (by decide))
  have d98 : (K.b 9 = K.b 8) = False := eq_false (d 9 8 (by decide) (by decide) (by decide))
  clear d
  have hb0 : (((ord b : Nat) : Int) == 0) = false := by simp; exact ho
  have hlt' : ((nxt a : Nat) : Int) < (dg : Int) := by omega
  clear ho
  conv => arg 2; whnf
  go_wp2
  go_quiet (fail)
  go_wp2
  go_quiet (fail)
  go_wp2
  exact after_mk (⟨(h.drewN _).setNxt a (nxt a + 1), ((Kept.refl K rv _ w).drewN _).set 8 (by decide) a _, rfl⟩)
end Go.Proofs.Qxb6617531a
