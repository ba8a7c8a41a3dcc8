import Derived.Test.Qxb6617531aL
namespace Go.Proofs.Qxb6617531a
open Go.RowKit
set_option linter.unusedVariables false

/-- the groups, each in a row of its own -/
structure GMem (K : Blks) (gv : Value) (gvs : List Value) (grs : List (List Nat)) (rv wv : Value) (w : World) : Prop where
  og : w.ownsRow K.base 24 1 gv grs.length gvs
  each : ∀ (k : Nat) (g : List Nat), grs[k]? = some g → ∃ v b, gvs[k]? = some v ∧ v.ownBlock = some b ∧ w.ownsRow K.base 3 1 v g.length (g.map ival) ∧ some b ≠ rv.ownBlock ∧ some b ≠ wv.ownBlock

section
variable {K : Blks} {n : Nat} {ord low nxt : Nat → Nat} {opn : Nat → Bool} {rl wl : List Nat} {cnt : Nat} {rv wv rv' wv' gv gv' : Value} {gvs : List Value} {grs : List (List Nat)} {w w' : World}
theorem new_ne {v v' : Value} {s b : Nat} (h : v'.ownBlock = v.ownBlock ∨ ∃ g, v'.ownBlock = some g ∧ s ≤ g) (hb : b < s) (hne : some b ≠ v.ownBlock) : some b ≠ v'.ownBlock := by
  rcases h with e | ⟨g, e, hg⟩
  · rw [e]; exact hne
  · rw [e]; intro e'; injection e' with e'; omega
theorem GMem.kept (hG : GMem K gv gvs grs rv wv w) (h : Mem K n ord low nxt opn rl wl cnt rv wv w) (hk : Kept K rv wv rv' wv' w w') : GMem K gv gvs grs rv' wv' w' := by
  refine ⟨own24_kept hG.og h hk, fun k g hg => ?_⟩
  obtain ⟨v, b, h1, h2, h3, h4, h5⟩ := hG.each k g hg
  have hlt := h3.lt b h2
  refine ⟨v, b, h1, h2, own_of_block h3 fun g' hg' => ?_, new_ne hk.nr hlt.2 h4, new_ne hk.nw hlt.2 h5⟩
  rw [h2] at hg'
  cases hg'
  exact hk.block b hlt.2 (fun i hi e => by have := h.lb i hi; omega) h4 h5
theorem GMem.group {a gk : Nat} {pr T ys : List Nat} (hG : GMem K gv gvs grs rv wv w) (h : Mem K n ord low nxt opn rl wl cnt rv wv w) {low' : Nat → Nat} (hE : GroupEnd K n ord low' nxt opn pr T ys cnt rv wv gv a grs.length gvs w gv' w') :
    ∃ opn' rv' wv' gvs', Mem K n ord low' nxt opn' pr ys cnt rv' wv' w' ∧ (∀ v, opn' v = (opn v && !decide (v ∈ a :: T))) ∧ GMem K gv' gvs' (grs ++ [a :: T]) rv' wv' w' := by
  obtain ⟨opn', rv', wv', g, hM, ho, hg, hO, ⟨gb, hgb, hgs⟩, hr, hw, hgn, h1, h2, h3, h4, hblk⟩ := hE.ex
  refine ⟨opn', rv', wv', gvs ++ [g], hM, ho, by simpa using hg, fun k gr hk => ?_⟩
  have hgl : gvs.length = grs.length := by have := hG.og.1; simpa using this
  rw [List.getElem?_append] at hk
  by_cases hkl : k < grs.length
  · rw [if_pos hkl] at hk
    obtain ⟨v, b, g1, g2, g3, g4, g5⟩ := hG.each k gr hk
    have hlt := g3.lt b g2
    refine ⟨v, b, by rw [List.getElem?_append, if_pos (by omega)]; exact g1, g2, own_of_block g3 fun g' hg' => ?_, by rw [hr]; exact g4, by rw [hw]; exact g5⟩
    rw [g2] at hg'
    cases hg'
    exact hblk b hlt.2 (fun i hi e => by have := h.lb i hi; omega) g4 g5 (own_apart g3 hG.og g2)
  · rw [if_neg hkl] at hk
    have hk0 : k = grs.length := by
      have := (List.getElem?_eq_some_iff.1 hk).1
      simp at this
      omega
    subst hk0
    simp at hk
    subst hk
    refine ⟨g, gb, by rw [← hgl]; simp, hgb, by simpa using hO, ?_, ?_⟩
    · rw [hr]; intro e
      have := (h.owr.lt gb e.symm).2
      omega
    · rw [hw]; intro e
      have := (h.oww.lt gb e.symm).2
      omega
end

/-- the steps, as they lie in memory below block B -/
def FromOk (w : World) (B fb fo n : Nat) (deg : Nat → Nat) (E : Nat → Nat → Nat) : Prop :=
  fb < B ∧ ∀ a, a < n → ∃ A c, w.cell? ⟨fb, fo + a, none⟩ = some (.slice A (deg a) c) ∧ ∀ i, i < deg a → ∃ eb eo, A = some ⟨eb, eo, none⟩ ∧ eb < B ∧ w.cell? ⟨eb, eo + i * 2 + 1, none⟩ = some (.int .i64 (E a i))
theorem FromOk.below {w w' : World} {B fb fo n : Nat} {deg : Nat → Nat} {E : Nat → Nat → Nat} (h : FromOk w B fb fo n deg E) (hb : Below B w w') : FromOk w' B fb fo n deg E := by
  refine ⟨h.1, fun a ha => ?_⟩
  obtain ⟨A, c, h1, h2⟩ := h.2 a ha
  refine ⟨A, c, by rw [hb.cell (p := ⟨fb, fo + a, none⟩) h.1]; exact h1, fun i hi => ?_⟩
  obtain ⟨eb, eo, e1, e2, e3⟩ := h2 i hi
  exact ⟨eb, eo, e1, e2, by rw [hb.cell (p := ⟨eb, eo + i * 2 + 1, none⟩) e2]; exact e3⟩

/-- the sum of the first k -/
def sumTo : Nat → (Nat → Nat) → Nat
  | 0, _ => 0
  | k + 1, f => sumTo k f + f k
theorem sumTo_congr {f g : Nat → Nat} : ∀ {k : Nat}, (∀ i, i < k → f i = g i) → sumTo k f = sumTo k g
  | 0, _ => rfl
  | k + 1, h => by
    simp only [sumTo]
    rw [sumTo_congr fun i hi => h i (by omega), h k (by omega)]
/-- one step taken: one step fewer is left -/
theorem sumTo_step {deg nxt : Nat → Nat} {a : Nat} (hlt : nxt a < deg a) : ∀ {n : Nat}, a < n → sumTo n (fun v => deg v - Tj.upd nxt a (nxt a + 1) v) + 1 = sumTo n (fun v => deg v - nxt v)
  | 0, h => absurd h (Nat.not_lt_zero a)
  | n + 1, h => by
    simp only [sumTo]
    by_cases e : a = n
    · subst e
      rw [sumTo_congr (g := fun v => deg v - nxt v) fun i hi => by rw [Tj.upd_ne _ _ (by omega)], Tj.upd_same]
      omega
    · have := sumTo_step (nxt := nxt) (deg := deg) hlt (n := n) (by omega)
      rw [Tj.upd_ne _ _ (show n ≠ a by omega)]
      omega

/-- all that holds at the head of the inner loop, k rounds at most being left -/
structure StI (K : Blks) (n B : Nat) (deg : Nat → Nat) (E : Nat → Nat → Nat) (w0 : World) (r k : Nat) (gv : Value) (w : World) : Prop where
  ex : ∃ segs ord low nxt opn grs cnt rv wv gvs, Mem K n ord low nxt opn (Tj.flat segs) (segs.map Prod.fst) cnt rv wv w ∧ GMem K gv gvs grs rv wv w ∧ Below B w0 w ∧ Tj.Inv n deg E ord low nxt opn segs grs cnt ∧
    k = 2 * sumTo n (fun v => deg v - nxt v) + segs.length ∧ ∀ v, v < r → ord v ≠ 0
/-- .. behind it -/
structure StO (K : Blks) (n B : Nat) (deg : Nat → Nat) (E : Nat → Nat → Nat) (w0 : World) (r : Nat) (gv : Value) (w : World) : Prop where
  ex : ∃ ord low nxt opn grs cnt rv wv gvs, Mem K n ord low nxt opn [] [] cnt rv wv w ∧ GMem K gv gvs grs rv wv w ∧ Below B w0 w ∧ Tj.Inv n deg E ord low nxt opn [] grs cnt ∧ ∀ v, v < r → ord v ≠ 0

theorem Kept.below {K : Blks} {rv wv rv' wv' : Value} {w0 w w' : World} {B : Nat} {n : Nat} {ord low nxt : Nat → Nat} {opn : Nat → Bool} {rl wl : List Nat} {cnt : Nat} (hb : Below B w0 w) (h : Mem K n ord low nxt opn rl wl cnt rv wv w) (hB : ∀ i, i < 10 → B ≤ K.b i) (hk : Kept K rv wv rv' wv' w w') : Below B w0 w' := by
  have h0 := hB 0 (by decide)
  have h1 := h.lb 0 (by decide)
  have h2 := h.sz
  refine hb.trans ⟨hk.os, hk.tape, hk.output, hk.size, fun b hlt => hk.block b (by omega) (fun i hi e => by have := hB i hi; omega) (fun e => ?_) (fun e => ?_)⟩
  · have := (h.owr.lt b e.symm).1; omega
  · have := (h.oww.lt b e.symm).1; omega

/-- 'for len(walk) > 0': the way is empty -/
theorem walk_nil {K : Blks} {n : Nat} {ord low nxt : Nat → Nat} {opn : Nat → Bool} {rl : List Nat} {cnt : Nat} {rv wv : Value} {w : World} (h : Mem K n ord low nxt opn rl [] cnt rv wv w) : ∃ a c, wv = .slice a 0 c := own_slice h.oww

set_option maxHeartbeats 400000 in
set_option maxRecDepth 100000 in
theorem round_exit (K : Blks) (n fb fo fc : Nat) (ord low nxt : Nat → Nat) (opn : Nat → Bool) (rl : List Nat) (cnt : Nat) (rv wv gv : Value) (w : World) (c1 c2 c12 c18 c20 c21 c22 c23 c24 c25 c26 c27 c28 c29 c30 c31 c32 c33 c34 c35 c36 c37 c38 c39 c40 c41 c42 c43 c44 c45 c173 c174 : Value) (u13 u14 u15 u16 u17 u19 u46 u47 u48 u49 u50 u51 u52 u53 u54 u55 u56 u57 u58 u59 u60 u61 u62 u63 u64 u65 u66 u67 u68 u69 u70 u71 u72 u73 u74 u75 u76 u77 u78 u79 u80 u81 u82 u83 u84 u85 u86 u87 u88 u89 u90 u91 u92 u93 u94 u95 u96 u97 u98 u99 u100 u101 u102 u103 u104 u105 u106 u107 u108 u109 u110 u111 u112 u113 u114 u115 u116 u117 u118 u119 u120 u121 u122 u123 u124 u125 u126 u127 u128 u129 u130 u131 u132 u133 u134 u135 u136 u137 u138 u139 u140 u141 u142 u143 u144 u145 u146 u147 u148 u149 u150 u151 u152 u153 u154 u155 u156 u157 u158 u159 u160 u161 u162 u163 u164 u165 u166 u167 u168 u169 u170 u171 u172 : Value) (Q : Exit → Act → World → Prop)
    (h : Mem K n ord low nxt opn rl [] cnt rv wv w) (hq : ∀ v13 v14 v15 v16 v17 v19 v46 v47 v48 v49 v50 v51 v52 v53 v54 v55 v56 v57 v58 v59 v60 v61 v62 v63 v64 v65 v66 v67 v68 v69 v70 v71 v72 v73 v74 v75 v76 v77 v78 v79 v80 v81 v82 v83 v84 v85 v86 v87 v88 v89 v90 v91 v92 v93 v94 v95 v96 v97 v98 v99 v100 v101 v102 v103 v104 v105 v106 v107 v108 v109 v110 v111 v112 v113 v114 v115 v116 v117 v118 v119 v120 v121 v122 v123 v124 v125 v126 v127 v128 v129 v130 v131 v132 v133 v134 v135 v136 v137 v138 v139 v140 v141 v142 v143 v144 v145 v146 v147 v148 v149 v150 v151 v152 v153 v154 v155 v156 v157 v158 v159 v160 v161 v162 v163 v164 v165 v166 v167 v168 v169 v170 v171 v172, Q (.exit 2) ⟨#[.slice (some ⟨fb, fo, none⟩) n fc, c1, c2, .pointer (some ⟨K.b 0, 0, none⟩), .pointer (some ⟨K.b 1, 0, none⟩), .slice (some ⟨K.b 8, 0, none⟩) n n, .pointer (some ⟨K.b 2, 0, none⟩), .pointer (some ⟨K.b 3, 0, none⟩), .pointer (some ⟨K.b 4, 0, none⟩), gv, .pointer (some ⟨K.b 5, 0, none⟩), .func (.func 8) #[] #[.pointer (some ⟨K.b 5, 0, none⟩), .pointer (some ⟨K.b 0, 0, none⟩), .pointer (some ⟨K.b 1, 0, none⟩), .pointer (some ⟨K.b 2, 0, none⟩), .pointer (some ⟨K.b 3, 0, none⟩), .pointer (some ⟨K.b 4, 0, none⟩)], c12, v13, v14, v15, v16, v17, c18, v19, c20, c21, c22, c23, c24, c25, c26, c27, c28, c29, c30, c31, c32, c33, c34, c35, c36, c37, c38, c39, c40, c41, c42, c43, c44, c45, v46, v47, v48, v49, v50, v51, v52, v53, v54, v55, v56, v57, v58, v59, v60, v61, v62, v63, v64, v65, v66, v67, v68, v69, v70, v71, v72, v73, v74, v75, v76, v77, v78, v79, v80, v81, v82, v83, v84, v85, v86, v87, v88, v89, v90, v91, v92, v93, v94, v95, v96, v97, v98, v99, v100, v101, v102, v103, v104, v105, v106, v107, v108, v109, v110, v111, v112, v113, v114, v115, v116, v117, v118, v119, v120, v121, v122, v123, v124, v125, v126, v127, v128, v129, v130, v131, v132, v133, v134, v135, v136, v137, v138, v139, v140, v141, v142, v143, v144, v145, v146, v147, v148, v149, v150, v151, v152, v153, v154, v155, v156, v157, v158, v159, v160, v161, v162, v163, v164, v165, v166, v167, v168, v169, v170, v171, v172, c173, c174], []⟩ w) :
    Code.wp Try.prog ((Try.f7.body.bind firstLoop).bind firstLoop |>.getD .skip) Q ⟨#[.slice (some ⟨fb, fo, none⟩) n fc, c1, c2, .pointer (some ⟨K.b 0, 0, none⟩), .pointer (some ⟨K.b 1, 0, none⟩), .slice (some ⟨K.b 8, 0, none⟩) n n, .pointer (some ⟨K.b 2, 0, none⟩), .pointer (some ⟨K.b 3, 0, none⟩), .pointer (some ⟨K.b 4, 0, none⟩), gv, .pointer (some ⟨K.b 5, 0, none⟩), .func (.func 8) #[] #[.pointer (some ⟨K.b 5, 0, none⟩), .pointer (some ⟨K.b 0, 0, none⟩), .pointer (some ⟨K.b 1, 0, none⟩), .pointer (some ⟨K.b 2, 0, none⟩), .pointer (some ⟨K.b 3, 0, none⟩), .pointer (some ⟨K.b 4, 0, none⟩)], c12, u13, u14, u15, u16, u17, c18, u19, c20, c21, c22, c23, c24, c25, c26, c27, c28, c29, c30, c31, c32, c33, c34, c35, c36, c37, c38, c39, c40, c41, c42, c43, c44, c45, u46, u47, u48, u49, u50, u51, u52, u53, u54, u55, u56, u57, u58, u59, u60, u61, u62, u63, u64, u65, u66, u67, u68, u69, u70, u71, u72, u73, u74, u75, u76, u77, u78, u79, u80, u81, u82, u83, u84, u85, u86, u87, u88, u89, u90, u91, u92, u93, u94, u95, u96, u97, u98, u99, u100, u101, u102, u103, u104, u105, u106, u107, u108, u109, u110, u111, u112, u113, u114, u115, u116, u117, u118, u119, u120, u121, u122, u123, u124, u125, u126, u127, u128, u129, u130, u131, u132, u133, u134, u135, u136, u137, u138, u139, u140, u141, u142, u143, u144, u145, u146, u147, u148, u149, u150, u151, u152, u153, u154, u155, u156, u157, u158, u159, u160, u161, u162, u163, u164, u165, u166, u167, u168, u169, u170, u171, u172, c173, c174], []⟩ w := by
  have c8 := cell_of_one h.obw
  obtain ⟨wa, wcp, rfl⟩ := own_slice h.oww
  have HQ := hide hq
  clear hq h
  conv => arg 2; whnf
  go_wp2
  exact unhide HQ _ _ _ _ _ _ _ _ _ _ _ _ _ _ _ _ _ _ _ _ _ _ _ _ _ _ _ _ _ _ _ _ _ _ _ _ _ _ _ _ _ _ _ _ _ _ _ _ _ _ _ _ _ _ _ _ _ _ _ _ _ _ _ _ _ _ _ _ _ _ _ _ _ _ _ _ _ _ _ _ _ _ _ _ _ _ _ _ _ _ _ _ _ _ _ _ _ _ _ _ _ _ _ _ _ _ _ _ _ _ _ _ _ _ _ _ _ _ _ _ _ _ _ _ _ _ _ _ _ _ _ _ _ 

end Go.Proofs.Qxb6617531a
