import Derived.Test.Qxb6617531aN
namespace Go.Proofs.Qxb6617531a
open Go.RowKit
set_option linter.unusedVariables false

theorem length_flat (segs : List (Nat × List Nat)) : segs.length ≤ (Tj.flat segs).length := by
  induction segs with
  | nil => simp
  | cons p ps ih =>
    have : Tj.flat (p :: ps) = (p.1 :: p.2) ++ Tj.flat ps := by simp [Tj.flat]
    rw [this]
    simp
    omega

set_option maxHeartbeats 2000000 in
set_option maxRecDepth 100000 in
theorem inner_loop (K : Blks) (n fb fo fc : Nat) (deg : Nat → Nat) (E : Nat → Nat → Nat) (B r : Nat) (w0 : World) (hn : n ≤ 512) (hB : ∀ i, i < 10 → B ≤ K.b i) (hdeg : ∀ v, v < n → deg v ≤ 32768) (hE : ∀ a i, a < n → i < deg a → E a i < n) (hF : FromOk w0 B fb fo n deg E)
    (c1 c2 c12 c18 c20 c21 c22 c23 c24 c25 c26 c27 c28 c29 c30 c31 c32 c33 c34 c35 c36 c37 c38 c39 c40 c41 c42 c43 c44 c45 c173 c174 : Value) (Q : Exit → Act → World → Prop) (hQ : ∀ gv v13 v14 v15 v16 v17 v19 v46 v47 v48 v49 v50 v51 v52 v53 v54 v55 v56 v57 v58 v59 v60 v61 v62 v63 v64 v65 v66 v67 v68 v69 v70 v71 v72 v73 v74 v75 v76 v77 v78 v79 v80 v81 v82 v83 v84 v85 v86 v87 v88 v89 v90 v91 v92 v93 v94 v95 v96 v97 v98 v99 v100 v101 v102 v103 v104 v105 v106 v107 v108 v109 v110 v111 v112 v113 v114 v115 v116 v117 v118 v119 v120 v121 v122 v123 v124 v125 v126 v127 v128 v129 v130 v131 v132 v133 v134 v135 v136 v137 v138 v139 v140 v141 v142 v143 v144 v145 v146 v147 v148 v149 v150 v151 v152 v153 v154 v155 v156 v157 v158 v159 v160 v161 v162 v163 v164 v165 v166 v167 v168 v169 v170 v171 v172 w', StO K n B deg E w0 r gv w' → Q (.exit 2) ⟨#[.slice (some ⟨fb, fo, none⟩) n fc, c1, c2, .pointer (some ⟨K.b 0, 0, none⟩), .pointer (some ⟨K.b 1, 0, none⟩), .slice (some ⟨K.b 8, 0, none⟩) n n, .pointer (some ⟨K.b 2, 0, none⟩), .pointer (some ⟨K.b 3, 0, none⟩), .pointer (some ⟨K.b 4, 0, none⟩), gv, .pointer (some ⟨K.b 5, 0, none⟩), .func (.func 8) #[] #[.pointer (some ⟨K.b 5, 0, none⟩), .pointer (some ⟨K.b 0, 0, none⟩), .pointer (some ⟨K.b 1, 0, none⟩), .pointer (some ⟨K.b 2, 0, none⟩), .pointer (some ⟨K.b 3, 0, none⟩), .pointer (some ⟨K.b 4, 0, none⟩)], c12, v13, v14, v15, v16, v17, c18, v19, c20, c21, c22, c23, c24, c25, c26, c27, c28, c29, c30, c31, c32, c33, c34, c35, c36, c37, c38, c39, c40, c41, c42, c43, c44, c45, v46, v47, v48, v49, v50, v51, v52, v53, v54, v55, v56, v57, v58, v59, v60, v61, v62, v63, v64, v65, v66, v67, v68, v69, v70, v71, v72, v73, v74, v75, v76, v77, v78, v79, v80, v81, v82, v83, v84, v85, v86, v87, v88, v89, v90, v91, v92, v93, v94, v95, v96, v97, v98, v99, v100, v101, v102, v103, v104, v105, v106, v107, v108, v109, v110, v111, v112, v113, v114, v115, v116, v117, v118, v119, v120, v121, v122, v123, v124, v125, v126, v127, v128, v129, v130, v131, v132, v133, v134, v135, v136, v137, v138, v139, v140, v141, v142, v143, v144, v145, v146, v147, v148, v149, v150, v151, v152, v153, v154, v155, v156, v157, v158, v159, v160, v161, v162, v163, v164, v165, v166, v167, v168, v169, v170, v171, v172, c173, c174], []⟩ w') (k0 : Nat) (a0 : Act) (w : World)
    (hI : LoopI K n fb fo fc c1 c2 c12 c18 c20 c21 c22 c23 c24 c25 c26 c27 c28 c29 c30 c31 c32 c33 c34 c35 c36 c37 c38 c39 c40 c41 c42 c43 c44 c45 c173 c174 (StI K n B deg E w0 r k0) a0 w) : Code.wp Try.prog (Code.loop ((Try.f7.body.bind firstLoop).bind firstLoop |>.getD .skip)) Q a0 w := by
  refine wp_loop_ghost (fun k a w => LoopI K n fb fo fc c1 c2 c12 c18 c20 c21 c22 c23 c24 c25 c26 c27 c28 c29 c30 c31 c32 c33 c34 c35 c36 c37 c38 c39 c40 c41 c42 c43 c44 c45 c173 c174 (StI K n B deg E w0 r k) a w) k0 hI ?_
  intro k a w h
  refine LoopI.open h (P := fun a => Code.wp Try.prog ((Try.f7.body.bind firstLoop).bind firstLoop |>.getD .skip) (Exit.then (fun a' w' => ∃ n', n' < k ∧ LoopI K n fb fo fc c1 c2 c12 c18 c20 c21 c22 c23 c24 c25 c26 c27 c28 c29 c30 c31 c32 c33 c34 c35 c36 c37 c38 c39 c40 c41 c42 c43 c44 c45 c173 c174 (StI K n B deg E w0 r n') a' w') Q) a w) ?_
  intro gv u13 u14 u15 u16 u17 u19 u46 u47 u48 u49 u50 u51 u52 u53 u54 u55 u56 u57 u58 u59 u60 u61 u62 u63 u64 u65 u66 u67 u68 u69 u70 u71 u72 u73 u74 u75 u76 u77 u78 u79 u80 u81 u82 u83 u84 u85 u86 u87 u88 u89 u90 u91 u92 u93 u94 u95 u96 u97 u98 u99 u100 u101 u102 u103 u104 u105 u106 u107 u108 u109 u110 u111 u112 u113 u114 u115 u116 u117 u118 u119 u120 u121 u122 u123 u124 u125 u126 u127 u128 u129 u130 u131 u132 u133 u134 u135 u136 u137 u138 u139 u140 u141 u142 u143 u144 u145 u146 u147 u148 u149 u150 u151 u152 u153 u154 u155 u156 u157 u158 u159 u160 u161 u162 u163 u164 u165 u166 u167 u168 u169 u170 u171 u172 hst
  clear h
  obtain ⟨segs, ord, low, nxt, opn, grs, cnt, rv, wv, gvs, hM, hG, hbel, hInv, hk, hvis⟩ := hst.ex
  clear hst
  rcases List.eq_nil_or_concat segs with hs | ⟨xs, ⟨a, T⟩, hs⟩
  · subst hs
    refine round_exit K n fb fo fc ord low nxt opn _ cnt rv wv gv w c1 c2 c12 c18 c20 c21 c22 c23 c24 c25 c26 c27 c28 c29 c30 c31 c32 c33 c34 c35 c36 c37 c38 c39 c40 c41 c42 c43 c44 c45 c173 c174 u13 u14 u15 u16 u17 u19 u46 u47 u48 u49 u50 u51 u52 u53 u54 u55 u56 u57 u58 u59 u60 u61 u62 u63 u64 u65 u66 u67 u68 u69 u70 u71 u72 u73 u74 u75 u76 u77 u78 u79 u80 u81 u82 u83 u84 u85 u86 u87 u88 u89 u90 u91 u92 u93 u94 u95 u96 u97 u98 u99 u100 u101 u102 u103 u104 u105 u106 u107 u108 u109 u110 u111 u112 u113 u114 u115 u116 u117 u118 u119 u120 u121 u122 u123 u124 u125 u126 u127 u128 u129 u130 u131 u132 u133 u134 u135 u136 u137 u138 u139 u140 u141 u142 u143 u144 u145 u146 u147 u148 u149 u150 u151 u152 u153 u154 u155 u156 u157 u158 u159 u160 u161 u162 u163 u164 u165 u166 u167 u168 u169 u170 u171 u172 _ hM ?_
    intro v13 v14 v15 v16 v17 v19 v46 v47 v48 v49 v50 v51 v52 v53 v54 v55 v56 v57 v58 v59 v60 v61 v62 v63 v64 v65 v66 v67 v68 v69 v70 v71 v72 v73 v74 v75 v76 v77 v78 v79 v80 v81 v82 v83 v84 v85 v86 v87 v88 v89 v90 v91 v92 v93 v94 v95 v96 v97 v98 v99 v100 v101 v102 v103 v104 v105 v106 v107 v108 v109 v110 v111 v112 v113 v114 v115 v116 v117 v118 v119 v120 v121 v122 v123 v124 v125 v126 v127 v128 v129 v130 v131 v132 v133 v134 v135 v136 v137 v138 v139 v140 v141 v142 v143 v144 v145 v146 v147 v148 v149 v150 v151 v152 v153 v154 v155 v156 v157 v158 v159 v160 v161 v162 v163 v164 v165 v166 v167 v168 v169 v170 v171 v172
    exact hQ gv v13 v14 v15 v16 v17 v19 v46 v47 v48 v49 v50 v51 v52 v53 v54 v55 v56 v57 v58 v59 v60 v61 v62 v63 v64 v65 v66 v67 v68 v69 v70 v71 v72 v73 v74 v75 v76 v77 v78 v79 v80 v81 v82 v83 v84 v85 v86 v87 v88 v89 v90 v91 v92 v93 v94 v95 v96 v97 v98 v99 v100 v101 v102 v103 v104 v105 v106 v107 v108 v109 v110 v111 v112 v113 v114 v115 v116 v117 v118 v119 v120 v121 v122 v123 v124 v125 v126 v127 v128 v129 v130 v131 v132 v133 v134 v135 v136 v137 v138 v139 v140 v141 v142 v143 v144 v145 v146 v147 v148 v149 v150 v151 v152 v153 v154 v155 v156 v157 v158 v159 v160 v161 v162 v163 v164 v165 v166 v167 v168 v169 v170 v171 v172 w ⟨ord, low, nxt, opn, grs, cnt, rv, wv, gvs, hM, hG, hbel, hInv, hvis⟩
  rw [List.concat_eq_append] at hs
  subst hs
  have hfl : Tj.flat (xs ++ [(a, T)]) = Tj.flat xs ++ a :: T := by rw [Tj.flat_append, Tj.flat_one]
  have hfs : (xs ++ [(a, T)]).map Prod.fst = xs.map Prod.fst ++ [a] := by simp
  have haF : a ∈ Tj.flat (xs ++ [(a, T)]) := by rw [hfl]; simp
  have hamem : (a, T) ∈ xs ++ [(a, T)] := by simp
  have ha : a < n := hInv.ilt a ((hInv.ivis a).2 (.inl haF))
  have hcn := hInv.cnt_le
  have hlen : (Tj.flat (xs ++ [(a, T)])).length ≤ cnt := by have := hInv.inum; simp only [List.length_append] at this; omega
  have hsl := length_flat (xs ++ [(a, T)])
  have hnd1 : (Tj.flat (xs ++ [(a, T)])).Nodup := (List.nodup_append.1 hInv.ind).1
  have hys : (xs.map Prod.fst).length ≤ 511 := by simp at hsl ⊢; omega
  have hord : ∀ v, ord v ≤ 512 := fun v => by have := hInv.icnt v; omega
  have hM' := hM
  rw [hfs] at hM'
  obtain ⟨A, dc, hfr, hto⟩ := (hF.below hbel).2 a ha
  have hda := hdeg a ha
  by_cases hlt : nxt a < deg a
  · obtain ⟨eb, eo, rfl, _, hcell⟩ := hto (nxt a) hlt
    have hb : E a (nxt a) < n := hE a (nxt a) ha hlt
    have hsum := sumTo_step hlt ha
    have hreach : ∀ p, p ∈ xs ++ [(a, T)] → Tj.Rch deg E p.1 (E a (nxt a)) := by
      intro p hp
      rcases List.mem_append.1 hp with hp | hp
      · have := hInv.ichain
        rw [List.pairwise_append] at this
        exact (this.2.2 p hp (a, T) (by simp)).trans (Tj.Rch.one hlt)
      · simp at hp; subst hp; exact Tj.Rch.one hlt
    by_cases h0 : ord (E a (nxt a)) = 0
    · have hab : a ≠ E a (nxt a) := by intro e; rw [← e] at h0; exact (hInv.ivis a).2 (.inl haF) h0
      refine wp_mono (round_new K n fb fo fc ord low nxt opn _ _ cnt rv wv gv w a (E a (nxt a)) eb eo (deg a) dc c1 c2 c12 c18 c20 c21 c22 c23 c24 c25 c26 c27 c28 c29 c30 c31 c32 c33 c34 c35 c36 c37 c38 c39 c40 c41 c42 c43 c44 c45 c173 c174 u13 u14 u15 u16 u17 u19 u46 u47 u48 u49 u50 u51 u52 u53 u54 u55 u56 u57 u58 u59 u60 u61 u62 u63 u64 u65 u66 u67 u68 u69 u70 u71 u72 u73 u74 u75 u76 u77 u78 u79 u80 u81 u82 u83 u84 u85 u86 u87 u88 u89 u90 u91 u92 u93 u94 u95 u96 u97 u98 u99 u100 u101 u102 u103 u104 u105 u106 u107 u108 u109 u110 u111 u112 u113 u114 u115 u116 u117 u118 u119 u120 u121 u122 u123 u124 u125 u126 u127 u128 u129 u130 u131 u132 u133 u134 u135 u136 u137 u138 u139 u140 u141 u142 u143 u144 u145 u146 u147 u148 u149 u150 u151 u152 u153 u154 u155 u156 u157 u158 u159 u160 u161 u162 u163 u164 u165 u166 u167 u168 u169 u170 u171 u172 hM' hn ha hb hys (by omega) hlt hda hfr hcell h0 (hInv.cnt_lt hb h0)) ?_
      intro e a' w' hA
      obtain ⟨rfl, hL⟩ := hA.loop
      refine ⟨2 * sumTo n (fun v => deg v - Tj.upd nxt a (nxt a + 1) v) + (xs ++ [(a, T)] ++ [(E a (nxt a), [])]).length, by simp at hk ⊢; omega, hL.map fun gv' hR => ?_⟩
      obtain ⟨⟨rv', wv', hM1, hK1⟩, rfl⟩ := hR
      have hI1 := hInv.reach hb h0 hreach
      have hI2 : Tj.Inv n deg E _ _ (Tj.upd nxt a (nxt a + 1)) _ _ grs (cnt + 1) := hI1.advance (a := a) (by rw [Tj.flat_append]; exact List.mem_append.2 (.inl haF)) hlt (by rw [Tj.upd_same]; omega) (fun _ => by
        rw [Tj.upd_same, Tj.upd_ne _ _ hab]
        have := (hInv.ilowr a haF).1
        have := hInv.icnt a
        omega) (fun p hp => by
        rcases List.mem_append.1 hp with hp | hp
        · exact Tj.head_notin_tails hnd1 hamem hp
        · simp at hp; subst hp; simp)
      refine ⟨_, _, _, _, _, grs, _, rv', wv', gvs, ?_, hG.kept hM hK1, Kept.below hbel hM hB hK1, hI2, rfl, fun v hv => ?_⟩
      · have e1 : Tj.flat (xs ++ [(a, T)] ++ [(E a (nxt a), [])]) = Tj.flat (xs ++ [(a, T)]) ++ [E a (nxt a)] := by rw [Tj.flat_append, Tj.flat_one]
        have e2 : (xs ++ [(a, T)] ++ [(E a (nxt a), [])]).map Prod.fst = xs.map Prod.fst ++ [a] ++ [E a (nxt a)] := by simp
        rw [e1, e2]
        exact hM1
      · by_cases e : v = E a (nxt a)
        · rw [e, Tj.upd_same]; omega
        · rw [Tj.upd_ne _ _ e]; exact hvis v hv
    · cases hop : opn (E a (nxt a)) with
      | true =>
        have hbF := (hInv.iopn _).1 hop
        refine wp_mono (round_low K n fb fo fc ord low nxt opn _ _ cnt rv wv gv w a (E a (nxt a)) eb eo (deg a) dc c1 c2 c12 c18 c20 c21 c22 c23 c24 c25 c26 c27 c28 c29 c30 c31 c32 c33 c34 c35 c36 c37 c38 c39 c40 c41 c42 c43 c44 c45 c173 c174 u13 u14 u15 u16 u17 u19 u46 u47 u48 u49 u50 u51 u52 u53 u54 u55 u56 u57 u58 u59 u60 u61 u62 u63 u64 u65 u66 u67 u68 u69 u70 u71 u72 u73 u74 u75 u76 u77 u78 u79 u80 u81 u82 u83 u84 u85 u86 u87 u88 u89 u90 u91 u92 u93 u94 u95 u96 u97 u98 u99 u100 u101 u102 u103 u104 u105 u106 u107 u108 u109 u110 u111 u112 u113 u114 u115 u116 u117 u118 u119 u120 u121 u122 u123 u124 u125 u126 u127 u128 u129 u130 u131 u132 u133 u134 u135 u136 u137 u138 u139 u140 u141 u142 u143 u144 u145 u146 u147 u148 u149 u150 u151 u152 u153 u154 u155 u156 u157 u158 u159 u160 u161 u162 u163 u164 u165 u166 u167 u168 u169 u170 u171 u172 hM' hn ha hb hys (by omega) hlt hda hfr hcell h0 hop (by have := (hInv.ilowr a haF).1; have := hord a; omega) (hord _)) ?_
        intro e a' w' hA
        obtain ⟨rfl, hL⟩ := hA.loop
        refine ⟨2 * sumTo n (fun v => deg v - Tj.upd nxt a (nxt a + 1) v) + (xs ++ [(a, T)]).length, by omega, hL.map fun gv' hR => ?_⟩
        obtain ⟨hM1, hK1, rfl⟩ := hR
        have hI1 := hInv.setlow hamem hbF rfl (Tj.Rch.one hlt)
        have hI2 := hI1.advance (a := a) haF hlt h0 (fun _ => by rw [Tj.upd_same]; exact Nat.min_le_right _ _) (fun p hp => Tj.head_notin_tails hnd1 hamem hp)
        exact ⟨_, _, _, _, _, grs, _, rv, wv, gvs, by rw [hfs]; exact hM1, hG.kept hM hK1, Kept.below hbel hM hB hK1, hI2, rfl, hvis⟩
      | false =>
        refine wp_mono (round_skip K n fb fo fc ord low nxt opn _ _ cnt rv wv gv w a (E a (nxt a)) eb eo (deg a) dc c1 c2 c12 c18 c20 c21 c22 c23 c24 c25 c26 c27 c28 c29 c30 c31 c32 c33 c34 c35 c36 c37 c38 c39 c40 c41 c42 c43 c44 c45 c173 c174 u13 u14 u15 u16 u17 u19 u46 u47 u48 u49 u50 u51 u52 u53 u54 u55 u56 u57 u58 u59 u60 u61 u62 u63 u64 u65 u66 u67 u68 u69 u70 u71 u72 u73 u74 u75 u76 u77 u78 u79 u80 u81 u82 u83 u84 u85 u86 u87 u88 u89 u90 u91 u92 u93 u94 u95 u96 u97 u98 u99 u100 u101 u102 u103 u104 u105 u106 u107 u108 u109 u110 u111 u112 u113 u114 u115 u116 u117 u118 u119 u120 u121 u122 u123 u124 u125 u126 u127 u128 u129 u130 u131 u132 u133 u134 u135 u136 u137 u138 u139 u140 u141 u142 u143 u144 u145 u146 u147 u148 u149 u150 u151 u152 u153 u154 u155 u156 u157 u158 u159 u160 u161 u162 u163 u164 u165 u166 u167 u168 u169 u170 u171 u172 hM' hn ha hb (by omega) hlt hda h0 hop hfr hcell) ?_
        intro e a' w' hA
        obtain ⟨rfl, hL⟩ := hA.loop
        refine ⟨2 * sumTo n (fun v => deg v - Tj.upd nxt a (nxt a + 1) v) + (xs ++ [(a, T)]).length, by omega, hL.map fun gv' hR => ?_⟩
        obtain ⟨hM1, hK1, rfl⟩ := hR
        have hI2 := hInv.advance (a := a) haF hlt h0 (fun hh => by rw [(hInv.iopn _).2 hh] at hop; cases hop) (fun p hp => Tj.head_notin_tails hnd1 hamem hp)
        exact ⟨_, _, _, _, _, grs, _, rv, wv, gvs, by rw [hfs]; exact hM1, hG.kept hM hK1, Kept.below hbel hM hB hK1, hI2, rfl, hvis⟩
  · have hnd : nxt a = deg a := by have := hInv.inle a; omega
    have hlowb : ∀ v, v ∈ Tj.flat (xs ++ [(a, T)]) → low v ≤ 512 := fun v hv => by have := (hInv.ilowr v hv).1; have := hord v; omega
    have hlo : ∀ v, v = a ∨ v ∈ xs.map Prod.fst → low v ≤ 512 := by
      intro v hv
      refine hlowb v ?_
      rcases hv with rfl | hv
      · exact haF
      · obtain ⟨p, hp, rfl⟩ := List.mem_map.1 hv
        exact Tj.mem_flat_head (List.mem_append.2 (.inl hp))
    have hnle : nxt a ≤ 32768 := by omega
    -- what becomes of low
    have hlow : ∃ low' : Nat → Nat, ((xs.map Prod.fst = [] ∧ low' = low) ∨ ∃ zs u, xs.map Prod.fst = zs ++ [u] ∧ u < n ∧ u ≠ a ∧ low' = Tj.upd low u (min (low u) (low a))) ∧ Tj.Inv n deg E ord low' nxt opn (xs ++ [(a, T)]) grs cnt ∧ low' a = low a ∧
        ∀ xs' u T', xs = xs' ++ [(u, T')] → low' u ≤ low' a := by
      rcases List.eq_nil_or_concat xs with hx | ⟨xs', ⟨u, T'⟩, hx⟩
      · subst hx
        refine ⟨low, .inl ⟨rfl, rfl⟩, hInv, rfl, fun xs' u T' e => ?_⟩
        simp at e
      · rw [List.concat_eq_append] at hx
        subst hx
        have humem : (u, T') ∈ xs' ++ [(u, T')] ++ [(a, T)] := by simp
        have huF := Tj.mem_flat_head humem
        have hu : u < n := hInv.ilt u ((hInv.ivis u).2 (.inl huF))
        have hua : u ≠ a := by
          have hq := hnd1
          rw [hfl, List.nodup_append] at hq
          exact hq.2.2 u (by rw [Tj.flat_append, Tj.flat_one]; exact List.mem_append.2 (.inr (by simp))) a (by simp)
        obtain ⟨_, y, hy1, hy2, hy3⟩ := hInv.ilowr a haF
        have hchain : Tj.Rch deg E u a := by
          have := hInv.ichain
          rw [List.pairwise_append] at this
          exact this.2.2 (u, T') (by simp) (a, T) (by simp)
        have hI1 := hInv.setlow humem hy1 hy2 (hchain.trans hy3)
        refine ⟨_, .inr ⟨xs'.map Prod.fst, u, by simp, hu, hua, rfl⟩, hI1, Tj.upd_ne _ _ (fun e => hua e.symm), fun xs2 u2 T2 e => ?_⟩
        have e2 := List.append_inj' e rfl
        have e3 := e2.2
        simp at e3
        obtain ⟨rfl, rfl⟩ := e3
        rw [Tj.upd_same, Tj.upd_ne _ _ (fun e => hua e.symm)]
        exact Nat.min_le_right _ _
    obtain ⟨low', hlow1, hI1, hla, hlu⟩ := hlow
    by_cases hroot : low a = ord a
    · have haT : a ∉ T := Tj.head_notin_tails hnd1 hamem hamem
      have hTn : ∀ v, v ∈ T → v < n := fun v hv => hInv.ilt v ((hInv.ivis v).2 (.inl (Tj.mem_flat_tail hamem hv)))
      have hgk : grs.length ≤ 511 := by
        have h1 : grs.length ≤ grs.flatten.length := by
          have hne : ∀ g, g ∈ grs → g ≠ [] := fun g hg => by
            obtain ⟨k, hk⟩ := List.mem_iff_getElem?.1 hg
            exact (hInv.igr k g hk).1
          clear hInv hI1 hG
          induction grs with
          | nil => simp
          | cons g gs ih =>
            have h1 := ih (fun g hg => hne g (by simp [hg]))
            have h2 : 0 < g.length := List.length_pos_iff.2 (hne g (by simp))
            simp only [List.flatten_cons, List.length_append, List.length_cons]
            omega
        have h2 := hInv.inum
        rw [hfl, List.length_append, List.length_append, List.length_cons] at h2
        omega
      refine wp_mono (round_group K n fb fo fc ord low nxt opn low' _ (Tj.flat xs) T _ _ gvs cnt rv wv gv w a (deg a) dc A c1 c2 c12 c18 c20 c21 c22 c23 c24 c25 c26 c27 c28 c29 c30 c31 c32 c33 c34 c35 c36 c37 c38 c39 c40 c41 c42 c43 c44 c45 c173 c174 u13 u14 u15 u16 u17 u19 u46 u47 u48 u49 u50 u51 u52 u53 u54 u55 u56 u57 u58 u59 u60 u61 u62 u63 u64 u65 u66 u67 u68 u69 u70 u71 u72 u73 u74 u75 u76 u77 u78 u79 u80 u81 u82 u83 u84 u85 u86 u87 u88 u89 u90 u91 u92 u93 u94 u95 u96 u97 u98 u99 u100 u101 u102 u103 u104 u105 u106 u107 u108 u109 u110 u111 u112 u113 u114 u115 u116 u117 u118 u119 u120 u121 u122 u123 u124 u125 u126 u127 u128 u129 u130 u131 u132 u133 u134 u135 u136 u137 u138 u139 u140 u141 u142 u143 u144 u145 u146 u147 u148 u149 u150 u151 u152 u153 u154 u155 u156 u157 u158 u159 u160 u161 u162 u163 u164 u165 u166 u167 u168 u169 u170 u171 u172 hM' hn ha hys (by omega) (by omega) hnle hda hlo hord hfr hlow1 hroot hfl haT hTn hG.og hgk) ?_
      intro e a' w' hA
      obtain ⟨rfl, hL⟩ := hA.loop
      refine ⟨2 * sumTo n (fun v => deg v - nxt v) + xs.length, by simp at hk; omega, hL.map fun gv' hR => ?_⟩
      have hblk := hR
      obtain ⟨opn', rv', wv', gvs', hM1, ho, hG1⟩ := hG.group (gk := 0) hM hR
      obtain ⟨_, _, _, _, _, _, _, _, _, _, _, _, h1, h2, h3, h4, h5⟩ := hblk.ex
      have hbel2 : Below B w0 w' := by
        have q0 := hB 0 (by decide)
        have q1 := hM.lb 0 (by decide)
        have q2 := hM.sz
        refine hbel.trans ⟨h1, h2, h3, h4, fun b hlt => h5 b (by omega) (fun i hi e => by have := hB i hi; omega) (fun e => ?_) (fun e => ?_) (fun e => ?_)⟩
        · have := (hM.owr.lt b e.symm).1; omega
        · have := (hM.oww.lt b e.symm).1; omega
        · have := (hG.og.lt b e.symm).1; omega
      exact ⟨xs, ord, low', nxt, opn', grs ++ [a :: T], cnt, rv', wv', gvs', hM1, hG1, hbel2, hI1.group hnd (by rw [hla]; exact hroot) ho, rfl, hvis⟩
    · rcases List.eq_nil_or_concat xs with hx | ⟨xs', ⟨u, T'⟩, hx⟩
      · subst hx
        exact absurd hInv.bottom hroot
      · rw [List.concat_eq_append] at hx
        have hlu' := hlu xs' u T' hx
        refine wp_mono (round_merge K n fb fo fc ord low nxt opn low' _ _ cnt rv wv gv w a (deg a) dc A c1 c2 c12 c18 c20 c21 c22 c23 c24 c25 c26 c27 c28 c29 c30 c31 c32 c33 c34 c35 c36 c37 c38 c39 c40 c41 c42 c43 c44 c45 c173 c174 u13 u14 u15 u16 u17 u19 u46 u47 u48 u49 u50 u51 u52 u53 u54 u55 u56 u57 u58 u59 u60 u61 u62 u63 u64 u65 u66 u67 u68 u69 u70 u71 u72 u73 u74 u75 u76 u77 u78 u79 u80 u81 u82 u83 u84 u85 u86 u87 u88 u89 u90 u91 u92 u93 u94 u95 u96 u97 u98 u99 u100 u101 u102 u103 u104 u105 u106 u107 u108 u109 u110 u111 u112 u113 u114 u115 u116 u117 u118 u119 u120 u121 u122 u123 u124 u125 u126 u127 u128 u129 u130 u131 u132 u133 u134 u135 u136 u137 u138 u139 u140 u141 u142 u143 u144 u145 u146 u147 u148 u149 u150 u151 u152 u153 u154 u155 u156 u157 u158 u159 u160 u161 u162 u163 u164 u165 u166 u167 u168 u169 u170 u171 u172 hM' hn ha hys (by omega) (by omega) hnle hda hlo hord hfr hlow1 hroot) ?_
        intro e a' w' hA
        obtain ⟨rfl, hL⟩ := hA.loop
        subst hx
        refine ⟨2 * sumTo n (fun v => deg v - nxt v) + (xs' ++ [(u, T' ++ a :: T)]).length, by simp at hk ⊢; omega, hL.map fun gv' hR => ?_⟩
        obtain ⟨⟨wv', hM1, hK1⟩, rfl⟩ := hR
        have hI2 : Tj.Inv n deg E ord low' nxt opn (xs' ++ [(u, T' ++ a :: T)]) grs cnt := by
          have e : xs' ++ [(u, T')] ++ [(a, T)] = xs' ++ [(u, T'), (a, T)] := by simp
          rw [e] at hI1
          exact hI1.merge hnd (by rw [hla]; exact hroot) hlu'
        have e1 : Tj.flat (xs' ++ [(u, T' ++ a :: T)]) = Tj.flat (xs' ++ [(u, T')] ++ [(a, T)]) := by
          have e : xs' ++ [(u, T')] ++ [(a, T)] = xs' ++ [(u, T'), (a, T)] := by simp
          rw [e, Tj.flat_append, Tj.flat_append, Tj.flat_two]
        refine ⟨_, ord, low', nxt, opn, grs, cnt, rv, wv', gvs, ?_, hG.kept hM hK1, Kept.below hbel hM hB hK1, hI2, rfl, hvis⟩
        have e2 : (xs' ++ [(u, T' ++ a :: T)]).map Prod.fst = (xs' ++ [(u, T')]).map Prod.fst := by simp
        rw [e1, e2]
        exact hM1

set_option maxRecDepth 100000 in
theorem inner_loop2 (K : Blks) (n fb fo fc : Nat) (deg : Nat → Nat) (E : Nat → Nat → Nat) (B r : Nat) (w0 : World) (hn : n ≤ 512) (hB : ∀ i, i < 10 → B ≤ K.b i) (hdeg : ∀ v, v < n → deg v ≤ 32768) (hE : ∀ a i, a < n → i < deg a → E a i < n) (hF : FromOk w0 B fb fo n deg E)
    (c1 c2 c12 c18 c20 c21 c22 c23 c24 c25 c26 c27 c28 c29 c30 c31 c32 c33 c34 c35 c36 c37 c38 c39 c40 c41 c42 c43 c44 c45 c173 c174 : Value) (u13 u14 u15 u16 u17 u19 u46 u47 u48 u49 u50 u51 u52 u53 u54 u55 u56 u57 u58 u59 u60 u61 u62 u63 u64 u65 u66 u67 u68 u69 u70 u71 u72 u73 u74 u75 u76 u77 u78 u79 u80 u81 u82 u83 u84 u85 u86 u87 u88 u89 u90 u91 u92 u93 u94 u95 u96 u97 u98 u99 u100 u101 u102 u103 u104 u105 u106 u107 u108 u109 u110 u111 u112 u113 u114 u115 u116 u117 u118 u119 u120 u121 u122 u123 u124 u125 u126 u127 u128 u129 u130 u131 u132 u133 u134 u135 u136 u137 u138 u139 u140 u141 u142 u143 u144 u145 u146 u147 u148 u149 u150 u151 u152 u153 u154 u155 u156 u157 u158 u159 u160 u161 u162 u163 u164 u165 u166 u167 u168 u169 u170 u171 u172 : Value) (Q : Exit → Act → World → Prop) (gv : Value) (k0 : Nat) (w : World) (hI : StI K n B deg E w0 r k0 gv w) (hQ : ∀ gv v13 v14 v15 v16 v17 v19 v46 v47 v48 v49 v50 v51 v52 v53 v54 v55 v56 v57 v58 v59 v60 v61 v62 v63 v64 v65 v66 v67 v68 v69 v70 v71 v72 v73 v74 v75 v76 v77 v78 v79 v80 v81 v82 v83 v84 v85 v86 v87 v88 v89 v90 v91 v92 v93 v94 v95 v96 v97 v98 v99 v100 v101 v102 v103 v104 v105 v106 v107 v108 v109 v110 v111 v112 v113 v114 v115 v116 v117 v118 v119 v120 v121 v122 v123 v124 v125 v126 v127 v128 v129 v130 v131 v132 v133 v134 v135 v136 v137 v138 v139 v140 v141 v142 v143 v144 v145 v146 v147 v148 v149 v150 v151 v152 v153 v154 v155 v156 v157 v158 v159 v160 v161 v162 v163 v164 v165 v166 v167 v168 v169 v170 v171 v172 w', StO K n B deg E w0 r gv w' → Q (.exit 2) ⟨#[.slice (some ⟨fb, fo, none⟩) n fc, c1, c2, .pointer (some ⟨K.b 0, 0, none⟩), .pointer (some ⟨K.b 1, 0, none⟩), .slice (some ⟨K.b 8, 0, none⟩) n n, .pointer (some ⟨K.b 2, 0, none⟩), .pointer (some ⟨K.b 3, 0, none⟩), .pointer (some ⟨K.b 4, 0, none⟩), gv, .pointer (some ⟨K.b 5, 0, none⟩), .func (.func 8) #[] #[.pointer (some ⟨K.b 5, 0, none⟩), .pointer (some ⟨K.b 0, 0, none⟩), .pointer (some ⟨K.b 1, 0, none⟩), .pointer (some ⟨K.b 2, 0, none⟩), .pointer (some ⟨K.b 3, 0, none⟩), .pointer (some ⟨K.b 4, 0, none⟩)], c12, v13, v14, v15, v16, v17, c18, v19, c20, c21, c22, c23, c24, c25, c26, c27, c28, c29, c30, c31, c32, c33, c34, c35, c36, c37, c38, c39, c40, c41, c42, c43, c44, c45, v46, v47, v48, v49, v50, v51, v52, v53, v54, v55, v56, v57, v58, v59, v60, v61, v62, v63, v64, v65, v66, v67, v68, v69, v70, v71, v72, v73, v74, v75, v76, v77, v78, v79, v80, v81, v82, v83, v84, v85, v86, v87, v88, v89, v90, v91, v92, v93, v94, v95, v96, v97, v98, v99, v100, v101, v102, v103, v104, v105, v106, v107, v108, v109, v110, v111, v112, v113, v114, v115, v116, v117, v118, v119, v120, v121, v122, v123, v124, v125, v126, v127, v128, v129, v130, v131, v132, v133, v134, v135, v136, v137, v138, v139, v140, v141, v142, v143, v144, v145, v146, v147, v148, v149, v150, v151, v152, v153, v154, v155, v156, v157, v158, v159, v160, v161, v162, v163, v164, v165, v166, v167, v168, v169, v170, v171, v172, c173, c174], []⟩ w') : Code.wp Try.prog (Code.loop ((Try.f7.body.bind firstLoop).bind firstLoop |>.getD .skip)) Q ⟨#[.slice (some ⟨fb, fo, none⟩) n fc, c1, c2, .pointer (some ⟨K.b 0, 0, none⟩), .pointer (some ⟨K.b 1, 0, none⟩), .slice (some ⟨K.b 8, 0, none⟩) n n, .pointer (some ⟨K.b 2, 0, none⟩), .pointer (some ⟨K.b 3, 0, none⟩), .pointer (some ⟨K.b 4, 0, none⟩), gv, .pointer (some ⟨K.b 5, 0, none⟩), .func (.func 8) #[] #[.pointer (some ⟨K.b 5, 0, none⟩), .pointer (some ⟨K.b 0, 0, none⟩), .pointer (some ⟨K.b 1, 0, none⟩), .pointer (some ⟨K.b 2, 0, none⟩), .pointer (some ⟨K.b 3, 0, none⟩), .pointer (some ⟨K.b 4, 0, none⟩)], c12, u13, u14, u15, u16, u17, c18, u19, c20, c21, c22, c23, c24, c25, c26, c27, c28, c29, c30, c31, c32, c33, c34, c35, c36, c37, c38, c39, c40, c41, c42, c43, c44, c45, u46, u47, u48, u49, u50, u51, u52, u53, u54, u55, u56, u57, u58, u59, u60, u61, u62, u63, u64, u65, u66, u67, u68, u69, u70, u71, u72, u73, u74, u75, u76, u77, u78, u79, u80, u81, u82, u83, u84, u85, u86, u87, u88, u89, u90, u91, u92, u93, u94, u95, u96, u97, u98, u99, u100, u101, u102, u103, u104, u105, u106, u107, u108, u109, u110, u111, u112, u113, u114, u115, u116, u117, u118, u119, u120, u121, u122, u123, u124, u125, u126, u127, u128, u129, u130, u131, u132, u133, u134, u135, u136, u137, u138, u139, u140, u141, u142, u143, u144, u145, u146, u147, u148, u149, u150, u151, u152, u153, u154, u155, u156, u157, u158, u159, u160, u161, u162, u163, u164, u165, u166, u167, u168, u169, u170, u171, u172, c173, c174], []⟩ w :=
  inner_loop K n fb fo fc deg E B r w0 hn hB hdeg hE hF c1 c2 c12 c18 c20 c21 c22 c23 c24 c25 c26 c27 c28 c29 c30 c31 c32 c33 c34 c35 c36 c37 c38 c39 c40 c41 c42 c43 c44 c45 c173 c174 Q hQ k0 _ w ⟨gv, u13, u14, u15, u16, u17, u19, u46, u47, u48, u49, u50, u51, u52, u53, u54, u55, u56, u57, u58, u59, u60, u61, u62, u63, u64, u65, u66, u67, u68, u69, u70, u71, u72, u73, u74, u75, u76, u77, u78, u79, u80, u81, u82, u83, u84, u85, u86, u87, u88, u89, u90, u91, u92, u93, u94, u95, u96, u97, u98, u99, u100, u101, u102, u103, u104, u105, u106, u107, u108, u109, u110, u111, u112, u113, u114, u115, u116, u117, u118, u119, u120, u121, u122, u123, u124, u125, u126, u127, u128, u129, u130, u131, u132, u133, u134, u135, u136, u137, u138, u139, u140, u141, u142, u143, u144, u145, u146, u147, u148, u149, u150, u151, u152, u153, u154, u155, u156, u157, u158, u159, u160, u161, u162, u163, u164, u165, u166, u167, u168, u169, u170, u171, u172, hI, rfl⟩
end Go.Proofs.Qxb6617531a
