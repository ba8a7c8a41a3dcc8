import Derived.Test.Qxb6617531aC
namespace Go.Proofs.Qxb6617531a
open Go.RowKit
set_option linter.unusedVariables false

/-- what 'components' leaves: the groups, each in its row -/
structure CompOut (n : Nat) (deg : Nat → Nat) (E : Nat → Nat → Nat) (w : World) (e : Ending) (w' : World) : Prop where
  ex : ∃ gv gvs grs ord low nxt opn cnt base, e = .returned gv ∧ Tj.Inv n deg E ord low nxt opn [] grs cnt ∧ (∀ v, v < n → ord v ≠ 0) ∧ w'.ownsRow base 24 1 gv grs.length gvs ∧
    (∀ (k : Nat) (g : List Nat), grs[k]? = some g → ∃ v, gvs[k]? = some v ∧ w'.ownsRow base 3 1 v g.length (g.map ival)) ∧ Below w.heap.size w w'

theorem comp_out {n : Nat} {deg : Nat → Nat} {E : Nat → Nat → Nat} {K : Blks} {w w' : World} {r : Nat} {gv : Value} (h : StO K n w.heap.size deg E w r gv w') (hr : n ≤ r) : CompOut n deg E w (.returned gv) w' := by
  obtain ⟨ord, low, nxt, opn, grs, cnt, rv, wv, gvs, hM, hG, hb, hI, hv⟩ := h.ex
  refine ⟨gv, gvs, grs, ord, low, nxt, opn, cnt, K.base, rfl, hI, fun v hvn => hv v (by omega), hG.og, fun k g hk => ?_, hb⟩
  obtain ⟨v, b, h1, _, h3, _⟩ := hG.each k g hk
  exact ⟨v, h1, h3⟩

set_option maxHeartbeats 2000000 in
set_option maxRecDepth 100000 in
theorem comp_any (fb fo n fc : Nat) (deg : Nat → Nat) (E : Nat → Nat → Nat) (w : World) (hn : n ≤ 512) (hdeg : ∀ v, v < n → deg v ≤ 32768) (hE : ∀ a i, a < n → i < deg a → E a i < n) (hF : FromOk w w.heap.size fb fo n deg E) :
    Calls Try.prog 7 #[.slice (some ⟨fb, fo, none⟩) n fc] w fun e w' => CompOut n deg E w e w' := by
  have HDEG := hide hdeg
  have HE := hide hE
  have HFR := hide hF
  clear hdeg hE hF
  have hmk := run_make_row' (P := Try.prog) 24 3 (.int .i64 0) 8 Try.underlying24 Try.info3 rfl .i64 .i64 n (by omega) (by omega)
  have hmb := run_make_row' (P := Try.prog) 26 4 (.bool false) 1 Try.underlying26 Try.info4 rfl .i64 .i64 n (by omega) (by omega)
  have HF := hide (heap_four w)
  go_enter Try.func7, Try.ntmps7
  go_upto_region 1 with fail
  go_cut [3, 4] (fun s3 s4 w' => ∃ p q x y, s3 = .pointer (some ⟨p, 0, none⟩) ∧ s4 = .pointer (some ⟨q, 0, none⟩) ∧ Pre n w p q x y w')
  case first =>
    go_region
    all_goals
      go_wp2_with fail
      go_meet
      case rel =>
        obtain ⟨f0, f1, f2, f3, f4, f5⟩ := unhide HF _ _ _ _
        first
          | (refine ⟨_, _, w.heap.size, (w.heap.size + 1), rfl, rfl, ⟨?_, ?_, ?_, ?_, f4, f5, ?_, ?_⟩⟩ <;> first | (rw [f0]; exact rfl) | (rw [f1]; exact rfl) | (rw [f2]; exact rfl) | (rw [f3]; exact rfl) | omega)
          | (refine ⟨_, _, w.heap.size, (w.heap.size + 1 + 1), rfl, rfl, ⟨?_, ?_, ?_, ?_, f4, f5, ?_, ?_⟩⟩ <;> first | (rw [f0]; exact rfl) | (rw [f1]; exact rfl) | (rw [f2]; exact rfl) | (rw [f3]; exact rfl) | omega)
          | (refine ⟨_, _, w.heap.size, (w.heap.size + 1 + 1 + 1), rfl, rfl, ⟨?_, ?_, ?_, ?_, f4, f5, ?_, ?_⟩⟩ <;> first | (rw [f0]; exact rfl) | (rw [f1]; exact rfl) | (rw [f2]; exact rfl) | (rw [f3]; exact rfl) | omega)
          | (refine ⟨_, _, (w.heap.size + 1), w.heap.size, rfl, rfl, ⟨?_, ?_, ?_, ?_, f4, f5, ?_, ?_⟩⟩ <;> first | (rw [f0]; exact rfl) | (rw [f1]; exact rfl) | (rw [f2]; exact rfl) | (rw [f3]; exact rfl) | omega)
          | (refine ⟨_, _, (w.heap.size + 1), (w.heap.size + 1 + 1), rfl, rfl, ⟨?_, ?_, ?_, ?_, f4, f5, ?_, ?_⟩⟩ <;> first | (rw [f0]; exact rfl) | (rw [f1]; exact rfl) | (rw [f2]; exact rfl) | (rw [f3]; exact rfl) | omega)
          | (refine ⟨_, _, (w.heap.size + 1), (w.heap.size + 1 + 1 + 1), rfl, rfl, ⟨?_, ?_, ?_, ?_, f4, f5, ?_, ?_⟩⟩ <;> first | (rw [f0]; exact rfl) | (rw [f1]; exact rfl) | (rw [f2]; exact rfl) | (rw [f3]; exact rfl) | omega)
          | (refine ⟨_, _, (w.heap.size + 1 + 1), w.heap.size, rfl, rfl, ⟨?_, ?_, ?_, ?_, f4, f5, ?_, ?_⟩⟩ <;> first | (rw [f0]; exact rfl) | (rw [f1]; exact rfl) | (rw [f2]; exact rfl) | (rw [f3]; exact rfl) | omega)
          | (refine ⟨_, _, (w.heap.size + 1 + 1), (w.heap.size + 1), rfl, rfl, ⟨?_, ?_, ?_, ?_, f4, f5, ?_, ?_⟩⟩ <;> first | (rw [f0]; exact rfl) | (rw [f1]; exact rfl) | (rw [f2]; exact rfl) | (rw [f3]; exact rfl) | omega)
          | (refine ⟨_, _, (w.heap.size + 1 + 1), (w.heap.size + 1 + 1 + 1), rfl, rfl, ⟨?_, ?_, ?_, ?_, f4, f5, ?_, ?_⟩⟩ <;> first | (rw [f0]; exact rfl) | (rw [f1]; exact rfl) | (rw [f2]; exact rfl) | (rw [f3]; exact rfl) | omega)
          | (refine ⟨_, _, (w.heap.size + 1 + 1 + 1), w.heap.size, rfl, rfl, ⟨?_, ?_, ?_, ?_, f4, f5, ?_, ?_⟩⟩ <;> first | (rw [f0]; exact rfl) | (rw [f1]; exact rfl) | (rw [f2]; exact rfl) | (rw [f3]; exact rfl) | omega)
          | (refine ⟨_, _, (w.heap.size + 1 + 1 + 1), (w.heap.size + 1), rfl, rfl, ⟨?_, ?_, ?_, ?_, f4, f5, ?_, ?_⟩⟩ <;> first | (rw [f0]; exact rfl) | (rw [f1]; exact rfl) | (rw [f2]; exact rfl) | (rw [f3]; exact rfl) | omega)
          | (refine ⟨_, _, (w.heap.size + 1 + 1 + 1), (w.heap.size + 1 + 1), rfl, rfl, ⟨?_, ?_, ?_, ?_, f4, f5, ?_, ?_⟩⟩ <;> first | (rw [f0]; exact rfl) | (rw [f1]; exact rfl) | (rw [f2]; exact rfl) | (rw [f3]; exact rfl) | omega)
  case rest =>
    obtain ⟨p, q, x, y, rfl, rfl, hpre⟩ := hcut
    have HP := hide hpre
    have hsz := hpre.sz
    clear hpre HF
    go_upto_region 8 with fail
    go_cut [3, 4, 5, 6, 7, 8, 9, 10, 11] (fun s3 s4 s5 s6 s7 s8 s9 s10 s11 w' => ∃ K : Blks, s3 = .pointer (some ⟨K.b 0, 0, none⟩) ∧ s4 = .pointer (some ⟨K.b 1, 0, none⟩) ∧ s5 = .slice (some ⟨K.b 8, 0, none⟩) n n ∧ s6 = .pointer (some ⟨K.b 2, 0, none⟩) ∧ s7 = .pointer (some ⟨K.b 3, 0, none⟩) ∧ s8 = .pointer (some ⟨K.b 4, 0, none⟩) ∧
      s9 = .slice none 0 0 ∧ s10 = .pointer (some ⟨K.b 5, 0, none⟩) ∧ s11 = .func (.func 8) #[] #[.pointer (some ⟨K.b 5, 0, none⟩), .pointer (some ⟨K.b 0, 0, none⟩), .pointer (some ⟨K.b 1, 0, none⟩), .pointer (some ⟨K.b 2, 0, none⟩), .pointer (some ⟨K.b 3, 0, none⟩), .pointer (some ⟨K.b 4, 0, none⟩)] ∧ (∀ i, i < 10 → w.heap.size ≤ K.b i) ∧ StO K n w.heap.size deg E w 0 (.slice none 0 0) w')
    case first =>
      go_wp2_with fail
      go_meet
      case rel =>
        have hp := unhide HP
        have hM := mem_init hp
        have hb := (heap_six wc (.cells (madeCells #[.int .i64 0] n) 3) (.cells (madeCells #[.bool false] n) 4) (.cells #[.slice (some ⟨w.heap.size + 4 + 1, 0, none⟩) n n] 26) (.cells #[.slice none 0 0] 24) (.cells #[.slice none 0 0] 24) (.cells #[.int .i64 0] 3)).2.2.2.2.2.2.2.2
        have hl := hp.lo
        have hbel : Below w.heap.size w _ := hp.bel.trans (hb.mono (by rw [hp.sz]; omega))
        exact ⟨mkK (w.heap.size + 4) p q x y, rfl, rfl, rfl, rfl, rfl, rfl, rfl, rfl, rfl, mkK_ge ⟨by omega, hl.1, hl.2.1, hl.2.2.1, hl.2.2.2⟩,
          ⟨_, _, _, _, [], 0, .slice none 0 0, .slice none 0 0, [], hM, ⟨World.ownsRow_nil _ _ _ _, fun k g hk => by simp at hk⟩, hbel, Tj.Inv.empty n deg E, fun v hv => absurd hv (Nat.not_lt_zero v)⟩⟩
    case rest =>
      obtain ⟨K, rfl, rfl, rfl, rfl, rfl, rfl, rfl, rfl, rfl, hK, hst⟩ := hcut
      have HK := hide hK
      have HST := hide hst
      clear hK hst HP hmk hmb
      go_wp2
      go_loopg [9, 35] n (fun k gv i wr => ∃ r : Nat, r ≤ n ∧ k = n - r ∧ i = .int .i64 r ∧ StO K n w.heap.size deg E w r gv wr)
      case atStart => exact ⟨0, Nat.zero_le _, by omega, rfl, unhide HST⟩
      case round =>
        obtain ⟨r, hr, hk, rfl, hst⟩ := hrel
        by_cases hlt : r < n
        · obtain ⟨ord, low, nxt, opn, grs, cnt, rv, wv, gvs, hM, hG, hbel, hI, hv⟩ := hst.ex
          have c3 := cell_of_one hM.obo
          have ro := hM.rao.cell hlt
          have HV := hide hv
          have HI := hide hI
          have HM := hide hM
          have HG := hide hG
          have HB := hide hbel
          have HKK := hide hk
          clear hv hI hM hG hbel hst hk
          by_cases h0 : ord r = 0
          · have hb0 : (((ord r : Nat) : Int) != 0) = false := by simp [h0]
            have H0 := hide h0
            clear h0
            go_wp2_with fail
            refine (reach_any K n ord low nxt opn [] [] cnt rv wv wr (unhide HM) r hlt hn ((unhide HI).cnt_lt hlt (unhide H0)) (by simp) (by simp)).mono ?_
            rintro e w2 ⟨rfl, rv', wv', hM2, hK2⟩
            have HM2 := hide hM2
            have HK2 := hide hK2
            clear hM2 hK2
            have hstI : StI K n w.heap.size deg E w (r + 1) (2 * sumTo n (fun v => deg v - nxt v) + 1) u9 w2 := by
              have hI1 := (unhide HI).reach hlt (unhide H0) (by simp)
              exact ⟨[(r, [])], _, _, _, _, grs, _, rv', wv', gvs, by simpa [Tj.flat] using unhide HM2, (unhide HG).kept (unhide HM) (unhide HK2), Kept.below (unhide HB) (unhide HM) (unhide HK) (unhide HK2), by simpa using hI1, by simp, fun v hv => by
                by_cases e : v = r
                · rw [e, Tj.upd_same]; omega
                · rw [Tj.upd_ne _ _ e]; exact unhide HV v (by omega)⟩
            have HSI := hide hstI
            clear hstI
            go_wp2_with fail
            refine inner_loop2 K n fb fo fc deg E w.heap.size (r + 1) w hn (unhide HK) (unhide HDEG) (unhide HE) (unhide HFR) _ _ _ _ _ _ _ _ _ _ _ _ _ _ _ _ _ _ _ _ _ _ _ _ _ _ _ _ _ _ _ _  _ _ _ _ _ _ _ _ _ _ _ _ _ _ _ _ _ _ _ _ _ _ _ _ _ _ _ _ _ _ _ _ _ _ _ _ _ _ _ _ _ _ _ _ _ _ _ _ _ _ _ _ _ _ _ _ _ _ _ _ _ _ _ _ _ _ _ _ _ _ _ _ _ _ _ _ _ _ _ _ _ _ _ _ _ _ _ _ _ _ _ _ _ _ _ _ _ _ _ _ _ _ _ _ _ _ _ _ _ _ _ _ _ _ _ _ _ _ _ _ _ _ _ _ _ _ _ _ _ _ _ _ _  _ u9 (2 * sumTo n (fun v => deg v - nxt v) + 1) w2 (unhide HSI) ?hQ
            case hQ =>
              intro gv' v13 v14 v15 v16 v17 v19 v46 v47 v48 v49 v50 v51 v52 v53 v54 v55 v56 v57 v58 v59 v60 v61 v62 v63 v64 v65 v66 v67 v68 v69 v70 v71 v72 v73 v74 v75 v76 v77 v78 v79 v80 v81 v82 v83 v84 v85 v86 v87 v88 v89 v90 v91 v92 v93 v94 v95 v96 v97 v98 v99 v100 v101 v102 v103 v104 v105 v106 v107 v108 v109 v110 v111 v112 v113 v114 v115 v116 v117 v118 v119 v120 v121 v122 v123 v124 v125 v126 v127 v128 v129 v130 v131 v132 v133 v134 v135 v136 v137 v138 v139 v140 v141 v142 v143 v144 v145 v146 v147 v148 v149 v150 v151 v152 v153 v154 v155 v156 v157 v158 v159 v160 v161 v162 v163 v164 v165 v166 v167 v168 v169 v170 v171 v172 w3 hst3
              have HS3 := hide hst3
              clear hst3
              dsimp only
              go_wp2
              go_roundg (n - (r + 1))
              case measure => have := unhide HKK; omega
              case rel => exact ⟨r + 1, by omega, rfl, by go_num, unhide HS3⟩
          · have hb0 : (((ord r : Nat) : Int) != 0) = true := by simp; omega
            have H0 := hide h0
            clear h0
            go_wp2
            go_roundg (n - (r + 1))
            case measure => have := unhide HKK; omega
            case rel => exact ⟨r + 1, by omega, rfl, by go_num, ⟨ord, low, nxt, opn, grs, cnt, rv, wv, gvs, unhide HM, unhide HG, unhide HB, unhide HI, fun v hv => by
              by_cases e : v = r
              · rw [e]; exact unhide H0
              · exact unhide HV v (by omega)⟩⟩
        · have HST2 := hide hst
          clear hst
          go_wp2
          go_ret
          exact comp_out (unhide HST2) (by omega)
end Go.Proofs.Qxb6617531a
