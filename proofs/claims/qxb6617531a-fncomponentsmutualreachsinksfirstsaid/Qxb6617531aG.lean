import Derived.Test.Qxb6617531aX
namespace Go.Proofs.Qxb6617531a
open Go.RowKit
set_option linter.unusedVariables false

theorem own_pos {w : World} {base : Nat} {e : TypeId} {v : Value} {k : Nat} {xs : List Value} (h : w.ownsRow base e 1 v k xs) (hk : 0 < k) : ∃ g c, v = .slice (some ⟨g, 0, none⟩) k c := by
  rcases h.2 with ⟨e, h0⟩ | ⟨g, cap, cur, e, _⟩
  · omega
  · exact ⟨_, _, e⟩
theorem own_cell {w : World} {base g c k j : Nat} {l : List Nat} (h : w.ownsRow base 3 1 (.slice (some ⟨g, 0, none⟩) k c) k (l.map ival)) (hj : j < k) : w.cell? ⟨g, j, none⟩ = some (.int .i64 (l.getD j 0 : Nat)) := by
  have hl : l.length = k := by have := h.1; simpa using this
  rw [h.cellAt j (by omega)]
  rw [List.getElem?_map, List.getElem?_eq_getElem (by omega)]
  simp [ival, List.getD_eq_getElem?_getD, List.getElem?_eq_getElem (show j < l.length by omega)]
theorem own_tail {w : World} {base g c k : Nat} {pr : List Nat} {S l : List Nat} (h : w.ownsRow base 3 1 (.slice (some ⟨g, 0, none⟩) k c) k (l.map ival)) (hl : l = pr ++ S) :
    ∀ (j : Nat) (u : Value), (S.map ival)[j]? = some u → w.cell? ((⟨g, pr.length, none⟩ : Addr).add j) = some u := by
  intro j u hu
  have hjl : j < S.length := by
    have := (List.getElem?_eq_some_iff.1 hu).1
    simpa using this
  have hk : l.length = k := by have := h.1; simpa using this
  have hpk : pr.length + j < k := by rw [← hk, hl]; simp; omega
  have e : (⟨g, pr.length, none⟩ : Addr).add j = ⟨g, pr.length + j, none⟩ := by
    unfold Addr.add
    split
    · rename_i h0; rw [h0]; rfl
    · rfl
  rw [e, h.cellAt (pr.length + j) (by omega), hl, List.map_append, List.getElem?_append_right (by simp)]
  simpa using hu
theorem own_prefix {w : World} {base g c k : Nat} {pr S l : List Nat} (h : w.ownsRow base 3 1 (.slice (some ⟨g, 0, none⟩) k c) k (l.map ival)) (hl : l = pr ++ S) : w.ownsRow base 3 1 (.slice (some ⟨g, 0, none⟩) pr.length c) pr.length (pr.map ival) := by
  obtain ⟨h1, h2⟩ := h
  rcases h2 with ⟨h0, _⟩ | ⟨g', cap', cur, hv, hg, hh, hn, hcap, hsz, htake⟩
  · cases h0
  · cases hv
    have hk : pr.length ≤ k := by have : l.length = k := by simpa using h1
                                  rw [← this, hl]; simp
    refine ⟨by simp, .inr ⟨g, c, cur, rfl, hg, hh, by omega, hcap, hsz, ?_⟩⟩
    have h3 : (cur.toList.take (k * 1)).take (pr.length * 1) = (l.map ival).take (pr.length * 1) := by rw [htake]
    rw [List.take_take, Nat.min_eq_left (by omega)] at h3
    rw [h3, hl]
    simp
theorem own24_kept {K : Blks} {n : Nat} {ord low nxt : Nat → Nat} {opn : Nat → Bool} {rl wl : List Nat} {cnt : Nat} {rv wv rv' wv' gv : Value} {gk : Nat} {gvs : List Value} {w w' : World} (hgv : w.ownsRow K.base 24 1 gv gk gvs)
    (h : Mem K n ord low nxt opn rl wl cnt rv wv w) (hk : Kept K rv wv rv' wv' w w') : w'.ownsRow K.base 24 1 gv gk gvs := by
  refine own_of_block hgv fun g hg => ?_
  have hlt := hgv.lt g hg
  have hty : ∃ cur, w.heap[g]? = some (.cells cur 24 (0, 0)) := by
    rcases hgv.2 with ⟨e, _⟩ | ⟨g', cap, cur, e, _, hh, _⟩
    · rw [e] at hg; cases hg
    · rw [e] at hg; cases hg; exact ⟨cur, hh⟩
  have h3 : ∀ {v : Value} {k : Nat} {xs : List Value}, w.ownsRow K.base 3 1 v k xs → some g ≠ v.ownBlock := by
    intro v k xs hv e
    obtain ⟨cur, hc⟩ := hty
    rcases hv.2 with ⟨e', _⟩ | ⟨g', cap, cur', e', _, hh, _⟩
    · rw [e'] at e; cases e
    · rw [e'] at e; cases e
      rw [hc] at hh
      cases hh
  exact hk.block g hlt.2 (fun i hi e => by have := h.lb i hi; omega) (h3 h.owr) (h3 h.oww)
theorem own_apart {base : Nat} {w : World} {v gv : Value} {k gk : Nat} {xs gvs : List Value} (hv : w.ownsRow base 3 1 v k xs) (hgv : w.ownsRow base 24 1 gv gk gvs) {g : Nat} (h1 : v.ownBlock = some g) : some g ≠ gv.ownBlock := by
  intro e
  rcases hv.2 with ⟨e', _⟩ | ⟨g', cap, cur, e', _, hh, _⟩
  · rw [e'] at h1; cases h1
  · rw [e'] at h1; cases h1
    rcases hgv.2 with ⟨e2, _⟩ | ⟨g2, cap2, cur2, e2, _, hh2, _⟩
    · rw [e2] at e; cases e
    · rw [e2] at e; cases e
      rw [hh] at hh2
      cases hh2
theorem own3_grown {base : Nat} {w w' : World} {v gv : Value} {k gk : Nat} {xs gvs : List Value} (hv : w.ownsRow base 3 1 v k xs) (hgv : w.ownsRow base 24 1 gv gk gvs) (hg : w.grownBy w' gv.ownBlock) : w'.ownsRow base 3 1 v k xs :=
  own_of_block hv fun g hgb => hg.block g (hv.lt g hgb).2 (own_apart hv hgv hgb)
theorem Mem.grownG {K : Blks} {n : Nat} {ord low nxt : Nat → Nat} {opn : Nat → Bool} {rl wl : List Nat} {cnt : Nat} {rv wv gv : Value} {gk : Nat} {gvs : List Value} {w w' : World} (h : Mem K n ord low nxt opn rl wl cnt rv wv w)
    (hgv : w.ownsRow K.base 24 1 gv gk gvs) (hg : w.grownBy w' gv.ownBlock) : Mem K n ord low nxt opn rl wl cnt rv wv w' := by
  have hl : ∀ i, i < 10 → w'.heap[K.b i]? = w.heap[K.b i]? := fun i hi => hg.block _ (Nat.lt_of_lt_of_le (h.lb i hi) h.sz) (fun e => own_ge hgv (h.lb i hi) e.symm)
  exact ⟨h.dist, h.lb, Nat.le_trans h.sz hg.size, (hl _ (by decide)).trans h.obo, (hl _ (by decide)).trans h.obl, (hl _ (by decide)).trans h.obp, (hl _ (by decide)).trans h.obr,
    (hl _ (by decide)).trans h.obw, (hl _ (by decide)).trans h.obc, h.rao.of_block (hl _ (by decide)), h.ral.of_block (hl _ (by decide)), h.ran.of_block (hl _ (by decide)),
    h.rap.of_block (hl _ (by decide)), own3_grown h.owr hgv hg, own3_grown h.oww hgv hg, h.disj⟩
theorem shut_step {opn opn' : Nat → Bool} {S : List Nat} {k b : Nat} (hk : k < S.length) (hb : S.getD k 0 = b) (h : ∀ v, opn' v = (opn v && !decide (v ∈ S.take k))) : ∀ v, Tj.upd opn' b false v = (opn v && !decide (v ∈ S.take (k + 1))) := by
  intro v
  rw [List.take_succ_eq_append_getElem hk]
  have e : S[k] = b := by rw [← hb, List.getD_eq_getElem?_getD, List.getElem?_eq_getElem hk]; rfl
  unfold Tj.upd
  by_cases hv : v = b
  · subst hv; simp [e]
  · rw [if_neg hv, h v, e]; simp [hv]
theorem ivals_one (l : List Nat) : ∀ u ∈ l.map ival, u.oneCell' = true := by
  intro u hu
  obtain ⟨x, _, rfl⟩ := List.mem_map.1 hu
  rfl
theorem split_at {pr T : List Nat} {a j : Nat} (haT : a ∉ T) (hj : pr.length ≤ j) (hl : j < (pr ++ a :: T).length) : (j = pr.length ∧ (pr ++ a :: T).getD j 0 = a) ∨ (pr.length < j ∧ (pr ++ a :: T).getD j 0 ≠ a) := by
  by_cases e : j = pr.length
  · subst e; left; simp
  · right
    refine ⟨by omega, ?_⟩
    obtain ⟨t, rfl⟩ : ∃ t, j = pr.length + 1 + t := ⟨j - pr.length - 1, by omega⟩
    have ht : t < T.length := by simp at hl; omega
    rw [List.getD_eq_getElem?_getD, List.getElem?_append_right (by omega)]
    have e2 : pr.length + 1 + t - pr.length = t + 1 := by omega
    rw [e2, List.getElem?_cons_succ, List.getElem?_eq_getElem ht, Option.getD_some]
    intro h
    exact haT (h ▸ List.getElem_mem ht)

/-- where a group has been laid: the stacks cut, the group's activities shut, the group in a row of its own, the list of groups longer by it -/
structure GroupEnd (K : Blks) (n : Nat) (ord low nxt : Nat → Nat) (opn : Nat → Bool) (pr T ys : List Nat) (cnt : Nat) (rv wv gv : Value) (a gk : Nat) (gvs : List Value) (w : World) (gv' : Value) (w' : World) : Prop where
  ex : ∃ opn' rv' wv' g, Mem K n ord low nxt opn' pr ys cnt rv' wv' w' ∧ (∀ v, opn' v = (opn v && !decide (v ∈ a :: T))) ∧
    w'.ownsRow K.base 24 1 gv' (gk + 1) (gvs ++ [g]) ∧ w'.ownsRow K.base 3 1 g (T.length + 1) ((a :: T).map ival) ∧ (∃ b, g.ownBlock = some b ∧ w.heap.size ≤ b) ∧ rv'.ownBlock = rv.ownBlock ∧ wv'.ownBlock = wv.ownBlock ∧
    (gv'.ownBlock = gv.ownBlock ∨ ∃ b, gv'.ownBlock = some b ∧ w.heap.size ≤ b) ∧
    w'.os = w.os ∧ w'.tape = w.tape ∧ w'.output = w.output ∧ w.heap.size ≤ w'.heap.size ∧
    ∀ b, b < w.heap.size → (∀ i, i < 10 → b ≠ K.b i) → some b ≠ rv.ownBlock → some b ≠ wv.ownBlock → some b ≠ gv.ownBlock → w'.heap[b]? = w.heap[b]?

set_option maxHeartbeats 1000000 in
set_option maxRecDepth 100000 in
/-- an activity is done; it heads a group -/
theorem round_group (K : Blks) (n fb fo fc : Nat) (ord low nxt : Nat → Nat) (opn : Nat → Bool) (low' : Nat → Nat) (rl pr T ys : List Nat) (gk : Nat) (gvs : List Value) (cnt : Nat) (rv wv gv : Value) (w : World) (a dg dc : Nat) (fe : Option Addr) (c1 c2 c12 c18 c20 c21 c22 c23 c24 c25 c26 c27 c28 c29 c30 c31 c32 c33 c34 c35 c36 c37 c38 c39 c40 c41 c42 c43 c44 c45 c173 c174 : Value) (u13 u14 u15 u16 u17 u19 u46 u47 u48 u49 u50 u51 u52 u53 u54 u55 u56 u57 u58 u59 u60 u61 u62 u63 u64 u65 u66 u67 u68 u69 u70 u71 u72 u73 u74 u75 u76 u77 u78 u79 u80 u81 u82 u83 u84 u85 u86 u87 u88 u89 u90 u91 u92 u93 u94 u95 u96 u97 u98 u99 u100 u101 u102 u103 u104 u105 u106 u107 u108 u109 u110 u111 u112 u113 u114 u115 u116 u117 u118 u119 u120 u121 u122 u123 u124 u125 u126 u127 u128 u129 u130 u131 u132 u133 u134 u135 u136 u137 u138 u139 u140 u141 u142 u143 u144 u145 u146 u147 u148 u149 u150 u151 u152 u153 u154 u155 u156 u157 u158 u159 u160 u161 u162 u163 u164 u165 u166 u167 u168 u169 u170 u171 u172 : Value)
    (h : Mem K n ord low nxt opn rl (ys ++ [a]) cnt rv wv w) (hn : n ≤ 512) (ha : a < n) (hys : ys.length ≤ 511) (hrl : rl.length ≤ 512) (hge : dg ≤ nxt a) (hnx : nxt a ≤ 32768) (hdg : dg ≤ 32768) (hlo : ∀ v, v = a ∨ v ∈ ys → low v ≤ 512) (hor : ∀ v, ord v ≤ 512)
    (hfr : w.cell? ⟨fb, fo + a, none⟩ = some (.slice fe dg dc)) (hlow : (ys = [] ∧ low' = low) ∨ ∃ zs u, ys = zs ++ [u] ∧ u < n ∧ u ≠ a ∧ low' = Tj.upd low u (min (low u) (low a))) (hno : low a = ord a) (hrs : rl = pr ++ a :: T) (haT : a ∉ T) (hTn : ∀ v, v ∈ T → v < n) (hgv : w.ownsRow K.base 24 1 gv gk gvs) (hgk : gk ≤ 511) :
    Code.wp Try.prog ((Try.f7.body.bind firstLoop).bind firstLoop |>.getD .skip) (After K n fb fo fc c1 c2 c12 c18 c20 c21 c22 c23 c24 c25 c26 c27 c28 c29 c30 c31 c32 c33 c34 c35 c36 c37 c38 c39 c40 c41 c42 c43 c44 c45 c173 c174 fun gv' w' => GroupEnd K n ord low' nxt opn pr T ys cnt rv wv gv a gk gvs w gv' w') ⟨#[.slice (some ⟨fb, fo, none⟩) n fc, c1, c2, .pointer (some ⟨K.b 0, 0, none⟩), .pointer (some ⟨K.b 1, 0, none⟩), .slice (some ⟨K.b 8, 0, none⟩) n n, .pointer (some ⟨K.b 2, 0, none⟩), .pointer (some ⟨K.b 3, 0, none⟩), .pointer (some ⟨K.b 4, 0, none⟩), gv, .pointer (some ⟨K.b 5, 0, none⟩), .func (.func 8) #[] #[.pointer (some ⟨K.b 5, 0, none⟩), .pointer (some ⟨K.b 0, 0, none⟩), .pointer (some ⟨K.b 1, 0, none⟩), .pointer (some ⟨K.b 2, 0, none⟩), .pointer (some ⟨K.b 3, 0, none⟩), .pointer (some ⟨K.b 4, 0, none⟩)], c12, u13, u14, u15, u16, u17, c18, u19, c20, c21, c22, c23, c24, c25, c26, c27, c28, c29, c30, c31, c32, c33, c34, c35, c36, c37, c38, c39, c40, c41, c42, c43, c44, c45, u46, u47, u48, u49, u50, u51, u52, u53, u54, u55, u56, u57, u58, u59, u60, u61, u62, u63, u64, u65, u66, u67, u68, u69, u70, u71, u72, u73, u74, u75, u76, u77, u78, u79, u80, u81, u82, u83, u84, u85, u86, u87, u88, u89, u90, u91, u92, u93, u94, u95, u96, u97, u98, u99, u100, u101, u102, u103, u104, u105, u106, u107, u108, u109, u110, u111, u112, u113, u114, u115, u116, u117, u118, u119, u120, u121, u122, u123, u124, u125, u126, u127, u128, u129, u130, u131, u132, u133, u134, u135, u136, u137, u138, u139, u140, u141, u142, u143, u144, u145, u146, u147, u148, u149, u150, u151, u152, u153, u154, u155, u156, u157, u158, u159, u160, u161, u162, u163, u164, u165, u166, u167, u168, u169, u170, u171, u172, c173, c174], []⟩ w := by
  have o7 := h.owr
  obtain ⟨rn, hrn⟩ : ∃ rn, rn = rl.length := ⟨_, rfl⟩
  have hr0 : rl.length = pr.length + (T.length + 1) := by rw [hrs]; simp
  rw [← hrn] at o7
  obtain ⟨rg, rcp, rfl⟩ := own_pos o7 (by omega)
  have hcap7 := own_cap o7
  have hr1 : pr.length < rn := by omega
  have hr2 : rn ≤ 512 := by omega
  have HR := hide hrn
  have HR0 := hide hr0
  clear hr0 o7
  have c8 := cell_of_one h.obw
  have f8 := free_of_one h.obw
  have c3 := cell_of_one h.obo
  have c4 := cell_of_one h.obl
  have o8 := h.oww
  rw [List.length_append, List.length_singleton] at o8
  obtain ⟨wg, wcp, rfl⟩ := own_some o8
  have l8 := own_last o8
  have rnx := h.ran.cell ha
  have rla := h.ral.cell ha
  have oy : w.ownsRow K.base 3 1 (.slice (some ⟨wg, 0, none⟩) ys.length wcp) ys.length (ys.map ival) := ownsRow_pop (last := [ival a]) (by simp) (by simpa using o8)
  have HM1 := hide (fun k => (h.drewN k).setWalk (wl' := ys) (wv' := .slice (some ⟨wg, 0, none⟩) ys.length wcp) (World.grownBy.refl (w.drewN k) _) oy (.inl rfl))
  have HK1 := hide (fun k => (((Kept.refl K (.slice (some ⟨rg, 0, none⟩) rn rcp) (.slice (some ⟨wg, 0, none⟩) (ys.length + 1) wcp) w).drewN k).grownW (wv2 := .slice (some ⟨wg, 0, none⟩) ys.length wcp) (World.grownBy.refl (w.drewN k) _) (.inl rfl)).set 4 (by decide) 0 (.slice (some ⟨wg, 0, none⟩) ys.length wcp))
  have hcap := own_cap o8
  have hge' : ¬ ((nxt a : Nat) : Int) < (dg : Int) := by omega
  have d : ∀ i j, i < 10 → j < 10 → i ≠ j → K.b i ≠ K.b j := h.dist
  have d40 : (K.b 4 = K.b 0) = False := eq_false (d 4 0 (by decide) (by decide) (by decide))
  have d04 : (K.b 0 = K.b 4) = False := eq_false (d 0 4 (by decide) (by decide) (by decide))
  have d41 : (K.b 4 = K.b 1) = False := eq_false (d 4 1 (by decide) (by decide) (by decide))
  have d14 : (K.b 1 = K.b 4) = False := eq_false (d 1 4 (by decide) (by decide) (by decide))
  have d46 : (K.b 4 = K.b 6) = False := eq_false (d 4 6 (by decide) (by decide) (by decide))
  have d64 : (K.b 6 = K.b 4) = False := eq_false (d 6 4 (by decide) (by decide) (by decide))
  have d47 : (K.b 4 = K.b 7) = False := eq_false (d 4 7 (by decide) (by decide) (by decide))
  have d74 : (K.b 7 = K.b 4) = False := eq_false (d 7 4 (by decide) (by decide) (by decide))
  clear d
  have HL := hide hlow
  have HNO := hide hno
  have HH := hide h
  have HLO := hide hlo
  have HOR := hide hor
  have HGV := hide hgv
  have HM0 := hide h
  have HRS := hide hrs
  have HTN := hide hTn
  have HAT := hide haT
  clear hlow h hlo hor hno hgv hrs hTn haT hrn
  conv => arg 2; whnf
  go_wp2
  go_quiet (fail)
  go_upto_if 113 with fail
  have M1 := unhide HM1 nq
  have K1 := unhide HK1 nq
  clear HM1 HK1 c8 f8 c3 c4 o8 l8 rla oy rnx hfr
  generalize hw1 : World.setCell _ _ _ = w1 at M1 K1 ⊢
  clear hw1
  have HM1 := hide M1
  have HK1 := hide K1
  have c8 := cell_of_one M1.obw
  have oy := M1.oww
  clear M1 K1
  go_cut [13, 15] from 46 to 172 (fun s13 s15 w' => s13 = .int .i64 a ∧ Mem K n ord low' nxt opn rl ys cnt (.slice (some ⟨rg, 0, none⟩) rn rcp) (.slice (some ⟨wg, 0, none⟩) ys.length wcp) w' ∧ Kept K (.slice (some ⟨rg, 0, none⟩) rn rcp) (.slice (some ⟨wg, 0, none⟩) (ys.length + 1) wcp) (.slice (some ⟨rg, 0, none⟩) rn rcp) (.slice (some ⟨wg, 0, none⟩) ys.length wcp) w w')
  case first =>
    rcases unhide HL with ⟨hy, hl'⟩ | ⟨zs, u, hy, hu, hua, hl'⟩
    · subst hy
      subst hl'
      go_wp2
      go_meet
      case rel => exact ⟨rfl, unhide HM1, unhide HK1⟩
    · have hpos : 0 < ys.length := by rw [hy]; simp
      have cu : w1.cell? ⟨wg, ys.length - 1, none⟩ = some (.int .i64 u) := by
        have e1 : ys.length - 1 = zs.length := by rw [hy]; simp
        rw [e1, oy.cellAt zs.length (by rw [hy]; simp)]
        rw [hy]; simp [ival]
      have rlu := (unhide HM1).ral.cell hu
      have flu := (unhide HM1).ral.frozen u
      have rla := (unhide HM1).ral.cell ha
      have c4 := cell_of_one (unhide HM1).obl
      have hlu := unhide HLO u (.inr (by rw [hy]; simp))
      have hla := unhide HLO a (.inl rfl)
      have hmin : (low u ≤ low a ∧ min (low u) (low a) = low u) ∨ (low a < low u ∧ min (low u) (low a) = low a) := by omega
      have HL' := hide hl'
      clear hl' hy hua
      rcases hmin with ⟨hle, hmin⟩ | ⟨hle, hmin⟩
      all_goals
        have HMI := hide hmin
        clear hmin
        go_wp2
        go_still_tail 11, Try.mixed
        rw [World.drew_eq w1]
        go_wp2_with fail
        go_meet
        case rel =>
          refine ⟨rfl, ?_, ((unhide HK1).set 7 (by decide) u _).drew⟩
          rw [unhide HL']
          try rw [unhide HMI]
          exact ((unhide HM1).setLow u _).drew
  case rest =>
    obtain ⟨rfl, hM, hK⟩ := hcut
    have HM2 := hide hM
    have HK2 := hide hK
    have rla := hM.ral.cell ha
    have roa := hM.rao.cell ha
    have c4 := cell_of_one hM.obl
    have c3 := cell_of_one hM.obo
    have c7 := cell_of_one hM.obr
    have hye : (((low' a : Nat) : Int) == ((ord a : Nat) : Int)) = true := by
      have e : low' a = low a := by
        rcases unhide HL with ⟨_, e⟩ | ⟨zs, u, _, _, hua, e⟩
        · rw [e]
        · rw [e, Tj.upd_ne _ _ (fun h => hua h.symm)]
      rw [e]
      have := unhide HNO
      simp
      omega
    have o7 := hM.owr
    rw [← unhide HR] at o7
    have HO7 := hide o7
    clear hM hK HM1 HK1 c8 oy o7
    go_wp2
    go_quiet (fail)
    go_wp2
    go_loop [16] (fun i => ∃ j : Nat, pr.length ≤ j ∧ j < rn ∧ i = .int .i64 j) (fun i => (intOf i).toNat)
    case atStart => exact ⟨rn - 1, by omega, by omega, by go_num⟩
    case round =>
      obtain ⟨j, hj1, hj2, rfl⟩ := hrel
      have cj := own_cell (unhide HO7) hj2
      have hsp := split_at (j := j) (unhide HAT) hj1 (by rw [← unhide HRS, ← unhide HR]; exact hj2)
      rw [← unhide HRS] at hsp
      generalize rl.getD j 0 = xj at cj hsp
      rcases hsp with ⟨hj, hx⟩ | ⟨hj, hx⟩
      · rw [hx] at cj
        clear hx
        subst hj
        have hml : ((a :: T).map ival).length = rn - pr.length := by have := unhide HR; have := unhide HR0; simp; omega
        have HML := hide hml
        clear hml
        have hmx : rn - pr.length ≤ maxLen := by unfold maxLen; omega
        have hbs := (unhide HM2).sz
        go_wp2_with (at_builtin; refine wpList_push _ rfl (.const (.slice none 0 0)) (.tmp 154) 24 rfl K.base 3 (.int .i64 0) 8 Try.underlying24 Try.info3 rfl (.slice none 0 0) 0 [] rfl (World.ownsRow_nil _ _ _ _) ⟨rg, pr.length, none⟩ (rn - pr.length) (rcp - pr.length) ((a :: T).map ival) rfl (by omega) (unhide HML) (own_tail (unhide HO7) (unhide HRS)) (ivals_one _) (by omega) (by omega) (by exact hbs) ?_)
        intro v' w2 ho hg hn'
        have ho : w2.ownsRow K.base 3 1 v' (rn - pr.length) ((a :: T).map ival) := by simpa using ho
        have hvb : v'.ownBlock = some wc.heap.size := by
          obtain ⟨g, c, hv⟩ := own_pos ho (by omega)
          rcases hn' with e | e
          · rw [hv] at e; cases e
          · exact e
        obtain ⟨gg, gcp, rfl⟩ := own_pos ho (by omega)
        have M3 : Mem K n ord low' nxt opn rl ys cnt (.slice (some ⟨rg, 0, none⟩) rn rcp) (.slice (some ⟨wg, 0, none⟩) ys.length wcp) w2 := (unhide HM2).keep hg.size (fun b hb => hg.block b hb (by simp [Value.ownBlock]))
        have K3 := (unhide HK2).trans (⟨hg.os, hg.tape, hg.output, hg.size, fun b hb _ _ _ => hg.block b hb (by simp [Value.ownBlock]), .inl rfl, .inl rfl⟩ : Kept K (.slice (some ⟨rg, 0, none⟩) rn rcp) (.slice (some ⟨wg, 0, none⟩) ys.length wcp) (.slice (some ⟨rg, 0, none⟩) rn rcp) (.slice (some ⟨wg, 0, none⟩) ys.length wcp) wc w2)
        have hSl : (a :: T).length = rn - pr.length := by have := unhide HML; simpa using this
        have HSL := hide hSl
        have hgv2 := own24_kept (unhide HGV) (unhide HM0) K3
        have HM3 := hide M3
        have HK3 := hide K3
        have HO := hide ho
        have HG2 := hide hgv2
        have HVB := hide hvb
        have hbs2 := M3.sz
        clear hvb hSl M3 K3 ho hgv2 hn' hg
        go_wp2_with fail
        go_loopw [158] (fun i wr => ∃ (k : Nat) (opn' : Nat → Bool), k ≤ rn - pr.length ∧ i = .int .i64 k ∧ Mem K n ord low' nxt opn' rl ys cnt (.slice (some ⟨rg, 0, none⟩) rn rcp) (.slice (some ⟨wg, 0, none⟩) ys.length wcp) wr ∧ (∀ v, opn' v = (opn v && !decide (v ∈ (a :: T).take k))) ∧
          wr.ownsRow K.base 3 1 (.slice (some ⟨gg, 0, none⟩) (rn - pr.length) gcp) (rn - pr.length) ((a :: T).map ival) ∧ wr.ownsRow K.base 24 1 gv gk gvs ∧ Kept K (.slice (some ⟨rg, 0, none⟩) rn rcp) (.slice (some ⟨wg, 0, none⟩) (ys.length + 1) wcp) (.slice (some ⟨rg, 0, none⟩) rn rcp) (.slice (some ⟨wg, 0, none⟩) ys.length wcp) w wr ∧ w2.heap.size ≤ wr.heap.size) (fun i _ => rn - (intOf i).toNat)
        case atStart => exact ⟨0, opn, Nat.zero_le _, rfl, unhide HM3, fun v => by simp, unhide HO, unhide HG2, unhide HK3, Nat.le_refl _⟩
        case round =>
          obtain ⟨k, opn', hk, rfl, hM, hop, ho, hgv, hK, hsz⟩ := hrel
          by_cases hkl : k < rn - pr.length
          · have ck := own_cell ho hkl
            have hbn : (a :: T).getD k 0 < n := by
              have hmem : (a :: T).getD k 0 ∈ a :: T := by
                rw [List.getD_eq_getElem?_getD, List.getElem?_eq_getElem (by rw [unhide HSL]; exact hkl), Option.getD_some]
                exact List.getElem_mem _
              rcases List.mem_cons.1 hmem with e | e
              · rw [e]; exact ha
              · exact unhide HTN _ e
            have hst := shut_step (b := (a :: T).getD k 0) (by rw [unhide HSL]; exact hkl) rfl hop
            generalize (a :: T).getD k 0 = b at ck hbn hst
            have c6 := cell_of_one hM.obp
            have r9 := hM.rap.cell hbn
            have f9 := hM.rap.frozen b
            have hlb := hM.lb 9 (by decide)
            have HS := hide (And.intro (hM.setOpn b false) (And.intro hst (And.intro (own_set (i := b) ho hlb (.bool false)) (And.intro (own_set (i := b) hgv hlb (.bool false)) (hK.set 9 (by decide) b (.bool false))))))
            clear hM hop ho hgv hK hst
            go_wp2
            go_roundw
            case rel => exact ⟨k + 1, _, by omega, by go_num, (unhide HS).1, (unhide HS).2.1, (unhide HS).2.2.1, (unhide HS).2.2.2.1, (unhide HS).2.2.2.2, by simpa using hsz⟩
            case measure => simp [intOf]; omega
          · have c7 := cell_of_one hM.obr
            have f7 := free_of_one hM.obr
            have opx := own_prefix (by have := hM.owr; rw [← unhide HR] at this; exact this) (unhide HRS)
            have HM4 := hide (hM.setReached (rl' := pr) (World.grownBy.refl wr _) opx (.inl rfl))
            have HK4 := hide (hK.set 3 (by decide) 0 (.slice (some ⟨rg, 0, none⟩) pr.length rcp))
            have hop' : ∀ v, opn' v = (opn v && !decide (v ∈ a :: T)) := by
              intro v
              rw [hop v, List.take_of_length_le (by rw [unhide HSL]; omega)]
            have HOP := hide hop'
            have HGV4 := hide (own_set (i := 0) hgv (hM.lb 3 (by decide)) (.slice (some ⟨rg, 0, none⟩) pr.length rcp))
            have HO4 := hide (own_set (i := 0) ho (hM.lb 3 (by decide)) (.slice (some ⟨rg, 0, none⟩) pr.length rcp))
            clear hop hop' hM hK hgv ho opx
            go_upto_region 38 with fail
            have M4 := unhide HM4
            have K4 := unhide HK4
            have G4 := unhide HGV4
            have O4 := unhide HO4
            have hsz4 : w2.heap.size ≤ (wr.setCell ⟨K.b 3, 0, none⟩ (.slice (some ⟨rg, 0, none⟩) pr.length rcp)).heap.size := by simpa using hsz
            clear HM4 HK4 HGV4 HO4 c7 f7 hsz
            generalize hw5 : World.setCell _ _ _ = w5 at M4 K4 G4 O4 hsz4 ⊢
            clear hw5
            have hb5 := M4.sz
            have HM5 := hide M4
            have HK5 := hide K4
            have HG5 := hide G4
            have HO5 := hide O4
            obtain ⟨gva, gvc, rfl⟩ := own_slice G4
            clear M4 K4 O4
            have hm2 : gk + 1 ≤ maxLen := by unfold maxLen; omega
            go_wp2_with (at_builtin; refine wpList_push _ rfl (.tmp 169) (.tmp 171) 22 rfl K.base 24 (.slice none 0 0) 24 Try.underlying22 Try.info24 rfl _ _ _ rfl (G4.alloc _) ⟨w5.heap.size, 0, none⟩ 1 1 [.slice (some ⟨gg, 0, none⟩) (rn - pr.length) gcp] rfl (by decide) rfl (cell_one_new _ _ _) (by intro u hu; simp at hu; subst hu; rfl) (by omega) (by omega) (by simp; omega) ?_)
            intro v2 w6 ho2 hg2 hn2
            have G6 := (unhide HG5).alloc (.cells #[.slice (some ⟨gg, 0, none⟩) (rn - pr.length) gcp] 24)
            have M6 := ((unhide HM5).alloc (.cells #[.slice (some ⟨gg, 0, none⟩) (rn - pr.length) gcp] 24)).grownG G6 hg2
            have O6 := own3_grown ((unhide HO5).alloc (.cells #[.slice (some ⟨gg, 0, none⟩) (rn - pr.length) gcp] 24)) G6 hg2
            have K6 := (unhide HK5).alloc (.cells #[.slice (some ⟨gg, 0, none⟩) (rn - pr.length) gcp] 24)
            have hend : GroupEnd K n ord low' nxt opn pr T ys cnt (.slice (some ⟨rg, 0, none⟩) rn rcp) (.slice (some ⟨wg, 0, none⟩) (ys.length + 1) wcp) (.slice gva gk gvc) a gk gvs w v2 w6 := by
              refine ⟨opn', _, _, _, M6, unhide HOP, ho2, ?_, ?_, rfl, rfl, ?_, hg2.os.trans K6.os, hg2.tape.trans K6.tape, hg2.output.trans K6.output, Nat.le_trans K6.size hg2.size, ?_⟩
              · have e : T.length + 1 = rn - pr.length := by have := unhide HSL; simpa using this
                rw [e]; exact O6
              · exact ⟨_, unhide HVB, (unhide HK2).size⟩
              · rcases hn2 with e | e
                · exact .inl e
                · exact .inr ⟨_, e, by have := K6.size; simpa using this⟩
              · intro b hb hKb hr hw hgb
                exact (hg2.block b (Nat.lt_of_lt_of_le hb K6.size) hgb).trans (K6.block b hb hKb hr hw)
            have HE := hide hend
            clear hend M6 O6 K6 G6 ho2 hg2 hn2 G4
            go_wp2
            exact after_mk (unhide HE)
      · have hx' : (((xj : Nat) : Int) != ((a : Nat) : Int)) = true := by simp; omega
        clear hx
        go_wp2
        go_round
        case rel => exact ⟨j - 1, by omega, by omega, by go_num⟩
        case measure => simp [intOf]; omega
end Go.Proofs.Qxb6617531a
