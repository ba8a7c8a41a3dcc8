import Derived.Test.Qxb6617531aB
import Derived.Test.Qxb6617531aV
import Derived.Test.Qxb6617531aG
namespace Go.Proofs.Qxb6617531a
open Go.RowKit
set_option linter.unusedVariables false

/-- the table and the queue -/
structure QMem (N R base : Nat) (tab : Nat → Bool) (Q : List Nat) (g cap : Nat) (w0 w : World) : Prop where
  own : w.ownsRow base 3 1 (.slice (some ⟨g, 0, none⟩) Q.length cap) Q.length (Q.map ival)
  row : w.rowIs R 4 N fun i => .bool (tab i)
  bel : Below R w0 w
  lt : R < base
  sz : base ≤ w.heap.size
theorem QMem.set {N R base : Nat} {tab : Nat → Bool} {Q : List Nat} {g cap : Nat} {w0 w : World} (h : QMem N R base tab Q g cap w0 w) (j : Nat) : QMem N R base (Tj.upd tab j true) Q g cap w0 (w.setCell ⟨R, j, none⟩ (.bool true)) :=
  ⟨own_set h.own h.lt _, row_updB h.row, h.bel.setCell (Nat.le_refl _) _, h.lt, by simpa using h.sz⟩
theorem QMem.cut {N R base : Nat} {tab : Nat → Bool} {Q : List Nat} {g cap : Nat} {w0 w : World} (h : QMem N R base tab Q g cap w0 w) : QMem N R base tab [] g cap w0 w :=
  ⟨own_prefix (pr := []) h.own rfl, h.row, h.bel, h.lt, h.sz⟩
theorem QMem.push {N R base : Nat} {tab : Nat → Bool} {Q : List Nat} {g cap : Nat} {w0 w w' : World} {v : Value} {o : Obj} (x : Nat) (h : QMem N R base tab Q g cap w0 w) (hb : R ≤ w.heap.size) (ho : w'.ownsRow base 3 1 v (Q.length + 1) (Q.map ival ++ [ival x])) (hg : (w.alloc o).grownBy w' (some g)) (hgb : base ≤ g) :
    ∃ g' cap', v = .slice (some ⟨g', 0, none⟩) (Q ++ [x]).length cap' ∧ QMem N R base tab (Q ++ [x]) g' cap' w0 w' := by
  obtain ⟨g', c', hv⟩ := own_pos ho (by omega)
  refine ⟨g', c', by rw [hv]; simp, ?_, ?_, ?_, h.lt, ?_⟩
  · rw [hv] at ho; simpa using ho
  · have hR := h.row.lt
    have := h.lt
    exact (h.row.of_block (Below.heap_alloc w o R hR)).of_block (hg.block R (by simp; omega) (by simp; omega))
  · have := h.lt
    exact (h.bel.alloc hb o).grown hg (by simp; omega) (fun k e => by cases e; omega)
  · have := h.sz; have := hg.size; simp at this; omega

theorem run_make_queue (n : Nat) (h : n ≤ 512) (w : World) :
    (Instr.makeSlice 24 (.int .i64 0) (.int .i64 (n : Int))).run Try.prog w = .ok (.slice (some ⟨w.heap.size, 0, none⟩) 0 n) (w.alloc (.cells (madeCells #[.int .i64 0] n) 3)) := by
  obtain ⟨i, hi, hzz⟩ := Option.map_eq_some_iff.1 Try.info3
  simp only [Prod.mk.injEq] at hzz
  obtain ⟨hz, hs, hb⟩ := hzz
  have hr := run_make (P := Try.prog) w 24 3 i _ Try.underlying24 hi hz .i64 .i64 0 n (Int.le_refl _) (by omega) (by rw [hb]; omega) (by omega)
  simp only [Int.toNat_natCast, hs, Nat.mul_one] at hr
  exact hr
theorem QMem.init (w : World) (N n : Nat) (hn : n ≤ 512) : QMem N w.heap.size (w.heap.size + 1) (fun _ => false) [] (w.heap.size + 1) n w ((w.alloc (.cells (madeCells #[.bool false] N) 4)).alloc (.cells (madeCells #[.int .i64 0] n) 3)) := by
  refine ⟨?_, (World.rowIs_made w (.bool false) N 4).alloc _, ((Below.refl _ _).alloc (Nat.le_refl _) _).alloc (by simp) _, by omega, by simp⟩
  have := World.ownsRow_made (base := w.heap.size + 1) (e := 3) (size := 1) (w.alloc (.cells (madeCells #[.bool false] N) 4)) (madeCells #[.int .i64 0] n) n (by simp) (by unfold maxLen; omega) (by rw [size_madeCells]; omega)
  simpa using this

set_option maxHeartbeats 2000000 in
theorem reachtab_any (a : Option Addr) (n c : Nat) (A : Nat → Option Addr) (L C : Nat → Nat) (Z : Nat → Nat → Int) (w : World) (h : Rows2 w a n A L C Z) (hn : n ≤ 512) (hL : ∀ r, r < n → L r ≤ 32768) (hZ : ∀ r i, r < n → i < L r → 0 ≤ Z r i ∧ Z r i < n) :
    Calls Try.prog 6 #[.slice a n c, .int .i64 n] w fun e w' => ∃ tab, e = .returned (.slice (some ⟨w.heap.size, 0, none⟩) (n * n) (n * n)) ∧ w'.rowIs w.heap.size 4 (n * n) (fun i => .bool (tab i)) ∧ Tj.BOut n L (fun r i => (Z r i).toNat) n tab ∧ Below w.heap.size w w' := by
  have H := hide h
  have HL := hide hL
  have HZ := hide hZ
  clear h hL hZ
  have hN : n * n ≤ 262144 := Nat.mul_le_mul hn hn
  have eN : ((n * n : Nat) : Int) = (n : Int) * (n : Int) := Int.natCast_mul n n
  have hmb := run_make_row' (P := Try.prog) 26 4 (.bool false) 1 Try.underlying26 Try.info4 rfl .i64 .i64 (n * n) (by omega) (by omega)
  rw [eN] at hmb
  have hb2 : (n : Int) * (n : Int) ≤ 262144 := by rw [← eN]; omega
  have hb3 : 0 ≤ (n : Int) * (n : Int) := by rw [← eN]; omega
  clear eN
  have hmq := run_make_queue n hn
  have HQI := hide (QMem.init w (n * n) n hn)
  go_enter Try.func6, Try.ntmps6
  go_wp2
  go_loopg [6, 7] n (fun k q i wr => ∃ (s : Nat) (tab : Nat → Bool) (Q : List Nat) (g cap : Nat), s ≤ n ∧ k = n - s ∧ i = .int .i64 s ∧ q = .slice (some ⟨g, 0, none⟩) Q.length cap ∧ QMem (n * n) w.heap.size (w.heap.size + 1) tab Q g cap w wr ∧ Tj.BOut n L (fun r i => (Z r i).toNat) s tab)
  case atStart => exact ⟨0, _, [], w.heap.size + 1, n, Nat.zero_le _, by omega, rfl, rfl, unhide HQI, Tj.BOut.empty _ _ _⟩
  case round =>
    obtain ⟨s, tab, Q, g, cap, hs, hk, rfl, rfl, hq, ho⟩ := hrel
    have HKK := hide hk
    have HO := hide ho
    clear hk ho HQI hmb hmq
    by_cases hlt : s < n
    · have hil := Tj.idx_lt hlt hlt
      have ei : ((s * n + s : Nat) : Int) = (s : Int) * (n : Int) + (s : Int) := by rw [Int.natCast_add, Int.natCast_mul]
      have hb4 : 0 ≤ (s : Int) * (n : Int) := by omega
      have hb5 : (s : Int) * (n : Int) + (s : Int) < (n : Int) * (n : Int) := by
        have e2 : ((n * n : Nat) : Int) = (n : Int) * (n : Int) := Int.natCast_mul n n
        omega
      have hcap := own_cap hq.own
      have rs := hq.row.cell hil
      have fs := hq.row.frozen (s * n + s)
      have HQ1 := hide (hq.cut.set (s * n + s))
      clear hq
      go_upto_region 8 with fail
      have q1 := unhide HQ1
      clear HQ1 rs fs
      generalize hw1 : World.setCell _ _ _ = w1 at q1 ⊢
      clear hw1
      have o1 := q1.own
      have hb1 := q1.sz
      have HQ1 := hide q1
      have hgb : w.heap.size + 1 ≤ g := (q1.own.lt g rfl).1
      clear q1
      go_wp2_with (at_builtin; refine wpList_push _ rfl (.tmp 32) (.tmp 34) 24 rfl (w.heap.size + 1) 3 (.int .i64 0) 8 Try.underlying24 Try.info3 rfl _ _ _ rfl (o1.alloc _) ⟨w1.heap.size, 0, none⟩ 1 1 [ival s] rfl (by decide) rfl (cell_one_new _ _ _) (ival_one s) (by unfold maxLen; simp) (by simp) (by simp; omega) ?_)
      intro v' w2 ho hg hn'
      obtain ⟨g2, cap2, rfl, q2⟩ := (unhide HQ1).push (o := .cells #[.int .i64 (s : Int)] 3) s (by omega) ho hg hgb
      have HQ2 := hide q2
      have HB := hide ((unhide HO).start hlt)
      clear q2 ho hg hn' o1 HQ1 hgb hcap
      rename World => ws
      go_wp2_with fail
      go_loopg [6, 8] n (fun k q i wr => ∃ (hh : Nat) (tab : Nat → Bool) (Q : List Nat) (g cap : Nat), hh ≤ Q.length ∧ k = n - hh ∧ i = .int .i64 hh ∧ q = .slice (some ⟨g, 0, none⟩) Q.length cap ∧ QMem (n * n) w.heap.size (w.heap.size + 1) tab Q g cap w wr ∧ Tj.BInv n L (fun r i => (Z r i).toNat) s Q tab ∧
        ∀ k', k' < hh → ∀ i', i' < L (Q.getD k' 0) → (Z (Q.getD k' 0) i').toNat ∈ Q)
      case atStart => exact ⟨0, _, [s], g2, cap2, Nat.zero_le _, by omega, rfl, rfl, unhide HQ2, unhide HB, fun k' hk' => absurd hk' (Nat.not_lt_zero k')⟩
      case round =>
        obtain ⟨hh, tab2, Q2, g3, cap3, hhl, hk2, rfl, rfl, hq, hB, hcl⟩ := hrel
        have HK2 := hide hk2
        have HB2 := hide hB
        have HCL := hide hcl
        have hQn := hB.length
        clear hk2 hB hcl HQ2 HB
        by_cases hhl2 : hh < Q2.length
        · have cq := own_cell hq.own hhl2
          have haQ : Q2.getD hh 0 ∈ Q2 := by
            rw [List.getD_eq_getElem?_getD, List.getElem?_eq_getElem hhl2, Option.getD_some]
            exact List.getElem_mem _
          have han := (unhide HB2).lt _ haQ
          obtain ⟨aa, haa⟩ : ∃ aa, aa = Q2.getD hh 0 := ⟨_, rfl⟩
          rw [← haa] at cq haQ han
          have HAA := hide haa
          have HAQ := hide haQ
          have HQM := hide hq
          obtain ⟨⟨b0, o0, ha0, hc⟩, _, hz⟩ := unhide H aa han
          have hLa := unhide HL aa han
          have HZC := hide hz
          clear haa haQ hq hz
          subst ha0
          go_wp2_with fail
          go_loopg [6, 10] (L aa) (fun k q i wr => ∃ (j : Nat) (tab : Nat → Bool) (Q : List Nat) (g cap : Nat), j ≤ L aa ∧ k = L aa - j ∧ i = .int .i64 j ∧ q = .slice (some ⟨g, 0, none⟩) Q.length cap ∧ QMem (n * n) w.heap.size (w.heap.size + 1) tab Q g cap w wr ∧ Tj.BInv n L (fun r i => (Z r i).toNat) s Q tab ∧
            (∃ R, Q = Q2 ++ R) ∧ ∀ i', i' < j → (Z aa i').toNat ∈ Q)
          case atStart => exact ⟨0, tab2, Q2, g3, cap3, Nat.zero_le _, by omega, rfl, rfl, unhide HQM, unhide HB2, ⟨[], by simp⟩, fun i' hi' => absurd hi' (Nat.not_lt_zero i')⟩
          case round =>
            obtain ⟨j, tab3, Q3, g4, cap4, hj, hk3, rfl, rfl, hq, hB, hpre, hed⟩ := hrel
            have HK3 := hide hk3
            have HB3 := hide hB
            have HPR := hide hpre
            have HED := hide hed
            have hQ3 := hB.length
            have lt0 : b0 < w.heap.size := World.block_lt_of_cell? w _ hc
            have c0 : wr.cell? ⟨b0, o0 + aa, none⟩ = some (.slice (A aa) (L aa) (C aa)) := by rw [hq.bel.cell (p := ⟨b0, o0 + aa, none⟩) lt0]; exact hc
            clear hk3 hB hpre hed
            by_cases hjl : j < L aa
            · obtain ⟨e0, q0, he0, hz0⟩ := unhide HZC j hjl
              have hzb := unhide HZ aa j han hjl
              have c1 : wr.cell? ⟨e0, q0 + j, none⟩ = some (.int .i64 (Z aa j)) := by rw [hq.bel.cell (p := ⟨e0, q0 + j, none⟩) (World.block_lt_of_cell? w _ hz0)]; exact hz0
              rw [he0] at c0
              obtain ⟨bb, hbb⟩ : ∃ bb : Nat, Z aa j = (bb : Int) := ⟨(Z aa j).toNat, by omega⟩
              rw [hbb] at c1
              have hbn : bb < n := by omega
              have HBB : Hid ((Z aa j).toNat = bb) := by show _ = _; rw [hbb]; simp
              clear hbb hzb he0 hz0
              have hil2 := Tj.idx_lt hlt hbn
              have ei2 : ((s * n + bb : Nat) : Int) = (s : Int) * (n : Int) + (bb : Int) := by rw [Int.natCast_add, Int.natCast_mul]
              have hb6 : (s : Int) * (n : Int) + (bb : Int) < (n : Int) * (n : Int) := by
                have e2 : ((n * n : Nat) : Int) = (n : Int) * (n : Int) := Int.natCast_mul n n
                omega
              clear ei2
              have rb := hq.row.cell hil2
              have fb := hq.row.frozen (s * n + bb)
              cases htb : tab3 (s * n + bb) with
              | true =>
                rw [htb] at rb
                have HQM3 := hide hq
                have HTB := hide htb
                clear hq htb
                go_wp2
                go_roundg (L aa - (j + 1))
                case measure => have := unhide HK3; omega
                case rel =>
                  refine ⟨j + 1, tab3, Q3, g4, cap4, by omega, rfl, by go_num, rfl, unhide HQM3, unhide HB3, unhide HPR, fun i' hi' => ?_⟩
                  by_cases e : i' = j
                  · subst e
                    rw [unhide HBB]
                    exact ((unhide HB3).row bb hbn).1 (unhide HTB)
                  · exact unhide HED i' (by omega)
              | false =>
                rw [htb] at rb
                have HQ5 := hide (hq.set (s * n + bb))
                have hB5 := (unhide HB3).add (a := aa) (i := j) (by obtain ⟨R, hR⟩ := unhide HPR; rw [hR]; exact List.mem_append.2 (.inl (unhide HAQ))) hjl (by rw [unhide HBB]; exact hbn) (by rw [unhide HBB]; exact htb)
                simp only [unhide HBB] at hB5
                have HB5 := hide hB5
                clear hq htb hB5
                go_upto_region 19 with fail
                have q1 := unhide HQ5
                clear HQ5 rb fb
                generalize hw1 : World.setCell _ _ _ = w1 at q1 ⊢
                clear hw1
                have o1 := q1.own
                have hb1 := q1.sz
                have HQ1 := hide q1
                have hgb : w.heap.size + 1 ≤ g4 := (q1.own.lt g4 rfl).1
                have hmx : Q3.length + 1 ≤ maxLen := by unfold maxLen; omega
                clear q1
                go_wp2_with (at_builtin; refine wpList_push _ rfl (.tmp 78) (.tmp 80) 24 rfl (w.heap.size + 1) 3 (.int .i64 0) 8 Try.underlying24 Try.info3 rfl _ _ _ rfl (o1.alloc _) ⟨w1.heap.size, 0, none⟩ 1 1 [ival bb] rfl (by decide) rfl (cell_one_new _ _ _) (ival_one bb) (by omega) (by omega) (by simp; omega) ?_)
                intro v' w2 ho hg hn'
                obtain ⟨g5, cap5, rfl, q2⟩ := (unhide HQ1).push (o := .cells #[.int .i64 (bb : Int)] 3) bb (by omega) ho hg hgb
                have HQ2 := hide q2
                clear q2 ho hg hn' o1 HQ1 hgb
                go_wp2
                go_roundg (L aa - (j + 1))
                case measure => have := unhide HK3; omega
                case rel =>
                  refine ⟨j + 1, _, Q3 ++ [bb], g5, cap5, by omega, rfl, by go_num, rfl, unhide HQ2, unhide HB5, ?_, fun i' hi' => ?_⟩
                  · obtain ⟨R, hR⟩ := unhide HPR
                    exact ⟨R ++ [bb], by rw [hR, List.append_assoc]⟩
                  · by_cases e : i' = j
                    · subst e
                      rw [unhide HBB]
                      simp
                    · exact List.mem_append.2 (.inl (unhide HED i' (by omega)))
            · have HQM3 := hide hq
              clear hq
              go_wp2
              go_roundg (n - (hh + 1))
              case measure => have := unhide HK2; omega
              case rel =>
                obtain ⟨R, hR⟩ := unhide HPR
                have hgd : ∀ k', k' < Q2.length → Q3.getD k' 0 = Q2.getD k' 0 := by
                  intro k' hk'
                  rw [hR, List.getD_eq_getElem?_getD, List.getD_eq_getElem?_getD, List.getElem?_append_left hk']
                refine ⟨hh + 1, tab3, Q3, g4, cap4, by rw [hR]; simp; omega, rfl, by go_num, rfl, unhide HQM3, unhide HB3, fun k' hk' i' hi' => ?_⟩
                rw [hgd k' (by omega)] at hi' ⊢
                by_cases e : k' = hh
                · subst e
                  rw [← unhide HAA] at hi' ⊢
                  exact unhide HED i' (by omega)
                · rw [hR]
                  exact List.mem_append.2 (.inl (unhide HCL k' (by omega) i' hi'))
        · have HQM := hide hq
          clear hq
          go_wp2
          go_roundg (n - (s + 1))
          case measure => have := unhide HKK; omega
          case rel =>
            refine ⟨s + 1, tab2, Q2, g3, cap3, by omega, rfl, by go_num, rfl, unhide HQM, (unhide HB2).done (fun a i ha hi => by have := unhide HZ a i ha hi; omega) (fun k' hk' i' hi' => unhide HCL k' (by omega) i' hi')⟩
    · have e : s = n := by omega
      subst e
      have HQM := hide hq
      clear hq
      go_wp2
      go_ret
      exact ⟨tab, rfl, (unhide HQM).row, unhide HO, (unhide HQM).bel⟩
end Go.Proofs.Qxb6617531a
