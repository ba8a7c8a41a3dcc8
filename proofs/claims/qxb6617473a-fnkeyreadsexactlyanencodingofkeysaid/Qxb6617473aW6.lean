import Derived.Test.Qxb6617473aW4
import Derived.Test.Qxb6617473aW5
namespace Go.Proofs.Qxb6617473a
open Go.RowKit
set_option linter.unusedVariables false

theorem Bs.below {w w' : World} {a : Option Addr} {n : Nat} {D : Nat → Int} (h : Bs w a n D) (hb : Below w.heap.size w w') : Bs w' a n D := by
  intro i hi
  obtain ⟨b, o, ha, hc⟩ := h i hi
  exact ⟨b, o, ha, by rw [hb.cell (p := ⟨b, o + i, none⟩) (World.block_lt_of_cell? w _ hc)]; exact hc⟩
theorem Rd.below {w w' : World} {R : Nat} {v : Value} {f : Bool} (h : Rd w R v f) (hb : Below w.heap.size w w') : Rd w' R v f := (hb.block R h.lt).trans h
theorem Rd.alloc {w : World} {R : Nat} {v : Value} {f : Bool} (h : Rd w R v f) (o : Obj) : Rd (w.alloc o) R v f := (Below.heap_alloc w o R h.lt).trans h

theorem hd_bounds {n m : Nat} {D : Nat → Int} {x : Int} (h : hd n D = some (m, x)) : 1 ≤ m ∧ m ≤ n := by
  unfold hd at h
  by_cases hn0 : n = 0
  · rw [if_pos hn0] at h; cases h
  rw [if_neg hn0] at h
  by_cases h28 : 28 ≤ D 0
  · rw [if_pos h28] at h; cases h
  rw [if_neg h28] at h
  by_cases h24 : D 0 < 24
  · rw [if_pos h24] at h
    simp at h
    omega
  rw [if_neg h24] at h
  by_cases hs : n < 1 + szOf (D 0)
  · rw [if_pos hs] at h; cases h
  rw [if_neg hs] at h
  simp at h
  omega

set_option maxHeartbeats 1000000 in
theorem law_small (a0 : Option Addr) (n c : Nat) (D : Nat → Int) (f : Bool) (k : Int) (W : World) (hD : Bs W a0 n D) (hm : n ≤ 1048576) (ha0 : a0 = none → n = 0) (h0 : 0 ≤ k) (h1 : k < 18446744073709551616) (hby : ∀ i, i < n → 0 ≤ D i ∧ D i < 256) :
    Calls Try.prog 3 #[.slice a0 n c, .bool f, .int .u64 k] W fun e w' => e = .returned (.bool true) ∧ Below W.heap.size W w' := by
  have hdm : decide (n ≤ 1048576) = true := decide_eq_true hm
  have HBY := hide hby
  clear hby
  have MB := hide (bytes_any a0 n c f k W (by omega))
  have MC1 := hide (clone_any a0 n c D W hD hm ha0)
  go_enter Try.func3, Try.ntmps3
  go_wp2_with fail
  refine (unhide MB).mono ?_
  rintro e w' ⟨rfl, hw'⟩
  obtain rfl := hw'.symm
  go_wp2_with fail
  refine (unhide MC1).mono ?_
  rintro e w1 ⟨⟨a1, rfl, B1, n1⟩, bel1⟩
  have MC2 := hide (clone_any a1 n n D w1 B1 hm n1)
  go_wp2_with fail
  refine (unhide MC2).mono ?_
  rintro e w2 ⟨⟨a2, rfl, B2, n2⟩, bel2⟩
  go_wp2_with fail
  refine (new_any (.slice a2 n n) f w2 ⟨_, _, _, rfl⟩).mono ?_
  rintro e w3 ⟨rfl, hw3⟩
  have rd3 : Rd w3 w2.heap.size (.slice a2 n n) f := by rw [hw3]; exact Rd.new w2 _ _
  have B13 : Bs w3 a1 n D := by rw [hw3]; exact (B1.below bel2).alloc _
  have B23 : Bs w3 a2 n D := by rw [hw3]; exact B2.alloc _
  have bel3 : Below W.heap.size W w3 := by
    rw [hw3]
    exact (bel1.trans (bel2.mono bel1.size)).alloc (Nat.le_trans bel1.size bel2.size) _
  have hRW : W.heap.size ≤ w2.heap.size := Nat.le_trans bel1.size bel2.size
  clear hw3 bel1 bel2 B1 B2
  generalize w2.heap.size = R1 at *
  have MC3 := hide (clone_any a1 n n D w3 B13 hm n1)
  go_wp2_with fail
  refine (unhide MC3).mono ?_
  rintro e w4 ⟨⟨a3, rfl, B3, n3⟩, bel4⟩
  go_wp2_with fail
  refine (new_any (.slice a3 n n) f w4 ⟨_, _, _, rfl⟩).mono ?_
  rintro e w5 ⟨rfl, hw5⟩
  have rd5 : Rd w5 w4.heap.size (.slice a3 n n) f := by rw [hw5]; exact Rd.new w4 _ _
  have rd15 : Rd w5 R1 (.slice a2 n n) f := by rw [hw5]; exact (rd3.below bel4).alloc _
  have B15 : Bs w5 a1 n D := by rw [hw5]; exact (B13.below bel4).alloc _
  have B25 : Bs w5 a2 n D := by rw [hw5]; exact (B23.below bel4).alloc _
  have B35 : Bs w5 a3 n D := by rw [hw5]; exact B3.alloc _
  have hne : w4.heap.size ≠ R1 := by have := rd3.lt; have := bel4.size; omega
  have bel5 : Below W.heap.size W w5 := by
    rw [hw5]
    exact (bel3.trans (bel4.mono bel3.size)).alloc (Nat.le_trans bel3.size bel4.size) _
  have hRW2 : W.heap.size ≤ w4.heap.size := Nat.le_trans bel3.size bel4.size
  clear hw5 bel3 bel4 B13 B23 B3 rd3
  generalize w4.heap.size = R2 at *
  have hsz5 : W.heap.size ≤ w5.heap.size := bel5.size
  cases f with
  | true =>
    have MK := hide (key_failed R1 _ k w5 rd15)
    go_wp2_with fail
    refine (unhide MK).mono ?_
    rintro e w6 ⟨rfl, rd16, g6⟩
    have rd6 := rd5.kept g6 (by simpa using hne)
    have B16 := B15.grown rd15 (sl_ne _ _ _) g6
    have B26 := B25.grown rd15 (sl_ne _ _ _) g6
    have B36 := B35.grown rd15 (sl_ne _ _ _) g6
    have bel6 : Below W.heap.size W w6 := bel5.grown g6 hsz5 (fun k e => by cases e; exact hRW)
    clear rd5 B15 B25 B35 bel5 rd15 g6
    go_wp2_with fail
    refine (data_any R1 _ _ w6 rd16 ⟨_, _, _, rfl⟩).mono ?_
    rintro e w' ⟨rfl, hw'⟩
    obtain rfl := hw'.symm
    go_wp2_with fail
    refine (failed_any R1 _ _ w6 rd16).mono ?_
    rintro e w' ⟨rfl, hw'⟩
    obtain rfl := hw'.symm
    go_wp2_with fail
    refine (uint_no R2 a3 n n true D w6 rd6 B36 hm (unhide HBY) (.inl rfl)).mono ?_
    rintro e w7 ⟨rfl, rd7, g7⟩
    have B17 := B16.grown rd6 (sl_ne _ _ _) g7
    have B27 := B26.grown rd6 (sl_ne _ _ _) g7
    have bel7 : Below W.heap.size W w7 := bel6.grown g7 bel6.size (fun k e => by cases e; exact hRW2)
    clear B16 B26 B36 rd6 rd16 bel6 g7
    go_wp2_with fail
    refine (data_any R2 _ _ w7 rd7 ⟨_, _, _, rfl⟩).mono ?_
    rintro e w' ⟨rfl, hw'⟩
    obtain rfl := hw'.symm
    go_wp2_with fail
    refine (failed_any R2 _ _ w7 rd7).mono ?_
    rintro e w' ⟨rfl, hw'⟩
    obtain rfl := hw'.symm
    go_wp2_with fail
    refine (hk_any a1 n n D k w7 B17 hm h0 h1 (unhide HBY)).mono ?_
    rintro e w' ⟨rfl, hw'⟩
    obtain rfl := hw'.symm
    generalize (hk n D k).1 = m0
    generalize (hk n D k).2 = f0
    cases f0
    all_goals
      go_wp2_with fail
      refine (same_any a2 a1 n n n n D D w7 B27 B17 hm hm).mono ?_
      rintro e w' ⟨rfl, nq, rfl⟩
      have hs : sameB n n D D = true := by simp [sameB]
      go_wp2
      go_ret
      exact ⟨rfl, bel7.trans ⟨rfl, rfl, rfl, Nat.le_refl _, fun _ _ => rfl⟩⟩
  | false =>
    rcases hx : hd n D with _ | ⟨m, x⟩
    · have HK : Hid (hk n D k = (0, false)) := by show hk n D k = (0, false); unfold hk; rw [hx]
      have HX := hide hx
      clear hx
      go_wp2_with fail
      refine (key_no R1 a2 n n D k w5 rd15 B25 hm (unhide HBY) (unhide HX)).mono ?_
      rintro e w6 ⟨rfl, rd16, g6⟩
      have rd6 := rd5.kept g6 (by simpa using hne)
      have B16 := B15.grown rd15 (sl_ne _ _ _) g6
      have B26 := B25.grown rd15 (sl_ne _ _ _) g6
      have B36 := B35.grown rd15 (sl_ne _ _ _) g6
      have bel6 : Below W.heap.size W w6 := bel5.grown g6 hsz5 (fun k e => by cases e; exact hRW)
      clear rd5 B15 B25 B35 bel5 rd15 g6
      go_wp2_with fail
      refine (data_any R1 _ _ w6 rd16 ⟨_, _, _, rfl⟩).mono ?_
      rintro e w' ⟨rfl, hw'⟩
      obtain rfl := hw'.symm
      go_wp2_with fail
      refine (failed_any R1 _ _ w6 rd16).mono ?_
      rintro e w' ⟨rfl, hw'⟩
      obtain rfl := hw'.symm
      go_wp2_with fail
      refine (uint_no R2 a3 n n false D w6 rd6 B36 hm (unhide HBY) (.inr (unhide HX))).mono ?_
      rintro e w7 ⟨rfl, rd7, g7⟩
      have B17 := B16.grown rd6 (sl_ne _ _ _) g7
      have B27 := B26.grown rd6 (sl_ne _ _ _) g7
      have bel7 : Below W.heap.size W w7 := bel6.grown g7 bel6.size (fun k e => by cases e; exact hRW2)
      clear B16 B26 B36 rd6 rd16 bel6 g7
      go_wp2_with fail
      refine (data_any R2 _ _ w7 rd7 ⟨_, _, _, rfl⟩).mono ?_
      rintro e w' ⟨rfl, hw'⟩
      obtain rfl := hw'.symm
      go_wp2_with fail
      refine (failed_any R2 _ _ w7 rd7).mono ?_
      rintro e w' ⟨rfl, hw'⟩
      obtain rfl := hw'.symm
      go_wp2_with fail
      refine (hk_any a1 n n D k w7 B17 hm h0 h1 (unhide HBY)).mono ?_
      rintro e w' ⟨rfl, hw'⟩
      obtain rfl := hw'.symm
      rw [unhide HK]
      go_wp2_with fail
      refine (same_any a2 a1 n n n n D D w7 B27 B17 hm hm).mono ?_
      rintro e w' ⟨rfl, nq, rfl⟩
      have hs : sameB n n D D = true := by simp [sameB]
      go_wp2
      go_ret
      exact ⟨rfl, bel7.trans ⟨rfl, rfl, rfl, Nat.le_refl _, fun _ _ => rfl⟩⟩
    · by_cases hxk : x = k
      · have HK : Hid (hk n D k = (m, true)) := by show hk n D k = (m, true); unfold hk; rw [hx]; simp [hxk]
        subst hxk
        have HX := hide hx
        clear hx
        go_wp2_with fail
        refine (key_yes R1 a2 n n m x D w5 rd15 B25 hm (Nat.le_refl _) hm (unhide HBY) (unhide HX)).mono ?_
        rintro e w6 ⟨a2', ⟨rfl, rd16, g6⟩, B2', n2'⟩
        have rd6 := rd5.kept g6 (by simpa using hne)
        have B16 := B15.grown rd15 (sl_ne _ _ _) g6
        have B26 := B25.grown rd15 (sl_ne _ _ _) g6
        have B36 := B35.grown rd15 (sl_ne _ _ _) g6
        have bel6 : Below W.heap.size W w6 := bel5.grown g6 hsz5 (fun k e => by cases e; exact hRW)
        clear rd5 B15 B25 B35 bel5 rd15 g6
        go_wp2_with fail
        refine (data_any R1 _ _ w6 rd16 ⟨_, _, _, rfl⟩).mono ?_
        rintro e w' ⟨rfl, hw'⟩
        obtain rfl := hw'.symm
        go_wp2_with fail
        refine (failed_any R1 _ _ w6 rd16).mono ?_
        rintro e w' ⟨rfl, hw'⟩
        obtain rfl := hw'.symm
        go_wp2_with fail
        refine (uint_yes R2 a3 n n m x D w6 rd6 B36 hm (Nat.le_refl _) hm (unhide HBY) (unhide HX)).mono ?_
        rintro e w7 ⟨a3', ⟨rfl, rd7, g7⟩, B3', n3'⟩
        have B2'7 := B2'.grown rd6 (sl_ne _ _ _) g7
        have B17 := B16.grown rd6 (sl_ne _ _ _) g7
        have B27 := B26.grown rd6 (sl_ne _ _ _) g7
        have bel7 : Below W.heap.size W w7 := bel6.grown g7 bel6.size (fun k e => by cases e; exact hRW2)
        clear B16 B26 B36 rd6 rd16 bel6 g7
        go_wp2_with fail
        refine (data_any R2 _ _ w7 rd7 ⟨_, _, _, rfl⟩).mono ?_
        rintro e w' ⟨rfl, hw'⟩
        obtain rfl := hw'.symm
        go_wp2_with fail
        refine (failed_any R2 _ _ w7 rd7).mono ?_
        rintro e w' ⟨rfl, hw'⟩
        obtain rfl := hw'.symm
        go_wp2_with fail
        refine (hk_any a1 n n D x w7 B17 hm h0 h1 (unhide HBY)).mono ?_
        rintro e w' ⟨rfl, hw'⟩
        obtain rfl := hw'.symm
        rw [unhide HK]
        have hmn := hd_bounds (unhide HX)
        obtain ⟨b1, o1, rfl, _⟩ := B17 0 (by omega)
        have Bd := B17.drop (m := m) (c := n) (Nat.le_refl _)
        have hs : sameB (n - m) (n - m) (fun i => D (m + i)) (fun i => D (m + i)) = true := by simp [sameB]
        have HS := hide hs
        clear hs
        generalize hEd : (fun i => D (m + i)) = E at *
        clear hEd
        by_cases hnm : n = m
        · subst hnm
          rw [if_pos rfl] at Bd
          rw [Nat.sub_self] at *
          go_wp2_with fail
          refine (same_any a2' _ 0 0 0 0 E E w7 B2'7 Bd (by omega) (by omega)).mono ?_
          rintro e w8 ⟨rfl, nq, rfl⟩
          rw [unhide HS]
          go_wp2_with fail
          refine (same_any a2' a3' 0 0 0 0 E E (w7.drewN nq) B2'7 B3' (by omega) (by omega)).mono ?_
          rintro e w9 ⟨rfl, nq2, rfl⟩
          rw [unhide HS]
          go_wp2
          go_ret
          exact ⟨rfl, bel7.trans ⟨rfl, rfl, rfl, Nat.le_refl _, fun _ _ => rfl⟩⟩
        · rw [if_neg hnm] at Bd
          have hm1 : ¬ m = 0 := by omega
          simp only [Option.map_some, Addr.add, if_neg hm1] at Bd
          go_wp2_with fail
          refine (same_any a2' _ (n - m) (n - m) (n - m) (n - m) E E w7 B2'7 Bd (by omega) (by omega)).mono ?_
          rintro e w8 ⟨rfl, nq, rfl⟩
          rw [unhide HS]
          go_wp2_with fail
          refine (same_any a2' a3' (n - m) (n - m) (n - m) (n - m) E E (w7.drewN nq) B2'7 B3' (by omega) (by omega)).mono ?_
          rintro e w9 ⟨rfl, nq2, rfl⟩
          rw [unhide HS]
          go_wp2
          go_ret
          exact ⟨rfl, bel7.trans ⟨rfl, rfl, rfl, Nat.le_refl _, fun _ _ => rfl⟩⟩
      · have HK : Hid (hk n D k = (0, false)) := by show hk n D k = (0, false); unfold hk; rw [hx]; simp [hxk]
        have hxk' : (x == k) = false := by simp [hxk]
        have HX := hide hx
        clear hx
        go_wp2_with fail
        refine (key_other R1 a2 n n m x D k w5 rd15 B25 hm (Nat.le_refl _) hm (unhide HBY) (unhide HX) hxk).mono ?_
        rintro e w6 ⟨rfl, rd16, g6⟩
        have rd6 := rd5.kept g6 (by simpa using hne)
        have B16 := B15.grown rd15 (sl_ne _ _ _) g6
        have B26 := B25.grown rd15 (sl_ne _ _ _) g6
        have B36 := B35.grown rd15 (sl_ne _ _ _) g6
        have bel6 : Below W.heap.size W w6 := bel5.grown g6 hsz5 (fun k e => by cases e; exact hRW)
        clear rd5 B15 B25 B35 bel5 rd15 g6
        go_wp2_with fail
        refine (data_any R1 _ _ w6 rd16 ⟨_, _, _, rfl⟩).mono ?_
        rintro e w' ⟨rfl, hw'⟩
        obtain rfl := hw'.symm
        go_wp2_with fail
        refine (failed_any R1 _ _ w6 rd16).mono ?_
        rintro e w' ⟨rfl, hw'⟩
        obtain rfl := hw'.symm
        go_wp2_with fail
        refine (uint_yes R2 a3 n n m x D w6 rd6 B36 hm (Nat.le_refl _) hm (unhide HBY) (unhide HX)).mono ?_
        rintro e w7 ⟨a3', ⟨rfl, rd7, g7⟩, B3', n3'⟩
        have B17 := B16.grown rd6 (sl_ne _ _ _) g7
        have B27 := B26.grown rd6 (sl_ne _ _ _) g7
        have bel7 : Below W.heap.size W w7 := bel6.grown g7 bel6.size (fun k e => by cases e; exact hRW2)
        clear B16 B26 B36 rd6 rd16 bel6 g7
        go_wp2_with fail
        refine (data_any R2 _ _ w7 rd7 ⟨_, _, _, rfl⟩).mono ?_
        rintro e w' ⟨rfl, hw'⟩
        obtain rfl := hw'.symm
        go_wp2_with fail
        refine (failed_any R2 _ _ w7 rd7).mono ?_
        rintro e w' ⟨rfl, hw'⟩
        obtain rfl := hw'.symm
        go_wp2_with fail
        refine (hk_any a1 n n D k w7 B17 hm h0 h1 (unhide HBY)).mono ?_
        rintro e w' ⟨rfl, hw'⟩
        obtain rfl := hw'.symm
        rw [unhide HK]
        go_wp2_with fail
        refine (same_any a2 a1 n n n n D D w7 B27 B17 hm hm).mono ?_
        rintro e w' ⟨rfl, nq, rfl⟩
        have hs : sameB n n D D = true := by simp [sameB]
        go_wp2
        go_ret
        exact ⟨rfl, bel7.trans ⟨rfl, rfl, rfl, Nat.le_refl _, fun _ _ => rfl⟩⟩
end Go.Proofs.Qxb6617473a
