import Derived.Test.Qxb6617558aBs
namespace Go.Proofs.Qxb6617558a
open Go.RowKit Go.Maps
set_option linter.unusedVariables false
set_option maxHeartbeats 8000000 in
set_option maxRecDepth 100000 in
theorem bytes_any (L M : Loc) (x y : Ta) (w : World) (ha : Arg w L x) (hok : x.Ok) (hy : Arg w M y) (hok2 : y.Ok) :
    Calls Try.prog 4 #[.agg #[.slice L.sa x.n L.sc, .slice L.va x.m L.vc], .agg #[.slice M.sa y.n M.sc, .slice M.va y.m M.vc]] w fun e w' => BytesPost e w w' := by
  have hmn : x.n ≤ 9223372036854775807 := by have := hok.n; unfold maxLen at this; omega
  have hmm : x.m ≤ 9223372036854775807 := by have := hok.m; unfold maxLen at this; omega
  have hyn : y.n ≤ 9223372036854775807 := by have := hok2.n; unfold maxLen at this; omega
  have hym : y.m ≤ 9223372036854775807 := by have := hok2.m; unfold maxLen at this; omega
  go_enter Try.func4, Try.ntmps4
  go_upto_region 1 with fail
  generalize hwk : World.alloc (World.alloc w _) _ = wk
  have hb1 : Below w.heap.size w wk := by rw [← hwk]; exact ((Below.refl _ w).alloc (Nat.le_refl _) _).alloc (by simp) _
  have c0 : wk.cell? ⟨w.heap.size, 0, none⟩ = some (.slice L.sa x.n L.sc) := by rw [← hwk]; simp
  have c1 : wk.cell? ⟨w.heap.size, 1, none⟩ = some (.slice L.va x.m L.vc) := by rw [← hwk]; simp
  have e0 : wk.cell? ⟨w.heap.size + 1, 0, none⟩ = some (.slice M.sa y.n M.sc) := by rw [← hwk]; simp
  have e1 : wk.cell? ⟨w.heap.size + 1, 1, none⟩ = some (.slice M.va y.m M.vc) := by rw [← hwk]; simp
  clear hwk
  have HA := hide (ha.below hb1)
  have HY := hide (hy.below hb1)
  have HO := hide hok
  have HP := hide hok2
  have HB := hide hb1
  clear ha hok hy hok2 hb1
  generalize hBn : w.heap.size = B at c0 c1 e0 e1 HB ⊢
  generalize B + 1 = B1 at e0 e1 ⊢
  go_upto_region 2 with fail
  by_cases hA1 : 1048576 < x.n
  · go_wp2
    go_ret
    exact bytes_ret false (hBn ▸ unhide HB)
  · have hAb1 : decide ((1048576 : Int) < (x.n : Int)) = false := by simp; omega
    go_upto_region 5 with fail
    go_wp2
    go_loopw [5, 6] (fun a i wr => ∃ (q : Int) (k : Nat), a = .int .i64 q ∧ 0 ≤ q ∧ q ≤ 1048576 ∧ k ≤ x.n ∧ i = .int .i64 k ∧ wk = wr) (fun _ i _ => x.n - (intOf i).toNat)
    case atStart => exact ⟨(x.n : Int), 0, by first | rfl | simp, by omega, by omega, Nat.zero_le _, rfl, rfl⟩
    case round =>
      clear hAb1
      obtain ⟨qa1, ka1, rfl, qa1a, qa1b, ka1a, rfl, rfl⟩ := hrel
      by_cases ka1l : ka1 < x.n
      · obtain ⟨b, o, ea, s1, s2⟩ := (unhide HA).s ka1 ka1l
        have d0 := c0
        rw [ea] at d0
        have hsz : (x.src ka1).size ≤ 9223372036854775807 := by have := (unhide HO).src ka1 ka1l; unfold maxLen at this; omega
        clear ea c0 s2
        go_upto_region 10 with fail
        by_cases hA2 : 1048576 < (x.src ka1).size
        · go_wp2
          go_ret
          exact bytes_ret false (hBn ▸ unhide HB)
        · have hAb2 : decide ((1048576 : Int) < (((x.src ka1).size : Nat) : Int)) = false := by simp; omega
          go_upto_region 13 with fail
          by_cases hD2 : 1048576 < qa1 + (((x.src ka1).size : Nat) : Int)
          · go_wp2
            go_ret
            exact bytes_ret false (hBn ▸ unhide HB)
          · have hDb2 : decide (1048576 < qa1 + (((x.src ka1).size : Nat) : Int)) = false := by simp; omega
            go_wp2
            exact ⟨⟨_, ka1 + 1, rfl, by omega, by omega, by omega, by go_num, by first | rfl | trivial⟩, by simp [intOf]; omega⟩
      · go_upto_region 15 with fail
        by_cases hA3 : 1048576 < x.m
        · go_wp2
          go_ret
          exact bytes_ret false (hBn ▸ unhide HB)
        · have hAb3 : decide ((1048576 : Int) < (x.m : Int)) = false := by simp; omega
          go_upto_region 18 with fail
          by_cases hD3 : 1048576 < qa1 + (x.m : Int)
          · go_wp2
            go_ret
            exact bytes_ret false (hBn ▸ unhide HB)
          · have hDb3 : decide (1048576 < qa1 + (x.m : Int)) = false := by simp; omega
            go_wp2
            go_loopw [5, 7] (fun a i wr => ∃ (q : Int) (k : Nat), a = .int .i64 q ∧ 0 ≤ q ∧ q ≤ 1048576 ∧ k ≤ x.m ∧ i = .int .i64 k ∧ wk = wr) (fun _ i _ => x.m - (intOf i).toNat)
            case atStart => exact ⟨_, 0, rfl, by omega, by omega, Nat.zero_le _, rfl, rfl⟩
            case round =>
              clear hAb3 hDb3
              obtain ⟨qa2, ka2, rfl, qa2a, qa2b, ka2a, rfl, rfl⟩ := hrel
              by_cases ka2l : ka2 < x.m
              · obtain ⟨b, o, ea, s1⟩ := (unhide HA).v ka2 ka2l
                have d1 := c1
                rw [ea] at d1
                have v0 := s1 0 (by decide)
                have v1 := s1 1 (by decide)
                have v3 := s1 3 (by decide)
                have v4 := s1 4 (by decide)
                have v5 := s1 5 (by decide)
                simp [vcell] at v0 v1 v3 v4 v5
                have z0 : (x.vm ka2).src.size ≤ 9223372036854775807 := by have := ((unhide HO).vm ka2 ka2l).src; unfold maxLen at this; omega
                have z1 : (x.vm ka2).id.size ≤ 9223372036854775807 := by have := ((unhide HO).vm ka2 ka2l).id; unfold maxLen at this; omega
                have z2 : (x.vm ka2).nm.size ≤ 9223372036854775807 := by have := ((unhide HO).vm ka2 ka2l).nm; unfold maxLen at this; omega
                have z3 : (x.vm ka2).tn.size ≤ 9223372036854775807 := by have := ((unhide HO).vm ka2 ka2l).tn; unfold maxLen at this; omega
                have z4 : (x.vm ka2).np ≤ 9223372036854775807 := by have := ((unhide HO).vm ka2 ka2l).np; unfold maxLen at this; omega
                clear ea c1 s1
                go_upto_region 23 with fail
                by_cases hA4 : 1048576 < (x.vm ka2).src.size
                · go_wp2
                  go_ret
                  exact bytes_ret false (hBn ▸ unhide HB)
                · have hAb4 : decide ((1048576 : Int) < (((x.vm ka2).src.size : Nat) : Int)) = false := by simp; omega
                  go_upto_region 26 with fail
                  by_cases hD4 : 1048576 < qa2 + (((x.vm ka2).src.size : Nat) : Int)
                  · go_wp2
                    go_ret
                    exact bytes_ret false (hBn ▸ unhide HB)
                  · have hDb4 : decide (1048576 < qa2 + (((x.vm ka2).src.size : Nat) : Int)) = false := by simp; omega
                    go_upto_region 28 with fail
                    by_cases hA5 : 1048576 < (x.vm ka2).id.size
                    · go_wp2
                      go_ret
                      exact bytes_ret false (hBn ▸ unhide HB)
                    · have hAb5 : decide ((1048576 : Int) < (((x.vm ka2).id.size : Nat) : Int)) = false := by simp; omega
                      go_upto_region 31 with fail
                      by_cases hD5 : 1048576 < (qa2 + (((x.vm ka2).src.size : Nat) : Int)) + (((x.vm ka2).id.size : Nat) : Int)
                      · go_wp2
                        go_ret
                        exact bytes_ret false (hBn ▸ unhide HB)
                      · have hDb5 : decide (1048576 < (qa2 + (((x.vm ka2).src.size : Nat) : Int)) + (((x.vm ka2).id.size : Nat) : Int)) = false := by simp; omega
                        go_upto_region 33 with fail
                        by_cases hA6 : 1048576 < (x.vm ka2).nm.size
                        · go_wp2
                          go_ret
                          exact bytes_ret false (hBn ▸ unhide HB)
                        · have hAb6 : decide ((1048576 : Int) < (((x.vm ka2).nm.size : Nat) : Int)) = false := by simp; omega
                          go_upto_region 36 with fail
                          by_cases hD6 : 1048576 < ((qa2 + (((x.vm ka2).src.size : Nat) : Int)) + (((x.vm ka2).id.size : Nat) : Int)) + (((x.vm ka2).nm.size : Nat) : Int)
                          · go_wp2
                            go_ret
                            exact bytes_ret false (hBn ▸ unhide HB)
                          · have hDb6 : decide (1048576 < ((qa2 + (((x.vm ka2).src.size : Nat) : Int)) + (((x.vm ka2).id.size : Nat) : Int)) + (((x.vm ka2).nm.size : Nat) : Int)) = false := by simp; omega
                            go_upto_region 38 with fail
                            by_cases hA7 : 1048576 < (x.vm ka2).tn.size
                            · go_wp2
                              go_ret
                              exact bytes_ret false (hBn ▸ unhide HB)
                            · have hAb7 : decide ((1048576 : Int) < (((x.vm ka2).tn.size : Nat) : Int)) = false := by simp; omega
                              go_upto_region 41 with fail
                              by_cases hD7 : 1048576 < (((qa2 + (((x.vm ka2).src.size : Nat) : Int)) + (((x.vm ka2).id.size : Nat) : Int)) + (((x.vm ka2).nm.size : Nat) : Int)) + (((x.vm ka2).tn.size : Nat) : Int)
                              · go_wp2
                                go_ret
                                exact bytes_ret false (hBn ▸ unhide HB)
                              · have hDb7 : decide (1048576 < (((qa2 + (((x.vm ka2).src.size : Nat) : Int)) + (((x.vm ka2).id.size : Nat) : Int)) + (((x.vm ka2).nm.size : Nat) : Int)) + (((x.vm ka2).tn.size : Nat) : Int)) = false := by simp; omega
                                go_upto_region 43 with fail
                                by_cases hA8 : 1048576 < (x.vm ka2).np
                                · go_wp2
                                  go_ret
                                  exact bytes_ret false (hBn ▸ unhide HB)
                                · have hAb8 : decide ((1048576 : Int) < (((x.vm ka2).np : Nat) : Int)) = false := by simp; omega
                                  go_upto_region 46 with fail
                                  by_cases hD8 : 1048576 < ((((qa2 + (((x.vm ka2).src.size : Nat) : Int)) + (((x.vm ka2).id.size : Nat) : Int)) + (((x.vm ka2).nm.size : Nat) : Int)) + (((x.vm ka2).tn.size : Nat) : Int)) + (((x.vm ka2).np : Nat) : Int)
                                  · go_wp2
                                    go_ret
                                    exact bytes_ret false (hBn ▸ unhide HB)
                                  · have hDb8 : decide (1048576 < ((((qa2 + (((x.vm ka2).src.size : Nat) : Int)) + (((x.vm ka2).id.size : Nat) : Int)) + (((x.vm ka2).nm.size : Nat) : Int)) + (((x.vm ka2).tn.size : Nat) : Int)) + (((x.vm ka2).np : Nat) : Int)) = false := by simp; omega
                                    go_wp2
                                    go_loopw [5, 8] (fun a i wr => ∃ (q : Int) (l : Nat), a = .int .i64 q ∧ 0 ≤ q ∧ q ≤ 1048576 ∧ l ≤ (x.vm ka2).np ∧ i = .int .i64 l ∧ wk = wr) (fun _ i _ => (x.vm ka2).np - (intOf i).toNat)
                                    case atStart => exact ⟨_, 0, rfl, by omega, by omega, Nat.zero_le _, rfl, rfl⟩
                                    case round =>
                                      clear hAb4 hDb4 hAb5 hDb5 hAb6 hDb6 hAb7 hDb7 hAb8 hDb8
                                      obtain ⟨qa3, la3, rfl, qa3a, qa3b, la3a, rfl, rfl⟩ := hrel
                                      by_cases la3l : la3 < (x.vm ka2).np
                                      · obtain ⟨b, o, ea, s1⟩ := (unhide HA).p ka2 la3 ka2l la3l
                                        rw [ea] at v5
                                        have p0 : wk.cell? ⟨b, o + la3 * 10, none⟩ = some (.string ((x.vm ka2).pl la3).tn) := s1 0 (by decide)
                                        have p1 : wk.cell? ⟨b, o + la3 * 10 + 1, none⟩ = some (.string ((x.vm ka2).pl la3).pl) := s1 1 (by decide)
                                        have y0 : ((x.vm ka2).pl la3).tn.size ≤ 9223372036854775807 := by have := (((unhide HO).vm ka2 ka2l).pl la3 la3l).tn; unfold maxLen at this; omega
                                        have y1 : ((x.vm ka2).pl la3).pl.size ≤ 9223372036854775807 := by have := (((unhide HO).vm ka2 ka2l).pl la3 la3l).pl; unfold maxLen at this; omega
                                        clear ea s1
                                        go_upto_region 51 with fail
                                        by_cases hA9 : 1048576 < ((x.vm ka2).pl la3).tn.size
                                        · go_wp2
                                          go_ret
                                          exact bytes_ret false (hBn ▸ unhide HB)
                                        · have hAb9 : decide ((1048576 : Int) < ((((x.vm ka2).pl la3).tn.size : Nat) : Int)) = false := by simp; omega
                                          go_upto_region 54 with fail
                                          by_cases hD9 : 1048576 < qa3 + ((((x.vm ka2).pl la3).tn.size : Nat) : Int)
                                          · go_wp2
                                            go_ret
                                            exact bytes_ret false (hBn ▸ unhide HB)
                                          · have hDb9 : decide (1048576 < qa3 + ((((x.vm ka2).pl la3).tn.size : Nat) : Int)) = false := by simp; omega
                                            go_upto_region 56 with fail
                                            by_cases hA10 : 1048576 < ((x.vm ka2).pl la3).pl.size
                                            · go_wp2
                                              go_ret
                                              exact bytes_ret false (hBn ▸ unhide HB)
                                            · have hAb10 : decide ((1048576 : Int) < ((((x.vm ka2).pl la3).pl.size : Nat) : Int)) = false := by simp; omega
                                              go_upto_region 59 with fail
                                              by_cases hD10 : 1048576 < (qa3 + ((((x.vm ka2).pl la3).tn.size : Nat) : Int)) + ((((x.vm ka2).pl la3).pl.size : Nat) : Int)
                                              · go_wp2
                                                go_ret
                                                exact bytes_ret false (hBn ▸ unhide HB)
                                              · have hDb10 : decide (1048576 < (qa3 + ((((x.vm ka2).pl la3).tn.size : Nat) : Int)) + ((((x.vm ka2).pl la3).pl.size : Nat) : Int)) = false := by simp; omega
                                                go_wp2
                                                exact ⟨⟨_, la3 + 1, rfl, by omega, by omega, by omega, by go_num, by first | rfl | trivial⟩, by simp [intOf]; omega⟩
                                      · go_wp2
                                        exact ⟨⟨_, ka2 + 1, rfl, by omega, by omega, by omega, by go_num, by first | rfl | trivial⟩, by simp [intOf]; omega⟩
              · go_upto_region 61 with fail
                refine bytes_second M y w wk B B1 qa2 _ _ _ _ _ _ _ _ _ _ _ _ _ _ _ _ _ _ _ _ _ _ _ _ _ _ _ _ _ _ _ _ _ _ _ _ _ _ _ _ _ _ _ _ _ _ _ _ _ _ _ _ _ _ _ _ _ _ _ _ _ _ _ _ _ _ _ _ _ _ _ _ _ _ _ _ _ _ _ _ _ _ _ _ _ _ _ _ _ _ _ _ _ _ _ _ _ _ _ _ _ _ _ _ _ _ _ _ _ _ _ _ _ _ _ _ _ _ _ _ _ _ _ _ _ _ _ _ _ _ _ _ _ _ _ _ _ _ _ _ _ _ _ _ _ _ _ _ _ _ _ _ _ _ _ _ _ _ _ _ _ _ _ _ _ _ _ _ _ _ _ _ _ _ _ _ _ _ _ _ _ _ _ _ _ _ _ _ _ _ _ _ _ _ _ _ _ _ _ _ _ _ _ _ _ _ _ _ _ _ _ _ _ _ _ _ _ _ _ _ _ _ _ _ _ _ _ _ _ _ _ _ _ _ _ _ _ _ _ _ _ _ _ _ _ _ _ _ _ _ _ _ _ _ _ _ _ _ _ _ _ _ _ _ _ _ _ _ _ _ _ _ _ _ _ _ _ _ _ _ _ _ _ _ _ _ _ _ _ _ _ _ _ _ _ _ _ _ _ _ _ _ _ _ _ _ _ _ _ _ _ _ _ _ _ _ _ _ _ _ _ _ _ _ _ _ _ _ _ _ _ _ _ _ _ _ _ _ _ _ _ _ _ _ _ _ _ _ _ _ _ _ _ _ _ _ _ _ _ _ _ _ _ _ _ _ _ _ _ _ _ _ _ _ _ _ _ _ _ _ _ _ _ _ _ _ _ _ _ _ _ _ _ _ _ _ _ _ _ _ _ _ _ _ _ _ _ _ _ _ _ _ _ _ _ _ _ _ _ _ _ _ _ _ _ _ _ _ _ _ _ _ _ _ _ _ _ _ _ _ _ _ (by assumption) (by assumption) hBn HB HY HP hyn hym (by omega) (by omega) e0 e1
end Go.Proofs.Qxb6617558a
