import Derived.Test.Qxb6617558aBu
namespace Go.Proofs.Qxb6617558a
open Go.RowKit Go.Maps
set_option linter.unusedVariables false
set_option maxRecDepth 100000 in
theorem zzadd_any (u n : Int) (w : World) (hu : 0 ≤ u) (hn : 0 ≤ n) : Calls Try.prog 11 #[.int .i64 u, .int .i64 n] w fun e w' => ∃ r : Int, e = .returned (.int .i64 r) ∧ 0 ≤ r ∧ r ≤ 2097152 ∧ w' = w := by
  by_cases h1 : 1048576 < u
  · go_enter Try.func11, Try.ntmps11
    go_wp2
    go_ret
    exact ⟨1048577, rfl, by decide, by decide, rfl⟩
  · by_cases h2 : 1048576 < n
    · go_enter Try.func11, Try.ntmps11
      go_wp2
      go_ret
      exact ⟨1048577, rfl, by decide, by decide, rfl⟩
    · go_enter Try.func11, Try.ntmps11
      go_wp2
      go_ret
      exact ⟨u + n, by simp, by omega, by omega, rfl⟩
structure SizePost (x : Ta) (u : Int) (w w' : World) : Prop where
  lo : 0 ≤ u
  hi : u ≤ 2097152
  small : u ≤ 1048576 → x.Small
  below : Below w.heap.size w w'
set_option maxHeartbeats 2000000 in
set_option maxRecDepth 100000 in
theorem size_any (L : Loc) (x : Ta) (u : Int) (w : World) (ha : Arg w L x) (hok : x.Ok) (hu : 0 ≤ u) (hu2 : u ≤ 2097152) :
    Calls Try.prog 5 #[.agg #[.slice L.sa x.n L.sc, .slice L.va x.m L.vc], .int .i64 u] w fun e w' => ∃ r : Int, e = .returned (.int .i64 r) ∧ SizePost x r w w' := by
  have hmn : x.n ≤ 9223372036854775807 := by have := hok.n; unfold maxLen at this; omega
  have hmm : x.m ≤ 9223372036854775807 := by have := hok.m; unfold maxLen at this; omega
  go_enter Try.func5, Try.ntmps5
  go_upto_region 1 with fail
  generalize hwk : World.alloc w _ = wk
  have hb0 : Below w.heap.size w wk := by rw [← hwk]; exact (Below.refl _ w).alloc (Nat.le_refl _) _
  have hx0 : wk.rowIs w.heap.size 25 2 (argf L x) := by rw [← hwk]; exact argf_new w L x
  clear hwk
  have HA := hide (ha.below hb0)
  have HO := hide hok
  have HB := hide hb0
  have c0 : wk.cell? ⟨w.heap.size, 0, none⟩ = some (.slice L.sa x.n L.sc) := hx0.cell (i := 0) (by decide)
  have c1 : wk.cell? ⟨w.heap.size, 1, none⟩ = some (.slice L.va x.m L.vc) := hx0.cell (i := 1) (by decide)
  clear ha hok hb0 hx0
  generalize hBn : w.heap.size = B at c0 c1 HB ⊢
  by_cases hn : 4096 < x.n
  · go_wp2
    go_ret
    exact ⟨1048577, rfl, by decide, by decide, fun h => absurd h (by decide), hBn ▸ unhide HB⟩
  · by_cases hm : 4096 < x.m
    · go_wp2
      go_ret
      exact ⟨1048577, rfl, by decide, by decide, fun h => absurd h (by decide), hBn ▸ unhide HB⟩
    · have hnb : decide ((4096 : Int) < (x.n : Int)) = false := by simp; omega
      have hmb : decide ((4096 : Int) < (x.m : Int)) = false := by simp; omega
      go_upto_region 4 with (go_at_call 11; refine (zzadd_any _ _ _ (by omega) (by omega)).mono ?_; rintro e w2 ⟨r, rfl, r0, r1, rfl⟩)
      by_cases hr : 1048576 < r
      · go_wp2
        go_ret
        exact ⟨r, rfl, r0, r1, fun h => absurd h (by omega), hBn ▸ unhide HB⟩
      · have hrb : decide (1048576 < r) = false := by simp; omega
        go_wp2
        go_loopw [1, 5] (fun a i wr => ∃ (r : Int) (k : Nat), a = .int .i64 r ∧ 0 ≤ r ∧ r ≤ 1048576 ∧ k ≤ x.n ∧ i = .int .i64 k ∧ wr = w2) (fun _ i _ => x.n - (intOf i).toNat)
        case atStart => exact ⟨r, 0, rfl, r0, by omega, Nat.zero_le _, rfl, rfl⟩
        case round =>
          obtain ⟨q, k, rfl, q0, q1, hk, rfl, rfl⟩ := hrel
          by_cases hlt : k < x.n
          · obtain ⟨b, o, ea, s1, s2⟩ := (unhide HA).s k hlt
            have d0 := c0
            rw [ea] at d0
            clear ea c0
            have hsz : (x.src k).size ≤ 9223372036854775807 := by have := (unhide HO).src k hlt; unfold maxLen at this; omega
            go_upto_region 10 with (go_at_call 11; refine (zzadd_any _ _ _ (by omega) (by omega)).mono ?_; rintro e w2 ⟨t, rfl, t0, t1, rfl⟩)
            by_cases ht : 1048576 < t
            · go_wp2
              go_ret
              exact ⟨t, rfl, t0, t1, fun h => absurd h (by omega), hBn ▸ unhide HB⟩
            · have htb : decide (1048576 < t) = false := by simp; omega
              go_wp2
              exact ⟨⟨t, k + 1, rfl, t0, by omega, by omega, by go_num, by first | rfl | trivial⟩, by simp [intOf]; omega⟩
          · go_upto_region 13 with (go_at_call 11; refine (zzadd_any _ _ _ (by omega) (by omega)).mono ?_; rintro e w2 ⟨t, rfl, t0, t1, rfl⟩)
            by_cases ht : 1048576 < t
            · go_wp2
              go_ret
              exact ⟨t, rfl, t0, t1, fun h => absurd h (by omega), hBn ▸ unhide HB⟩
            · have htb : decide (1048576 < t) = false := by simp; omega
              go_wp2
              go_loopw [1, 6] (fun a i wr => ∃ (r : Int) (k : Nat), a = .int .i64 r ∧ 0 ≤ r ∧ r ≤ 1048576 ∧ k ≤ x.m ∧ i = .int .i64 k ∧ (∀ j, j < k → (x.vm j).np ≤ 4096) ∧ wr = w2) (fun _ i _ => x.m - (intOf i).toNat)
              case atStart => exact ⟨t, 0, rfl, t0, by omega, Nat.zero_le _, rfl, fun j hj => absurd hj (by omega), rfl⟩
              case round =>
                clear hrb htb hr ht
                obtain ⟨q, k, rfl, q0, q1, hk, rfl, hsm, rfl⟩ := hrel
                have HSM := hide hsm
                clear hsm
                by_cases hlt : k < x.m
                · obtain ⟨b, o, ea, s1⟩ := (unhide HA).v k hlt
                  have d1 := c1
                  rw [ea] at d1
                  clear ea c1
                  have v0 := s1 0 (by decide)
                  have v1 := s1 1 (by decide)
                  have v2 := s1 2 (by decide)
                  have v3 := s1 3 (by decide)
                  have v4 := s1 4 (by decide)
                  have v5 := s1 5 (by decide)
                  simp [vcell] at v0 v1 v2 v3 v4 v5
                  clear s1
                  have z0 : (x.vm k).src.size ≤ 9223372036854775807 := by have := ((unhide HO).vm k hlt).src; unfold maxLen at this; omega
                  have z1 : (x.vm k).id.size ≤ 9223372036854775807 := by have := ((unhide HO).vm k hlt).id; unfold maxLen at this; omega
                  have z2 : (x.vm k).nm.size ≤ 9223372036854775807 := by have := ((unhide HO).vm k hlt).nm; unfold maxLen at this; omega
                  have z3 : (x.vm k).tn.size ≤ 9223372036854775807 := by have := ((unhide HO).vm k hlt).tn; unfold maxLen at this; omega
                  have z4 : (x.vm k).np ≤ 9223372036854775807 := by have := ((unhide HO).vm k hlt).np; unfold maxLen at this; omega
                  by_cases hnp : 4096 < (x.vm k).np
                  · go_wp2
                    go_ret
                    exact ⟨1048577, rfl, by decide, by decide, fun h => absurd h (by decide), hBn ▸ unhide HB⟩
                  · have hnpb : decide ((4096 : Int) < ((x.vm k).np : Int)) = false := by simp; omega
                    go_upto_region 22 with (go_at_call 11; refine (zzadd_any _ _ _ (by omega) (by omega)).mono ?_; rintro e w2 ⟨f, rfl, f0, f1, rfl⟩)
                    go_upto_region 23 with (go_at_call 11; refine (zzadd_any _ _ _ (by omega) (by omega)).mono ?_; rintro e w2 ⟨g, rfl, g0, g1, rfl⟩)
                    go_upto_region 24 with (go_at_call 11; refine (zzadd_any _ _ _ (by omega) (by omega)).mono ?_; rintro e w2 ⟨h, rfl, h0, h1, rfl⟩)
                    go_upto_region 25 with (go_at_call 11; refine (zzadd_any _ _ _ (by omega) (by omega)).mono ?_; rintro e w2 ⟨j, rfl, j0, j1, rfl⟩)
                    go_upto_region 26 with (go_at_call 11; refine (zzadd_any _ _ _ (by omega) (by omega)).mono ?_; rintro e w2 ⟨t, rfl, t0, t1, rfl⟩)
                    by_cases ht : 1048576 < t
                    · go_wp2
                      go_ret
                      exact ⟨t, rfl, t0, t1, fun h => absurd h (by omega), hBn ▸ unhide HB⟩
                    · have htb : decide (1048576 < t) = false := by simp; omega
                      go_wp2
                      clear v0 v1 v2 v3 v4 v5
                      go_loopw [1, 8] (fun a i wr => ∃ (r : Int) (l : Nat), a = .int .i64 r ∧ 0 ≤ r ∧ r ≤ 1048576 ∧ l ≤ (x.vm k).np ∧ i = .int .i64 l ∧ wr = w2) (fun _ i _ => (x.vm k).np - (intOf i).toNat)
                      case atStart => exact ⟨t, 0, rfl, t0, by omega, Nat.zero_le _, rfl, rfl⟩
                      case round =>
                        obtain ⟨q, l, rfl, q0, q1, hl, rfl, rfl⟩ := hrel
                        by_cases hll : l < (x.vm k).np
                        · obtain ⟨b, o, ea, s1⟩ := (unhide HA).p k l hlt hll
                          have p0 : _ = some (Value.string ((x.vm k).pl l).tn) := s1 0 (by decide)
                          have p1 : _ = some (Value.string ((x.vm k).pl l).pl) := s1 1 (by decide)
                          simp only [Nat.add_zero] at p0
                          have y0 : ((x.vm k).pl l).tn.size ≤ 9223372036854775807 := by have := (((unhide HO).vm k hlt).pl l hll).tn; unfold maxLen at this; omega
                          have y1 : ((x.vm k).pl l).pl.size ≤ 9223372036854775807 := by have := (((unhide HO).vm k hlt).pl l hll).pl; unfold maxLen at this; omega
                          clear s1
                          go_upto_region 32 with (go_at_call 11; refine (zzadd_any _ _ _ (by omega) (by omega)).mono ?_; rintro e w2 ⟨f, rfl, f0, f1, rfl⟩)
                          go_upto_region 33 with (go_at_call 11; refine (zzadd_any _ _ _ (by omega) (by omega)).mono ?_; rintro e w2 ⟨t, rfl, t0, t1, rfl⟩)
                          by_cases ht : 1048576 < t
                          · go_wp2
                            go_ret
                            exact ⟨t, rfl, t0, t1, fun h => absurd h (by omega), hBn ▸ unhide HB⟩
                          · have htb : decide (1048576 < t) = false := by simp; omega
                            go_wp2
                            exact ⟨⟨_, _, _, ⟨t, rfl, t0, by omega, l + 1, by omega, by go_num⟩, rfl, rfl, rfl⟩, by simp [intOf]; omega⟩
                        · go_wp2
                          refine ⟨⟨q, k + 1, rfl, q0, q1, by omega, by go_num, fun a ha => ?_, trivial⟩, by simp [intOf]; omega⟩
                          by_cases e : a = k
                          · subst e; omega
                          · exact unhide HSM a (by omega)
                · have hkm : k = x.m := by omega
                  subst hkm
                  go_wp2
                  go_ret
                  exact ⟨q, rfl, q0, by omega, fun _ => ⟨by omega, by omega, unhide HSM⟩, hBn ▸ unhide HB⟩
end Go.Proofs.Qxb6617558a
