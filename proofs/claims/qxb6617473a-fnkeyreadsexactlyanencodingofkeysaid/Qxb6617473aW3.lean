import Derived.Test.Qxb6617473aW2
namespace Go.Proofs.Qxb6617473a
open Go.RowKit

theorem val_bound7 (k : Nat) (hk : k ≤ 7) (E : Nat → Int) (h : ∀ i, i < k → 0 ≤ E i ∧ E i < 256) : 0 ≤ val k E ∧ val k E < 72057594037927936 := by
  have h0 : 0 < k → _ := h 0
  have h1 : 1 < k → _ := h 1
  have h2 : 2 < k → _ := h 2
  have h3 : 3 < k → _ := h 3
  have h4 : 4 < k → _ := h 4
  have h5 : 5 < k → _ := h 5
  have h6 : 6 < k → _ := h 6
  rcases (show k = 0 ∨ k = 1 ∨ k = 2 ∨ k = 3 ∨ k = 4 ∨ k = 5 ∨ k = 6 ∨ k = 7 from by omega) with rfl | rfl | rfl | rfl | rfl | rfl | rfl | rfl <;> simp only [val] <;> omega

theorem or_join (x y : Int) (hx : 0 ≤ x) (hx' : x < 72057594037927936) (hy : 0 ≤ y) (hy' : y < 256) : bits .or .u64 (x * 256) y = x * 256 + y := by
  rw [u64_or (x * 256) y (by omega) (by omega) hy (by omega)]
  obtain ⟨m, rfl⟩ := Int.eq_ofNat_of_zero_le hx
  obtain ⟨j, rfl⟩ := Int.eq_ofNat_of_zero_le hy
  have e1 : ((m : Int) * 256).toNat = m * 256 := by omega
  rw [e1, Int.toNat_natCast, nat_join 8 (m * 256) j (by omega) (by omega)]
  omega

set_option maxHeartbeats 1000000 in
theorem head_long (R : Nat) (a : Option Addr) (n c : Nat) (D : Nat → Int) (w : World) (h : Rd w R (.slice a n c) false) (hD : Bs w a n D) (hn : 0 < n) (hm : n ≤ 1048576) (hc : n ≤ c) (hcm : c ≤ 1048576) (hby : ∀ i, i < n → 0 ≤ D i ∧ D i < 256) (hb : 24 ≤ D 0) (hb' : D 0 < 28) (hs : 1 + szOf (D 0) ≤ n) :
    Calls Try.prog 13 #[.pointer (some ⟨R, 0, none⟩), .int .u8 0] w fun e w' => HeadYes w R (val (szOf (D 0)) fun i => D (1 + i)) (1 + szOf (D 0)) n c D e w' := by
  have h0 := h.c0
  have h1 := h.c1
  have f0 := h.fz 0
  have e1 : ((n : Int) == 0) = false := by simp; omega
  obtain ⟨b, o, rfl, hc0⟩ := hD 0 hn
  rw [Nat.add_zero] at hc0
  have e2 : (bits BinOp.and IntKind.u8 (D 0) 224 != 0) = false := by simp [and224_lt (D 0) (by omega) (by omega)]
  have e3 := and31_lt (D 0) (by omega) (by omega)
  have hcell : ∀ k, k < szOf (D 0) → w.cell? ⟨b, o + 1 + k, none⟩ = some (.int .u8 (D (1 + k))) := by
    intro k hk
    obtain ⟨b', o', hx, hc'⟩ := hD (1 + k) (by omega)
    cases hx
    rw [Nat.add_assoc]; exact hc'
  rcases sz_cases hb hb' with ⟨hx, hz⟩ | ⟨hx, hz⟩ | ⟨hx, hz⟩ | ⟨hx, hz⟩
  all_goals
    rw [hx] at hc0 e2 e3
    have HB : Hid (∀ i, i < n → 0 ≤ D i ∧ D i < 256) := hby
    have HC : Hid (∀ k, k < szOf (D 0) → w.cell? ⟨b, o + 1 + k, none⟩ = some (.int .u8 (D (1 + k)))) := hcell
    have HZ := hide hz
    generalize hsz : szOf (D 0) = s at *
    clear hsz
    rw [hz] at hs
    have hlt : (1 : Int) < (n : Int) := by omega
    clear hb hb' hz hx hby hcell
    go_enter Try.func13, Try.ntmps13
    go_wp2
    go_loop [7, 83] (fun x i => ∃ k : Nat, k ≤ s ∧ i = .int .i64 k ∧ x = .int .u64 (val k fun i => D (1 + i))) (fun _ i => 8 - (intOf i).toNat)
    case atStart => exact ⟨0, Nat.zero_le _, rfl, rfl⟩
    case round =>
      obtain ⟨k, hk, rfl, rfl⟩ := hrel
      have hz := unhide HZ
      by_cases hlt : k < s
      · have hc' := HC.out k hlt
        have hbd := HB.out (1 + k) (by omega)
        have hvb := val_bound7 k (by omega) (fun i => D (1 + i)) (fun i hi => HB.out (1 + i) (by omega))
        have hj := or_join _ (D (1 + k)) hvb.1 hvb.2 hbd.1 hbd.2
        have hvs : val (k + 1) (fun i => D (1 + i)) = val k (fun i => D (1 + i)) * 256 + D (1 + k) := rfl
        have HS := hide hvs
        clear hvs
        generalize val k (fun i => D (1 + i)) = v at *
        generalize D (1 + k) = y at *
        rw [hz] at hlt
        clear hz
        go_wp2
        go_round
        case rel => exact ⟨k + 1, by have := unhide HZ; omega, by go_num, by rw [unhide HS]⟩
        case measure => simp [intOf]; omega
      · have hks : k = s := by omega
        clear hlt
        subst hks
        clear HZ
        by_cases hcs : c = 1 + k
        · have hns : n = 1 + k := by omega
          subst hcs
          subst hns
          subst hz
          go_wp2
          go_ret
          refine head_done h hD hc ?_ rfl
          simp
        · subst hz
          go_wp2
          go_ret
          refine head_done h hD hc ?_ rfl
          simp at hcs
          simp [hcs, Addr.add]

end Go.Proofs.Qxb6617473a
