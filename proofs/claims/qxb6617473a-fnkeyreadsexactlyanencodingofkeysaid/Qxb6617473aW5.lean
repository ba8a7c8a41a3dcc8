import Derived.Test.Qxb6617473aW3
namespace Go.Proofs.Qxb6617473a
open Go.RowKit
set_option linter.unusedVariables false

/-! ### plain laws on heads -/
theorem pow8 (d : Nat) : (2 : Int) ^ (8 * (d + 1)) = 256 * 2 ^ (8 * d) := by
  have : (8 * (d + 1)) = 8 + 8 * d := by omega
  rw [this, Int.pow_add]
  rfl
/-- the digits of k are E exactly when k is E's number -/
theorem digits_iff (s : Nat) : ∀ (E : Nat → Int) (k : Int), 0 ≤ k → (∀ j, j < s → 0 ≤ E j ∧ E j < 256) →
    ((k < 256 ^ s ∧ ∀ j, j < s → E j = k / 2 ^ (8 * (s - 1 - j)) % 256) ↔ val s E = k) := by
  induction s with
  | zero =>
    intro E k h0 _
    simp [val]
    omega
  | succ s ih =>
    intro E k h0 hE
    have ih' := ih E (k / 256) (by omega) fun j hj => hE j (by omega)
    have hs := hE s (by omega)
    have e1 : (256 : Int) ^ (s + 1) = 256 ^ s * 256 := Int.pow_succ _ _
    have hd : ∀ j, j < s → k / 2 ^ (8 * (s + 1 - 1 - j)) % 256 = k / 256 / 2 ^ (8 * (s - 1 - j)) % 256 := by
      intro j hj
      have e : s + 1 - 1 - j = (s - 1 - j) + 1 := by omega
      rw [e, pow8, Int.ediv_ediv_of_nonneg (by decide)]
    have hl : k / 2 ^ (8 * (s + 1 - 1 - s)) % 256 = k % 256 := by simp
    have key : val (s + 1) E = val s E * 256 + E s := rfl
    rw [key]
    constructor
    · rintro ⟨hk, hall⟩
      have h1 : val s E = k / 256 := ih'.1 ⟨by rw [e1] at hk; omega, fun j hj => by rw [hall j (by omega), hd j hj]⟩
      have h2 := hall s (by omega)
      rw [hl] at h2
      omega
    · intro hv
      have h1 : val s E = k / 256 := by omega
      obtain ⟨hk, hall⟩ := ih'.2 h1
      refine ⟨by rw [e1]; omega, fun j hj => ?_⟩
      by_cases e : j = s
      · subst e; rw [hl]; omega
      · rw [hd j (by omega)]; exact hall j (by omega)

def startsB (n : Nat) (D : Nat → Int) (x k : Int) (s : Nat) : Bool := decide (1 + s ≤ n ∧ D 0 = x ∧ ∀ j, j < s → D (1 + j) = k / 2 ^ (8 * (s - 1 - j)) % 256)

/-- the head of key: its length, and whether there is one -/
def hk (n : Nat) (D : Nat → Int) (k : Int) : Nat × Bool :=
  match hd n D with
  | some (m, x) => if x = k then (m, true) else (0, false)
  | none => (0, false)

/-- round t hits -/
def hit (n : Nat) (D : Nat → Int) (k : Int) (t : Nat) : Prop := k < 256 ^ (2 ^ t) ∧ startsB n D (24 + t) k (2 ^ t) = true

theorem sz_two (t : Nat) (ht : t < 4) : szOf (24 + t) = 2 ^ t := by
  rcases (show t = 0 ∨ t = 1 ∨ t = 2 ∨ t = 3 from by omega) with rfl | rfl | rfl | rfl <;> decide

theorem hit_iff {n : Nat} {D : Nat → Int} {k : Int} {t : Nat} (ht : t < 4) (h0 : 0 ≤ k) (hby : ∀ i, i < n → 0 ≤ D i ∧ D i < 256) :
    hit n D k t ↔ (D 0 = 24 + t ∧ hd n D = some (1 + 2 ^ t, k)) := by
  unfold hit startsB
  have hsz := sz_two t ht
  constructor
  · rintro ⟨hk, h⟩
    rw [decide_eq_true_eq] at h
    obtain ⟨hn, hx, hall⟩ := h
    refine ⟨hx, ?_⟩
    have hv := (digits_iff (2 ^ t) (fun i => D (1 + i)) k h0 (fun j hj => hby (1 + j) (by omega))).1 ⟨hk, hall⟩
    unfold hd
    rw [if_neg (by omega), if_neg (by omega), if_neg (by omega), hx, hsz, if_neg (by omega), hv]
  · rintro ⟨hx, hh⟩
    unfold hd at hh
    by_cases hn0 : n = 0
    · rw [if_pos hn0] at hh; cases hh
    rw [if_neg hn0, if_neg (by omega), if_neg (by omega), hx, hsz] at hh
    by_cases hs : n < 1 + 2 ^ t
    · rw [if_pos hs] at hh; cases hh
    rw [if_neg hs] at hh
    have hv : val (2 ^ t) (fun i => D (1 + i)) = k := by simpa using hh
    have := (digits_iff (2 ^ t) (fun i => D (1 + i)) k h0 (fun j hj => hby (1 + j) (by omega))).2 hv
    exact ⟨this.1, by rw [decide_eq_true_eq]; exact ⟨by omega, hx, this.2⟩⟩

theorem hk_hit {n : Nat} {D : Nat → Int} {k : Int} {t : Nat} (ht : t < 4) (h0 : 0 ≤ k) (hby : ∀ i, i < n → 0 ≤ D i ∧ D i < 256) (h : hit n D k t) : hk n D k = (1 + 2 ^ t, true) := by
  have := ((hit_iff ht h0 hby).1 h).2
  unfold hk
  rw [this]
  simp
theorem hk_one {n : Nat} {D : Nat → Int} {k : Int} (hk24 : k < 24) (hn : 1 ≤ n) (h : D 0 = k) : hk n D k = (1, true) := by
  have : hd n D = some (1, k) := by
    unfold hd
    rw [if_neg (by omega), if_neg (by omega), if_pos (by omega), h]
  unfold hk
  rw [this]
  simp
theorem hk_none {n : Nat} {D : Nat → Int} {k : Int} (h0 : 0 ≤ k) (hby : ∀ i, i < n → 0 ≤ D i ∧ D i < 256) (h1 : ¬ (k < 24 ∧ 1 ≤ n ∧ D 0 = k)) (h : ∀ t, t < 4 → ¬ hit n D k t) : hk n D k = (0, false) := by
  unfold hk
  have main : ∀ m, hd n D ≠ some (m, k) := by
    intro m hh
    have hh0 := hh
    unfold hd at hh
    by_cases hn0 : n = 0
    · rw [if_pos hn0] at hh; cases hh
    rw [if_neg hn0] at hh
    by_cases h28 : 28 ≤ D 0
    · rw [if_pos h28] at hh; cases hh
    rw [if_neg h28] at hh
    by_cases h24 : D 0 < 24
    · rw [if_pos h24] at hh
      simp at hh
      exact h1 ⟨by omega, by omega, hh.2⟩
    rw [if_neg h24] at hh
    by_cases hs : n < 1 + szOf (D 0)
    · rw [if_pos hs] at hh; cases hh
    rw [if_neg hs] at hh
    obtain ⟨t, ht⟩ : ∃ t : Nat, D 0 = 24 + t := ⟨(D 0 - 24).toNat, by omega⟩
    have ht4 : t < 4 := by omega
    refine h t ht4 ((hit_iff ht4 h0 hby).2 ⟨ht, ?_⟩)
    rw [hh0]
    rw [ht, sz_two t ht4] at hh
    simp at hh
    rw [← hh.1]
  cases hx : hd n D with
  | none => rfl
  | some p =>
    obtain ⟨m, x⟩ := p
    have : x ≠ k := by rintro rfl; exact main m hx
    simp [this]

/-! ### the walks -/
set_option maxHeartbeats 400000 in
theorem fits_any (k : Int) (s : Nat) (hs : s = 1 ∨ s = 2 ∨ s = 4 ∨ s = 8) (h0 : 0 ≤ k) (h1 : k < 18446744073709551616) (w : World) :
    Calls Try.prog 14 #[.int .u64 k, .int .i64 s] w fun e w' => e = .returned (.bool (decide (k < 256 ^ s))) ∧ w' = w := by
  have key : ∀ m : Int, 0 < m → (k / m == 0) = decide (k < m) := by
    intro m hm
    rw [Bool.eq_iff_iff, beq_iff_eq, decide_eq_true_eq]
    constructor
    · intro h
      have h2 : ¬ m ≤ k := fun hle => by have := Int.le_ediv_of_mul_le (a := 1) (b := k) (c := m) hm (by omega); omega
      omega
    · intro h; exact Int.ediv_eq_zero_of_lt h0 h
  have K := hide key
  clear key
  rcases hs with rfl | rfl | rfl | rfl
  all_goals
    go_enter Try.func14, Try.ntmps14
    go_wp2
    go_ret
    refine ⟨ret_bool ?_, rfl⟩
    first
      | exact unhide K _ (by decide)
      | (symm; rw [decide_eq_true_eq]; exact h1)

theorem starts_no {n : Nat} {D : Nat → Int} {x k : Int} {s j : Nat} (hj : j < s) (h : (D (1 + j) != k / 2 ^ (8 * (s - 1 - j)) % 256) = true) : false = startsB n D x k s := by
  symm; simp only [startsB, decide_eq_false_iff_not]; rintro ⟨_, _, hh⟩; simp [hh j hj] at h
theorem starts_yes {n : Nat} {D : Nat → Int} {x k : Int} {s j : Nat} (hn : 1 + s ≤ n) (hx : D 0 = x) (hj : ¬ j < s) (h : ∀ t, t < j → D (1 + t) = k / 2 ^ (8 * (s - 1 - t)) % 256) : true = startsB n D x k s := by
  symm; simp only [startsB, decide_eq_true_eq]; exact ⟨hn, hx, fun t ht => h t (by omega)⟩

set_option maxHeartbeats 400000 in
theorem starts_any (a : Option Addr) (n c s : Nat) (D : Nat → Int) (x k : Int) (w : World) (hD : Bs w a n D) (hm : n ≤ 1048576) (hs : 1 ≤ s ∧ s ≤ 8) (h0 : 0 ≤ k) (h1 : k < 18446744073709551616) :
    Calls Try.prog 15 #[.slice a n c, .int .u8 x, .int .u64 k, .int .i64 s] w fun e w' => e = .returned (.bool (startsB n D x k s)) ∧ w' = w := by
  by_cases hn : 1 + s ≤ n
  · have hlt : (0 : Int) < (n : Int) := by omega
    obtain ⟨b, o, rfl, hc0⟩ := hD 0 (by omega)
    rw [Nat.add_zero] at hc0
    by_cases hx : D 0 = x
    · have d0 : (D 0 != x) = false := by simp [hx]
      have hn' : decide ((n : Int) < 1 + (s : Int)) = false := decide_eq_false (by omega)
      have HX := hide hx
      clear hx
      go_enter Try.func15, Try.ntmps15
      go_wp2
      go_loop [9] (fun i => ∃ j : Nat, j ≤ s ∧ i = .int .i64 j ∧ ∀ t, t < j → D (1 + t) = k / 2 ^ (8 * (s - 1 - t)) % 256) (fun i => s - (intOf i).toNat)
      case atStart => exact ⟨0, Nat.zero_le _, rfl, fun t ht => absurd ht (Nat.not_lt_zero t)⟩
      case round =>
        obtain ⟨j, hj, rfl, hall⟩ := hrel
        have HA := hide hall
        clear hall
        by_cases hjs : j < s
        · have hcj : w.cell? ⟨b, o + (1 + j), none⟩ = some (.int .u8 (D (1 + j))) := by
            obtain ⟨b', o', hx, hc'⟩ := hD (1 + j) (by omega)
            cases hx; exact hc'
          by_cases hy : D (1 + j) = k / 2 ^ (8 * (s - 1 - j)) % 256
          · have hy' : (D (1 + j) != k / 2 ^ (8 * (s - 1 - j)) % 256) = false := by simp [hy]
            have HY := hide hy
            clear hy
            go_wp2
            go_round
            case rel =>
              refine ⟨j + 1, by omega, by go_num, fun t ht => ?_⟩
              by_cases e : t = j
              · subst e; exact unhide HY
              · exact unhide HA t (by omega)
            case measure => simp [intOf]; omega
          · have hy' : (D (1 + j) != k / 2 ^ (8 * (s - 1 - j)) % 256) = true := by simp [hy]
            clear hy
            go_wp2
            go_ret
            exact ⟨ret_bool (starts_no hjs hy'), rfl⟩
        · go_wp2
          go_ret
          exact ⟨ret_bool (starts_yes hn (unhide HX) hjs (unhide HA)), rfl⟩
    · have d0 : (D 0 != x) = true := by simp [hx]
      have hn' : decide ((n : Int) < 1 + (s : Int)) = false := decide_eq_false (by omega)
      go_enter Try.func15, Try.ntmps15
      go_wp2
      go_ret
      exact ⟨ret_bool (by symm; simp only [startsB, decide_eq_false_iff_not]; rintro ⟨_, hh, _⟩; exact hx hh), rfl⟩
  · have hn' : decide ((n : Int) < 1 + (s : Int)) = true := decide_eq_true (by omega)
    go_enter Try.func15, Try.ntmps15
    go_wp2
    go_ret
    exact ⟨ret_bool (by symm; simp only [startsB, decide_eq_false_iff_not]; rintro ⟨hh, _, _⟩; exact hn hh), rfl⟩

theorem nohit_step {n : Nat} {D : Nat → Int} {k : Int} (t : Nat) (h : Hid (∀ t', t' < t → ¬ hit n D k t')) (h' : ¬ hit n D k t) : ∀ t', t' < t + 1 → ¬ hit n D k t' := by
  intro t' ht'
  by_cases e : t' = t
  · subst e; exact h'
  · exact h.out t' (by omega)
theorem ret_pair {a b : Int} {p q : Bool} (h1 : a = b) (h2 : p = q) : Ending.returned (.tuple #[.int .i64 a, .bool p]) = .returned (.tuple #[.int .i64 b, .bool q]) := by rw [h1, h2]

set_option maxHeartbeats 800000 in
theorem hk_any (a : Option Addr) (n c : Nat) (D : Nat → Int) (k : Int) (w : World) (hD : Bs w a n D) (hm : n ≤ 1048576) (h0 : 0 ≤ k) (h1 : k < 18446744073709551616) (hby : ∀ i, i < n → 0 ≤ D i ∧ D i < 256) :
    Calls Try.prog 11 #[.slice a n c, .int .u64 k] w fun e w' => e = .returned (.tuple #[.int .i64 ((hk n D k).1 : Nat), .bool (hk n D k).2]) ∧ w' = w := by
  have HBY := hide hby
  clear hby
  by_cases hone : k < 24 ∧ 1 ≤ n ∧ D 0 = k
  · have hres := hide (hk_one hone.1 hone.2.1 hone.2.2)
    obtain ⟨hk24, hn, hx⟩ := hone
    obtain ⟨b, o, rfl, hc0⟩ := hD 0 (by omega)
    rw [Nat.add_zero] at hc0
    have hlt : (0 : Int) < (n : Int) := by omega
    have d0 : (D 0 == k) = true := by simp [hx]
    clear hx
    go_enter Try.func11, Try.ntmps11
    go_wp2
    go_ret2
    exact ⟨ret_pair (by rw [unhide hres]; rfl) (by rw [unhide hres]), rfl⟩
  · have HO := hide hone
    have hprep : (∃ b o, a = some ⟨b, o, none⟩ ∧ w.cell? ⟨b, o, none⟩ = some (.int .u8 (D 0)) ∧ (D 0 == k) = false ∧ (0 : Int) < (n : Int) ∧ k < 24) ∨ (n < 1 ∧ k < 24) ∨ decide (k < 24) = false := by
      by_cases h24 : k < 24
      · by_cases hn1 : n < 1
        · exact .inr (.inl ⟨hn1, h24⟩)
        · obtain ⟨b, o, ha, hc0⟩ := hD 0 (by omega)
          exact .inl ⟨b, o, ha, by simpa using hc0, by simp; intro h; exact hone ⟨h24, by omega, h⟩, by omega, h24⟩
      · exact .inr (.inr (decide_eq_false h24))
    clear hone
    have main : ∀ t : Nat, t < 4 → ∃ f1 f2 : Bool, ((f1 = true ∧ f2 = true) → hit n D k t) ∧ (¬ (f1 = true ∧ f2 = true) → ¬ hit n D k t) ∧
        Calls Try.prog 14 #[.int .u64 k, .int .i64 (2 ^ t : Nat)] w (fun e w' => e = .returned (.bool f1) ∧ w' = w) ∧
        Calls Try.prog 15 #[.slice a n c, .int .u8 (24 + t), .int .u64 k, .int .i64 (2 ^ t : Nat)] w (fun e w' => e = .returned (.bool f2) ∧ w' = w) := by
      intro t ht
      refine ⟨_, _, ?_, ?_, fits_any k (2 ^ t) ?_ h0 h1 w, starts_any a n c (2 ^ t) D (24 + t) k w hD hm ?_ h0 h1⟩
      · simp only [decide_eq_true_eq]; exact fun h => h
      · simp only [decide_eq_true_eq]; exact fun h h' => h h'
      · rcases (show t = 0 ∨ t = 1 ∨ t = 2 ∨ t = 3 from by omega) with rfl | rfl | rfl | rfl <;> decide
      · rcases (show t = 0 ∨ t = 1 ∨ t = 2 ∨ t = 3 from by omega) with rfl | rfl | rfl | rfl <;> decide
    have MAIN := hide main
    clear main
    rcases hprep with ⟨b, o, rfl, hc0, d0, hlt, hk24⟩ | ⟨hn, hk24⟩ | d1
    all_goals
      go_enter Try.func11, Try.ntmps11
      go_wp2
      go_loop [6, 7, 8] (fun s x i => ∃ t : Nat, t ≤ 4 ∧ i = .int .i64 t ∧ s = .int .i64 (2 ^ t : Nat) ∧ x = .int .u8 (24 + t) ∧ ∀ t', t' < t → ¬ hit n D k t') (fun _ _ i => 4 - (intOf i).toNat)
      case atStart => exact ⟨0, Nat.zero_le _, rfl, rfl, rfl, fun t ht => absurd ht (Nat.not_lt_zero t)⟩
      case round =>
        obtain ⟨t, ht, rfl, rfl, rfl, hall⟩ := hrel
        have HA := hide hall
        clear hall
        by_cases ht4 : t < 4
        · obtain ⟨f1, f2, hy, hno, c1, c2⟩ := unhide MAIN t ht4
          have C1 := hide c1
          have C2 := hide c2
          have HY := hide hy
          have HN := hide hno
          clear c1 c2 hy hno
          rcases (show t = 0 ∨ t = 1 ∨ t = 2 ∨ t = 3 from by omega) with rfl | rfl | rfl | rfl
          all_goals
            cases f1 with
            | false =>
              go_wp2_with (first | (go_at_call 14; refine (unhide C1).mono ?_; rintro e w' ⟨rfl, rfl⟩) | (go_at_call 15; refine (unhide C2).mono ?_; rintro e w' ⟨rfl, rfl⟩))
              go_round
              case rel =>
                have hN := unhide HN (by simp)
                first
                  | exact ⟨1, by decide, rfl, rfl, rfl, nohit_step 0 HA hN⟩
                  | exact ⟨2, by decide, rfl, rfl, rfl, nohit_step 1 HA hN⟩
                  | exact ⟨3, by decide, rfl, rfl, rfl, nohit_step 2 HA hN⟩
                  | exact ⟨4, by decide, rfl, rfl, rfl, nohit_step 3 HA hN⟩
              case measure => simp [intOf]
            | true =>
              cases f2 with
              | false =>
                go_wp2_with (first | (go_at_call 14; refine (unhide C1).mono ?_; rintro e w' ⟨rfl, rfl⟩) | (go_at_call 15; refine (unhide C2).mono ?_; rintro e w' ⟨rfl, rfl⟩))
                go_round
                case rel =>
                  have hN := unhide HN (by simp)
                  first
                    | exact ⟨1, by decide, rfl, rfl, rfl, nohit_step 0 HA hN⟩
                    | exact ⟨2, by decide, rfl, rfl, rfl, nohit_step 1 HA hN⟩
                    | exact ⟨3, by decide, rfl, rfl, rfl, nohit_step 2 HA hN⟩
                    | exact ⟨4, by decide, rfl, rfl, rfl, nohit_step 3 HA hN⟩
                case measure => simp [intOf]
              | true =>
                have hres := hk_hit ht4 h0 (unhide HBY) (unhide HY ⟨rfl, rfl⟩)
                have HR := hide hres
                clear hres
                go_wp2_with (first | (go_at_call 14; refine (unhide C1).mono ?_; rintro e w' ⟨rfl, rfl⟩) | (go_at_call 15; refine (unhide C2).mono ?_; rintro e w' ⟨rfl, rfl⟩))
                go_ret2
                exact ⟨ret_pair (by rw [unhide HR]; rfl) (by rw [unhide HR]), rfl⟩
        · have hres := hk_none h0 (unhide HBY) (unhide HO) (fun t' h' => unhide HA t' (by omega))
          have HR := hide hres
          clear hres
          go_wp2
          go_ret2
          exact ⟨ret_pair (by rw [unhide HR]; rfl) (by rw [unhide HR]), rfl⟩

end Go.Proofs.Qxb6617473a
