import GoSem.Core.Float
namespace Go.Proofs.Qxb6617558a
open Ieee
set_option linter.unusedVariables false
set_option linter.unusedSimpArgs false

theorem signed_eq (s : Bool) (m k : Nat) : signed s m k = if s then -((m * 2 ^ k : Nat) : Int) else ((m * 2 ^ k : Nat) : Int) := by
  unfold signed
  rw [Nat.shiftLeft_eq]

theorem lp : double.leastPlace = -1074 := by decide
theorem binade_eq : double.binade = 4503599627370496 := by decide
theorem inf_eq : double.infRung = 9218868437227405312 := by decide
theorem sw_eq : double.signWeight = 9223372036854775808 := by decide

theorem cut_exact (neg : Bool) (n k : Nat) (hn : n ≠ 0) (hk : k ≤ (n * 2 ^ k).log2 + 2) : Toward.even.cut neg (n * 2 ^ k) k = n := by
  unfold Toward.cut
  rw [Nat.min_eq_left hk, Nat.shiftLeft_eq, Nat.one_mul]
  have hp : 0 < 2 ^ k := Nat.pos_of_ne_zero (by simp)
  simp only [Nat.mul_div_cancel _ hp, Nat.mul_mod_left]
  have h1 : ¬ (2 ^ k < 2 * 0) := by omega
  have h2 : (2 ^ k == 2 * 0) = false := by simp
  simp [h1, h2]

theorem log2_shift (n k : Nat) (h1 : 4503599627370496 ≤ n) (h2 : n < 9007199254740992) : (n * 2 ^ k).log2 = 52 + k := by
  have hp : 0 < 2 ^ k := Nat.pos_of_ne_zero (by simp)
  rw [Nat.log2_eq_iff (by have := Nat.mul_pos (show 0 < n by omega) hp; omega)]
  constructor
  · rw [Nat.pow_add]
    exact Nat.mul_le_mul_right _ (by omega)
  · rw [show 52 + k + 1 = 53 + k by omega, Nat.pow_add]
    exact Nat.mul_lt_mul_of_pos_right (by omega) hp

/-- a number of the format that is not nought, written anew at the least place, is itself -/
theorem nearest_normal (neg : Bool) (e f : Nat) (he : e ≤ 2045) (hf : f < 4503599627370496) : double.nearest neg ((4503599627370496 + f) * 2 ^ e) (-1074) = double.word neg ((e + 1) * 4503599627370496 + f) := by
  have hl := log2_shift (4503599627370496 + f) e (by omega) (by omega)
  have hp : 0 < 2 ^ e := Nat.pos_of_ne_zero (by simp)
  have hne : (4503599627370496 + f) * 2 ^ e ≠ 0 := by have := Nat.mul_pos (show 0 < 4503599627370496 + f by omega) hp; omega
  unfold Format.nearest
  rw [if_neg hne, lp, binade_eq, inf_eq, hl]
  have h1 : max ((-1074 : Int) + ((52 + e : Nat) : Int) - ((double.fractionBits : Nat) : Int)) (-1074) = -1074 + (e : Int) := by
    show max ((-1074 : Int) + ((52 + e : Nat) : Int) - ((52 : Nat) : Int)) (-1074) = -1074 + (e : Int)
    omega
  simp only [h1]
  rw [show ((-1074 : Int) - (-1074 + (e : Int))).toNat = 0 by omega, show ((-1074 + (e : Int)) - (-1074 : Int)).toNat = e by omega, Nat.shiftLeft_zero,
    cut_exact neg _ e (by omega) (by rw [hl]; omega)]
  congr 1
  omega
theorem nearest_sub (neg : Bool) (n : Nat) (hn : n ≠ 0) (h : n < 4503599627370496) : double.nearest neg n (-1074) = double.word neg n := by
  have hl : n.log2 < 52 := (Nat.log2_lt hn).2 (by omega)
  unfold Format.nearest
  rw [if_neg hn, lp, binade_eq, inf_eq]
  have h1 : max ((-1074 : Int) + ((n.log2 : Nat) : Int) - ((double.fractionBits : Nat) : Int)) (-1074) = -1074 := by
    show max ((-1074 : Int) + ((n.log2 : Nat) : Int) - ((52 : Nat) : Int)) (-1074) = -1074
    omega
  simp only [h1]
  rw [show ((-1074 : Int) - (-1074 : Int)).toNat = 0 by omega, Nat.shiftLeft_zero]
  have := cut_exact neg n 0 hn (by omega)
  rw [Nat.pow_zero, Nat.mul_one] at this
  rw [this]
  congr 1
  omega
theorem read_zero : double.read 0 = .number false 0 (-1074) := by decide

theorem word_self (x : Nat) (hx : x < 18446744073709551616) : double.word (x / 9223372036854775808 % 2 == 1) (x % 9223372036854775808) = x := by
  unfold Format.word
  rw [sw_eq]
  by_cases h : x / 9223372036854775808 % 2 = 1
  · rw [if_pos (by simpa using h)]; omega
  · rw [if_neg (by simpa using h)]; omega
/-- a word's number, whatever it is, stands to itself as equal -/
theorem order_self (d : Datum) (h : d.isNaN = false) : d.order d = some .eq := by
  cases d with
  | number s m i => simp [Datum.order, Std.ReflCmp.compare_self]
  | infinity s => simp [Datum.order, Std.ReflCmp.compare_self]
  | nan s t => simp [Datum.isNaN] at h

theorem read_eq (x : Nat) : double.read x = (if x % 9223372036854775808 < 4503599627370496 then .number (x / 9223372036854775808 % 2 == 1) (x % 9223372036854775808) (-1074)
    else if x % 9223372036854775808 < 9218868437227405312 then .number (x / 9223372036854775808 % 2 == 1) (4503599627370496 + x % 9223372036854775808 % 4503599627370496) (-1074 + ((x % 9223372036854775808 / 4503599627370496 - 1 : Nat) : Int))
    else if x % 9223372036854775808 = 9218868437227405312 then .infinity (x / 9223372036854775808 % 2 == 1) else .nan (x / 9223372036854775808 % 2 == 1) (x % 9223372036854775808 - 9218868437227405312)) := by
  unfold Format.read
  rw [lp, binade_eq, inf_eq, sw_eq]

/-- nought and a number n at place -1074 + k -/
theorem sum_zero (t : Bool) (n k : Nat) : (Datum.number false 0 (-1074)).sum (.number t n (-1074 + (k : Int))) = some (.number (if n = 0 then false else t) (n * 2 ^ k) (-1074)) := by
  unfold Datum.sum
  have hm : min (-1074 : Int) (-1074 + (k : Int)) = -1074 := by omega
  have hp : 0 < 2 ^ k := Nat.pos_of_ne_zero (by simp)
  simp only [hm, signed_eq]
  rw [show ((-1074 : Int) - (-1074)).toNat = 0 by omega, show ((-1074 : Int) + (k : Int) - (-1074)).toNat = k by omega]
  by_cases hn : n = 0
  · subst hn
    cases t <;> simp
  · have hpos : 0 < n * 2 ^ k := Nat.mul_pos (by omega) hp
    generalize n * 2 ^ k = v at hpos ⊢
    cases t
    · have h1 : ¬ ((v : Int) = 0) := by omega
      have h2 : ¬ ((v : Int) < 0) := by omega
      simp [h1, h2, hn]
    · have h1 : ¬ (-(v : Int) = 0) := by omega
      have h2 : (-(v : Int) < 0) := by omega
      simp [h1, h2, hn]
      omega

/-- nought and x: x itself, or nought, or no number -/
theorem zero_add (x : Nat) (hx : x < 18446744073709551616) : (double.add 0 x = none ∧ (double.read x).isNaN = true) ∨ ∃ r, double.add 0 x = some r ∧ double.order r x = some .eq ∧ r < 18446744073709551616 := by
  have hself := word_self x hx
  unfold Format.add Format.order
  rw [read_zero, read_eq x]
  generalize hneg : (x / 9223372036854775808 % 2 == 1) = neg at hself ⊢
  generalize hrung : x % 9223372036854775808 = rung at hself ⊢
  by_cases h1 : rung < 4503599627370496
  · rw [if_pos h1]
    right
    have hs := sum_zero neg rung 0
    rw [show (-1074 : Int) + ((0 : Nat) : Int) = -1074 by omega, Nat.pow_zero, Nat.mul_one] at hs
    rw [hs]
    by_cases hz : rung = 0
    · subst hz
      refine ⟨0, by simp [Format.write, Format.nearest, Format.word], ?_, by omega⟩
      rw [read_zero]
      simp [Datum.order, signed_eq, Std.ReflCmp.compare_self]
    · refine ⟨x, ?_, ?_, hx⟩
      · simp only [Option.map_some, Format.write, if_neg hz]
        rw [nearest_sub _ _ hz h1, hself]
      · rw [read_eq x, hneg, hrung, if_pos h1]
        exact order_self _ rfl
  · rw [if_neg h1]
    by_cases h2 : rung < 9218868437227405312
    · rw [if_pos h2]
      right
      rw [sum_zero]
      refine ⟨x, ?_, ?_, hx⟩
      · simp only [Option.map_some, Format.write]
        rw [if_neg (by omega), nearest_normal _ _ _ (by omega) (by omega)]
        rw [show (rung / 4503599627370496 - 1 + 1) * 4503599627370496 + rung % 4503599627370496 = rung by omega, hself]
      · rw [read_eq x, hneg, hrung, if_neg h1, if_pos h2]
        exact order_self _ rfl
    · rw [if_neg h2]
      by_cases h3 : rung = 9218868437227405312
      · rw [if_pos h3]
        right
        refine ⟨x, ?_, ?_, hx⟩
        · simp only [Datum.sum, Option.map_some, Format.write, inf_eq]
          rw [← h3, hself]
        · rw [read_eq x, hneg, hrung, if_neg h1, if_neg h2, if_pos h3]
          exact order_self _ rfl
      · rw [if_neg h3]
        left
        exact ⟨rfl, rfl⟩
end Go.Proofs.Qxb6617558a
