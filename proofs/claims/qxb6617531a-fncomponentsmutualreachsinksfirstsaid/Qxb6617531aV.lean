import Derived.Test.Qxb6617531aM
import Derived.StillTailTactics
namespace Go.Proofs.Qxb6617531a
open Go.RowKit
set_option linter.unusedVariables false

/-- a slice of slices of ints, as it came in: row r is '.slice (A r) (L r) (C r)', its numbers 'Z r i' -/
def Rows2 (w : World) (a : Option Addr) (n : Nat) (A : Nat → Option Addr) (L C : Nat → Nat) (Z : Nat → Nat → Int) : Prop :=
  ∀ r, r < n → (∃ b o, a = some ⟨b, o, none⟩ ∧ w.cell? ⟨b, o + r, none⟩ = some (.slice (A r) (L r) (C r))) ∧ L r ≤ 9223372036854775807 ∧
    ∀ i, i < L r → ∃ b o, A r = some ⟨b, o, none⟩ ∧ w.cell? ⟨b, o + i, none⟩ = some (.int .i64 (Z r i))
theorem Rows2.below {w w' : World} {a : Option Addr} {n : Nat} {A : Nat → Option Addr} {L C : Nat → Nat} {Z : Nat → Nat → Int} (h : Rows2 w a n A L C Z) (hb : Below w.heap.size w w') : Rows2 w' a n A L C Z := by
  intro r hr
  obtain ⟨⟨b, o, h1, h2⟩, h3, h4⟩ := h r hr
  refine ⟨⟨b, o, h1, by rw [hb.cell (p := ⟨b, o + r, none⟩) (World.block_lt_of_cell? w _ h2)]; exact h2⟩, h3, fun i hi => ?_⟩
  obtain ⟨b', o', h5, h6⟩ := h4 i hi
  exact ⟨b', o', h5, by rw [hb.cell (p := ⟨b', o' + i, none⟩) (World.block_lt_of_cell? w _ h6)]; exact h6⟩

/-- some bool comes back -/
def IsBool (e : Ending) : Prop := ∃ x, e = .returned (.bool x)
theorem isBool (x : Bool) : IsBool (.returned (.bool x)) := ⟨x, rfl⟩

set_option maxHeartbeats 1000000 in
theorem zbytes_any (a b : Option Addr) (n m c d : Nat) (A A' : Nat → Option Addr) (L C L' C' : Nat → Nat) (Z Z' : Nat → Nat → Int) (w : World) (h : Rows2 w a n A L C Z) (h' : Rows2 w b m A' L' C' Z') (hn : n ≤ 9223372036854775807) (hm : m ≤ 9223372036854775807) :
    Calls Try.prog 4 #[.slice a n c, .slice b m d] w fun e w' => IsBool e ∧ w' = w := by
  have H := hide h
  have H' := hide h'
  clear h h'
  by_cases hn1 : n ≤ 1048576
  · go_enter Try.func4, Try.ntmps4
    go_wp2
    go_loop [5, 6] (fun z i => ∃ (k : Nat) (s : Int), k ≤ n ∧ i = .int .i64 k ∧ 0 ≤ s ∧ s ≤ 1048576 ∧ z = .int .i64 s) (fun _ i => n - (intOf i).toNat)
    case atStart => exact ⟨0, n, Nat.zero_le _, rfl, by omega, by omega, rfl⟩
    case round =>
      obtain ⟨k, s, hk, rfl, hs0, hs1, rfl⟩ := hrel
      by_cases hlt : k < n
      · obtain ⟨⟨b0, o0, rfl, hc⟩, hL, _⟩ := unhide H k hlt
        by_cases hL1 : 1048576 < L k
        · go_wp2
          go_ret
          exact ⟨isBool _, rfl⟩
        · by_cases hs2 : 1048576 < s + L k
          · go_wp2
            go_ret
            exact ⟨isBool _, rfl⟩
          · go_wp2
            go_round
            case rel => exact ⟨k + 1, _, by omega, by go_num, by omega, by omega, rfl⟩
            case measure => simp [intOf]; omega
      · by_cases hm1 : 1048576 < m
        · go_wp2
          go_ret
          exact ⟨isBool _, rfl⟩
        by_cases hm2 : 1048576 < s + m
        · go_wp2
          go_ret
          exact ⟨isBool _, rfl⟩
        go_wp2
        go_loop [5, 7] (fun z i => ∃ (k : Nat) (s : Int), k ≤ m ∧ i = .int .i64 k ∧ 0 ≤ s ∧ s ≤ 1048576 ∧ z = .int .i64 s) (fun _ i => m - (intOf i).toNat)
        case atStart => exact ⟨0, _, Nat.zero_le _, rfl, by omega, by omega, rfl⟩
        case round =>
          obtain ⟨k2, s2, hk2, rfl, hs02, hs12, rfl⟩ := hrel
          by_cases hlt2 : k2 < m
          · obtain ⟨⟨b0, o0, rfl, hc⟩, hL, _⟩ := unhide H' k2 hlt2
            by_cases hL1 : 1048576 < L' k2
            · go_wp2
              go_ret
              exact ⟨isBool _, rfl⟩
            · by_cases hs2 : 1048576 < s2 + L' k2
              · go_wp2
                go_ret
                exact ⟨isBool _, rfl⟩
              · go_wp2
                go_round
                case rel => exact ⟨k2 + 1, _, by omega, by go_num, by omega, by omega, rfl⟩
                case measure => simp [intOf]; omega
          · go_wp2
            go_ret
            exact ⟨isBool _, rfl⟩
  · go_enter Try.func4, Try.ntmps4
    go_wp2
    go_ret
    exact ⟨isBool _, rfl⟩
end Go.Proofs.Qxb6617531a
