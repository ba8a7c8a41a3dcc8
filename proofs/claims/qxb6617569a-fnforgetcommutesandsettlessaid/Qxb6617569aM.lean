import Derived.Test.Qxb6617569aRows
import Derived.WalkKit
import Derived.WalkSpells
import Derived.WalkLawsBesides
import Derived.Deep.QuietTactic
import Derived.BigQuiet
import Derived.Deep.OwnRows
import Derived.RegionTactic
import Derived.BigRegion
import Derived.Below
import Derived.Lib.JoinLaws
namespace Go.Proofs.Qxb6617569a
open Go.RowKit
set_option linter.unusedVariables false

def Hid (p : Prop) : Prop := p
theorem hide {p : Prop} (h : p) : Hid p := h
theorem unhide {p : Prop} (h : Hid p) : p := h

/-- a row of pairs of numbers, two cells each, that is read alone -/
def Pairs (w : World) (a : Option Addr) (n : Nat) (T M : Nat → Int) : Prop :=
  ∀ i, i < n → ∃ b o, a = some ⟨b, o, none⟩ ∧ w.cell? ⟨b, o + i * 2, none⟩ = some (.int .u64 (T i)) ∧ w.cell? ⟨b, o + i * 2 + 1, none⟩ = some (.int .u64 (M i))
theorem Pairs.below {w w' : World} {a : Option Addr} {n : Nat} {T M : Nat → Int} (h : Pairs w a n T M) (hb : Below w.heap.size w w') : Pairs w' a n T M := by
  intro i hi
  obtain ⟨b, o, h1, h2, h3⟩ := h i hi
  exact ⟨b, o, h1, by rw [hb.cell (p := ⟨b, o + i * 2, none⟩) (World.block_lt_of_cell? w _ h2)]; exact h2, by rw [hb.cell (p := ⟨b, o + i * 2 + 1, none⟩) (World.block_lt_of_cell? w _ h3)]; exact h3⟩

set_option maxRecDepth 100000 in
theorem same_any (a b : Option Addr) (n c d : Nat) (T M : Nat → Int) (w : World) (h : Pairs w a n T M) (h' : Pairs w b n T M) (hn : n ≤ 9223372036854775807) :
    Calls Try.prog 9 #[.slice a n c, .slice b n d] w fun e w' => e = .returned (.bool true) ∧ ∃ k, w' = w.drewN k := by
  have H := hide h
  have H' := hide h'
  clear h h'
  go_enter Try.func9, Try.ntmps9
  go_wp2
  go_loopw [5] (fun i wr => ∃ r k : Nat, r ≤ n ∧ i = .int .i64 r ∧ wr = w.drewN k) (fun i _ => n - (intOf i).toNat)
  case atStart => exact ⟨0, 0, Nat.zero_le _, rfl, rfl⟩
  case round =>
    obtain ⟨r, k, hr, rfl, rfl⟩ := hrel
    by_cases hlt : r < n
    · obtain ⟨b0, o0, rfl, h1, h2⟩ := unhide H r hlt
      obtain ⟨b1, o1, rfl, h3, h4⟩ := unhide H' r hlt
      go_wp2
      go_quiet (fail)
      go_wp2
      go_roundw
      case rel => exact ⟨r + 1, _, by omega, by go_num, rfl⟩
      case measure => simp [intOf]; omega
    · go_wp2
      go_ret
      exact ⟨rfl, k, rfl⟩
end Go.Proofs.Qxb6617569a
