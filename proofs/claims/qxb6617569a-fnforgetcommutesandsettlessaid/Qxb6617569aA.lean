import Derived.Test.Qxb6617569aS
namespace Go.Proofs.Qxb6617569a
open Go.RowKit
set_option linter.unusedVariables false

set_option maxRecDepth 100000 in
theorem pairs_any (a : Option Addr) (n c g k cap : Nat) (T M T0 M0 : Nat → Int) (w : World) (h : Pairs w a n T M) (hrow0 : Row w g cap T0 M0) (hn : n ≤ 65536) (hcap : cap ≤ 1048576) (hk : k + n ≤ cap) (hg : 0 < n → ∀ p, a = some p → p.block < g) :
    Calls Try.prog 6 #[.slice (some ⟨g, 0, none⟩) k cap, .slice a n c] w fun e w' => e = .returned (.slice (some ⟨g, 0, none⟩) (k + n) cap) ∧ ∃ T1 M1, Row w' g cap T1 M1 ∧ (∀ i, i < k → T1 i = T0 i ∧ M1 i = M0 i) ∧ (∀ i, i < n → T1 (k + i) = T i ∧ M1 (k + i) = M i) ∧ Below g w w' := by
  have H := hide h
  have HG := hide hg
  have HROW0 := hide hrow0
  clear h hg hrow0
  go_enter Try.func6, Try.ntmps6
  go_wp2
  go_loopw [0, 5] (fun v i wr => ∃ (r : Nat) (T1 M1 : Nat → Int), r ≤ n ∧ v = .slice (some ⟨g, 0, none⟩) (k + r) cap ∧ i = .int .i64 r ∧ Row wr g cap T1 M1 ∧ (∀ i', i' < k → T1 i' = T0 i' ∧ M1 i' = M0 i') ∧ (∀ i', i' < r → T1 (k + i') = T i' ∧ M1 (k + i') = M i') ∧ Below g w wr) (fun _ i _ => n - (intOf i).toNat)
  case atStart => exact ⟨0, T0, M0, Nat.zero_le _, rfl, rfl, unhide HROW0, fun i' _ => ⟨rfl, rfl⟩, fun i' hi => absurd hi (Nat.not_lt_zero i'), Below.refl _ _⟩
  case round =>
    obtain ⟨r, T1, M1, hr, rfl, rfl, hrow, hf0, hf, hbel⟩ := hrel
    have HF0 := hide hf0
    have HF := hide hf
    clear hf hf0
    by_cases hlt : r < n
    · obtain ⟨b0, o0, rfl, h1, h2⟩ := unhide H r hlt
      have hbg : b0 < g := unhide HG (by omega) _ rfl
      have c1 : wr.cell? ⟨b0, o0 + r * 2, none⟩ = some (.int .u64 (T r)) := by rw [hbel.cell (p := ⟨b0, o0 + r * 2, none⟩) hbg]; exact h1
      have c2 : wr.cell? ⟨b0, o0 + r * 2 + 1, none⟩ = some (.int .u64 (M r)) := by rw [hbel.cell (p := ⟨b0, o0 + r * 2 + 1, none⟩) hbg]; exact h2
      have s0 := hrow.c0 (i := k + r) (by omega)
      have s1 := hrow.c1 (i := k + r) (by omega)
      have f0 := World.rowIs.frozen hrow ((k + r) * 2)
      have f1 := World.rowIs.frozen hrow ((k + r) * 2 + 1)
      have hgl := hrow.lt
      have HROW := hide hrow
      have HBEL := hide hbel
      clear hrow hbel h1 h2
      go_wp2
      go_region
      go_wp2
      go_roundw
      case rel =>
        refine ⟨r + 1, _, _, by omega, rfl, by go_num, (((unhide HROW).set (k + r) (T r) (M r)).alloc _).drew, fun i' hi' => ?_, fun i' hi' => ?_, ((((unhide HBEL).setCell (by exact Nat.le_refl g) _).setCell (by exact Nat.le_refl g) _).alloc (by simp; omega) _).drew⟩
        · unfold upd
          rw [if_neg (by omega), if_neg (by omega)]
          exact unhide HF0 i' hi'
        · unfold upd
          by_cases e : i' = r
          · subst e; simp
          · rw [if_neg (by omega), if_neg (by omega)]
            exact unhide HF i' (by omega)
      case measure => simp [intOf]; omega
    · have HALL := hide (And.intro hrow hbel)
      have hrn : r = n := by omega
      subst hrn
      clear hrow hbel
      go_wp2
      go_ret
      exact ⟨rfl, T1, M1, (unhide HALL).1, unhide HF0, unhide HF, (unhide HALL).2⟩
end Go.Proofs.Qxb6617569a
