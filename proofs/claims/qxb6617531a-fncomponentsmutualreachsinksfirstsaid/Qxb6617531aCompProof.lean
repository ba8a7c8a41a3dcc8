/-
  THE PROOF OF 'Rows.FnComponentsMutualReachSinksFirstSaid': the guide's shell, its hole filled by 'law_any' (W).
-/
import Derived.Test.Qxb6617531aRows
import Derived.WalkKit
import Derived.ProofKit
import Derived.OpenShut
import Derived.ChangeOld
import Derived.Below
import Derived.Deep.Matrix
import Derived.Test.Qxb6617531aW
namespace Go.Proofs.Qxb6617531a.fnComponentsMutualReachSinksFirst
open Go.ChangeShapes Go.WideShapes Go.ChangeAt Go.RowKit Go.Deep
set_option linter.unusedVariables false

theorem own : ownKnob Try.prog.godebug = none := by kernel_rfl
theorem laidOut : laidOutB Try.prog = true := by kernel_rfl
theorem cells24 : Try.prog.cellsOf 24 = 1 := by kernel_rfl
theorem cells3 : Try.prog.cellsOf 3 = 1 := by kernel_rfl

theorem opened {H : Type} {enc : TypeId × Value → H} {W : World} {a : Option Addr} {len cap fuel base : Nat} {held : Bool} {x : DataW H × List MemPlace} (h : DataW.trod enc Try.prog W base (fun _ => true) held fuel 22 [.slice a len cap] = some x) :
    ∃ (A : Nat → Option Addr) (L C : Nat → Nat) (Z : Nat → Nat → Int), Rows2 W a len A L C Z ∧ len ≤ 9223372036854775807 := by
  rcases open_int_rows Try.underlying22 Try.underlying24 Try.underlying3 cells24 cells3 h with ⟨hcs, _⟩ | ⟨p, len', cap', A, L, C, Z, hcs, _, hl, hm, _, hrows⟩
  · simp at hcs
    obtain ⟨rfl, rfl, rfl⟩ := hcs
    exact ⟨fun _ => none, fun _ => 0, fun _ => 0, fun _ _ => 0, fun r hr => absurd hr (Nat.not_lt_zero r), by omega⟩
  · simp at hcs
    obtain ⟨rfl, rfl, rfl⟩ := hcs
    refine ⟨A, L, C, fun r i => (Z r).getD i 0, fun r hr => ?_, by unfold maxLen at hm; omega⟩
    obtain ⟨h1, h2, h3, h4, _, h5, h6⟩ := hrows r (by omega)
    obtain ⟨b, o, spot⟩ := p
    have hspot : spot = none := by simpa [Addr.add] using World.cell?_spot (hrows 0 (by omega)).1
    subst hspot
    refine ⟨⟨b, o, rfl, by rw [← add_plain]; exact h1⟩, by unfold maxLen at h3; omega, fun i hi => ?_⟩
    cases hA : A r with
    | none => have := h5 hA; omega
    | some q =>
      obtain ⟨_, h7⟩ := h6 q hA
      have h8 := h7 i (by omega)
      have h9 := h7 0 (by omega)
      obtain ⟨b', o', spot⟩ := q
      have hspot : spot = none := by simpa [Addr.add] using World.cell?_spot h9
      subst hspot
      exact ⟨b', o', rfl, by rw [← add_plain]; exact h8⟩

set_option maxRecDepth 100000 in
theorem lifted (os : Os) (started : os.Started) (H : Type) (enc : TypeId × Value → H) :
    ReturnsInHanded {} Try.checked os 3 .any (Rows.fnComponentsMutualReachSinksFirstSpec.pre6 enc Try.prog Try.f3 Rows.fnComponentsMutualReachSinksFirstRow.domain false) (Rows.fnComponentsMutualReachSinksFirstSpec.post enc Try.prog Try.f3 false true false false) := by
  refine returnsInHanded_of_change (C := Try.checked) own started (by kernel_rfl) Try.func3
    (ChangeSpec.witness6 (enc := enc) (C := Try.checked) false ⟨#[], #[.slice none 0 0, .slice none 0 0], []⟩ 8 (by kernel_rfl) (by kernel_rfl) (by kernel_rfl) (by kernel_rfl)) ?_
  intro W base args ds gs before hval0 hW hcnd _
  have hval : ∀ (j : Nat) t v, Try.f3.params[j]? = some t → args[j]? = some v → Value.okWide Try.prog W .any base t v := hval0
  have hW' := hW
  obtain ⟨p, q, hA0, hV, rfl, hfz, hnd⟩ := hW
  have hA : DataW.TrodAll enc Try.prog W 0 (fun _ => true) true Try.f3.params.toList args.toList ds p := hA0
  rw [Try.params3] at hA hval
  obtain ⟨v0, vs0, d0, ds0, p0, q0, hargs, rfl, rfl, h0, r0⟩ := trodAll_cons hA
  obtain ⟨v1, vs1, d1, ds1, p1, q1, rfl, rfl, rfl, h1, r1⟩ := trodAll_cons r0
  obtain ⟨rfl, rfl, rfl⟩ := trodAll_nil r1
  obtain rfl : args = #[v0, v1] := by cases args; simp_all
  obtain ⟨rfl, rfl⟩ := trodVars_none hV
  obtain ⟨a0, len0, cap0, rfl⟩ := okWide_slice Try.underlying22 (hval 0 22 v0 rfl rfl)
  obtain ⟨a1, len1, cap1, rfl⟩ := okWide_slice Try.underlying22 (hval 1 22 v1 rfl rfl)
  have k0 := h0
  have k1 := h1
  have lt0 : ∀ x ∈ p0, x.block < W.heap.size := by obtain ⟨m, hm⟩ := k0; exact DataW.trod_lt m _ _ _ hm
  have lt1 : ∀ x ∈ p1, x.block < W.heap.size := by obtain ⟨m, hm⟩ := k1; exact DataW.trod_lt m _ _ _ hm
  obtain ⟨f0, hf0⟩ := h0
  obtain ⟨f1, hf1⟩ := h1
  obtain ⟨A, L, C, Z, hR, hn⟩ := opened hf0
  obtain ⟨A', L', C', Z', hR', hm⟩ := opened hf1
  clear hA0 hval0
  refine (law_any a0 a1 len0 len1 cap0 cap1 A A' L C L' C' Z Z' W hR hR' hn hm).mono fun e W' ⟨he, bel⟩ => ?_
  subst he
  exact ⟨_, rfl, _, _, _, [], _, [], hW', trodAll_mk1 (shut_bool Try.underlying4 _), (trodAll_cons_mk (Below.trod laidOut (by kernel_rfl) (of_decide_eq_true (by kernel_rfl)) k0 bel lt0) (trodAll_cons_mk (Below.trod laidOut (by kernel_rfl) (of_decide_eq_true (by kernel_rfl)) k1 bel lt1) trodAll_mk0)), rfl, bel.frame _, fun h => by cases h⟩

theorem over : Rows.fnComponentsMutualReachSinksFirstRow.holds Try.pinned (OpenSpec.ofChange Rows.fnComponentsMutualReachSinksFirstSpec) :=
  OpenClaim.holds_of_wide 3 Try.f3 rfl rfl rfl rfl rfl rfl rfl ⟨rfl, rfl, rfl, rfl, rfl⟩ rfl rfl rfl rfl rfl (by kernel_rfl) Try.func3 (by kernel_rfl)
    (of_decide_eq_true (by kernel_rfl)) (by unfold Func.isWrapper; first | (rw [if_pos (by decide +kernel)]; kernel_rfl) | (rw [if_neg (by decide +kernel)]; exact ⟨rfl, rfl⟩))
    (fun os started H enc _ => lifted os started H enc)

/-- ████ THE STATEMENT ████ -/
theorem proved : Rows.FnComponentsMutualReachSinksFirstSaid := over
end Go.Proofs.Qxb6617531a.fnComponentsMutualReachSinksFirst
