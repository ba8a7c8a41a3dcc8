/-
  THE PROOF OF 'Rows.FnMergeEmptyIsIdentitySaid': the guide's shell, its hole filled by 'law_any' (Lw).
-/
import Derived.Test.Qxb6617558aRows
import Derived.WalkKit
import Derived.ProofKit
import Derived.OpenShut
import Derived.ChangeOld
import Derived.Below
import Derived.Lib.SmallJoins
import Derived.Test.Qxb6617558aOp
import Derived.Test.Qxb6617558aLw
namespace Go.Proofs.Qxb6617558a.fnMergeEmptyIsIdentity
open Go.ChangeShapes Go.WideShapes Go.ChangeAt Go.RowKit Go.Deep
set_option linter.unusedVariables false

set_option maxRecDepth 100000 in
theorem opened {H : Type} {enc : TypeId × Value → H} {W : World} {r : Reach} {b0 : Nat} {v : Value} {d : DataW H} {p : List MemPlace} (hv : Value.okWide Try.prog W r b0 25 v) (h : DataW.Trod enc Try.prog W 0 (fun _ => true) true 25 v d p) :
    ∃ (L : Loc) (x : Ta), v = .agg #[.slice L.sa x.n L.sc, .slice L.va x.m L.vc] ∧ Arg W L x ∧ x.Ok := by
  obtain ⟨cs, rfl, hsz⟩ := okWide_struct Try.underlying25 hv
  obtain ⟨fuel, hf⟩ := h
  obtain ⟨xs, k, rfl, _, hl, hxl, hfs⟩ := DataW.trod_struct Try.underlying25 hf
  rw [cells25] at hsz
  match cs, hsz with
  | ⟨[v0, v1]⟩, _ =>
    have g0 := hfs 0 _ rfl
    have g1 := hfs 1 _ rfl
    simp [Value.cells, cells22, cells23] at g0 g1
    match xs, hxl with
    | [y0, y1], _ =>
      simp at g0 g1
      have hv0 : ∃ a len cap, v0 = .slice a len cap := by
        rcases open_slice Try.underlying22 g0 with ⟨hcs, _⟩ | ⟨p, len', cap', m, n, D, Pm, hcs, _⟩
        · simp at hcs; exact ⟨_, _, _, hcs⟩
        · simp at hcs; exact ⟨_, _, _, hcs⟩
      have hv1 : ∃ a len cap, v1 = .slice a len cap := by
        rcases open_slice Try.underlying23 g1 with ⟨hcs, _⟩ | ⟨p, len', cap', m, n, D, Pm, hcs, _⟩
        · simp at hcs; exact ⟨_, _, _, hcs⟩
        · simp at hcs; exact ⟨_, _, _, hcs⟩
      obtain ⟨sa, sn, sc, rfl⟩ := hv0
      obtain ⟨va, vn, vc, rfl⟩ := hv1
      obtain ⟨hn, P, hP⟩ := open22 g0
      obtain ⟨hm, V, pa, pc, hV⟩ := open23 g1
      exact ⟨⟨sa, va, sc, vc, pa, pc⟩, ⟨sn, vn, fun i => (P i).1, fun i => (P i).2, V⟩, rfl, ⟨fun i hi => (hP i hi).2.2, fun i hi => (hV i hi).2.1, fun i j hi hj => (hV i hi).2.2 j hj⟩,
        ⟨hn, hm, fun i hi => (hP i hi).1, fun i hi => (hP i hi).2.1, fun i hi => (hV i hi).1⟩⟩

set_option maxRecDepth 100000 in
theorem lifted (os : Os) (started : os.Started) (H : Type) (enc : TypeId × Value → H) :
    ReturnsInHanded {} Try.checked os 3 .any (Rows.fnMergeEmptyIsIdentitySpec.pre6 enc Try.prog Try.f3 Rows.fnMergeEmptyIsIdentityRow.domain false) (Rows.fnMergeEmptyIsIdentitySpec.post enc Try.prog Try.f3 false true false false) := by
  refine returnsInHanded_of_change (C := Try.checked) own started (by kernel_rfl) Try.func3
    (ChangeSpec.witness6 (enc := enc) (C := Try.checked) false ⟨#[], #[.agg #[.slice none 0 0, .slice none 0 0], .agg #[.slice none 0 0, .slice none 0 0]], []⟩ 8 (by kernel_rfl) (by kernel_rfl) (by kernel_rfl) (by kernel_rfl)) ?_
  intro W base args ds gs before hval0 hW hcnd _
  have hval : ∀ (j : Nat) t v, Try.f3.params[j]? = some t → args[j]? = some v → Value.okWide Try.prog W .any base t v := hval0
  have hW' := hW
  obtain ⟨p, q, hA0, hV, rfl, hfz, hnd⟩ := hW
  have hA : DataW.TrodAll enc Try.prog W 0 (fun _ => true) true Try.f3.params.toList args.toList ds p := hA0
  rw [Try.params3] at hA hval
  obtain ⟨v0, vs0, d0, ds0, p0, q0, hargs, rfl, rfl, h0, r0⟩ := trodAll_cons hA
  obtain ⟨v1, vs1, d1, ds1, p1, q1, rfl, rfl, rfl, h1, r1⟩ := trodAll_cons r0
  obtain ⟨rfl, rfl, rfl⟩ := trodAll_nil r1
  obtain rfl : args = #[v0, v1] := by cases args; simp_all
  obtain ⟨rfl, rfl⟩ := trodVars_none hV
  have lt0 : ∀ x ∈ p0, x.block < W.heap.size := by obtain ⟨m, hm⟩ := h0; exact DataW.trod_lt m _ _ _ hm
  have lt1 : ∀ x ∈ p1, x.block < W.heap.size := by obtain ⟨m, hm⟩ := h1; exact DataW.trod_lt m _ _ _ hm
  obtain ⟨L, x, rfl, ha, hok⟩ := opened (hval 0 25 v0 rfl rfl) h0
  obtain ⟨M, y, rfl, hy, hok2⟩ := opened (hval 1 25 v1 rfl rfl) h1
  clear hA0 hval0
  refine (law_any L M x y W ha hok hy hok2).mono fun e W' ⟨he, bel⟩ => ?_
  subst he
  exact ⟨_, rfl, _, _, _, [], _, [], hW', trodAll_mk1 (shut_bool Try.underlying4 _), (trodAll_cons_mk (Below.trod laid0 (by kernel_rfl) (of_decide_eq_true (by kernel_rfl)) h0 bel lt0) (trodAll_cons_mk (Below.trod laid0 (by kernel_rfl) (of_decide_eq_true (by kernel_rfl)) h1 bel lt1) trodAll_mk0)), rfl, bel.frame _, fun h => by cases h⟩

theorem over : Rows.fnMergeEmptyIsIdentityRow.holds Try.pinned (OpenSpec.ofChange Rows.fnMergeEmptyIsIdentitySpec) :=
  OpenClaim.holds_of_wide 3 Try.f3 rfl rfl rfl rfl rfl rfl rfl ⟨rfl, rfl, rfl, rfl, rfl⟩ rfl rfl rfl rfl rfl (by kernel_rfl) Try.func3 (by kernel_rfl)
    (of_decide_eq_true (by kernel_rfl)) (by unfold Func.isWrapper; first | (rw [if_pos (by decide +kernel)]; kernel_rfl) | (rw [if_neg (by decide +kernel)]; exact ⟨rfl, rfl⟩))
    (fun os started H enc _ => lifted os started H enc)

/-- ████ THE STATEMENT ████ -/
theorem proved : Rows.FnMergeEmptyIsIdentitySaid := over
end Go.Proofs.Qxb6617558a.fnMergeEmptyIsIdentity
