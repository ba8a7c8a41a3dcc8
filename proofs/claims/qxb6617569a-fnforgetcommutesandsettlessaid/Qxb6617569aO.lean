import Derived.Test.Qxb6617569aM
import Derived.ProofKit
import Derived.OpenShut
import Derived.ChangeOld
import Derived.Deep.SlicePairs
namespace Go.Proofs.Qxb6617569a
open Go.ChangeShapes Go.WideShapes Go.ChangeAt Go.RowKit Go.Deep
set_option linter.unusedVariables false

theorem cells35 : Try.prog.cellsOf 35 = 2 := by kernel_rfl
theorem cells22 : Try.prog.cellsOf 22 = 1 := by kernel_rfl
theorem own : ownKnob Try.prog.godebug = none := by kernel_rfl
theorem laidOut : laidOutB Try.prog = true := by kernel_rfl

theorem opened {H : Type} {enc : TypeId × Value → H} {W : World} {a : Option Addr} {len cap fuel base : Nat} {held : Bool} {x : DataW H × List MemPlace} (h : DataW.trod enc Try.prog W base (fun _ => true) held fuel 23 [.slice a len cap] = some x) :
    ∃ T M : Nat → Int, Pairs W a len T M ∧ len ≤ 9223372036854775807 := by
  rcases open_slice Try.underlying23 h with ⟨hcs, _⟩ | ⟨p, len', cap', m, n, D, Pl, hcs, _, hl, hm, hmm, _, hx⟩
  · simp at hcs
    obtain ⟨rfl, rfl, rfl⟩ := hcs
    exact ⟨fun _ => 0, fun _ => 0, fun i hi => absurd hi (Nat.not_lt_zero i), by omega⟩
  · simp at hcs
    obtain ⟨rfl, rfl, rfl⟩ := hcs
    simp only [if_true] at hmm
    subst hmm
    have each : ∀ i, ∃ q : Int × Int, i < len → W.cell? (p.add (i * 2)) = some (.int .u64 q.1) ∧ W.cell? (p.add (i * 2 + 1)) = some (.int .u64 q.2) := by
      intro i
      by_cases hi : i < len
      · obtain ⟨cs', h1, h2⟩ := hx i (by omega)
        rw [cells35] at h1
        obtain ⟨_, hlen, hcell⟩ := World.cells?_some h1
        obtain ⟨xs, k, hk, _, _, hxl, hf⟩ := DataW.trod_array Try.underlying35 h2
        have g0 := hf 0 (by decide)
        have g1 := hf 1 (by decide)
        rw [cells22] at g0 g1
        match xs, hxl, cs', hlen with
        | [y0, y1], _, [v0, v1], _ =>
          simp at g0 g1
          obtain ⟨n0, e0, _⟩ := DataW.trod_int Try.underlying22 g0
          obtain ⟨n1, e1, _⟩ := DataW.trod_int Try.underlying22 g1
          simp at e0 e1
          subst e0
          subst e1
          have c0 := hcell 0 (by omega)
          have c1 := hcell 1 (by omega)
          rw [add_add] at c0 c1
          exact ⟨(n0, n1), fun _ => ⟨by simpa using c0, by simpa using c1⟩⟩
      · exact ⟨(0, 0), fun h => absurd h hi⟩
    obtain ⟨F, hF⟩ := Classical.axiomOfChoice each
    refine ⟨fun i => (F i).1, fun i => (F i).2, fun i hi => ?_, by unfold maxLen at hm; omega⟩
    obtain ⟨b, o, spot⟩ := p
    have hspot : spot = none := by simpa [Addr.add] using World.cell?_spot (hF 0 (by omega)).1
    subst hspot
    have := hF i hi
    refine ⟨b, o, rfl, ?_, ?_⟩
    · rw [← add_plain]; exact this.1
    · rw [Nat.add_assoc, ← add_plain]; exact this.2
end Go.Proofs.Qxb6617569a
