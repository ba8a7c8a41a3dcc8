/-
  No cell of these rows narrows 'for every input' (looked for: loops, veiled, ifaces, maps, wideKeys, modest, calm, conditions, laid).
  DERIVED. THE GIVEN ROWS OF THIS SEAT. 2 by the template 'for every input the law returns true; each argument reads behind the call as it read before'; 0 by the template 'total and deterministic' (their statements: Qxb6617569aTotals.lean).
  GIVEN WITH THE SEED: the statements are not yours to turn. If you find one false, say at which input.
  Laid BY PROGRAM, IN A SANDBOX (cutbox-rows.mjs): the forced cells as the released guide's own fill.sh prints them over the translation fe0ce5150d21a3f5… (all of the seat's roots in one cut). By AI agents, Wed Nov 11 2026. No macro, syntax, notation, axiom, sorry.
-/
import Derived.Test.Qxb6617569aChecked
import GoSem.Claim
import GoSem.ClaimJoined
import GoSem.ClaimMapViews
import Derived.JoinedTies
import Derived.KernelRfl
namespace Go.Proofs.Qxb6617569a
/- THE CELL 'sum', in the pinned program and in every row, IS THE sha256 OF THE DUMP (.gsa) THAT Qxb6617569aProg.lean LOADS. Nothing in Lean hashes anything: it is a label: what it is worth is what the hold of that sum in a sandbox is worth. -/
noncomputable def Try.pinned : Pinned := { name := "qxb6617569a", sum := "fe0ce5150d21a3f568905f60ee3c96c70f0562c85586161ea4dd82cb0a1bb654", checked := Try.checked }
namespace Rows
def none {H : Type} : Left H := { results := [], args := [] }

/-- 'zzlaws_internal_mutex_b1.FnForgetInsertOne': WHATEVER THE INPUT: true; the input reads as it did. -/
def fnForgetInsertOneSpec : ChangeSpec := { name := "fnForgetInsertOne", fn := fun _ => fun
  | [d1, d2, d3, d4, d5, d6, d7] => { results := [.lit (.bool true)], args := [d1, d2, d3, d4, d5, d6, d7] }
  | _ => none }
def fnForgetInsertOneRow : OpenClaim := { program := "qxb6617569a", sum := "fe0ce5150d21a3f568905f60ee3c96c70f0562c85586161ea4dd82cb0a1bb654", func := "example.com/antecedent/antecedent/zzlaws_internal_mutex_b1.FnForgetInsertOne", spec := "fnForgetInsertOne", apart := false }
def FnForgetInsertOneSaid : Prop := fnForgetInsertOneRow.holds Try.pinned (OpenSpec.ofChange fnForgetInsertOneSpec)

/-- ITS FALSE NEIGHBOUR: 'it returns false'. Refute it at one input. -/
def fnForgetInsertOneWrong : ChangeSpec := { name := "fnForgetInsertOne", fn := fun _ => fun
  | [d1, d2, d3, d4, d5, d6, d7] => { results := [.lit (.bool false)], args := [d1, d2, d3, d4, d5, d6, d7] }
  | _ => none }
def FnForgetInsertOneWrongFalsely : Prop := fnForgetInsertOneRow.holds Try.pinned (OpenSpec.ofChange fnForgetInsertOneWrong)

/-- 'zzlaws_internal_mutex_b1.FnForgetCommutesAndSettles': WHATEVER THE INPUT: true; the input reads as it did. -/
def fnForgetCommutesAndSettlesSpec : ChangeSpec := { name := "fnForgetCommutesAndSettles", fn := fun _ => fun
  | [d1, d2, d3, d4, d5] => { results := [.lit (.bool true)], args := [d1, d2, d3, d4, d5] }
  | _ => none }
def fnForgetCommutesAndSettlesRow : OpenClaim := { program := "qxb6617569a", sum := "fe0ce5150d21a3f568905f60ee3c96c70f0562c85586161ea4dd82cb0a1bb654", func := "example.com/antecedent/antecedent/zzlaws_internal_mutex_b1.FnForgetCommutesAndSettles", spec := "fnForgetCommutesAndSettles", apart := false }
def FnForgetCommutesAndSettlesSaid : Prop := fnForgetCommutesAndSettlesRow.holds Try.pinned (OpenSpec.ofChange fnForgetCommutesAndSettlesSpec)

/-- ITS FALSE NEIGHBOUR: 'it returns false'. Refute it at one input. -/
def fnForgetCommutesAndSettlesWrong : ChangeSpec := { name := "fnForgetCommutesAndSettles", fn := fun _ => fun
  | [d1, d2, d3, d4, d5] => { results := [.lit (.bool false)], args := [d1, d2, d3, d4, d5] }
  | _ => none }
def FnForgetCommutesAndSettlesWrongFalsely : Prop := fnForgetCommutesAndSettlesRow.holds Try.pinned (OpenSpec.ofChange fnForgetCommutesAndSettlesWrong)

end Rows
end Go.Proofs.Qxb6617569a
