/-
  No cell of these rows narrows 'for every input' (looked for: loops, veiled, ifaces, maps, wideKeys, modest, calm, conditions, laid).
  DERIVED. THE GIVEN ROWS OF THIS SEAT. 1 by the template 'for every input the law returns true; each argument reads behind the call as it read before'; 0 by the template 'total and deterministic' (their statements: Qxb6617558aTotals.lean).
  GIVEN WITH THE SEED: the statements are not yours to turn. If you find one false, say at which input.
  Laid BY PROGRAM, IN A SANDBOX (cutbox-rows.mjs): the forced cells as the released guide's own fill.sh prints them over the translation de5b4afa4e7598fd… (all of the seat's roots in one cut). By AI agents, Wed Nov 11 2026. No macro, syntax, notation, axiom, sorry.
-/
import Derived.Test.Qxb6617558aChecked
import GoSem.Claim
import GoSem.ClaimJoined
import GoSem.ClaimMapViews
import Derived.JoinedTies
import Derived.KernelRfl
namespace Go.Proofs.Qxb6617558a
/- THE CELL 'sum', in the pinned program and in every row, IS THE sha256 OF THE DUMP (.gsa) THAT Qxb6617558aProg.lean LOADS. Nothing in Lean hashes anything: it is a label: what it is worth is what the hold of that sum in a sandbox is worth. -/
noncomputable def Try.pinned : Pinned := { name := "qxb6617558a", sum := "de5b4afa4e7598fda84452ced0915eb8dc5b5027a2c8d6f539e50334d38e465f", checked := Try.checked }
namespace Rows
def none {H : Type} : Left H := { results := [], args := [] }

/-- 'zzlaws_internal_rollup_b1.FnMergeEmptyIsIdentity': WHATEVER THE INPUT: true; the input reads as it did. -/
def fnMergeEmptyIsIdentitySpec : ChangeSpec := { name := "fnMergeEmptyIsIdentity", fn := fun _ => fun
  | [d1, d2] => { results := [.lit (.bool true)], args := [d1, d2] }
  | _ => none }
def fnMergeEmptyIsIdentityRow : OpenClaim := { program := "qxb6617558a", sum := "de5b4afa4e7598fda84452ced0915eb8dc5b5027a2c8d6f539e50334d38e465f", func := "example.com/woodrat/woodrat/zzlaws_internal_rollup_b1.FnMergeEmptyIsIdentity", spec := "fnMergeEmptyIsIdentity", plainKeys := false, apart := false }
def FnMergeEmptyIsIdentitySaid : Prop := fnMergeEmptyIsIdentityRow.holds Try.pinned (OpenSpec.ofChange fnMergeEmptyIsIdentitySpec)

/-- ITS FALSE NEIGHBOUR: 'it returns false'. Refute it at one input. -/
def fnMergeEmptyIsIdentityWrong : ChangeSpec := { name := "fnMergeEmptyIsIdentity", fn := fun _ => fun
  | [d1, d2] => { results := [.lit (.bool false)], args := [d1, d2] }
  | _ => none }
def FnMergeEmptyIsIdentityWrongFalsely : Prop := fnMergeEmptyIsIdentityRow.holds Try.pinned (OpenSpec.ofChange fnMergeEmptyIsIdentityWrong)

end Rows
end Go.Proofs.Qxb6617558a
