/-
  No cell of these rows narrows 'for every input' (looked for: loops, veiled, ifaces, maps, wideKeys, modest, calm, conditions, laid).
  DERIVED. THE GIVEN ROWS OF THIS SEAT. 1 by the template 'for every input the law returns true; each argument reads behind the call as it read before'; 0 by the template 'total and deterministic' (their statements: Qxb6617531aTotals.lean).
  GIVEN WITH THE SEED: the statements are not yours to turn. If you find one false, say at which input.
  Laid BY PROGRAM, IN A SANDBOX (cutbox-rows.mjs): the forced cells as the released guide's own fill.sh prints them over the translation 171e0bf9f78d1950… (all of the seat's roots in one cut). By AI agents, Wed Nov 11 2026. No macro, syntax, notation, axiom, sorry.
-/
import Derived.Test.Qxb6617531aChecked
import GoSem.Claim
import GoSem.ClaimJoined
import GoSem.ClaimMapViews
import Derived.JoinedTies
import Derived.KernelRfl
namespace Go.Proofs.Qxb6617531a
/- THE CELL 'sum', in the pinned program and in every row, IS THE sha256 OF THE DUMP (.gsa) THAT Qxb6617531aProg.lean LOADS. Nothing in Lean hashes anything: it is a label: what it is worth is what the hold of that sum in a sandbox is worth. -/
noncomputable def Try.pinned : Pinned := { name := "qxb6617531a", sum := "171e0bf9f78d195091a69a4bea50debe97ef103b2ed857934562407fbed27f19", checked := Try.checked }
namespace Rows
def none {H : Type} : Left H := { results := [], args := [] }

/-- 'zzlaws_internal_composition_b1.FnComponentsMutualReachSinksFirst': WHATEVER THE INPUT: true; the input reads as it did. -/
def fnComponentsMutualReachSinksFirstSpec : ChangeSpec := { name := "fnComponentsMutualReachSinksFirst", fn := fun _ => fun
  | [d1, d2] => { results := [.lit (.bool true)], args := [d1, d2] }
  | _ => none }
def fnComponentsMutualReachSinksFirstRow : OpenClaim := { program := "qxb6617531a", sum := "171e0bf9f78d195091a69a4bea50debe97ef103b2ed857934562407fbed27f19", func := "example.com/spherule/spherule/zzlaws_internal_composition_b1.FnComponentsMutualReachSinksFirst", spec := "fnComponentsMutualReachSinksFirst", unfollowed := true, recurses := true, apart := false }
def FnComponentsMutualReachSinksFirstSaid : Prop := fnComponentsMutualReachSinksFirstRow.holds Try.pinned (OpenSpec.ofChange fnComponentsMutualReachSinksFirstSpec)

/-- ITS FALSE NEIGHBOUR: 'it returns false'. Refute it at one input. -/
def fnComponentsMutualReachSinksFirstWrong : ChangeSpec := { name := "fnComponentsMutualReachSinksFirst", fn := fun _ => fun
  | [d1, d2] => { results := [.lit (.bool false)], args := [d1, d2] }
  | _ => none }
def FnComponentsMutualReachSinksFirstWrongFalsely : Prop := fnComponentsMutualReachSinksFirstRow.holds Try.pinned (OpenSpec.ofChange fnComponentsMutualReachSinksFirstWrong)

end Rows
end Go.Proofs.Qxb6617531a
