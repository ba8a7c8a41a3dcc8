/-
  No cell of these rows narrows 'for every input' (looked for: loops, veiled, ifaces, maps, wideKeys, modest, calm, conditions, laid).
  DERIVED. THE GIVEN ROWS OF THIS SEAT. 1 by the template 'for every input the law returns true; each argument reads behind the call as it read before'; 0 by the template 'total and deterministic' (their statements: Qxb6617473aTotals.lean).
  GIVEN WITH THE SEED: the statements are not yours to turn. If you find one false, say at which input.
  Laid BY PROGRAM, IN A SANDBOX (cutbox-rows.mjs): the forced cells as the released guide's own fill.sh prints them over the translation 9dedd20e09e3fe3f… (all of the seat's roots in one cut). By AI agents, Wed Nov 11 2026. No macro, syntax, notation, axiom, sorry.
-/
import Derived.Test.Qxb6617473aChecked
import GoSem.Claim
import GoSem.ClaimJoined
import GoSem.ClaimMapViews
import Derived.JoinedTies
import Derived.KernelRfl
namespace Go.Proofs.Qxb6617473a
/- THE CELL 'sum', in the pinned program and in every row, IS THE sha256 OF THE DUMP (.gsa) THAT Qxb6617473aProg.lean LOADS. Nothing in Lean hashes anything: it is a label: what it is worth is what the hold of that sum in a sandbox is worth. -/
noncomputable def Try.pinned : Pinned := { name := "qxb6617473a", sum := "9dedd20e09e3fe3f746fb5e4dace233cb6ba06faf64c9a2be9341f161f0858ff", checked := Try.checked }
namespace Rows
def none {H : Type} : Left H := { results := [], args := [] }

/-- 'zzlaws_internal_detcbor_b1.FnKeyReadsExactlyAnEncodingOfKey': WHATEVER THE INPUT: true; the input reads as it did. -/
def fnKeyReadsExactlyAnEncodingOfKeySpec : ChangeSpec := { name := "fnKeyReadsExactlyAnEncodingOfKey", fn := fun _ => fun
  | [d1, d2, d3] => { results := [.lit (.bool true)], args := [d1, d2, d3] }
  | _ => none }
def fnKeyReadsExactlyAnEncodingOfKeyRow : OpenClaim := { program := "qxb6617473a", sum := "9dedd20e09e3fe3f746fb5e4dace233cb6ba06faf64c9a2be9341f161f0858ff", func := "example.com/castellan/castellan/zzlaws_internal_detcbor_b1.FnKeyReadsExactlyAnEncodingOfKey", spec := "fnKeyReadsExactlyAnEncodingOfKey", apart := false }
def FnKeyReadsExactlyAnEncodingOfKeySaid : Prop := fnKeyReadsExactlyAnEncodingOfKeyRow.holds Try.pinned (OpenSpec.ofChange fnKeyReadsExactlyAnEncodingOfKeySpec)

/-- ITS FALSE NEIGHBOUR: 'it returns false'. Refute it at one input. -/
def fnKeyReadsExactlyAnEncodingOfKeyWrong : ChangeSpec := { name := "fnKeyReadsExactlyAnEncodingOfKey", fn := fun _ => fun
  | [d1, d2, d3] => { results := [.lit (.bool false)], args := [d1, d2, d3] }
  | _ => none }
def FnKeyReadsExactlyAnEncodingOfKeyWrongFalsely : Prop := fnKeyReadsExactlyAnEncodingOfKeyRow.holds Try.pinned (OpenSpec.ofChange fnKeyReadsExactlyAnEncodingOfKeyWrong)

end Rows
end Go.Proofs.Qxb6617473a
