/-
  No cell of these rows narrows 'for every input' (looked for: loops, veiled, ifaces, maps, wideKeys, modest, calm, conditions, laid).
  DERIVED. THE GIVEN ROWS OF THIS SEAT. 4 by the template 'for every input the law returns true; each argument reads behind the call as it read before'; 0 by the template 'total and deterministic' (their statements: Qxb6601113aTotals.lean).
  GIVEN WITH THE SEED: the statements are not yours to turn. If you find one false, say at which input.
  Laid BY PROGRAM, IN A SANDBOX (cutbox-rows.mjs): the forced cells as the released guide's own fill.sh prints them over the translation a59d5d4697052d9e… (all of the seat's roots in one cut). By AI agents, Wed Nov 11 2026. No macro, syntax, notation, axiom, sorry.
-/
import Derived.Test.Qxb6601113aChecked
import GoSem.Claim
import GoSem.ClaimJoined
import GoSem.ClaimMapViews
import Derived.JoinedTies
import Derived.KernelRfl
namespace Go.Proofs.Qxb6601113a
/- THE CELL 'sum', in the pinned program and in every row, IS THE sha256 OF THE DUMP (.gsa) THAT Qxb6601113aProg.lean LOADS. Nothing in Lean hashes anything: it is a label: what it is worth is what the hold of that sum in a sandbox is worth. -/
noncomputable def Try.pinned : Pinned := { name := "qxb6601113a", sum := "a59d5d4697052d9e049634662611581cd976daf0b9518b005a1955f60dd28d3b", checked := Try.checked }
namespace Rows
def none {H : Type} : Left H := { results := [], args := [] }

/-- 'zzlaws_explain_b1.FnAppendStringCanonicalJSONRoundTrip': WHATEVER THE INPUT: true; the input reads as it did. -/
def fnAppendStringCanonicalJSONRoundTripSpec : ChangeSpec := { name := "fnAppendStringCanonicalJSONRoundTrip", fn := fun _ => fun
  | [d1, d2] => { results := [.lit (.bool true)], args := [d1, d2] }
  | _ => none }
def fnAppendStringCanonicalJSONRoundTripRow : OpenClaim := { program := "qxb6601113a", sum := "a59d5d4697052d9e049634662611581cd976daf0b9518b005a1955f60dd28d3b", func := "example.com/clearblock/clearblock/zzlaws_explain_b1.FnAppendStringCanonicalJSONRoundTrip", spec := "fnAppendStringCanonicalJSONRoundTrip", apart := false }
def FnAppendStringCanonicalJSONRoundTripSaid : Prop := fnAppendStringCanonicalJSONRoundTripRow.holds Try.pinned (OpenSpec.ofChange fnAppendStringCanonicalJSONRoundTripSpec)

/-- ITS FALSE NEIGHBOUR: 'it returns false'. Refute it at one input. -/
def fnAppendStringCanonicalJSONRoundTripWrong : ChangeSpec := { name := "fnAppendStringCanonicalJSONRoundTrip", fn := fun _ => fun
  | [d1, d2] => { results := [.lit (.bool false)], args := [d1, d2] }
  | _ => none }
def FnAppendStringCanonicalJSONRoundTripWrongFalsely : Prop := fnAppendStringCanonicalJSONRoundTripRow.holds Try.pinned (OpenSpec.ofChange fnAppendStringCanonicalJSONRoundTripWrong)

/-- 'zzlaws_explain_b1.FnAppendStringLengthBounds': WHATEVER THE INPUT: true; the input reads as it did. -/
def fnAppendStringLengthBoundsSpec : ChangeSpec := { name := "fnAppendStringLengthBounds", fn := fun _ => fun
  | [d1, d2] => { results := [.lit (.bool true)], args := [d1, d2] }
  | _ => none }
def fnAppendStringLengthBoundsRow : OpenClaim := { program := "qxb6601113a", sum := "a59d5d4697052d9e049634662611581cd976daf0b9518b005a1955f60dd28d3b", func := "example.com/clearblock/clearblock/zzlaws_explain_b1.FnAppendStringLengthBounds", spec := "fnAppendStringLengthBounds", apart := false }
def FnAppendStringLengthBoundsSaid : Prop := fnAppendStringLengthBoundsRow.holds Try.pinned (OpenSpec.ofChange fnAppendStringLengthBoundsSpec)

/-- ITS FALSE NEIGHBOUR: 'it returns false'. Refute it at one input. -/
def fnAppendStringLengthBoundsWrong : ChangeSpec := { name := "fnAppendStringLengthBounds", fn := fun _ => fun
  | [d1, d2] => { results := [.lit (.bool false)], args := [d1, d2] }
  | _ => none }
def FnAppendStringLengthBoundsWrongFalsely : Prop := fnAppendStringLengthBoundsRow.holds Try.pinned (OpenSpec.ofChange fnAppendStringLengthBoundsWrong)

/-- 'zzlaws_explain_b1.FnDocumentIsCanonicalFourMemberObject': WHATEVER THE INPUT: true; the input reads as it did. -/
def fnDocumentIsCanonicalFourMemberObjectSpec : ChangeSpec := { name := "fnDocumentIsCanonicalFourMemberObject", fn := fun _ => fun
  | [d1, d2, d3, d4, d5, d6] => { results := [.lit (.bool true)], args := [d1, d2, d3, d4, d5, d6] }
  | _ => none }
def fnDocumentIsCanonicalFourMemberObjectRow : OpenClaim := { program := "qxb6601113a", sum := "a59d5d4697052d9e049634662611581cd976daf0b9518b005a1955f60dd28d3b", func := "example.com/clearblock/clearblock/zzlaws_explain_b1.FnDocumentIsCanonicalFourMemberObject", spec := "fnDocumentIsCanonicalFourMemberObject", apart := false }
def FnDocumentIsCanonicalFourMemberObjectSaid : Prop := fnDocumentIsCanonicalFourMemberObjectRow.holds Try.pinned (OpenSpec.ofChange fnDocumentIsCanonicalFourMemberObjectSpec)

/-- ITS FALSE NEIGHBOUR: 'it returns false'. Refute it at one input. -/
def fnDocumentIsCanonicalFourMemberObjectWrong : ChangeSpec := { name := "fnDocumentIsCanonicalFourMemberObject", fn := fun _ => fun
  | [d1, d2, d3, d4, d5, d6] => { results := [.lit (.bool false)], args := [d1, d2, d3, d4, d5, d6] }
  | _ => none }
def FnDocumentIsCanonicalFourMemberObjectWrongFalsely : Prop := fnDocumentIsCanonicalFourMemberObjectRow.holds Try.pinned (OpenSpec.ofChange fnDocumentIsCanonicalFourMemberObjectWrong)

/-- 'zzlaws_explain_b1.FnDocumentReadsOnlyItsOwnText': WHATEVER THE INPUT: true; the input reads as it did. -/
def fnDocumentReadsOnlyItsOwnTextSpec : ChangeSpec := { name := "fnDocumentReadsOnlyItsOwnText", fn := fun _ => fun
  | [d1, d2, d3, d4, d5, d6] => { results := [.lit (.bool true)], args := [d1, d2, d3, d4, d5, d6] }
  | _ => none }
def fnDocumentReadsOnlyItsOwnTextRow : OpenClaim := { program := "qxb6601113a", sum := "a59d5d4697052d9e049634662611581cd976daf0b9518b005a1955f60dd28d3b", func := "example.com/clearblock/clearblock/zzlaws_explain_b1.FnDocumentReadsOnlyItsOwnText", spec := "fnDocumentReadsOnlyItsOwnText", apart := false }
def FnDocumentReadsOnlyItsOwnTextSaid : Prop := fnDocumentReadsOnlyItsOwnTextRow.holds Try.pinned (OpenSpec.ofChange fnDocumentReadsOnlyItsOwnTextSpec)

/-- ITS FALSE NEIGHBOUR: 'it returns false'. Refute it at one input. -/
def fnDocumentReadsOnlyItsOwnTextWrong : ChangeSpec := { name := "fnDocumentReadsOnlyItsOwnText", fn := fun _ => fun
  | [d1, d2, d3, d4, d5, d6] => { results := [.lit (.bool false)], args := [d1, d2, d3, d4, d5, d6] }
  | _ => none }
def FnDocumentReadsOnlyItsOwnTextWrongFalsely : Prop := fnDocumentReadsOnlyItsOwnTextRow.holds Try.pinned (OpenSpec.ofChange fnDocumentReadsOnlyItsOwnTextWrong)

end Rows
end Go.Proofs.Qxb6601113a
