/-
  No cell of these rows narrows 'for every input' (looked for: loops, veiled, ifaces, maps, wideKeys, modest, calm, conditions, laid).
  DERIVED. THE GIVEN ROWS OF THIS SEAT. 6 by the template 'for every input the law returns true; each argument reads behind the call as it read before'; 0 by the template 'total and deterministic' (their statements: Qxb6000140aTotals.lean).
  GIVEN WITH THE SEED: the statements are not yours to turn. If you find one false, say at which input.
  Laid BY PROGRAM, IN A SANDBOX (cutbox-rows.mjs): the forced cells as the released guide's own fill.sh prints them over the translation 15a962168ae58738… (all of the seat's roots in one cut). By AI agents, Wed Nov 11 2026. No macro, syntax, notation, axiom, sorry.
-/
import Derived.Test.Qxb6000140aChecked
import GoSem.Claim
import GoSem.ClaimJoined
import GoSem.ClaimMapViews
import Derived.JoinedTies
import Derived.KernelRfl
namespace Go.Proofs.Qxb6000140a
/- THE CELL 'sum', in the pinned program and in every row, IS THE sha256 OF THE DUMP (.gsa) THAT Qxb6000140aProg.lean LOADS. Nothing in Lean hashes anything: it is a label: what it is worth is what the hold of that sum in a sandbox is worth. -/
noncomputable def Try.pinned : Pinned := { name := "qxb6000140a", sum := "15a962168ae587387d2bbfa6c767ff85498fa24238e6a571b7af161fc4ee5ca0", checked := Try.checked }
namespace Rows
def none {H : Type} : Left H := { results := [], args := [] }

/-- 'zzlaws_pkg_records_b1.FnBeforeIsTheFilterOfEarlierMonths': WHATEVER THE INPUT: true; the input reads as it did. -/
def fnBeforeIsTheFilterOfEarlierMonthsSpec : ChangeSpec := { name := "fnBeforeIsTheFilterOfEarlierMonths", fn := fun _ => fun
  | [d1, d2] => { results := [.lit (.bool true)], args := [d1, d2] }
  | _ => none }
def fnBeforeIsTheFilterOfEarlierMonthsRow : OpenClaim := { program := "qxb6000140a", sum := "15a962168ae587387d2bbfa6c767ff85498fa24238e6a571b7af161fc4ee5ca0", func := "example.com/vestwright/vestwright/zzlaws_pkg_records_b1.FnBeforeIsTheFilterOfEarlierMonths", spec := "fnBeforeIsTheFilterOfEarlierMonths", apart := false }
def FnBeforeIsTheFilterOfEarlierMonthsSaid : Prop := fnBeforeIsTheFilterOfEarlierMonthsRow.holds Try.pinned (OpenSpec.ofChange fnBeforeIsTheFilterOfEarlierMonthsSpec)

/-- ITS FALSE NEIGHBOUR: 'it returns false'. Refute it at one input. -/
def fnBeforeIsTheFilterOfEarlierMonthsWrong : ChangeSpec := { name := "fnBeforeIsTheFilterOfEarlierMonths", fn := fun _ => fun
  | [d1, d2] => { results := [.lit (.bool false)], args := [d1, d2] }
  | _ => none }
def FnBeforeIsTheFilterOfEarlierMonthsWrongFalsely : Prop := fnBeforeIsTheFilterOfEarlierMonthsRow.holds Try.pinned (OpenSpec.ofChange fnBeforeIsTheFilterOfEarlierMonthsWrong)

/-- 'zzlaws_pkg_records_b1.FnBeforeComposesToTheEarlierMonth': WHATEVER THE INPUT: true; the input reads as it did. -/
def fnBeforeComposesToTheEarlierMonthSpec : ChangeSpec := { name := "fnBeforeComposesToTheEarlierMonth", fn := fun _ => fun
  | [d1, d2, d3] => { results := [.lit (.bool true)], args := [d1, d2, d3] }
  | _ => none }
def fnBeforeComposesToTheEarlierMonthRow : OpenClaim := { program := "qxb6000140a", sum := "15a962168ae587387d2bbfa6c767ff85498fa24238e6a571b7af161fc4ee5ca0", func := "example.com/vestwright/vestwright/zzlaws_pkg_records_b1.FnBeforeComposesToTheEarlierMonth", spec := "fnBeforeComposesToTheEarlierMonth", apart := false }
def FnBeforeComposesToTheEarlierMonthSaid : Prop := fnBeforeComposesToTheEarlierMonthRow.holds Try.pinned (OpenSpec.ofChange fnBeforeComposesToTheEarlierMonthSpec)

/-- ITS FALSE NEIGHBOUR: 'it returns false'. Refute it at one input. -/
def fnBeforeComposesToTheEarlierMonthWrong : ChangeSpec := { name := "fnBeforeComposesToTheEarlierMonth", fn := fun _ => fun
  | [d1, d2, d3] => { results := [.lit (.bool false)], args := [d1, d2, d3] }
  | _ => none }
def FnBeforeComposesToTheEarlierMonthWrongFalsely : Prop := fnBeforeComposesToTheEarlierMonthRow.holds Try.pinned (OpenSpec.ofChange fnBeforeComposesToTheEarlierMonthWrong)

/-- 'zzlaws_pkg_records_b1.FnKeepGathersEachMembersRowsInFileOrder': WHATEVER THE INPUT: true; the input reads as it did. -/
def fnKeepGathersEachMembersRowsInFileOrderSpec : ChangeSpec := { name := "fnKeepGathersEachMembersRowsInFileOrder", fn := fun _ => fun
  | [d] => { results := [.lit (.bool true)], args := [d] }
  | _ => none }
def fnKeepGathersEachMembersRowsInFileOrderRow : OpenClaim := { program := "qxb6000140a", sum := "15a962168ae587387d2bbfa6c767ff85498fa24238e6a571b7af161fc4ee5ca0", func := "example.com/vestwright/vestwright/zzlaws_pkg_records_b1.FnKeepGathersEachMembersRowsInFileOrder", spec := "fnKeepGathersEachMembersRowsInFileOrder", apart := false }
def FnKeepGathersEachMembersRowsInFileOrderSaid : Prop := fnKeepGathersEachMembersRowsInFileOrderRow.holds Try.pinned (OpenSpec.ofChange fnKeepGathersEachMembersRowsInFileOrderSpec)

/-- ITS FALSE NEIGHBOUR: 'it returns false'. Refute it at one input. -/
def fnKeepGathersEachMembersRowsInFileOrderWrong : ChangeSpec := { name := "fnKeepGathersEachMembersRowsInFileOrder", fn := fun _ => fun
  | [d] => { results := [.lit (.bool false)], args := [d] }
  | _ => none }
def FnKeepGathersEachMembersRowsInFileOrderWrongFalsely : Prop := fnKeepGathersEachMembersRowsInFileOrderRow.holds Try.pinned (OpenSpec.ofChange fnKeepGathersEachMembersRowsInFileOrderWrong)

/-- 'zzlaws_pkg_records_b1.FnRecordsEndIsLastNewlineAfterEvenQuotes': WHATEVER THE INPUT: true; the input reads as it did. -/
def fnRecordsEndIsLastNewlineAfterEvenQuotesSpec : ChangeSpec := { name := "fnRecordsEndIsLastNewlineAfterEvenQuotes", fn := fun _ => fun
  | [d] => { results := [.lit (.bool true)], args := [d] }
  | _ => none }
def fnRecordsEndIsLastNewlineAfterEvenQuotesRow : OpenClaim := { program := "qxb6000140a", sum := "15a962168ae587387d2bbfa6c767ff85498fa24238e6a571b7af161fc4ee5ca0", func := "example.com/vestwright/vestwright/zzlaws_pkg_records_b1.FnRecordsEndIsLastNewlineAfterEvenQuotes", spec := "fnRecordsEndIsLastNewlineAfterEvenQuotes", inPlace := ["internal/bytealg.Count", "internal/bytealg.IndexByte", "internal/bytealg.Index"], named := ["internal/bytealg.MaxLen"], apart := false }
def FnRecordsEndIsLastNewlineAfterEvenQuotesSaid : Prop := fnRecordsEndIsLastNewlineAfterEvenQuotesRow.holds Try.pinned (OpenSpec.ofChange fnRecordsEndIsLastNewlineAfterEvenQuotesSpec)

/-- ITS FALSE NEIGHBOUR: 'it returns false'. Refute it at one input. -/
def fnRecordsEndIsLastNewlineAfterEvenQuotesWrong : ChangeSpec := { name := "fnRecordsEndIsLastNewlineAfterEvenQuotes", fn := fun _ => fun
  | [d] => { results := [.lit (.bool false)], args := [d] }
  | _ => none }
def FnRecordsEndIsLastNewlineAfterEvenQuotesWrongFalsely : Prop := fnRecordsEndIsLastNewlineAfterEvenQuotesRow.holds Try.pinned (OpenSpec.ofChange fnRecordsEndIsLastNewlineAfterEvenQuotesWrong)

/-- 'zzlaws_pkg_records_b1.FnRecordsEndIsAFixedPoint': WHATEVER THE INPUT: true; the input reads as it did. -/
def fnRecordsEndIsAFixedPointSpec : ChangeSpec := { name := "fnRecordsEndIsAFixedPoint", fn := fun _ => fun
  | [d] => { results := [.lit (.bool true)], args := [d] }
  | _ => none }
def fnRecordsEndIsAFixedPointRow : OpenClaim := { program := "qxb6000140a", sum := "15a962168ae587387d2bbfa6c767ff85498fa24238e6a571b7af161fc4ee5ca0", func := "example.com/vestwright/vestwright/zzlaws_pkg_records_b1.FnRecordsEndIsAFixedPoint", spec := "fnRecordsEndIsAFixedPoint", inPlace := ["internal/bytealg.Count", "internal/bytealg.IndexByte", "internal/bytealg.Index"], named := ["internal/bytealg.MaxLen"], apart := false }
def FnRecordsEndIsAFixedPointSaid : Prop := fnRecordsEndIsAFixedPointRow.holds Try.pinned (OpenSpec.ofChange fnRecordsEndIsAFixedPointSpec)

/-- ITS FALSE NEIGHBOUR: 'it returns false'. Refute it at one input. -/
def fnRecordsEndIsAFixedPointWrong : ChangeSpec := { name := "fnRecordsEndIsAFixedPoint", fn := fun _ => fun
  | [d] => { results := [.lit (.bool false)], args := [d] }
  | _ => none }
def FnRecordsEndIsAFixedPointWrongFalsely : Prop := fnRecordsEndIsAFixedPointRow.holds Try.pinned (OpenSpec.ofChange fnRecordsEndIsAFixedPointWrong)

/-- 'zzlaws_pkg_records_b1.FnRecordsEndNeverShrinksWhenTextGrows': WHATEVER THE INPUT: true; the input reads as it did. -/
def fnRecordsEndNeverShrinksWhenTextGrowsSpec : ChangeSpec := { name := "fnRecordsEndNeverShrinksWhenTextGrows", fn := fun _ => fun
  | [d1, d2] => { results := [.lit (.bool true)], args := [d1, d2] }
  | _ => none }
def fnRecordsEndNeverShrinksWhenTextGrowsRow : OpenClaim := { program := "qxb6000140a", sum := "15a962168ae587387d2bbfa6c767ff85498fa24238e6a571b7af161fc4ee5ca0", func := "example.com/vestwright/vestwright/zzlaws_pkg_records_b1.FnRecordsEndNeverShrinksWhenTextGrows", spec := "fnRecordsEndNeverShrinksWhenTextGrows", inPlace := ["internal/bytealg.Count", "internal/bytealg.IndexByte", "internal/bytealg.Index"], named := ["internal/bytealg.MaxLen"], apart := false }
def FnRecordsEndNeverShrinksWhenTextGrowsSaid : Prop := fnRecordsEndNeverShrinksWhenTextGrowsRow.holds Try.pinned (OpenSpec.ofChange fnRecordsEndNeverShrinksWhenTextGrowsSpec)

/-- ITS FALSE NEIGHBOUR: 'it returns false'. Refute it at one input. -/
def fnRecordsEndNeverShrinksWhenTextGrowsWrong : ChangeSpec := { name := "fnRecordsEndNeverShrinksWhenTextGrows", fn := fun _ => fun
  | [d1, d2] => { results := [.lit (.bool false)], args := [d1, d2] }
  | _ => none }
def FnRecordsEndNeverShrinksWhenTextGrowsWrongFalsely : Prop := fnRecordsEndNeverShrinksWhenTextGrowsRow.holds Try.pinned (OpenSpec.ofChange fnRecordsEndNeverShrinksWhenTextGrowsWrong)

end Rows
end Go.Proofs.Qxb6000140a
