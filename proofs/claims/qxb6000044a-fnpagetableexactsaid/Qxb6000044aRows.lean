/-
  No cell of these rows narrows 'for every input' (looked for: loops, veiled, ifaces, maps, wideKeys, modest, calm, conditions, laid).
  DERIVED. THE GIVEN ROWS OF THIS SEAT. 5 by the template 'for every input the law returns true; each argument reads behind the call as it read before'; 0 by the template 'total and deterministic' (their statements: Qxb6000044aTotals.lean).
  GIVEN WITH THE SEED: the statements are not yours to turn. If you find one false, say at which input.
  Laid BY PROGRAM, IN A SANDBOX (cutbox-rows.mjs): the forced cells as the released guide's own fill.sh prints them over the translation b18307e5594d3091… (all of the seat's roots in one cut). By AI agents, Wed Nov 11 2026. No macro, syntax, notation, axiom, sorry.
-/
import Derived.Test.Qxb6000044aChecked
import GoSem.Claim
import GoSem.ClaimJoined
import GoSem.ClaimMapViews
import Derived.JoinedTies
import Derived.KernelRfl
namespace Go.Proofs.Qxb6000044a
/- THE CELL 'sum', in the pinned program and in every row, IS THE sha256 OF THE DUMP (.gsa) THAT Qxb6000044aProg.lean LOADS. Nothing in Lean hashes anything: it is a label: what it is worth is what the hold of that sum in a sandbox is worth. -/
noncomputable def Try.pinned : Pinned := { name := "qxb6000044a", sum := "b18307e5594d3091db8e6a66a924eae182e6a44f05f1c5808016b768ccd3f3e3", checked := Try.checked }
namespace Rows
def none {H : Type} : Left H := { results := [], args := [] }

/-- 'zzlaws_cmd_b1.FnAppendSpacesExact': WHATEVER THE INPUT: true; the input reads as it did. -/
def fnAppendSpacesExactSpec : ChangeSpec := { name := "fnAppendSpacesExact", fn := fun _ => fun
  | [d1, d2] => { results := [.lit (.bool true)], args := [d1, d2] }
  | _ => none }
def fnAppendSpacesExactRow : OpenClaim := { program := "qxb6000044a", sum := "b18307e5594d3091db8e6a66a924eae182e6a44f05f1c5808016b768ccd3f3e3", func := "example.com/vestbook/vestbook/zzlaws_cmd_b1.FnAppendSpacesExact", spec := "fnAppendSpacesExact", apart := false }
def FnAppendSpacesExactSaid : Prop := fnAppendSpacesExactRow.holds Try.pinned (OpenSpec.ofChange fnAppendSpacesExactSpec)

/-- ITS FALSE NEIGHBOUR: 'it returns false'. Refute it at one input. -/
def fnAppendSpacesExactWrong : ChangeSpec := { name := "fnAppendSpacesExact", fn := fun _ => fun
  | [d1, d2] => { results := [.lit (.bool false)], args := [d1, d2] }
  | _ => none }
def FnAppendSpacesExactWrongFalsely : Prop := fnAppendSpacesExactRow.holds Try.pinned (OpenSpec.ofChange fnAppendSpacesExactWrong)

/-- 'zzlaws_cmd_b1.FnAppendSpacesAdditive': WHATEVER THE INPUT: true; the input reads as it did. -/
def fnAppendSpacesAdditiveSpec : ChangeSpec := { name := "fnAppendSpacesAdditive", fn := fun _ => fun
  | [d1, d2, d3] => { results := [.lit (.bool true)], args := [d1, d2, d3] }
  | _ => none }
def fnAppendSpacesAdditiveRow : OpenClaim := { program := "qxb6000044a", sum := "b18307e5594d3091db8e6a66a924eae182e6a44f05f1c5808016b768ccd3f3e3", func := "example.com/vestbook/vestbook/zzlaws_cmd_b1.FnAppendSpacesAdditive", spec := "fnAppendSpacesAdditive", apart := false }
def FnAppendSpacesAdditiveSaid : Prop := fnAppendSpacesAdditiveRow.holds Try.pinned (OpenSpec.ofChange fnAppendSpacesAdditiveSpec)

/-- ITS FALSE NEIGHBOUR: 'it returns false'. Refute it at one input. -/
def fnAppendSpacesAdditiveWrong : ChangeSpec := { name := "fnAppendSpacesAdditive", fn := fun _ => fun
  | [d1, d2, d3] => { results := [.lit (.bool false)], args := [d1, d2, d3] }
  | _ => none }
def FnAppendSpacesAdditiveWrongFalsely : Prop := fnAppendSpacesAdditiveRow.holds Try.pinned (OpenSpec.ofChange fnAppendSpacesAdditiveWrong)

/-- 'zzlaws_cmd_b1.FnPageTableExact': WHATEVER THE INPUT: true; the input reads as it did. -/
def fnPageTableExactSpec : ChangeSpec := { name := "fnPageTableExact", fn := fun _ => fun
  | [d1, d2, d3, d4] => { results := [.lit (.bool true)], args := [d1, d2, d3, d4] }
  | _ => none }
def fnPageTableExactRow : OpenClaim := { program := "qxb6000044a", sum := "b18307e5594d3091db8e6a66a924eae182e6a44f05f1c5808016b768ccd3f3e3", func := "example.com/vestbook/vestbook/zzlaws_cmd_b1.FnPageTableExact", spec := "fnPageTableExact", apart := false }
def FnPageTableExactSaid : Prop := fnPageTableExactRow.holds Try.pinned (OpenSpec.ofChange fnPageTableExactSpec)

/-- ITS FALSE NEIGHBOUR: 'it returns false'. Refute it at one input. -/
def fnPageTableExactWrong : ChangeSpec := { name := "fnPageTableExact", fn := fun _ => fun
  | [d1, d2, d3, d4] => { results := [.lit (.bool false)], args := [d1, d2, d3, d4] }
  | _ => none }
def FnPageTableExactWrongFalsely : Prop := fnPageTableExactRow.holds Try.pinned (OpenSpec.ofChange fnPageTableExactWrong)

/-- 'zzlaws_cmd_b1.FnPageTableRowsSplit': WHATEVER THE INPUT: true; the input reads as it did. -/
def fnPageTableRowsSplitSpec : ChangeSpec := { name := "fnPageTableRowsSplit", fn := fun _ => fun
  | [d1, d2, d3, d4, d5] => { results := [.lit (.bool true)], args := [d1, d2, d3, d4, d5] }
  | _ => none }
def fnPageTableRowsSplitRow : OpenClaim := { program := "qxb6000044a", sum := "b18307e5594d3091db8e6a66a924eae182e6a44f05f1c5808016b768ccd3f3e3", func := "example.com/vestbook/vestbook/zzlaws_cmd_b1.FnPageTableRowsSplit", spec := "fnPageTableRowsSplit", apart := false }
def FnPageTableRowsSplitSaid : Prop := fnPageTableRowsSplitRow.holds Try.pinned (OpenSpec.ofChange fnPageTableRowsSplitSpec)

/-- ITS FALSE NEIGHBOUR: 'it returns false'. Refute it at one input. -/
def fnPageTableRowsSplitWrong : ChangeSpec := { name := "fnPageTableRowsSplit", fn := fun _ => fun
  | [d1, d2, d3, d4, d5] => { results := [.lit (.bool false)], args := [d1, d2, d3, d4, d5] }
  | _ => none }
def FnPageTableRowsSplitWrongFalsely : Prop := fnPageTableRowsSplitRow.holds Try.pinned (OpenSpec.ofChange fnPageTableRowsSplitWrong)

/-- 'zzlaws_cmd_b1.FnPageTableAlignedWithHeadings': WHATEVER THE INPUT: true; the input reads as it did. -/
def fnPageTableAlignedWithHeadingsSpec : ChangeSpec := { name := "fnPageTableAlignedWithHeadings", fn := fun _ => fun
  | [d1, d2, d3, d4] => { results := [.lit (.bool true)], args := [d1, d2, d3, d4] }
  | _ => none }
def fnPageTableAlignedWithHeadingsRow : OpenClaim := { program := "qxb6000044a", sum := "b18307e5594d3091db8e6a66a924eae182e6a44f05f1c5808016b768ccd3f3e3", func := "example.com/vestbook/vestbook/zzlaws_cmd_b1.FnPageTableAlignedWithHeadings", spec := "fnPageTableAlignedWithHeadings", apart := false }
def FnPageTableAlignedWithHeadingsSaid : Prop := fnPageTableAlignedWithHeadingsRow.holds Try.pinned (OpenSpec.ofChange fnPageTableAlignedWithHeadingsSpec)

/-- ITS FALSE NEIGHBOUR: 'it returns false'. Refute it at one input. -/
def fnPageTableAlignedWithHeadingsWrong : ChangeSpec := { name := "fnPageTableAlignedWithHeadings", fn := fun _ => fun
  | [d1, d2, d3, d4] => { results := [.lit (.bool false)], args := [d1, d2, d3, d4] }
  | _ => none }
def FnPageTableAlignedWithHeadingsWrongFalsely : Prop := fnPageTableAlignedWithHeadingsRow.holds Try.pinned (OpenSpec.ofChange fnPageTableAlignedWithHeadingsWrong)

end Rows
end Go.Proofs.Qxb6000044a
