/-
  No cell of these rows narrows 'for every input' (looked for: loops, veiled, ifaces, maps, wideKeys, modest, calm, conditions, laid).
  DERIVED. THE GIVEN ROWS OF THIS SEAT. 2 by the template 'for every input the law returns true; each argument reads behind the call as it read before'; 0 by the template 'total and deterministic' (their statements: Qxb6000994aTotals.lean).
  GIVEN WITH THE SEED: the statements are not yours to turn. If you find one false, say at which input.
  Laid BY PROGRAM, IN A SANDBOX (cutbox-rows.mjs): the forced cells as the released guide's own fill.sh prints them over the translation 5da0b202aa0bd9c0… (all of the seat's roots in one cut). By AI agents, Wed Nov 11 2026. No macro, syntax, notation, axiom, sorry.
-/
import Derived.Test.Qxb6000994aChecked
import GoSem.Claim
import GoSem.ClaimJoined
import GoSem.ClaimMapViews
import Derived.JoinedTies
import Derived.KernelRfl
namespace Go.Proofs.Qxb6000994a
/- THE CELL 'sum', in the pinned program and in every row, IS THE sha256 OF THE DUMP (.gsa) THAT Qxb6000994aProg.lean LOADS. Nothing in Lean hashes anything: it is a label: what it is worth is what the hold of that sum in a sandbox is worth. -/
noncomputable def Try.pinned : Pinned := { name := "qxb6000994a", sum := "5da0b202aa0bd9c0947e0c118e9d521b3aade5ae09543f8c4d88220737e7de4b", checked := Try.checked }
namespace Rows
def none {H : Type} : Left H := { results := [], args := [] }

/-- 'zzlaws_root_b1.FnKeySetAddAnswersIsNew': WHATEVER THE INPUT: true; the input reads as it did. -/
def fnKeySetAddAnswersIsNewSpec : ChangeSpec := { name := "fnKeySetAddAnswersIsNew", fn := fun _ => fun
  | [d] => { results := [.lit (.bool true)], args := [d] }
  | _ => none }
def fnKeySetAddAnswersIsNewRow : OpenClaim := { program := "qxb6000994a", sum := "5da0b202aa0bd9c0947e0c118e9d521b3aade5ae09543f8c4d88220737e7de4b", func := "example.com/kinship/kinship/zzlaws_root_b1.FnKeySetAddAnswersIsNew", spec := "fnKeySetAddAnswersIsNew", apart := false }
def FnKeySetAddAnswersIsNewSaid : Prop := fnKeySetAddAnswersIsNewRow.holds Try.pinned (OpenSpec.ofChange fnKeySetAddAnswersIsNewSpec)

/-- ITS FALSE NEIGHBOUR: 'it returns false'. Refute it at one input. -/
def fnKeySetAddAnswersIsNewWrong : ChangeSpec := { name := "fnKeySetAddAnswersIsNew", fn := fun _ => fun
  | [d] => { results := [.lit (.bool false)], args := [d] }
  | _ => none }
def FnKeySetAddAnswersIsNewWrongFalsely : Prop := fnKeySetAddAnswersIsNewRow.holds Try.pinned (OpenSpec.ofChange fnKeySetAddAnswersIsNewWrong)

/-- 'zzlaws_root_b1.FnKeySetSettledAndOrderFree': WHATEVER THE INPUT: true; the input reads as it did. -/
def fnKeySetSettledAndOrderFreeSpec : ChangeSpec := { name := "fnKeySetSettledAndOrderFree", fn := fun _ => fun
  | [d] => { results := [.lit (.bool true)], args := [d] }
  | _ => none }
def fnKeySetSettledAndOrderFreeRow : OpenClaim := { program := "qxb6000994a", sum := "5da0b202aa0bd9c0947e0c118e9d521b3aade5ae09543f8c4d88220737e7de4b", func := "example.com/kinship/kinship/zzlaws_root_b1.FnKeySetSettledAndOrderFree", spec := "fnKeySetSettledAndOrderFree", apart := false }
def FnKeySetSettledAndOrderFreeSaid : Prop := fnKeySetSettledAndOrderFreeRow.holds Try.pinned (OpenSpec.ofChange fnKeySetSettledAndOrderFreeSpec)

/-- ITS FALSE NEIGHBOUR: 'it returns false'. Refute it at one input. -/
def fnKeySetSettledAndOrderFreeWrong : ChangeSpec := { name := "fnKeySetSettledAndOrderFree", fn := fun _ => fun
  | [d] => { results := [.lit (.bool false)], args := [d] }
  | _ => none }
def FnKeySetSettledAndOrderFreeWrongFalsely : Prop := fnKeySetSettledAndOrderFreeRow.holds Try.pinned (OpenSpec.ofChange fnKeySetSettledAndOrderFreeWrong)

end Rows
end Go.Proofs.Qxb6000994a
