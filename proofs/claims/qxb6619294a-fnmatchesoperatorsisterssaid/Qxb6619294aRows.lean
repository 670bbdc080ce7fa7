/-
  No cell of these rows narrows 'for every input' (looked for: loops, veiled, ifaces, maps, wideKeys, modest, calm, conditions, laid).
  DERIVED. THE GIVEN ROWS OF THIS SEAT. 5 by the template 'for every input the law returns true; each argument reads behind the call as it read before'; 0 by the template 'total and deterministic' (their statements: Qxb6619294aTotals.lean).
  GIVEN WITH THE SEED: the statements are not yours to turn. If you find one false, say at which input.
  Laid BY PROGRAM, IN A SANDBOX (cutbox-rows.mjs): the forced cells as the released guide's own fill.sh prints them over the translation eed2f8ae42fca1a6… (all of the seat's roots in one cut). By AI agents, Wed Nov 11 2026. No macro, syntax, notation, axiom, sorry.
-/
import Derived.Test.Qxb6619294aChecked
import GoSem.Claim
import GoSem.ClaimJoined
import GoSem.ClaimMapViews
import Derived.JoinedTies
import Derived.KernelRfl
namespace Go.Proofs.Qxb6619294a
/- THE CELL 'sum', in the pinned program and in every row, IS THE sha256 OF THE DUMP (.gsa) THAT Qxb6619294aProg.lean LOADS. Nothing in Lean hashes anything: it is a label: what it is worth is what the hold of that sum in a sandbox is worth. -/
noncomputable def Try.pinned : Pinned := { name := "qxb6619294a", sum := "eed2f8ae42fca1a60606b2705a4ac77a7e8b2b622929bd8a35f44f9d3260d845", checked := Try.checked }
namespace Rows
def none {H : Type} : Left H := { results := [], args := [] }

/-- 'zzlaws_manifest_b1.FnMatchesAgainstPairModel': WHATEVER THE INPUT: true; the input reads as it did. -/
def fnMatchesAgainstPairModelSpec : ChangeSpec := { name := "fnMatchesAgainstPairModel", fn := fun _ => fun
  | [d1, d2, d3, d4, d5, d6, d7, d8] => { results := [.lit (.bool true)], args := [d1, d2, d3, d4, d5, d6, d7, d8] }
  | _ => none }
def fnMatchesAgainstPairModelRow : OpenClaim := { program := "qxb6619294a", sum := "eed2f8ae42fca1a60606b2705a4ac77a7e8b2b622929bd8a35f44f9d3260d845", func := "example.com/rollcall/rollcall/zzlaws_manifest_b1.FnMatchesAgainstPairModel", spec := "fnMatchesAgainstPairModel", apart := false }
def FnMatchesAgainstPairModelSaid : Prop := fnMatchesAgainstPairModelRow.holds Try.pinned (OpenSpec.ofChange fnMatchesAgainstPairModelSpec)

/-- ITS FALSE NEIGHBOUR: 'it returns false'. Refute it at one input. -/
def fnMatchesAgainstPairModelWrong : ChangeSpec := { name := "fnMatchesAgainstPairModel", fn := fun _ => fun
  | [d1, d2, d3, d4, d5, d6, d7, d8] => { results := [.lit (.bool false)], args := [d1, d2, d3, d4, d5, d6, d7, d8] }
  | _ => none }
def FnMatchesAgainstPairModelWrongFalsely : Prop := fnMatchesAgainstPairModelRow.holds Try.pinned (OpenSpec.ofChange fnMatchesAgainstPairModelWrong)

/-- 'zzlaws_manifest_b1.FnMatchesOperatorSisters': WHATEVER THE INPUT: true; the input reads as it did. -/
def fnMatchesOperatorSistersSpec : ChangeSpec := { name := "fnMatchesOperatorSisters", fn := fun _ => fun
  | [d1, d2, d3, d4, d5] => { results := [.lit (.bool true)], args := [d1, d2, d3, d4, d5] }
  | _ => none }
def fnMatchesOperatorSistersRow : OpenClaim := { program := "qxb6619294a", sum := "eed2f8ae42fca1a60606b2705a4ac77a7e8b2b622929bd8a35f44f9d3260d845", func := "example.com/rollcall/rollcall/zzlaws_manifest_b1.FnMatchesOperatorSisters", spec := "fnMatchesOperatorSisters", apart := false }
def FnMatchesOperatorSistersSaid : Prop := fnMatchesOperatorSistersRow.holds Try.pinned (OpenSpec.ofChange fnMatchesOperatorSistersSpec)

/-- ITS FALSE NEIGHBOUR: 'it returns false'. Refute it at one input. -/
def fnMatchesOperatorSistersWrong : ChangeSpec := { name := "fnMatchesOperatorSisters", fn := fun _ => fun
  | [d1, d2, d3, d4, d5] => { results := [.lit (.bool false)], args := [d1, d2, d3, d4, d5] }
  | _ => none }
def FnMatchesOperatorSistersWrongFalsely : Prop := fnMatchesOperatorSistersRow.holds Try.pinned (OpenSpec.ofChange fnMatchesOperatorSistersWrong)

/-- 'zzlaws_manifest_b1.FnKindOfForeignAPIVersionsAgree': WHATEVER THE INPUT: true; the input reads as it did. -/
def fnKindOfForeignAPIVersionsAgreeSpec : ChangeSpec := { name := "fnKindOfForeignAPIVersionsAgree", fn := fun _ => fun
  | [d1, d2, d3] => { results := [.lit (.bool true)], args := [d1, d2, d3] }
  | _ => none }
def fnKindOfForeignAPIVersionsAgreeRow : OpenClaim := { program := "qxb6619294a", sum := "eed2f8ae42fca1a60606b2705a4ac77a7e8b2b622929bd8a35f44f9d3260d845", func := "example.com/rollcall/rollcall/zzlaws_manifest_b1.FnKindOfForeignAPIVersionsAgree", spec := "fnKindOfForeignAPIVersionsAgree", apart := false }
def FnKindOfForeignAPIVersionsAgreeSaid : Prop := fnKindOfForeignAPIVersionsAgreeRow.holds Try.pinned (OpenSpec.ofChange fnKindOfForeignAPIVersionsAgreeSpec)

/-- ITS FALSE NEIGHBOUR: 'it returns false'. Refute it at one input. -/
def fnKindOfForeignAPIVersionsAgreeWrong : ChangeSpec := { name := "fnKindOfForeignAPIVersionsAgree", fn := fun _ => fun
  | [d1, d2, d3] => { results := [.lit (.bool false)], args := [d1, d2, d3] }
  | _ => none }
def FnKindOfForeignAPIVersionsAgreeWrongFalsely : Prop := fnKindOfForeignAPIVersionsAgreeRow.holds Try.pinned (OpenSpec.ofChange fnKindOfForeignAPIVersionsAgreeWrong)

/-- 'zzlaws_manifest_b1.FnKindOfListOnlyUnderV1': WHATEVER THE INPUT: true; the input reads as it did. -/
def fnKindOfListOnlyUnderV1Spec : ChangeSpec := { name := "fnKindOfListOnlyUnderV1", fn := fun _ => fun
  | [d1, d2, d3] => { results := [.lit (.bool true)], args := [d1, d2, d3] }
  | _ => none }
def fnKindOfListOnlyUnderV1Row : OpenClaim := { program := "qxb6619294a", sum := "eed2f8ae42fca1a60606b2705a4ac77a7e8b2b622929bd8a35f44f9d3260d845", func := "example.com/rollcall/rollcall/zzlaws_manifest_b1.FnKindOfListOnlyUnderV1", spec := "fnKindOfListOnlyUnderV1", apart := false }
def FnKindOfListOnlyUnderV1Said : Prop := fnKindOfListOnlyUnderV1Row.holds Try.pinned (OpenSpec.ofChange fnKindOfListOnlyUnderV1Spec)

/-- ITS FALSE NEIGHBOUR: 'it returns false'. Refute it at one input. -/
def fnKindOfListOnlyUnderV1Wrong : ChangeSpec := { name := "fnKindOfListOnlyUnderV1", fn := fun _ => fun
  | [d1, d2, d3] => { results := [.lit (.bool false)], args := [d1, d2, d3] }
  | _ => none }
def FnKindOfListOnlyUnderV1WrongFalsely : Prop := fnKindOfListOnlyUnderV1Row.holds Try.pinned (OpenSpec.ofChange fnKindOfListOnlyUnderV1Wrong)

/-- 'zzlaws_manifest_b1.FnDNSLabelJoins': WHATEVER THE INPUT: true; the input reads as it did. -/
def fnDNSLabelJoinsSpec : ChangeSpec := { name := "fnDNSLabelJoins", fn := fun _ => fun
  | [d1, d2] => { results := [.lit (.bool true)], args := [d1, d2] }
  | _ => none }
def fnDNSLabelJoinsRow : OpenClaim := { program := "qxb6619294a", sum := "eed2f8ae42fca1a60606b2705a4ac77a7e8b2b622929bd8a35f44f9d3260d845", func := "example.com/rollcall/rollcall/zzlaws_manifest_b1.FnDNSLabelJoins", spec := "fnDNSLabelJoins", apart := false }
def FnDNSLabelJoinsSaid : Prop := fnDNSLabelJoinsRow.holds Try.pinned (OpenSpec.ofChange fnDNSLabelJoinsSpec)

/-- ITS FALSE NEIGHBOUR: 'it returns false'. Refute it at one input. -/
def fnDNSLabelJoinsWrong : ChangeSpec := { name := "fnDNSLabelJoins", fn := fun _ => fun
  | [d1, d2] => { results := [.lit (.bool false)], args := [d1, d2] }
  | _ => none }
def FnDNSLabelJoinsWrongFalsely : Prop := fnDNSLabelJoinsRow.holds Try.pinned (OpenSpec.ofChange fnDNSLabelJoinsWrong)

end Rows
end Go.Proofs.Qxb6619294a
