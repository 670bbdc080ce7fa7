/-
  No cell of these rows narrows 'for every input' (looked for: loops, veiled, ifaces, maps, wideKeys, modest, calm, conditions, laid).
  DERIVED. THE GIVEN ROWS OF THIS SEAT. 2 by the template 'for every input the law returns true; each argument reads behind the call as it read before'; 0 by the template 'total and deterministic' (their statements: Qxb6621683aTotals.lean).
  GIVEN WITH THE SEED: the statements are not yours to turn. If you find one false, say at which input.
  Laid BY PROGRAM, IN A SANDBOX (cutbox-rows.mjs): the forced cells as the released guide's own fill.sh prints them over the translation 5c5a04f1b66cbee6… (all of the seat's roots in one cut). By AI agents, Wed Nov 11 2026. No macro, syntax, notation, axiom, sorry.
-/
import Derived.Test.Qxb6621683aChecked
import GoSem.Claim
import GoSem.ClaimJoined
import GoSem.ClaimMapViews
import Derived.JoinedTies
import Derived.KernelRfl
namespace Go.Proofs.Qxb6621683a
/- THE CELL 'sum', in the pinned program and in every row, IS THE sha256 OF THE DUMP (.gsa) THAT Qxb6621683aProg.lean LOADS. Nothing in Lean hashes anything: it is a label: what it is worth is what the hold of that sum in a sandbox is worth. -/
noncomputable def Try.pinned : Pinned := { name := "qxb6621683a", sum := "5c5a04f1b66cbee6219c5a6f452dfd68033ce594c097d2576e10f69fec70e613", checked := Try.checked }
namespace Rows
def none {H : Type} : Left H := { results := [], args := [] }

/-- 'zzlaws_internal_ascii_b1.FnEqualFoldMatchesFoldPairsAtAnyCut': WHATEVER THE INPUT: true; the input reads as it did. -/
def fnEqualFoldMatchesFoldPairsAtAnyCutSpec : ChangeSpec := { name := "fnEqualFoldMatchesFoldPairsAtAnyCut", fn := fun _ => fun
  | [d1, d2, d3] => { results := [.lit (.bool true)], args := [d1, d2, d3] }
  | _ => none }
def fnEqualFoldMatchesFoldPairsAtAnyCutRow : OpenClaim := { program := "qxb6621683a", sum := "5c5a04f1b66cbee6219c5a6f452dfd68033ce594c097d2576e10f69fec70e613", func := "example.com/claimgate/claimgate/zzlaws_internal_ascii_b1.FnEqualFoldMatchesFoldPairsAtAnyCut", spec := "fnEqualFoldMatchesFoldPairsAtAnyCut", apart := false }
def FnEqualFoldMatchesFoldPairsAtAnyCutSaid : Prop := fnEqualFoldMatchesFoldPairsAtAnyCutRow.holds Try.pinned (OpenSpec.ofChange fnEqualFoldMatchesFoldPairsAtAnyCutSpec)

/-- ITS FALSE NEIGHBOUR: 'it returns false'. Refute it at one input. -/
def fnEqualFoldMatchesFoldPairsAtAnyCutWrong : ChangeSpec := { name := "fnEqualFoldMatchesFoldPairsAtAnyCut", fn := fun _ => fun
  | [d1, d2, d3] => { results := [.lit (.bool false)], args := [d1, d2, d3] }
  | _ => none }
def FnEqualFoldMatchesFoldPairsAtAnyCutWrongFalsely : Prop := fnEqualFoldMatchesFoldPairsAtAnyCutRow.holds Try.pinned (OpenSpec.ofChange fnEqualFoldMatchesFoldPairsAtAnyCutWrong)

/-- 'zzlaws_internal_ascii_b1.FnLowerIdentifiesExactlyCasePairs': WHATEVER THE INPUT: true; the input reads as it did. -/
def fnLowerIdentifiesExactlyCasePairsSpec : ChangeSpec := { name := "fnLowerIdentifiesExactlyCasePairs", fn := fun _ => fun
  | [d1, d2] => { results := [.lit (.bool true)], args := [d1, d2] }
  | _ => none }
def fnLowerIdentifiesExactlyCasePairsRow : OpenClaim := { program := "qxb6621683a", sum := "5c5a04f1b66cbee6219c5a6f452dfd68033ce594c097d2576e10f69fec70e613", func := "example.com/claimgate/claimgate/zzlaws_internal_ascii_b1.FnLowerIdentifiesExactlyCasePairs", spec := "fnLowerIdentifiesExactlyCasePairs", apart := false }
def FnLowerIdentifiesExactlyCasePairsSaid : Prop := fnLowerIdentifiesExactlyCasePairsRow.holds Try.pinned (OpenSpec.ofChange fnLowerIdentifiesExactlyCasePairsSpec)

/-- ITS FALSE NEIGHBOUR: 'it returns false'. Refute it at one input. -/
def fnLowerIdentifiesExactlyCasePairsWrong : ChangeSpec := { name := "fnLowerIdentifiesExactlyCasePairs", fn := fun _ => fun
  | [d1, d2] => { results := [.lit (.bool false)], args := [d1, d2] }
  | _ => none }
def FnLowerIdentifiesExactlyCasePairsWrongFalsely : Prop := fnLowerIdentifiesExactlyCasePairsRow.holds Try.pinned (OpenSpec.ofChange fnLowerIdentifiesExactlyCasePairsWrong)

end Rows
end Go.Proofs.Qxb6621683a
