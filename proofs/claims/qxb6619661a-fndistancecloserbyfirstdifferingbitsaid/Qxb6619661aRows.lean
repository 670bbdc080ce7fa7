/-
  No cell of these rows narrows 'for every input' (looked for: loops, veiled, ifaces, maps, wideKeys, modest, calm, conditions, laid).
  DERIVED. THE GIVEN ROWS OF THIS SEAT. 2 by the template 'for every input the law returns true; each argument reads behind the call as it read before'; 0 by the template 'total and deterministic' (their statements: Qxb6619661aTotals.lean).
  GIVEN WITH THE SEED: the statements are not yours to turn. If you find one false, say at which input.
  Laid BY PROGRAM, IN A SANDBOX (cutbox-rows.mjs): the forced cells as the released guide's own fill.sh prints them over the translation 406d78bb383828f8… (all of the seat's roots in one cut). By AI agents, Wed Nov 11 2026. No macro, syntax, notation, axiom, sorry.
-/
import Derived.Test.Qxb6619661aChecked
import GoSem.Claim
import GoSem.ClaimJoined
import GoSem.ClaimMapViews
import Derived.JoinedTies
import Derived.KernelRfl
namespace Go.Proofs.Qxb6619661a
/- THE CELL 'sum', in the pinned program and in every row, IS THE sha256 OF THE DUMP (.gsa) THAT Qxb6619661aProg.lean LOADS. Nothing in Lean hashes anything: it is a label: what it is worth is what the hold of that sum in a sandbox is worth. -/
noncomputable def Try.pinned : Pinned := { name := "qxb6619661a", sum := "406d78bb383828f86716391980d14bfa4bf0325e97695c0b4970ee485768d578", checked := Try.checked }
namespace Rows
def none {H : Type} : Left H := { results := [], args := [] }

/-- 'zzlaws_internal_keyspace_b1.FnDistanceInverseSymmetricSelfZero': WHATEVER THE INPUT: true; the input reads as it did. -/
def fnDistanceInverseSymmetricSelfZeroSpec : ChangeSpec := { name := "fnDistanceInverseSymmetricSelfZero", fn := fun _ => fun
  | [d1, d2] => { results := [.lit (.bool true)], args := [d1, d2] }
  | _ => none }
def fnDistanceInverseSymmetricSelfZeroRow : OpenClaim := { program := "qxb6619661a", sum := "406d78bb383828f86716391980d14bfa4bf0325e97695c0b4970ee485768d578", func := "example.com/nearhop/nearhop/zzlaws_internal_keyspace_b1.FnDistanceInverseSymmetricSelfZero", spec := "fnDistanceInverseSymmetricSelfZero", apart := false }
def FnDistanceInverseSymmetricSelfZeroSaid : Prop := fnDistanceInverseSymmetricSelfZeroRow.holds Try.pinned (OpenSpec.ofChange fnDistanceInverseSymmetricSelfZeroSpec)

/-- ITS FALSE NEIGHBOUR: 'it returns false'. Refute it at one input. -/
def fnDistanceInverseSymmetricSelfZeroWrong : ChangeSpec := { name := "fnDistanceInverseSymmetricSelfZero", fn := fun _ => fun
  | [d1, d2] => { results := [.lit (.bool false)], args := [d1, d2] }
  | _ => none }
def FnDistanceInverseSymmetricSelfZeroWrongFalsely : Prop := fnDistanceInverseSymmetricSelfZeroRow.holds Try.pinned (OpenSpec.ofChange fnDistanceInverseSymmetricSelfZeroWrong)

/-- 'zzlaws_internal_keyspace_b1.FnDistanceCloserByFirstDifferingBit': WHATEVER THE INPUT: true; the input reads as it did. -/
def fnDistanceCloserByFirstDifferingBitSpec : ChangeSpec := { name := "fnDistanceCloserByFirstDifferingBit", fn := fun _ => fun
  | [d1, d2, d3] => { results := [.lit (.bool true)], args := [d1, d2, d3] }
  | _ => none }
def fnDistanceCloserByFirstDifferingBitRow : OpenClaim := { program := "qxb6619661a", sum := "406d78bb383828f86716391980d14bfa4bf0325e97695c0b4970ee485768d578", func := "example.com/nearhop/nearhop/zzlaws_internal_keyspace_b1.FnDistanceCloserByFirstDifferingBit", spec := "fnDistanceCloserByFirstDifferingBit", apart := false }
def FnDistanceCloserByFirstDifferingBitSaid : Prop := fnDistanceCloserByFirstDifferingBitRow.holds Try.pinned (OpenSpec.ofChange fnDistanceCloserByFirstDifferingBitSpec)

/-- ITS FALSE NEIGHBOUR: 'it returns false'. Refute it at one input. -/
def fnDistanceCloserByFirstDifferingBitWrong : ChangeSpec := { name := "fnDistanceCloserByFirstDifferingBit", fn := fun _ => fun
  | [d1, d2, d3] => { results := [.lit (.bool false)], args := [d1, d2, d3] }
  | _ => none }
def FnDistanceCloserByFirstDifferingBitWrongFalsely : Prop := fnDistanceCloserByFirstDifferingBitRow.holds Try.pinned (OpenSpec.ofChange fnDistanceCloserByFirstDifferingBitWrong)

end Rows
end Go.Proofs.Qxb6619661a
