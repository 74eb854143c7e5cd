/-
  No cell of these rows narrows 'for every input' (looked for: loops, veiled, ifaces, maps, wideKeys, modest, calm, conditions, laid).
  DERIVED. THE GIVEN ROWS OF THIS SEAT. 1 by the template 'for every input the law returns true; each argument reads behind the call as it read before'; 0 by the template 'total and deterministic' (their statements: Qxb6605934aTotals.lean).
  GIVEN WITH THE SEED: the statements are not yours to turn. If you find one false, say at which input.
  Laid BY PROGRAM, IN A SANDBOX (cutbox-rows.mjs): the forced cells as the released guide's own fill.sh prints them over the translation 4e8b92fd53e0d7c9… (all of the seat's roots in one cut). By AI agents, Wed Nov 11 2026. No macro, syntax, notation, axiom, sorry.
-/
import Derived.Test.Qxb6605934aChecked
import GoSem.Claim
import GoSem.ClaimJoined
import GoSem.ClaimMapViews
import Derived.JoinedTies
import Derived.KernelRfl
namespace Go.Proofs.Qxb6605934a
/- THE CELL 'sum', in the pinned program and in every row, IS THE sha256 OF THE DUMP (.gsa) THAT Qxb6605934aProg.lean LOADS. Nothing in Lean hashes anything: it is a label: what it is worth is what the hold of that sum in a sandbox is worth. -/
noncomputable def Try.pinned : Pinned := { name := "qxb6605934a", sum := "4e8b92fd53e0d7c95d1a27de901eae08e682430b0637ae0ccbf5a9e6a63d349f", checked := Try.checked }
namespace Rows
def none {H : Type} : Left H := { results := [], args := [] }

/-- 'zzlaws_ssz_b1.FnEncoderUint8PairIsLittleEndianUint16': WHATEVER THE INPUT: true; the input reads as it did. -/
def fnEncoderUint8PairIsLittleEndianUint16Spec : ChangeSpec := { name := "fnEncoderUint8PairIsLittleEndianUint16", fn := fun _ => fun
  | [d1, d2, d3] => { results := [.lit (.bool true)], args := [d1, d2, d3] }
  | _ => none }
def fnEncoderUint8PairIsLittleEndianUint16Row : OpenClaim := { program := "qxb6605934a", sum := "4e8b92fd53e0d7c95d1a27de901eae08e682430b0637ae0ccbf5a9e6a63d349f", func := "example.com/scriptorium/scriptorium/zzlaws_ssz_b1.FnEncoderUint8PairIsLittleEndianUint16", spec := "fnEncoderUint8PairIsLittleEndianUint16", named := ["encoding/binary.LittleEndian"], apart := false }
def FnEncoderUint8PairIsLittleEndianUint16Said : Prop := fnEncoderUint8PairIsLittleEndianUint16Row.holds Try.pinned (OpenSpec.ofChange fnEncoderUint8PairIsLittleEndianUint16Spec)

/-- ITS FALSE NEIGHBOUR: 'it returns false'. Refute it at one input. -/
def fnEncoderUint8PairIsLittleEndianUint16Wrong : ChangeSpec := { name := "fnEncoderUint8PairIsLittleEndianUint16", fn := fun _ => fun
  | [d1, d2, d3] => { results := [.lit (.bool false)], args := [d1, d2, d3] }
  | _ => none }
def FnEncoderUint8PairIsLittleEndianUint16WrongFalsely : Prop := fnEncoderUint8PairIsLittleEndianUint16Row.holds Try.pinned (OpenSpec.ofChange fnEncoderUint8PairIsLittleEndianUint16Wrong)

end Rows
end Go.Proofs.Qxb6605934a
