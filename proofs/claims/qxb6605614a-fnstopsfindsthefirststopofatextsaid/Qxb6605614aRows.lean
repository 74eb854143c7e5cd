/-
  No cell of these rows narrows 'for every input' (looked for: loops, veiled, ifaces, maps, wideKeys, modest, calm, conditions, laid).
  DERIVED. THE GIVEN ROWS OF THIS SEAT. 2 by the template 'for every input the law returns true; each argument reads behind the call as it read before'; 0 by the template 'total and deterministic' (their statements: Qxb6605614aTotals.lean).
  GIVEN WITH THE SEED: the statements are not yours to turn. If you find one false, say at which input.
  Laid BY PROGRAM, IN A SANDBOX (cutbox-rows.mjs): the forced cells as the released guide's own fill.sh prints them over the translation 13e5e0f23cba1484… (all of the seat's roots in one cut). By AI agents, Wed Nov 11 2026. No macro, syntax, notation, axiom, sorry.
-/
import Derived.Test.Qxb6605614aChecked
import GoSem.Claim
import GoSem.ClaimJoined
import GoSem.ClaimMapViews
import Derived.JoinedTies
import Derived.KernelRfl
namespace Go.Proofs.Qxb6605614a
/- THE CELL 'sum', in the pinned program and in every row, IS THE sha256 OF THE DUMP (.gsa) THAT Qxb6605614aProg.lean LOADS. Nothing in Lean hashes anything: it is a label: what it is worth is what the hold of that sum in a sandbox is worth. -/
noncomputable def Try.pinned : Pinned := { name := "qxb6605614a", sum := "13e5e0f23cba1484741810f17f4f71f4cf11ea5b81ce0cdc94ab91954d6e59ec", checked := Try.checked }
namespace Rows
def none {H : Type} : Left H := { results := [], args := [] }

/-- 'zzlaws_provider_b1.FnStopsMarksExactlyTheStopBytes': WHATEVER THE INPUT: true; the input reads as it did. -/
def fnStopsMarksExactlyTheStopBytesSpec : ChangeSpec := { name := "fnStopsMarksExactlyTheStopBytes", fn := fun _ => fun
  | [d] => { results := [.lit (.bool true)], args := [d] }
  | _ => none }
def fnStopsMarksExactlyTheStopBytesRow : OpenClaim := { program := "qxb6605614a", sum := "13e5e0f23cba1484741810f17f4f71f4cf11ea5b81ce0cdc94ab91954d6e59ec", func := "example.com/anahtar/anahtar/zzlaws_provider_b1.FnStopsMarksExactlyTheStopBytes", spec := "fnStopsMarksExactlyTheStopBytes", apart := false }
def FnStopsMarksExactlyTheStopBytesSaid : Prop := fnStopsMarksExactlyTheStopBytesRow.holds Try.pinned (OpenSpec.ofChange fnStopsMarksExactlyTheStopBytesSpec)

/-- ITS FALSE NEIGHBOUR: 'it returns false'. Refute it at one input. -/
def fnStopsMarksExactlyTheStopBytesWrong : ChangeSpec := { name := "fnStopsMarksExactlyTheStopBytes", fn := fun _ => fun
  | [d] => { results := [.lit (.bool false)], args := [d] }
  | _ => none }
def FnStopsMarksExactlyTheStopBytesWrongFalsely : Prop := fnStopsMarksExactlyTheStopBytesRow.holds Try.pinned (OpenSpec.ofChange fnStopsMarksExactlyTheStopBytesWrong)

/-- 'zzlaws_provider_b1.FnStopsFindsTheFirstStopOfAText': WHATEVER THE INPUT: true; the input reads as it did. -/
def fnStopsFindsTheFirstStopOfATextSpec : ChangeSpec := { name := "fnStopsFindsTheFirstStopOfAText", fn := fun _ => fun
  | [d] => { results := [.lit (.bool true)], args := [d] }
  | _ => none }
def fnStopsFindsTheFirstStopOfATextRow : OpenClaim := { program := "qxb6605614a", sum := "13e5e0f23cba1484741810f17f4f71f4cf11ea5b81ce0cdc94ab91954d6e59ec", func := "example.com/anahtar/anahtar/zzlaws_provider_b1.FnStopsFindsTheFirstStopOfAText", spec := "fnStopsFindsTheFirstStopOfAText", apart := false }
def FnStopsFindsTheFirstStopOfATextSaid : Prop := fnStopsFindsTheFirstStopOfATextRow.holds Try.pinned (OpenSpec.ofChange fnStopsFindsTheFirstStopOfATextSpec)

/-- ITS FALSE NEIGHBOUR: 'it returns false'. Refute it at one input. -/
def fnStopsFindsTheFirstStopOfATextWrong : ChangeSpec := { name := "fnStopsFindsTheFirstStopOfAText", fn := fun _ => fun
  | [d] => { results := [.lit (.bool false)], args := [d] }
  | _ => none }
def FnStopsFindsTheFirstStopOfATextWrongFalsely : Prop := fnStopsFindsTheFirstStopOfATextRow.holds Try.pinned (OpenSpec.ofChange fnStopsFindsTheFirstStopOfATextWrong)

end Rows
end Go.Proofs.Qxb6605614a
