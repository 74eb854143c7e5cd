/-
  No cell of these rows narrows 'for every input' (looked for: loops, veiled, ifaces, maps, wideKeys, modest, calm, conditions, laid).
  DERIVED. THE GIVEN ROWS OF THIS SEAT. 3 by the template 'for every input the law returns true; each argument reads behind the call as it read before'; 0 by the template 'total and deterministic' (their statements: Qxb6605877aTotals.lean).
  GIVEN WITH THE SEED: the statements are not yours to turn. If you find one false, say at which input.
  Laid BY PROGRAM, IN A SANDBOX (cutbox-rows.mjs): the forced cells as the released guide's own fill.sh prints them over the translation 9c5e00560959de20… (all of the seat's roots in one cut). By AI agents, Wed Nov 11 2026. No macro, syntax, notation, axiom, sorry.
-/
import Derived.Test.Qxb6605877aChecked
import GoSem.Claim
import GoSem.ClaimJoined
import GoSem.ClaimMapViews
import Derived.JoinedTies
import Derived.KernelRfl
namespace Go.Proofs.Qxb6605877a
/- THE CELL 'sum', in the pinned program and in every row, IS THE sha256 OF THE DUMP (.gsa) THAT Qxb6605877aProg.lean LOADS. Nothing in Lean hashes anything: it is a label: what it is worth is what the hold of that sum in a sandbox is worth. -/
noncomputable def Try.pinned : Pinned := { name := "qxb6605877a", sum := "9c5e00560959de206489e151c803e979d48eb6e0c152b957dab47264561ddacc", checked := Try.checked }
namespace Rows
def none {H : Type} : Left H := { results := [], args := [] }

/-- 'zzlaws_lock_b1.FnGroupOfIsTableIndexModeScope': WHATEVER THE INPUT: true; the input reads as it did. -/
def fnGroupOfIsTableIndexModeScopeSpec : ChangeSpec := { name := "fnGroupOfIsTableIndexModeScope", fn := fun _ => fun
  | [d1, d2] => { results := [.lit (.bool true)], args := [d1, d2] }
  | _ => none }
def fnGroupOfIsTableIndexModeScopeRow : OpenClaim := { program := "qxb6605877a", sum := "9c5e00560959de206489e151c803e979d48eb6e0c152b957dab47264561ddacc", func := "example.com/keyfence/keyfence/zzlaws_lock_b1.FnGroupOfIsTableIndexModeScope", spec := "fnGroupOfIsTableIndexModeScope", apart := false }
def FnGroupOfIsTableIndexModeScopeSaid : Prop := fnGroupOfIsTableIndexModeScopeRow.holds Try.pinned (OpenSpec.ofChange fnGroupOfIsTableIndexModeScopeSpec)

/-- ITS FALSE NEIGHBOUR: 'it returns false'. Refute it at one input. -/
def fnGroupOfIsTableIndexModeScopeWrong : ChangeSpec := { name := "fnGroupOfIsTableIndexModeScope", fn := fun _ => fun
  | [d1, d2] => { results := [.lit (.bool false)], args := [d1, d2] }
  | _ => none }
def FnGroupOfIsTableIndexModeScopeWrongFalsely : Prop := fnGroupOfIsTableIndexModeScopeRow.holds Try.pinned (OpenSpec.ofChange fnGroupOfIsTableIndexModeScopeWrong)

/-- 'zzlaws_lock_b1.FnPlaceFindsRequestByIdentity': WHATEVER THE INPUT: true; the input reads as it did. -/
def fnPlaceFindsRequestByIdentitySpec : ChangeSpec := { name := "fnPlaceFindsRequestByIdentity", fn := fun _ => fun
  | [d1, d2, d3] => { results := [.lit (.bool true)], args := [d1, d2, d3] }
  | _ => none }
def fnPlaceFindsRequestByIdentityRow : OpenClaim := { program := "qxb6605877a", sum := "9c5e00560959de206489e151c803e979d48eb6e0c152b957dab47264561ddacc", func := "example.com/keyfence/keyfence/zzlaws_lock_b1.FnPlaceFindsRequestByIdentity", spec := "fnPlaceFindsRequestByIdentity", unfollowed := true, recurses := true, apart := false }
def FnPlaceFindsRequestByIdentitySaid : Prop := fnPlaceFindsRequestByIdentityRow.holds Try.pinned (OpenSpec.ofChange fnPlaceFindsRequestByIdentitySpec)

/-- ITS FALSE NEIGHBOUR: 'it returns false'. Refute it at one input. -/
def fnPlaceFindsRequestByIdentityWrong : ChangeSpec := { name := "fnPlaceFindsRequestByIdentity", fn := fun _ => fun
  | [d1, d2, d3] => { results := [.lit (.bool false)], args := [d1, d2, d3] }
  | _ => none }
def FnPlaceFindsRequestByIdentityWrongFalsely : Prop := fnPlaceFindsRequestByIdentityRow.holds Try.pinned (OpenSpec.ofChange fnPlaceFindsRequestByIdentityWrong)

/-- 'zzlaws_lock_b1.FnPlaceInMergedQueue': WHATEVER THE INPUT: true; the input reads as it did. -/
def fnPlaceInMergedQueueSpec : ChangeSpec := { name := "fnPlaceInMergedQueue", fn := fun _ => fun
  | [d1, d2, d3] => { results := [.lit (.bool true)], args := [d1, d2, d3] }
  | _ => none }
def fnPlaceInMergedQueueRow : OpenClaim := { program := "qxb6605877a", sum := "9c5e00560959de206489e151c803e979d48eb6e0c152b957dab47264561ddacc", func := "example.com/keyfence/keyfence/zzlaws_lock_b1.FnPlaceInMergedQueue", spec := "fnPlaceInMergedQueue", unfollowed := true, recurses := true, apart := false }
def FnPlaceInMergedQueueSaid : Prop := fnPlaceInMergedQueueRow.holds Try.pinned (OpenSpec.ofChange fnPlaceInMergedQueueSpec)

/-- ITS FALSE NEIGHBOUR: 'it returns false'. Refute it at one input. -/
def fnPlaceInMergedQueueWrong : ChangeSpec := { name := "fnPlaceInMergedQueue", fn := fun _ => fun
  | [d1, d2, d3] => { results := [.lit (.bool false)], args := [d1, d2, d3] }
  | _ => none }
def FnPlaceInMergedQueueWrongFalsely : Prop := fnPlaceInMergedQueueRow.holds Try.pinned (OpenSpec.ofChange fnPlaceInMergedQueueWrong)

end Rows
end Go.Proofs.Qxb6605877a
