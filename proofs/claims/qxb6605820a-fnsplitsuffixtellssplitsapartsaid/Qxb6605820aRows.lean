/-
  No cell of these rows narrows 'for every input' (looked for: loops, veiled, ifaces, maps, wideKeys, modest, calm, conditions, laid).
  DERIVED. THE GIVEN ROWS OF THIS SEAT. 1 by the template 'for every input the law returns true; each argument reads behind the call as it read before'; 0 by the template 'total and deterministic' (their statements: Qxb6605820aTotals.lean).
  GIVEN WITH THE SEED: the statements are not yours to turn. If you find one false, say at which input.
  Laid BY PROGRAM, IN A SANDBOX (cutbox-rows.mjs): the forced cells as the released guide's own fill.sh prints them over the translation 4f789c1d11e057dd… (all of the seat's roots in one cut). By AI agents, Wed Nov 11 2026. No macro, syntax, notation, axiom, sorry.
-/
import Derived.Test.Qxb6605820aChecked
import GoSem.Claim
import GoSem.ClaimJoined
import GoSem.ClaimMapViews
import Derived.JoinedTies
import Derived.KernelRfl
namespace Go.Proofs.Qxb6605820a
/- THE CELL 'sum', in the pinned program and in every row, IS THE sha256 OF THE DUMP (.gsa) THAT Qxb6605820aProg.lean LOADS. Nothing in Lean hashes anything: it is a label: what it is worth is what the hold of that sum in a sandbox is worth. -/
noncomputable def Try.pinned : Pinned := { name := "qxb6605820a", sum := "4f789c1d11e057ddeb98dbdce7dd95e496387effe8ff07685aa3074ecd22beb4", checked := Try.checked }
namespace Rows
def none {H : Type} : Left H := { results := [], args := [] }

/-- 'zzlaws_histogram_b1.FnSplitSuffixTellsSplitsApart': WHATEVER THE INPUT: true; the input reads as it did. -/
def fnSplitSuffixTellsSplitsApartSpec : ChangeSpec := { name := "fnSplitSuffixTellsSplitsApart", fn := fun _ => fun
  | [d1, d2, d3, d4] => { results := [.lit (.bool true)], args := [d1, d2, d3, d4] }
  | _ => none }
def fnSplitSuffixTellsSplitsApartRow : OpenClaim := { program := "qxb6605820a", sum := "4f789c1d11e057ddeb98dbdce7dd95e496387effe8ff07685aa3074ecd22beb4", func := "example.com/stallscope/stallscope/zzlaws_histogram_b1.FnSplitSuffixTellsSplitsApart", spec := "fnSplitSuffixTellsSplitsApart", apart := false }
def FnSplitSuffixTellsSplitsApartSaid : Prop := fnSplitSuffixTellsSplitsApartRow.holds Try.pinned (OpenSpec.ofChange fnSplitSuffixTellsSplitsApartSpec)

/-- ITS FALSE NEIGHBOUR: 'it returns false'. Refute it at one input. -/
def fnSplitSuffixTellsSplitsApartWrong : ChangeSpec := { name := "fnSplitSuffixTellsSplitsApart", fn := fun _ => fun
  | [d1, d2, d3, d4] => { results := [.lit (.bool false)], args := [d1, d2, d3, d4] }
  | _ => none }
def FnSplitSuffixTellsSplitsApartWrongFalsely : Prop := fnSplitSuffixTellsSplitsApartRow.holds Try.pinned (OpenSpec.ofChange fnSplitSuffixTellsSplitsApartWrong)

end Rows
end Go.Proofs.Qxb6605820a
