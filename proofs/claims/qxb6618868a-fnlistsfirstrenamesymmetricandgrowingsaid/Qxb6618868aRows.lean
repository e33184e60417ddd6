/-
  No cell of these rows narrows 'for every input' (looked for: loops, veiled, ifaces, maps, wideKeys, modest, calm, conditions, laid).
  DERIVED. THE GIVEN ROWS OF THIS SEAT. 2 by the template 'for every input the law returns true; each argument reads behind the call as it read before'; 0 by the template 'total and deterministic' (their statements: Qxb6618868aTotals.lean).
  GIVEN WITH THE SEED: the statements are not yours to turn. If you find one false, say at which input.
  Laid BY PROGRAM, IN A SANDBOX (cutbox-rows.mjs): the forced cells as the released guide's own fill.sh prints them over the translation 3e47dc2a03f62b3e… (all of the seat's roots in one cut). By AI agents, Wed Nov 11 2026. No macro, syntax, notation, axiom, sorry.
-/
import Derived.Test.Qxb6618868aChecked
import GoSem.Claim
import GoSem.ClaimJoined
import GoSem.ClaimMapViews
import Derived.JoinedTies
import Derived.KernelRfl
namespace Go.Proofs.Qxb6618868a
/- THE CELL 'sum', in the pinned program and in every row, IS THE sha256 OF THE DUMP (.gsa) THAT Qxb6618868aProg.lean LOADS. Nothing in Lean hashes anything: it is a label: what it is worth is what the hold of that sum in a sandbox is worth. -/
noncomputable def Try.pinned : Pinned := { name := "qxb6618868a", sum := "3e47dc2a03f62b3e5b89833ea2b0f914ed39ac1ee999bca83ee21297c86cf365", checked := Try.checked }
namespace Rows
def none {H : Type} : Left H := { results := [], args := [] }

/-- 'zzlaws_internal_cc_b1.FnListsFirstHangsOnEmptinessAlone': WHATEVER THE INPUT: true; the input reads as it did. -/
def fnListsFirstHangsOnEmptinessAloneSpec : ChangeSpec := { name := "fnListsFirstHangsOnEmptinessAlone", fn := fun _ => fun
  | [d1, d2, d3, d4] => { results := [.lit (.bool true)], args := [d1, d2, d3, d4] }
  | _ => none }
def fnListsFirstHangsOnEmptinessAloneRow : OpenClaim := { program := "qxb6618868a", sum := "3e47dc2a03f62b3e5b89833ea2b0f914ed39ac1ee999bca83ee21297c86cf365", func := "example.com/ligature/ligature/zzlaws_internal_cc_b1.FnListsFirstHangsOnEmptinessAlone", spec := "fnListsFirstHangsOnEmptinessAlone", plainKeys := false, apart := false }
def FnListsFirstHangsOnEmptinessAloneSaid : Prop := fnListsFirstHangsOnEmptinessAloneRow.holds Try.pinned (OpenSpec.ofChange fnListsFirstHangsOnEmptinessAloneSpec)

/-- ITS FALSE NEIGHBOUR: 'it returns false'. Refute it at one input. -/
def fnListsFirstHangsOnEmptinessAloneWrong : ChangeSpec := { name := "fnListsFirstHangsOnEmptinessAlone", fn := fun _ => fun
  | [d1, d2, d3, d4] => { results := [.lit (.bool false)], args := [d1, d2, d3, d4] }
  | _ => none }
def FnListsFirstHangsOnEmptinessAloneWrongFalsely : Prop := fnListsFirstHangsOnEmptinessAloneRow.holds Try.pinned (OpenSpec.ofChange fnListsFirstHangsOnEmptinessAloneWrong)

/-- 'zzlaws_internal_cc_b1.FnListsFirstRenameSymmetricAndGrowing': WHATEVER THE INPUT: true; the input reads as it did. -/
def fnListsFirstRenameSymmetricAndGrowingSpec : ChangeSpec := { name := "fnListsFirstRenameSymmetricAndGrowing", fn := fun _ => fun
  | [d1, d2, d3, d4, d5] => { results := [.lit (.bool true)], args := [d1, d2, d3, d4, d5] }
  | _ => none }
def fnListsFirstRenameSymmetricAndGrowingRow : OpenClaim := { program := "qxb6618868a", sum := "3e47dc2a03f62b3e5b89833ea2b0f914ed39ac1ee999bca83ee21297c86cf365", func := "example.com/ligature/ligature/zzlaws_internal_cc_b1.FnListsFirstRenameSymmetricAndGrowing", spec := "fnListsFirstRenameSymmetricAndGrowing", plainKeys := false, apart := false }
def FnListsFirstRenameSymmetricAndGrowingSaid : Prop := fnListsFirstRenameSymmetricAndGrowingRow.holds Try.pinned (OpenSpec.ofChange fnListsFirstRenameSymmetricAndGrowingSpec)

/-- ITS FALSE NEIGHBOUR: 'it returns false'. Refute it at one input. -/
def fnListsFirstRenameSymmetricAndGrowingWrong : ChangeSpec := { name := "fnListsFirstRenameSymmetricAndGrowing", fn := fun _ => fun
  | [d1, d2, d3, d4, d5] => { results := [.lit (.bool false)], args := [d1, d2, d3, d4, d5] }
  | _ => none }
def FnListsFirstRenameSymmetricAndGrowingWrongFalsely : Prop := fnListsFirstRenameSymmetricAndGrowingRow.holds Try.pinned (OpenSpec.ofChange fnListsFirstRenameSymmetricAndGrowingWrong)

end Rows
end Go.Proofs.Qxb6618868a
