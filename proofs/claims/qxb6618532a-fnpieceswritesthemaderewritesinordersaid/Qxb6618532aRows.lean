/-
  No cell of these rows narrows 'for every input' (looked for: loops, veiled, ifaces, maps, wideKeys, modest, calm, conditions, laid).
  DERIVED. THE GIVEN ROWS OF THIS SEAT. 2 by the template 'for every input the law returns true; each argument reads behind the call as it read before'; 0 by the template 'total and deterministic' (their statements: Qxb6618532aTotals.lean).
  GIVEN WITH THE SEED: the statements are not yours to turn. If you find one false, say at which input.
  Laid BY PROGRAM, IN A SANDBOX (cutbox-rows.mjs): the forced cells as the released guide's own fill.sh prints them over the translation f023bf4546b5bdee… (all of the seat's roots in one cut). By AI agents, Wed Nov 11 2026. No macro, syntax, notation, axiom, sorry.
-/
import Derived.Test.Qxb6618532aChecked
import GoSem.Claim
import GoSem.ClaimJoined
import GoSem.ClaimMapViews
import Derived.JoinedTies
import Derived.KernelRfl
namespace Go.Proofs.Qxb6618532a
/- THE CELL 'sum', in the pinned program and in every row, IS THE sha256 OF THE DUMP (.gsa) THAT Qxb6618532aProg.lean LOADS. Nothing in Lean hashes anything: it is a label: what it is worth is what the hold of that sum in a sandbox is worth. -/
noncomputable def Try.pinned : Pinned := { name := "qxb6618532a", sum := "f023bf4546b5bdeeddaab8f1d548feaf56eb323926cd1b4c4e23e83913e1379b", checked := Try.checked }
namespace Rows
def none {H : Type} : Left H := { results := [], args := [] }

/-- 'zzlaws_templates_b1.FnReadsOfFileAgreesWithScansAndKey': WHATEVER THE INPUT: true; the input reads as it did. -/
def fnReadsOfFileAgreesWithScansAndKeySpec : ChangeSpec := { name := "fnReadsOfFileAgreesWithScansAndKey", fn := fun _ => fun
  | [d1, d2, d3, d4, d5] => { results := [.lit (.bool true)], args := [d1, d2, d3, d4, d5] }
  | _ => none }
def fnReadsOfFileAgreesWithScansAndKeyRow : OpenClaim := { program := "qxb6618532a", sum := "f023bf4546b5bdeeddaab8f1d548feaf56eb323926cd1b4c4e23e83913e1379b", func := "example.com/isolane/isolane/zzlaws_templates_b1.FnReadsOfFileAgreesWithScansAndKey", spec := "fnReadsOfFileAgreesWithScansAndKey", apart := false }
def FnReadsOfFileAgreesWithScansAndKeySaid : Prop := fnReadsOfFileAgreesWithScansAndKeyRow.holds Try.pinned (OpenSpec.ofChange fnReadsOfFileAgreesWithScansAndKeySpec)

/-- ITS FALSE NEIGHBOUR: 'it returns false'. Refute it at one input. -/
def fnReadsOfFileAgreesWithScansAndKeyWrong : ChangeSpec := { name := "fnReadsOfFileAgreesWithScansAndKey", fn := fun _ => fun
  | [d1, d2, d3, d4, d5] => { results := [.lit (.bool false)], args := [d1, d2, d3, d4, d5] }
  | _ => none }
def FnReadsOfFileAgreesWithScansAndKeyWrongFalsely : Prop := fnReadsOfFileAgreesWithScansAndKeyRow.holds Try.pinned (OpenSpec.ofChange fnReadsOfFileAgreesWithScansAndKeyWrong)

/-- 'zzlaws_templates_b1.FnPiecesWritesTheMadeRewritesInOrder': WHATEVER THE INPUT: true; the input reads as it did. -/
def fnPiecesWritesTheMadeRewritesInOrderSpec : ChangeSpec := { name := "fnPiecesWritesTheMadeRewritesInOrder", fn := fun _ => fun
  | [d1, d2, d3, d4, d5, d6, d7, d8, d9, d10] => { results := [.lit (.bool true)], args := [d1, d2, d3, d4, d5, d6, d7, d8, d9, d10] }
  | _ => none }
def fnPiecesWritesTheMadeRewritesInOrderRow : OpenClaim := { program := "qxb6618532a", sum := "f023bf4546b5bdeeddaab8f1d548feaf56eb323926cd1b4c4e23e83913e1379b", func := "example.com/isolane/isolane/zzlaws_templates_b1.FnPiecesWritesTheMadeRewritesInOrder", spec := "fnPiecesWritesTheMadeRewritesInOrder", inPlace := ["internal/abi.NoEscape"], unfollowed := true, recurses := true, apart := false }
def FnPiecesWritesTheMadeRewritesInOrderSaid : Prop := fnPiecesWritesTheMadeRewritesInOrderRow.holds Try.pinned (OpenSpec.ofChange fnPiecesWritesTheMadeRewritesInOrderSpec)

/-- ITS FALSE NEIGHBOUR: 'it returns false'. Refute it at one input. -/
def fnPiecesWritesTheMadeRewritesInOrderWrong : ChangeSpec := { name := "fnPiecesWritesTheMadeRewritesInOrder", fn := fun _ => fun
  | [d1, d2, d3, d4, d5, d6, d7, d8, d9, d10] => { results := [.lit (.bool false)], args := [d1, d2, d3, d4, d5, d6, d7, d8, d9, d10] }
  | _ => none }
def FnPiecesWritesTheMadeRewritesInOrderWrongFalsely : Prop := fnPiecesWritesTheMadeRewritesInOrderRow.holds Try.pinned (OpenSpec.ofChange fnPiecesWritesTheMadeRewritesInOrderWrong)

end Rows
end Go.Proofs.Qxb6618532a
