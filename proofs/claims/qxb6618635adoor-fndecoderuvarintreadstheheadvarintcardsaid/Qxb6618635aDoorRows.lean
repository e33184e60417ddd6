/-
  NARROWER THAN 'FOR EVERY INPUT', by the rows' own cells (each row's printed sentence says how): FnDecoderUvarintReadsTheHeadVarint: ifaces, laid · FnDecoderUvarintHandsOnToByte: ifaces, laid.
  DERIVED. THE GIVEN ROWS OF THIS SEAT. 2 by the template 'for every input the law returns true; each argument reads behind the call as it read before'; 0 by the template 'total and deterministic' (their statements: Qxb6618635aDoorTotals.lean).
  GIVEN WITH THE SEED: the statements are not yours to turn. If you find one false, say at which input.
  Laid BY PROGRAM, IN A SANDBOX (cutbox-rows.mjs): the forced cells as the released guide's own fill.sh prints them over the translation 8d7b489b25ad0ba6… (all of the seat's roots in one cut). By AI agents, Wed Nov 11 2026. No macro, syntax, notation, axiom, sorry.
-/
import Derived.Test.Qxb6618635aDoorChecked
import GoSem.Claim
import GoSem.ClaimJoined
import GoSem.ClaimMapViews
import Derived.JoinedTies
import Derived.KernelRfl
namespace Go.Proofs.Qxb6618635aDoor
/- THE CELL 'sum', in the pinned program and in every row, IS THE sha256 OF THE DUMP (.gsa) THAT Qxb6618635aDoorProg.lean LOADS. Nothing in Lean hashes anything: it is a label: what it is worth is what the hold of that sum in a sandbox is worth. -/
noncomputable def Tryd.pinned : Pinned := { name := "qxb6618635adoor", sum := "8d7b489b25ad0ba693eaf66bd0a448dd702d8cfc713675caa2d015cb719bcc73", checked := Tryd.checked }
namespace Rows
def none {H : Type} : Left H := { results := [], args := [] }

/- WHAT THE LISTED PACKAGE-LEVEL VARIABLES READ AS WHEN THE CALL BEGINS. Each datum BY PROGRAM (the guide's laid-datum.mjs) off the statement by which the dump's own 'gosem.cut.vars' lays the variable. In a bare row this is a premise. The card (Qxb6618635aDoorCards.lean) ties it to the program's text. -/
def laid_example_com_clearbell_clearbell_store_errMalformed {H : Type} : DataW H := .iface "*errors.errorString" (.ptr (.agg [.lit (.string [105, 116, 32, 101, 110, 100, 115, 32, 105, 110, 32, 116, 104, 101, 32, 109, 105, 100, 100, 108, 101, 32, 111, 102, 32, 97, 32, 118, 97, 108, 117, 101, 44, 32, 111, 114, 32, 104, 111, 108, 100, 115, 32, 97, 32, 110, 117, 109, 98, 101, 114, 32, 116, 111, 111, 32, 108, 97, 114, 103, 101])]))

/-- 'zzlaws_store_b1.FnDecoderUvarintReadsTheHeadVarint': WHATEVER THE INPUT: true; the input reads as it did. -/
def fnDecoderUvarintReadsTheHeadVarintSpec : ChangeSpec := { name := "fnDecoderUvarintReadsTheHeadVarint", vars := ["example.com/clearbell/clearbell/store.errMalformed"], fn := fun _ => fun
  | [d1, d2, d3, g1] => { results := [.lit (.bool true)], args := [d1, d2, d3], vars := [g1] }
  | _ => none }
def fnDecoderUvarintReadsTheHeadVarintRow : OpenClaim := { program := "qxb6618635adoor", sum := "8d7b489b25ad0ba693eaf66bd0a448dd702d8cfc713675caa2d015cb719bcc73", func := "example.com/clearbell/clearbell/zzlaws_store_b1.FnDecoderUvarintReadsTheHeadVarint", spec := "fnDecoderUvarintReadsTheHeadVarint", named := ["example.com/clearbell/clearbell/store.errMalformed"], ifaces := true, apart := false, laid := [("example.com/clearbell/clearbell/store.errMalformed", laid_example_com_clearbell_clearbell_store_errMalformed)] }
def FnDecoderUvarintReadsTheHeadVarintSaid : Prop := fnDecoderUvarintReadsTheHeadVarintRow.holds Tryd.pinned (OpenSpec.ofChange fnDecoderUvarintReadsTheHeadVarintSpec)

/-- ITS FALSE NEIGHBOUR: 'it returns false'. Refute it at one input. -/
def fnDecoderUvarintReadsTheHeadVarintWrong : ChangeSpec := { name := "fnDecoderUvarintReadsTheHeadVarint", vars := ["example.com/clearbell/clearbell/store.errMalformed"], fn := fun _ => fun
  | [d1, d2, d3, g1] => { results := [.lit (.bool false)], args := [d1, d2, d3], vars := [g1] }
  | _ => none }
def FnDecoderUvarintReadsTheHeadVarintWrongFalsely : Prop := fnDecoderUvarintReadsTheHeadVarintRow.holds Tryd.pinned (OpenSpec.ofChange fnDecoderUvarintReadsTheHeadVarintWrong)

/-- 'zzlaws_store_b1.FnDecoderUvarintHandsOnToByte': WHATEVER THE INPUT: true; the input reads as it did. -/
def fnDecoderUvarintHandsOnToByteSpec : ChangeSpec := { name := "fnDecoderUvarintHandsOnToByte", vars := ["example.com/clearbell/clearbell/store.errMalformed"], fn := fun _ => fun
  | [d1, d2, g1] => { results := [.lit (.bool true)], args := [d1, d2], vars := [g1] }
  | _ => none }
def fnDecoderUvarintHandsOnToByteRow : OpenClaim := { program := "qxb6618635adoor", sum := "8d7b489b25ad0ba693eaf66bd0a448dd702d8cfc713675caa2d015cb719bcc73", func := "example.com/clearbell/clearbell/zzlaws_store_b1.FnDecoderUvarintHandsOnToByte", spec := "fnDecoderUvarintHandsOnToByte", named := ["example.com/clearbell/clearbell/store.errMalformed"], ifaces := true, apart := false, laid := [("example.com/clearbell/clearbell/store.errMalformed", laid_example_com_clearbell_clearbell_store_errMalformed)] }
def FnDecoderUvarintHandsOnToByteSaid : Prop := fnDecoderUvarintHandsOnToByteRow.holds Tryd.pinned (OpenSpec.ofChange fnDecoderUvarintHandsOnToByteSpec)

/-- ITS FALSE NEIGHBOUR: 'it returns false'. Refute it at one input. -/
def fnDecoderUvarintHandsOnToByteWrong : ChangeSpec := { name := "fnDecoderUvarintHandsOnToByte", vars := ["example.com/clearbell/clearbell/store.errMalformed"], fn := fun _ => fun
  | [d1, d2, g1] => { results := [.lit (.bool false)], args := [d1, d2], vars := [g1] }
  | _ => none }
def FnDecoderUvarintHandsOnToByteWrongFalsely : Prop := fnDecoderUvarintHandsOnToByteRow.holds Tryd.pinned (OpenSpec.ofChange fnDecoderUvarintHandsOnToByteWrong)

end Rows
end Go.Proofs.Qxb6618635aDoor
