/-
  DERIVED. GIVEN WITH THE SEED: THE CARDS: each row of Qxb6618635aDoorRows.lean that lists a variable, with what it lists TIED to the program's text (the seventh form; the later family's looks); each row that meets fmt, with fmt's text TOLD by the authors' own Lean function (tested against real Go, not proved from fmt's source: count such statements apart). THE CARD IS WHAT COUNTS. Prove the row's statement (the work); the ties are given (Qxb6618635aDoorTie.lean); close each card by the builder's one call (the guide's Derived/Test/ToyasCard.lean, 'card_holds'). Laid BY PROGRAM, IN A SANDBOX (cutbox-door.mjs). By AI agents, Wed Nov 11 2026. No macro, syntax, notation, axiom, sorry.
-/
import Derived.Test.Qxb6618635aDoorRows
import GoSem.ClaimSeven
namespace Go.Proofs.Qxb6618635aDoor
namespace Rows

/-- THE TIED CARD OF 'zzlaws_store_b1.FnDecoderUvarintReadsTheHeadVarint'. -/
def fnDecoderUvarintReadsTheHeadVarintCard : Claim7 := { stood := { row := fnDecoderUvarintReadsTheHeadVarintRow, standIns := [], harness := (true, "aa3f975d94d19114bc5cfe2e3a3128db7cba57e827797c53c8998cb15802e36d"), looks := false }, kinds := [], alts := [], laidByText := true, laidKinds := [.sentinel], laidTests := true, laidLooks := .later }
def FnDecoderUvarintReadsTheHeadVarintCardSaid : Prop := Claim7.holds Tryd.pinned (.plain (OpenSpec.ofChange fnDecoderUvarintReadsTheHeadVarintSpec)) fnDecoderUvarintReadsTheHeadVarintCard

/-- THE TIED CARD OF 'zzlaws_store_b1.FnDecoderUvarintHandsOnToByte'. -/
def fnDecoderUvarintHandsOnToByteCard : Claim7 := { stood := { row := fnDecoderUvarintHandsOnToByteRow, standIns := [], harness := (true, "aa3f975d94d19114bc5cfe2e3a3128db7cba57e827797c53c8998cb15802e36d"), looks := false }, kinds := [], alts := [], laidByText := true, laidKinds := [.sentinel], laidTests := true, laidLooks := .later }
def FnDecoderUvarintHandsOnToByteCardSaid : Prop := Claim7.holds Tryd.pinned (.plain (OpenSpec.ofChange fnDecoderUvarintHandsOnToByteSpec)) fnDecoderUvarintHandsOnToByteCard
end Rows
end Go.Proofs.Qxb6618635aDoor
