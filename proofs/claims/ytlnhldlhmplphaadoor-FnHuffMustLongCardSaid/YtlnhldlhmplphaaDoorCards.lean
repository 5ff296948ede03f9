/-
  DERIVED. GIVEN WITH THE SEED: THE CARDS: each row of YtlnhldlhmplphaaDoorRows.lean that lists a variable, with what it lists TIED to the program's text (the seventh form; the later family's looks); each row that meets fmt, with fmt's text TOLD by the authors' own Lean function (tested against real Go, not proved from fmt's source: count such statements apart). THE CARD IS WHAT COUNTS. Prove the row's statement (the work); the ties are given (YtlnhldlhmplphaaDoorTie.lean); close each card by the builder's one call (the guide's Derived/Test/ToyasCard.lean, 'card_holds'). Laid BY PROGRAM, IN A SANDBOX (cutbox-door.mjs). By AI agents, Wed Nov 11 2026. No macro, syntax, notation, axiom, sorry.
-/
import Derived.Test.YtlnhldlhmplphaaDoorRows
import GoSem.ClaimSeven
namespace Go.Proofs.YtlnhldlhmplphaaDoor
namespace Rows

/-- THE TIED CARD OF 'laws.FnHuffAgain'. -/
def fnHuffAgainCard : Claim7 := { stood := { row := fnHuffAgainRow, standIns := [], harness := (true, "1ed1e71038c04af372c5dff9132c7949b4b0f2cb56a723d8c053a0a2fda640ca"), looks := true }, kinds := [], alts := [], laidByText := true, laidKinds := [.sentinel, .data, .data, .sentinel, .sentinel, .sentinel, .sentinel], laidTests := true, laidLooks := .later }
def FnHuffAgainCardSaid : Prop := Claim7.holds Tryd.pinned (.plain (OpenSpec.ofChange fnHuffAgainSpec)) fnHuffAgainCard

/-- THE TIED CARD OF 'laws.FnHuffTableAny'. -/
def fnHuffTableAnyCard : Claim7 := { stood := { row := fnHuffTableAnyRow, standIns := [], harness := (true, "1ed1e71038c04af372c5dff9132c7949b4b0f2cb56a723d8c053a0a2fda640ca"), looks := true }, kinds := [], alts := [], laidByText := true, laidKinds := [.sentinel, .data, .data, .sentinel, .sentinel, .sentinel, .sentinel], laidTests := true, laidLooks := .later }
def FnHuffTableAnyCardSaid : Prop := Claim7.holds Tryd.pinned (.plain (OpenSpec.ofChange fnHuffTableAnySpec)) fnHuffTableAnyCard

/-- THE TIED CARD OF 'laws.FnHuffDecodes'. -/
def fnHuffDecodesCard : Claim7 := { stood := { row := fnHuffDecodesRow, standIns := [], harness := (true, "1ed1e71038c04af372c5dff9132c7949b4b0f2cb56a723d8c053a0a2fda640ca"), looks := true }, kinds := [], alts := [], laidByText := true, laidKinds := [.data, .data, .sentinel, .sentinel, .sentinel, .sentinel, .sentinel], laidTests := true, laidLooks := .later }
def FnHuffDecodesCardSaid : Prop := Claim7.holds Tryd.pinned (.plain (OpenSpec.ofChange fnHuffDecodesSpec)) fnHuffDecodesCard

/-- THE TIED CARD OF 'laws.FnHuffLong'. -/
def fnHuffLongCard : Claim7 := { stood := { row := fnHuffLongRow, standIns := [], harness := (true, "1ed1e71038c04af372c5dff9132c7949b4b0f2cb56a723d8c053a0a2fda640ca"), looks := true }, kinds := [], alts := [], laidByText := true, laidKinds := [.data, .data, .sentinel, .sentinel, .sentinel, .sentinel, .sentinel], laidTests := true, laidLooks := .later }
def FnHuffLongCardSaid : Prop := Claim7.holds Tryd.pinned (.plain (OpenSpec.ofChange fnHuffLongSpec)) fnHuffLongCard

/-- THE TIED CARD OF 'laws.FnHuffRising'. -/
def fnHuffRisingCard : Claim7 := { stood := { row := fnHuffRisingRow, standIns := [], harness := (true, "1ed1e71038c04af372c5dff9132c7949b4b0f2cb56a723d8c053a0a2fda640ca"), looks := true }, kinds := [], alts := [], laidByText := true, laidKinds := [.data, .data, .sentinel, .sentinel, .sentinel, .sentinel, .sentinel], laidTests := true, laidLooks := .later }
def FnHuffRisingCardSaid : Prop := Claim7.holds Tryd.pinned (.plain (OpenSpec.ofChange fnHuffRisingSpec)) fnHuffRisingCard

/-- THE TIED CARD OF 'laws.FnHuffSame'. -/
def fnHuffSameCard : Claim7 := { stood := { row := fnHuffSameRow, standIns := [], harness := (true, "1ed1e71038c04af372c5dff9132c7949b4b0f2cb56a723d8c053a0a2fda640ca"), looks := true }, kinds := [], alts := [], laidByText := true, laidKinds := [.data, .data, .sentinel, .sentinel, .sentinel, .sentinel, .sentinel], laidTests := true, laidLooks := .later }
def FnHuffSameCardSaid : Prop := Claim7.holds Tryd.pinned (.plain (OpenSpec.ofChange fnHuffSameSpec)) fnHuffSameCard

/-- THE TIED CARD OF 'laws.FnHuffTable'. -/
def fnHuffTableCard : Claim7 := { stood := { row := fnHuffTableRow, standIns := [], harness := (true, "1ed1e71038c04af372c5dff9132c7949b4b0f2cb56a723d8c053a0a2fda640ca"), looks := true }, kinds := [], alts := [], laidByText := true, laidKinds := [.data, .data, .sentinel, .sentinel, .sentinel, .sentinel, .sentinel], laidTests := true, laidLooks := .later }
def FnHuffTableCardSaid : Prop := Claim7.holds Tryd.pinned (.plain (OpenSpec.ofChange fnHuffTableSpec)) fnHuffTableCard

/-- THE TIED CARD OF 'laws.FnHuffScriptDecodes'. -/
def fnHuffScriptDecodesCard : Claim7 := { stood := { row := fnHuffScriptDecodesRow, standIns := [], harness := (true, "1ed1e71038c04af372c5dff9132c7949b4b0f2cb56a723d8c053a0a2fda640ca"), looks := true }, kinds := [], alts := [], laidByText := true, laidKinds := [.data, .data, .sentinel, .sentinel, .sentinel, .sentinel, .sentinel], laidTests := true, laidLooks := .later }
def FnHuffScriptDecodesCardSaid : Prop := Claim7.holds Tryd.pinned (.plain (OpenSpec.ofChange fnHuffScriptDecodesSpec)) fnHuffScriptDecodesCard

/-- THE TIED CARD OF 'laws.FnHuffTransferFine'. -/
def fnHuffTransferFineCard : Claim7 := { stood := { row := fnHuffTransferFineRow, standIns := [], harness := (true, "1ed1e71038c04af372c5dff9132c7949b4b0f2cb56a723d8c053a0a2fda640ca"), looks := true }, kinds := [], alts := [], laidByText := true, laidKinds := [.data, .data, .sentinel, .sentinel, .sentinel, .sentinel, .sentinel], laidTests := true, laidLooks := .later }
def FnHuffTransferFineCardSaid : Prop := Claim7.holds Tryd.pinned (.plain (OpenSpec.ofChange fnHuffTransferFineSpec)) fnHuffTransferFineCard

/-- THE TIED CARD OF 'laws.FnHuffMustFine'. -/
def fnHuffMustFineCard : Claim7 := { stood := { row := fnHuffMustFineRow, standIns := [], harness := (true, "1ed1e71038c04af372c5dff9132c7949b4b0f2cb56a723d8c053a0a2fda640ca"), looks := true }, kinds := [], alts := [], laidByText := true, laidKinds := [.data, .data, .sentinel, .sentinel, .sentinel, .sentinel, .sentinel], laidTests := true, laidLooks := .later }
def FnHuffMustFineCardSaid : Prop := Claim7.holds Tryd.pinned (.plain (OpenSpec.ofChange fnHuffMustFineSpec)) fnHuffMustFineCard

/-- THE TIED CARD OF 'laws.FnHuffMustLong'. -/
def fnHuffMustLongCard : Claim7 := { stood := { row := fnHuffMustLongRow, standIns := [], harness := (true, "1ed1e71038c04af372c5dff9132c7949b4b0f2cb56a723d8c053a0a2fda640ca"), looks := true }, kinds := [], alts := [], laidByText := true, laidKinds := [.data, .data, .sentinel, .sentinel, .sentinel, .sentinel, .sentinel], laidTests := true, laidLooks := .later }
def FnHuffMustLongCardSaid : Prop := Claim7.holds Tryd.pinned (.plain (OpenSpec.ofChange fnHuffMustLongSpec)) fnHuffMustLongCard

/-- THE SECOND FORM's CARD OF 'laws.FnHuffAgain'. -/
def fnHuffAgainUptoCard : Claim7 := { stood := { row := fnHuffAgainUptoRow, standIns := [], harness := (true, "1ed1e71038c04af372c5dff9132c7949b4b0f2cb56a723d8c053a0a2fda640ca"), looks := true }, kinds := [], alts := [], laidByText := true, laidKinds := [.sentinel, .data, .data, .sentinel, .sentinel, .sentinel, .sentinel], laidTests := true, laidLooks := .later }
def FnHuffAgainUptoCardSaid : Prop := Claim7.holds Tryd.pinned (.plain (OpenSpec.upto fnHuffAgainSpec)) fnHuffAgainUptoCard

/-- THE SECOND FORM's CARD OF 'laws.FnHuffTableAny'. -/
def fnHuffTableAnyUptoCard : Claim7 := { stood := { row := fnHuffTableAnyUptoRow, standIns := [], harness := (true, "1ed1e71038c04af372c5dff9132c7949b4b0f2cb56a723d8c053a0a2fda640ca"), looks := true }, kinds := [], alts := [], laidByText := true, laidKinds := [.sentinel, .data, .data, .sentinel, .sentinel, .sentinel, .sentinel], laidTests := true, laidLooks := .later }
def FnHuffTableAnyUptoCardSaid : Prop := Claim7.holds Tryd.pinned (.plain (OpenSpec.upto fnHuffTableAnySpec)) fnHuffTableAnyUptoCard

/-- THE SECOND FORM's CARD OF 'laws.FnHuffDecodes'. -/
def fnHuffDecodesUptoCard : Claim7 := { stood := { row := fnHuffDecodesUptoRow, standIns := [], harness := (true, "1ed1e71038c04af372c5dff9132c7949b4b0f2cb56a723d8c053a0a2fda640ca"), looks := true }, kinds := [], alts := [], laidByText := true, laidKinds := [.data, .data, .sentinel, .sentinel, .sentinel, .sentinel, .sentinel], laidTests := true, laidLooks := .later }
def FnHuffDecodesUptoCardSaid : Prop := Claim7.holds Tryd.pinned (.plain (OpenSpec.upto fnHuffDecodesSpec)) fnHuffDecodesUptoCard

/-- THE SECOND FORM's CARD OF 'laws.FnHuffLong'. -/
def fnHuffLongUptoCard : Claim7 := { stood := { row := fnHuffLongUptoRow, standIns := [], harness := (true, "1ed1e71038c04af372c5dff9132c7949b4b0f2cb56a723d8c053a0a2fda640ca"), looks := true }, kinds := [], alts := [], laidByText := true, laidKinds := [.data, .data, .sentinel, .sentinel, .sentinel, .sentinel, .sentinel], laidTests := true, laidLooks := .later }
def FnHuffLongUptoCardSaid : Prop := Claim7.holds Tryd.pinned (.plain (OpenSpec.upto fnHuffLongSpec)) fnHuffLongUptoCard

/-- THE SECOND FORM's CARD OF 'laws.FnHuffRising'. -/
def fnHuffRisingUptoCard : Claim7 := { stood := { row := fnHuffRisingUptoRow, standIns := [], harness := (true, "1ed1e71038c04af372c5dff9132c7949b4b0f2cb56a723d8c053a0a2fda640ca"), looks := true }, kinds := [], alts := [], laidByText := true, laidKinds := [.data, .data, .sentinel, .sentinel, .sentinel, .sentinel, .sentinel], laidTests := true, laidLooks := .later }
def FnHuffRisingUptoCardSaid : Prop := Claim7.holds Tryd.pinned (.plain (OpenSpec.upto fnHuffRisingSpec)) fnHuffRisingUptoCard

/-- THE SECOND FORM's CARD OF 'laws.FnHuffSame'. -/
def fnHuffSameUptoCard : Claim7 := { stood := { row := fnHuffSameUptoRow, standIns := [], harness := (true, "1ed1e71038c04af372c5dff9132c7949b4b0f2cb56a723d8c053a0a2fda640ca"), looks := true }, kinds := [], alts := [], laidByText := true, laidKinds := [.data, .data, .sentinel, .sentinel, .sentinel, .sentinel, .sentinel], laidTests := true, laidLooks := .later }
def FnHuffSameUptoCardSaid : Prop := Claim7.holds Tryd.pinned (.plain (OpenSpec.upto fnHuffSameSpec)) fnHuffSameUptoCard

/-- THE SECOND FORM's CARD OF 'laws.FnHuffTable'. -/
def fnHuffTableUptoCard : Claim7 := { stood := { row := fnHuffTableUptoRow, standIns := [], harness := (true, "1ed1e71038c04af372c5dff9132c7949b4b0f2cb56a723d8c053a0a2fda640ca"), looks := true }, kinds := [], alts := [], laidByText := true, laidKinds := [.data, .data, .sentinel, .sentinel, .sentinel, .sentinel, .sentinel], laidTests := true, laidLooks := .later }
def FnHuffTableUptoCardSaid : Prop := Claim7.holds Tryd.pinned (.plain (OpenSpec.upto fnHuffTableSpec)) fnHuffTableUptoCard

/-- THE SECOND FORM's CARD OF 'laws.FnHuffScriptDecodes'. -/
def fnHuffScriptDecodesUptoCard : Claim7 := { stood := { row := fnHuffScriptDecodesUptoRow, standIns := [], harness := (true, "1ed1e71038c04af372c5dff9132c7949b4b0f2cb56a723d8c053a0a2fda640ca"), looks := true }, kinds := [], alts := [], laidByText := true, laidKinds := [.data, .data, .sentinel, .sentinel, .sentinel, .sentinel, .sentinel], laidTests := true, laidLooks := .later }
def FnHuffScriptDecodesUptoCardSaid : Prop := Claim7.holds Tryd.pinned (.plain (OpenSpec.upto fnHuffScriptDecodesSpec)) fnHuffScriptDecodesUptoCard

/-- THE SECOND FORM's CARD OF 'laws.FnHuffTransferFine'. -/
def fnHuffTransferFineUptoCard : Claim7 := { stood := { row := fnHuffTransferFineUptoRow, standIns := [], harness := (true, "1ed1e71038c04af372c5dff9132c7949b4b0f2cb56a723d8c053a0a2fda640ca"), looks := true }, kinds := [], alts := [], laidByText := true, laidKinds := [.data, .data, .sentinel, .sentinel, .sentinel, .sentinel, .sentinel], laidTests := true, laidLooks := .later }
def FnHuffTransferFineUptoCardSaid : Prop := Claim7.holds Tryd.pinned (.plain (OpenSpec.upto fnHuffTransferFineSpec)) fnHuffTransferFineUptoCard

/-- THE SECOND FORM's CARD OF 'laws.FnHuffMustFine'. -/
def fnHuffMustFineUptoCard : Claim7 := { stood := { row := fnHuffMustFineUptoRow, standIns := [], harness := (true, "1ed1e71038c04af372c5dff9132c7949b4b0f2cb56a723d8c053a0a2fda640ca"), looks := true }, kinds := [], alts := [], laidByText := true, laidKinds := [.data, .data, .sentinel, .sentinel, .sentinel, .sentinel, .sentinel], laidTests := true, laidLooks := .later }
def FnHuffMustFineUptoCardSaid : Prop := Claim7.holds Tryd.pinned (.plain (OpenSpec.upto fnHuffMustFineSpec)) fnHuffMustFineUptoCard

/-- THE SECOND FORM's CARD OF 'laws.FnHuffMustLong'. -/
def fnHuffMustLongUptoCard : Claim7 := { stood := { row := fnHuffMustLongUptoRow, standIns := [], harness := (true, "1ed1e71038c04af372c5dff9132c7949b4b0f2cb56a723d8c053a0a2fda640ca"), looks := true }, kinds := [], alts := [], laidByText := true, laidKinds := [.data, .data, .sentinel, .sentinel, .sentinel, .sentinel, .sentinel], laidTests := true, laidLooks := .later }
def FnHuffMustLongUptoCardSaid : Prop := Claim7.holds Tryd.pinned (.plain (OpenSpec.upto fnHuffMustLongSpec)) fnHuffMustLongUptoCard
end Rows
end Go.Proofs.YtlnhldlhmplphaaDoor
