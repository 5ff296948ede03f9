/-
  DERIVED. GIVEN WITH THE SEED: THE CARDS: each row of YtlnhldlhmplphaaGreatDoorRows.lean that lists a variable, with what it lists TIED to the program's text (the seventh form; the later family's looks); each row that meets fmt, with fmt's text TOLD by the authors' own Lean function (tested against real Go, not proved from fmt's source: count such statements apart). THE CARD IS WHAT COUNTS. Prove the row's statement (the work); the ties are given (YtlnhldlhmplphaaGreatDoorTie.lean); close each card by the builder's one call (the guide's Derived/Test/ToyasCard.lean, 'card_holds'). Laid BY PROGRAM, IN A SANDBOX (cutbox-door.mjs). By AI agents, Wed Nov 11 2026. No macro, syntax, notation, axiom, sorry.
-/
import Derived.Test.YtlnhldlhmplphaaGreatDoorRows
import GoSem.ClaimSeven
namespace Go.Proofs.YtlnhldlhmplphaaGreatDoor
namespace Rows

/-- THE TIED CARD OF 'laws.FnHuffOneTree'. -/
def fnHuffOneTreeCard : Claim7 := { stood := { row := fnHuffOneTreeRow, standIns := [], harness := (true, "7a78b49fbc48512743a2ccb6a6eca9ea627d107305dafa108fec90d8b832a4a3"), looks := true }, kinds := [], alts := [], laidByText := true, laidKinds := [.data, .data, .sentinel, .sentinel, .sentinel, .sentinel, .sentinel], laidTests := true, laidLooks := .later }
def FnHuffOneTreeCardSaid : Prop := Claim7.holds Tryz.pinned (.plain (OpenSpec.ofChange fnHuffOneTreeSpec)) fnHuffOneTreeCard

/-- THE SECOND FORM's CARD OF 'laws.FnHuffOneTree'. -/
def fnHuffOneTreeUptoCard : Claim7 := { stood := { row := fnHuffOneTreeUptoRow, standIns := [], harness := (true, "7a78b49fbc48512743a2ccb6a6eca9ea627d107305dafa108fec90d8b832a4a3"), looks := true }, kinds := [], alts := [], laidByText := true, laidKinds := [.data, .data, .sentinel, .sentinel, .sentinel, .sentinel, .sentinel], laidTests := true, laidLooks := .later }
def FnHuffOneTreeUptoCardSaid : Prop := Claim7.holds Tryz.pinned (.plain (OpenSpec.upto fnHuffOneTreeSpec)) fnHuffOneTreeUptoCard
end Rows
end Go.Proofs.YtlnhldlhmplphaaGreatDoor
