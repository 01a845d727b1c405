/-
  DERIVED. GIVEN WITH THE SEED: THE CARDS: each row of YtpgnipfpinldgaaGreatDoorRows.lean that lists a variable, with what it lists TIED to the program's text (the seventh form; the later family's looks); each row that meets fmt, with fmt's text TOLD by the authors' own Lean function (tested against real Go, not proved from fmt's source: count such statements apart). THE CARD IS WHAT COUNTS. Prove the row's statement (the work); the ties are given (YtpgnipfpinldgaaGreatDoorTie.lean); close each card by the builder's one call (the guide's Derived/Test/ToyasCard.lean, 'card_holds'). Laid BY PROGRAM, IN A SANDBOX (cutbox-door.mjs). By AI agents, Wed Nov 11 2026. No macro, syntax, notation, axiom, sorry.
-/
import Derived.Test.YtpgnipfpinldgaaGreatDoorRows
import GoSem.ClaimSeven
namespace Go.Proofs.YtpgnipfpinldgaaGreatDoor
namespace Rows

/-- THE TIED CARD OF 'laws.FnHtmlCellPieces'. -/
def fnHtmlCellPiecesCard : Claim7 := { stood := { row := fnHtmlCellPiecesRow, standIns := [], harness := (true, "cf8c6b6b8139a93c33803aa31641aa897faefd805e473fba59c8dd869dbfa94d"), looks := true }, kinds := [], alts := [], laidByText := true, laidKinds := [.data, .listed, .data, .pinned], laidTests := true, laidLooks := .later }
def FnHtmlCellPiecesCardSaid : Prop := Claim7.holds Tryz.pinned (.plain (OpenSpec.ofChange fnHtmlCellPiecesSpec)) fnHtmlCellPiecesCard

/-- THE SECOND FORM's CARD OF 'laws.FnHtmlCellPieces'. -/
def fnHtmlCellPiecesUptoCard : Claim7 := { stood := { row := fnHtmlCellPiecesUptoRow, standIns := [], harness := (true, "cf8c6b6b8139a93c33803aa31641aa897faefd805e473fba59c8dd869dbfa94d"), looks := true }, kinds := [], alts := [], laidByText := true, laidKinds := [.data, .listed, .data, .pinned], laidTests := true, laidLooks := .later }
def FnHtmlCellPiecesUptoCardSaid : Prop := Claim7.holds Tryz.pinned (.plain (OpenSpec.upto fnHtmlCellPiecesSpec)) fnHtmlCellPiecesUptoCard
end Rows
end Go.Proofs.YtpgnipfpinldgaaGreatDoor
