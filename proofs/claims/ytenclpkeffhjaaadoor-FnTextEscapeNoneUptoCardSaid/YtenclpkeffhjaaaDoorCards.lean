/-
  DERIVED. GIVEN WITH THE SEED: THE CARDS: each row of YtenclpkeffhjaaaDoorRows.lean that lists a variable, with what it lists TIED to the program's text (the seventh form; the later family's looks); each row that meets fmt, with fmt's text TOLD by the authors' own Lean function (tested against real Go, not proved from fmt's source: count such statements apart). THE CARD IS WHAT COUNTS. Prove the row's statement (the work); the ties are given (YtenclpkeffhjaaaDoorTie.lean); close each card by the builder's one call (the guide's Derived/Test/ToyasCard.lean, 'card_holds'). Laid BY PROGRAM, IN A SANDBOX (cutbox-door.mjs). By AI agents, Wed Nov 11 2026. No macro, syntax, notation, axiom, sorry.
-/
import Derived.Test.YtenclpkeffhjaaaDoorRows
import GoSem.ClaimSeven
namespace Go.Proofs.YtenclpkeffhjaaaDoor
namespace Rows

/-- THE TIED CARD OF 'laws.FnTextEscapeNone'. -/
def fnTextEscapeNoneCard : Claim7 := { stood := { row := fnTextEscapeNoneRow, standIns := [], harness := (true, "584b177a1858e098b03ed6eed21cc20f26c1546c00e59d0b066a12332e2eeaad"), looks := false }, kinds := [], alts := [], laidByText := true, laidKinds := [.data, .data, .data], laidTests := true, laidLooks := .later }
def FnTextEscapeNoneCardSaid : Prop := Claim7.holds Tryd.pinned (.plain (OpenSpec.ofChange fnTextEscapeNoneSpec)) fnTextEscapeNoneCard

/-- THE TIED CARD OF 'laws.FnTextColorsSeq'. -/
def fnTextColorsSeqCard : Claim7 := { stood := { row := fnTextColorsSeqRow, standIns := [], harness := (true, "584b177a1858e098b03ed6eed21cc20f26c1546c00e59d0b066a12332e2eeaad"), looks := false }, kinds := [], alts := [], laidByText := true, laidKinds := [.data, .data, .data], laidTests := true, laidLooks := .later }
def FnTextColorsSeqCardSaid : Prop := Claim7.holds Tryd.pinned (.plain (OpenSpec.ofChange fnTextColorsSeqSpec)) fnTextColorsSeqCard

/-- THE TIED CARD OF 'laws.FnTextColorsPrint'. -/
def fnTextColorsPrintCard : Claim7 := { stood := { row := fnTextColorsPrintRow, standIns := [], harness := (true, "584b177a1858e098b03ed6eed21cc20f26c1546c00e59d0b066a12332e2eeaad"), looks := false }, kinds := [], alts := [], laidByText := true, laidKinds := [.data, .data, .data], laidTests := true, laidLooks := .later }
def FnTextColorsPrintCardSaid : Prop := Claim7.holds Tryd.pinned (.plain (OpenSpec.ofChange fnTextColorsPrintSpec)) fnTextColorsPrintCard

/-- THE SECOND FORM's CARD OF 'laws.FnTextEscapeNone'. -/
def fnTextEscapeNoneUptoCard : Claim7 := { stood := { row := fnTextEscapeNoneUptoRow, standIns := [], harness := (true, "584b177a1858e098b03ed6eed21cc20f26c1546c00e59d0b066a12332e2eeaad"), looks := false }, kinds := [], alts := [], laidByText := true, laidKinds := [.data, .data, .data], laidTests := true, laidLooks := .later }
def FnTextEscapeNoneUptoCardSaid : Prop := Claim7.holds Tryd.pinned (.plain (OpenSpec.upto fnTextEscapeNoneSpec)) fnTextEscapeNoneUptoCard

/-- THE SECOND FORM's CARD OF 'laws.FnTextColorsSeq'. -/
def fnTextColorsSeqUptoCard : Claim7 := { stood := { row := fnTextColorsSeqUptoRow, standIns := [], harness := (true, "584b177a1858e098b03ed6eed21cc20f26c1546c00e59d0b066a12332e2eeaad"), looks := false }, kinds := [], alts := [], laidByText := true, laidKinds := [.data, .data, .data], laidTests := true, laidLooks := .later }
def FnTextColorsSeqUptoCardSaid : Prop := Claim7.holds Tryd.pinned (.plain (OpenSpec.upto fnTextColorsSeqSpec)) fnTextColorsSeqUptoCard

/-- THE SECOND FORM's CARD OF 'laws.FnTextColorsPrint'. -/
def fnTextColorsPrintUptoCard : Claim7 := { stood := { row := fnTextColorsPrintUptoRow, standIns := [], harness := (true, "584b177a1858e098b03ed6eed21cc20f26c1546c00e59d0b066a12332e2eeaad"), looks := false }, kinds := [], alts := [], laidByText := true, laidKinds := [.data, .data, .data], laidTests := true, laidLooks := .later }
def FnTextColorsPrintUptoCardSaid : Prop := Claim7.holds Tryd.pinned (.plain (OpenSpec.upto fnTextColorsPrintSpec)) fnTextColorsPrintUptoCard
end Rows
end Go.Proofs.YtenclpkeffhjaaaDoor
