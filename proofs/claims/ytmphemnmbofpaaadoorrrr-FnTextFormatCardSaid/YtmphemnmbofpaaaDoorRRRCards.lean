/-
  DERIVED. GIVEN WITH THE SEED: THE CARDS: each row of YtmphemnmbofpaaaDoorRRRRows.lean that lists a variable, with what it lists TIED to the program's text (the seventh form; the later family's looks); each row that meets fmt, with fmt's text TOLD by the authors' own Lean function (tested against real Go, not proved from fmt's source: count such statements apart). THE CARD IS WHAT COUNTS. Prove the row's statement (the work); the ties are given (YtmphemnmbofpaaaDoorRRRTie.lean); close each card by the builder's one call (the guide's Derived/Test/ToyasCard.lean, 'card_holds'). Laid BY PROGRAM, IN A SANDBOX (cutbox-door.mjs). By AI agents, Wed Nov 11 2026. No macro, syntax, notation, axiom, sorry.
-/
import Derived.Test.YtmphemnmbofpaaaDoorRRRRows
import GoSem.ClaimSeven
namespace Go.Proofs.YtmphemnmbofpaaaDoorRRR
namespace Rows

/-- THE TIED CARD OF 'laws.FnTextFormat'. -/
def fnTextFormatCard : Claim7 := { stood := { row := fnTextFormatRow, standIns := [], harness := (true, "6e738dc8139dd5ae6e4a227fb4ab7f3b6f95dc88d0f51bc4369421d93ffb6749"), looks := false }, kinds := [], alts := [], laidByText := true, laidKinds := [.data, .data, .data, .data, .listed, .data, .pinned, .pinned, .pinned, .pinned], laidTests := true, laidLooks := .later }
def FnTextFormatCardSaid : Prop := Claim7.holds Tryd.pinned (.plain (OpenSpec.ofChange fnTextFormatSpec)) fnTextFormatCard

/-- THE SECOND FORM's CARD OF 'laws.FnTextFormat'. -/
def fnTextFormatUptoCard : Claim7 := { stood := { row := fnTextFormatUptoRow, standIns := [], harness := (true, "6e738dc8139dd5ae6e4a227fb4ab7f3b6f95dc88d0f51bc4369421d93ffb6749"), looks := false }, kinds := [], alts := [], laidByText := true, laidKinds := [.data, .data, .data, .data, .listed, .data, .pinned, .pinned, .pinned, .pinned], laidTests := true, laidLooks := .later }
def FnTextFormatUptoCardSaid : Prop := Claim7.holds Tryd.pinned (.plain (OpenSpec.upto fnTextFormatSpec)) fnTextFormatUptoCard
end Rows
end Go.Proofs.YtmphemnmbofpaaaDoorRRR
