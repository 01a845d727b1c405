/-
  DERIVED. GIVEN WITH THE SEED: THE CARDS: each row of YthjkmjimlhpbfaaGreatDoorRows.lean that lists a variable, with what it lists TIED to the program's text (the seventh form; the later family's looks); each row that meets fmt, with fmt's text TOLD by the authors' own Lean function (tested against real Go, not proved from fmt's source: count such statements apart). THE CARD IS WHAT COUNTS. Prove the row's statement (the work); the ties are given (YthjkmjimlhpbfaaGreatDoorTie.lean); close each card by the builder's one call (the guide's Derived/Test/ToyasCard.lean, 'card_holds'). Laid BY PROGRAM, IN A SANDBOX (cutbox-door.mjs). By AI agents, Wed Nov 11 2026. No macro, syntax, notation, axiom, sorry.
-/
import Derived.Test.YthjkmjimlhpbfaaGreatDoorRows
import GoSem.ClaimSeven
namespace Go.Proofs.YthjkmjimlhpbfaaGreatDoor
namespace Rows

/-- THE TIED CARD OF 'laws.FnListPlain'. -/
def fnListPlainCard : Claim7 := { stood := { row := fnListPlainRow, standIns := [], harness := (true, "8d5fd6ac908c0d77bcbd9f3dd62d170c487a124e2794b6814ef2334e30e43510"), looks := true }, kinds := [], alts := [], laidByText := true, laidKinds := [.data, .listed, .data, .pinned, .pinned, .pinned, .pinned], laidTests := true, laidLooks := .later }
def FnListPlainCardSaid : Prop := Claim7.holds Tryz.pinned (.plain (OpenSpec.ofChange fnListPlainSpec)) fnListPlainCard

/-- THE SECOND FORM's CARD OF 'laws.FnListPlain'. -/
def fnListPlainUptoCard : Claim7 := { stood := { row := fnListPlainUptoRow, standIns := [], harness := (true, "8d5fd6ac908c0d77bcbd9f3dd62d170c487a124e2794b6814ef2334e30e43510"), looks := true }, kinds := [], alts := [], laidByText := true, laidKinds := [.data, .listed, .data, .pinned, .pinned, .pinned, .pinned], laidTests := true, laidLooks := .later }
def FnListPlainUptoCardSaid : Prop := Claim7.holds Tryz.pinned (.plain (OpenSpec.upto fnListPlainSpec)) fnListPlainUptoCard
end Rows
end Go.Proofs.YthjkmjimlhpbfaaGreatDoor
