/-
  DERIVED. GIVEN WITH THE SEED: THE CARDS: each row of YthjkmjimlhpbfaaDoorRows.lean that lists a variable, with what it lists TIED to the program's text (the seventh form; the later family's looks); each row that meets fmt, with fmt's text TOLD by the authors' own Lean function (tested against real Go, not proved from fmt's source: count such statements apart). THE CARD IS WHAT COUNTS. Prove the row's statement (the work); the ties are given (YthjkmjimlhpbfaaDoorTie.lean); close each card by the builder's one call (the guide's Derived/Test/ToyasCard.lean, 'card_holds'). Laid BY PROGRAM, IN A SANDBOX (cutbox-door.mjs). By AI agents, Wed Nov 11 2026. No macro, syntax, notation, axiom, sorry.
-/
import Derived.Test.YthjkmjimlhpbfaaDoorRows
import GoSem.ClaimSeven
namespace Go.Proofs.YthjkmjimlhpbfaaDoor
namespace Rows

/-- THE TIED CARD OF 'laws.FnListPrefix'. -/
def fnListPrefixCard : Claim7 := { stood := { row := fnListPrefixRow, standIns := [], harness := (true, "56de3947c31fe16c163aa993aaa01b352f51d2d55cb92e9b38f44f0900b38a87"), looks := true }, kinds := [], alts := [], laidByText := true, laidKinds := [.data, .listed, .data, .pinned, .pinned, .pinned, .pinned], laidTests := true, laidLooks := .later }
def FnListPrefixCardSaid : Prop := Claim7.holds Tryd.pinned (.plain (OpenSpec.ofChange fnListPrefixSpec)) fnListPrefixCard

/-- THE TIED CARD OF 'laws.FnListUnIndentAll'. -/
def fnListUnIndentAllCard : Claim7 := { stood := { row := fnListUnIndentAllRow, standIns := [], harness := (true, "56de3947c31fe16c163aa993aaa01b352f51d2d55cb92e9b38f44f0900b38a87"), looks := true }, kinds := [], alts := [], laidByText := true, laidKinds := [.data, .listed, .data, .pinned, .pinned, .pinned, .pinned], laidTests := true, laidLooks := .later }
def FnListUnIndentAllCardSaid : Prop := Claim7.holds Tryd.pinned (.plain (OpenSpec.ofChange fnListUnIndentAllSpec)) fnListUnIndentAllCard

/-- THE TIED CARD OF 'laws.FnListMarkdownLines'. -/
def fnListMarkdownLinesCard : Claim7 := { stood := { row := fnListMarkdownLinesRow, standIns := [], harness := (true, "56de3947c31fe16c163aa993aaa01b352f51d2d55cb92e9b38f44f0900b38a87"), looks := true }, kinds := [], alts := [], laidByText := true, laidKinds := [.data, .listed, .data, .pinned, .pinned, .pinned, .pinned], laidTests := true, laidLooks := .later }
def FnListMarkdownLinesCardSaid : Prop := Claim7.holds Tryd.pinned (.plain (OpenSpec.ofChange fnListMarkdownLinesSpec)) fnListMarkdownLinesCard

/-- THE SECOND FORM's CARD OF 'laws.FnListPrefix'. -/
def fnListPrefixUptoCard : Claim7 := { stood := { row := fnListPrefixUptoRow, standIns := [], harness := (true, "56de3947c31fe16c163aa993aaa01b352f51d2d55cb92e9b38f44f0900b38a87"), looks := true }, kinds := [], alts := [], laidByText := true, laidKinds := [.data, .listed, .data, .pinned, .pinned, .pinned, .pinned], laidTests := true, laidLooks := .later }
def FnListPrefixUptoCardSaid : Prop := Claim7.holds Tryd.pinned (.plain (OpenSpec.upto fnListPrefixSpec)) fnListPrefixUptoCard

/-- THE SECOND FORM's CARD OF 'laws.FnListUnIndentAll'. -/
def fnListUnIndentAllUptoCard : Claim7 := { stood := { row := fnListUnIndentAllUptoRow, standIns := [], harness := (true, "56de3947c31fe16c163aa993aaa01b352f51d2d55cb92e9b38f44f0900b38a87"), looks := true }, kinds := [], alts := [], laidByText := true, laidKinds := [.data, .listed, .data, .pinned, .pinned, .pinned, .pinned], laidTests := true, laidLooks := .later }
def FnListUnIndentAllUptoCardSaid : Prop := Claim7.holds Tryd.pinned (.plain (OpenSpec.upto fnListUnIndentAllSpec)) fnListUnIndentAllUptoCard

/-- THE SECOND FORM's CARD OF 'laws.FnListMarkdownLines'. -/
def fnListMarkdownLinesUptoCard : Claim7 := { stood := { row := fnListMarkdownLinesUptoRow, standIns := [], harness := (true, "56de3947c31fe16c163aa993aaa01b352f51d2d55cb92e9b38f44f0900b38a87"), looks := true }, kinds := [], alts := [], laidByText := true, laidKinds := [.data, .listed, .data, .pinned, .pinned, .pinned, .pinned], laidTests := true, laidLooks := .later }
def FnListMarkdownLinesUptoCardSaid : Prop := Claim7.holds Tryd.pinned (.plain (OpenSpec.upto fnListMarkdownLinesSpec)) fnListMarkdownLinesUptoCard
end Rows
end Go.Proofs.YthjkmjimlhpbfaaDoor
