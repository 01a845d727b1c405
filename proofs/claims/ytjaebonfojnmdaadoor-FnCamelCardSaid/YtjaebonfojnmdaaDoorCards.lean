/-
  DERIVED. GIVEN WITH THE SEED: THE CARDS: each row of YtjaebonfojnmdaaDoorRows.lean that lists a variable, with what it lists TIED to the program's text (the seventh form; the later family's looks); each row that meets fmt, with fmt's text TOLD by the authors' own Lean function (tested against real Go, not proved from fmt's source: count such statements apart). THE CARD IS WHAT COUNTS. Prove the row's statement (the work); the ties are given (YtjaebonfojnmdaaDoorTie.lean); close each card by the builder's one call (the guide's Derived/Test/ToyasCard.lean, 'card_holds'). Laid BY PROGRAM, IN A SANDBOX (cutbox-door.mjs). By AI agents, Wed Nov 11 2026. No macro, syntax, notation, axiom, sorry.
-/
import Derived.Test.YtjaebonfojnmdaaDoorRows
import GoSem.ClaimSeven
namespace Go.Proofs.YtjaebonfojnmdaaDoor
namespace Rows

/-- THE TIED CARD OF 'laws.FnCamel'. -/
def fnCamelCard : Claim7 := { stood := { row := fnCamelRow, standIns := [], harness := (true, "bc9f6805c28f555b1dbc7e7efe6a4b14a69af5939c6d668291b2725593624c2b"), looks := false }, kinds := [], alts := [], laidByText := true, laidKinds := [.data, .listed, .data, .data, .pinned, .pinned, .pinned, .pinned], laidTests := true, laidLooks := .later }
def FnCamelCardSaid : Prop := Claim7.holds Tryd.pinned (.plain (OpenSpec.ofChange fnCamelSpec)) fnCamelCard

/-- THE SECOND FORM's CARD OF 'laws.FnCamel'. -/
def fnCamelUptoCard : Claim7 := { stood := { row := fnCamelUptoRow, standIns := [], harness := (true, "bc9f6805c28f555b1dbc7e7efe6a4b14a69af5939c6d668291b2725593624c2b"), looks := false }, kinds := [], alts := [], laidByText := true, laidKinds := [.data, .listed, .data, .data, .pinned, .pinned, .pinned, .pinned], laidTests := true, laidLooks := .later }
def FnCamelUptoCardSaid : Prop := Claim7.holds Tryd.pinned (.plain (OpenSpec.upto fnCamelSpec)) fnCamelUptoCard
end Rows
end Go.Proofs.YtjaebonfojnmdaaDoor
