/- The contract of the law, in the print's own form (the walk: TsvL). -/
import Derived.Test.YtelbcekkfdpoaaaTsvL
namespace Go.Proofs.Ytelbcekkfdpoaaa.GFnTsvRowBack
open Go.RowKit Go.Proofs.YtelbcekkfdpoaaaW.PrintWords
set_option linter.unusedVariables false
/-! ### laws_FnTsvRowBack: function 3 -/
def laws_FnTsvRowBack.f (l0 : List ByteArray) : Option (Bool) := some true
theorem laws_FnTsvRowBack.calls (A0 : Option Addr) (c0 : Nat) (l0 : List ByteArray) (r : Bool) (w : World) (hr0 : Kd.C Kd.string w A0 l0.length l0) (hc0 : l0.length ≤ c0) (h : laws_FnTsvRowBack.f l0 = some r) :
    Calls Try.prog 3 #[.slice A0 l0.length c0] w fun e w' => e = .returned (.bool r) ∧ Below w.heap.size w w' := by
  obtain rfl := Option.some.inj h
  exact TsvL.law_any A0 c0 l0 w hr0 hc0
end Go.Proofs.Ytelbcekkfdpoaaa.GFnTsvRowBack
