/- The contract of the law, in the print's own form (the walk: Hlw). -/
import Derived.Test.YtjpdkmmpofddlaaHlw
namespace Go.Proofs.Ytjpdkmmpofddlaa.GFnHiddenTwice
open Go.RowKit Go.Proofs.YtjpdkmmpofddlaaW.PrintWords
set_option linter.unusedVariables false
/-! ### laws_FnHiddenTwice: function 4 -/
def laws_FnHiddenTwice.f (l0 : List (List ByteArray)) (l1 : List Bool) (l2 : List Bool) : Option (Bool) := some true
theorem laws_FnHiddenTwice.calls (A0 : Option Addr) (c0 : Nat) (l0 : List (List ByteArray)) (A1 : Option Addr) (c1 : Nat) (l1 : List Bool) (A2 : Option Addr) (c2 : Nat) (l2 : List Bool) (r : Bool) (w : World) (hr0 : Kd.C (Kd.slice 9 Kd.string) w A0 l0.length l0) (hc0 : l0.length ≤ c0) (hr1 : Kd.C Kd.bool w A1 l1.length l1) (hc1 : l1.length ≤ c1) (hr2 : Kd.C Kd.bool w A2 l2.length l2) (hc2 : l2.length ≤ c2) (h : laws_FnHiddenTwice.f l0 l1 l2 = some r) :
    Calls Try.prog 4 #[.slice A0 l0.length c0, .slice A1 l1.length c1, .slice A2 l2.length c2] w fun e w' => e = .returned (.bool r) ∧ Below w.heap.size w w' := by
  obtain rfl := Option.some.inj h
  exact Hlw.law_any A0 c0 l0 A1 c1 l1 A2 c2 l2 w hr0 hc0 hr1 hc1 hr2 hc2
end Go.Proofs.Ytjpdkmmpofddlaa.GFnHiddenTwice
