/- The contract of the law, in the print's own form (the walk: Sl). -/
import Derived.Test.YtpceflnbomegiaaSl
namespace Go.Proofs.Ytpceflnbomegiaa.GFnStyleSymbols
open Go.RowKit Go.Proofs.YtpceflnbomegiaaW.PrintWords
def laws_FnStyleSymbols.f (a0 : Int) : Option (Bool) := if 0 ≤ a0 ∧ a0 ≤ 255 then some true else none
theorem laws_FnStyleSymbols.calls (a0 : Int) (r : Bool) (w : World) (h : laws_FnStyleSymbols.f a0 = some r) :
    Calls Try.prog 3 #[.int .u8 a0] w fun e w' => e = .returned (.bool r) ∧ Below w.heap.size w w' := by
  unfold laws_FnStyleSymbols.f at h
  by_cases hc : 0 ≤ a0 ∧ a0 ≤ 255
  · rw [if_pos hc] at h
    obtain rfl := Option.some.inj h
    exact Sl.law_any a0 hc.1 hc.2 w
  · rw [if_neg hc] at h
    exact absurd h (by simp)
end Go.Proofs.Ytpceflnbomegiaa.GFnStyleSymbols
