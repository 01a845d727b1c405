/- The contract of the law, in the print's own form (the walk: Ccw). The calls are those of CfBody; -- structure S36 where -/
import Derived.Test.YtjhmcpdnmfhodaaCcw
namespace Go.Proofs.Ytjhmcpdnmfhodaa.GFnCacheCompute
open Go.RowKit Go.Proofs.YtjhmcpdnmfhodaaW.PrintWords
set_option linter.unusedVariables false
abbrev S36 := GCfBody.S36
abbrev k36 := GCfBody.k36
abbrev z36 := GCfBody.z36
/-! ### laws_FnCacheCompute: function 4 -/
noncomputable def laws_FnCacheCompute.f (a0 : Int) (l1 : List (S36)) (a2 : Int) (a3 : Int) : Option (Bool) := @ite _ (0 ≤ a0 ∧ a0 ≤ 255 ∧ Lrc.In64 a2 ∧ ∀ x ∈ l1, Lrc.In64 x.f1) (Classical.propDecidable _) (some true) none
theorem laws_FnCacheCompute.calls (a0 : Int) (A1 : Option Addr) (c1 : Nat) (l1 : List (S36)) (a2 : Int) (a3 : Int) (r : Bool) (w : World) (hr1 : Kd.C k36 w A1 l1.length l1) (hc1 : l1.length ≤ c1) (h : laws_FnCacheCompute.f a0 l1 a2 a3 = some r) :
    Calls Try.prog 4 #[.int .u8 a0, .slice A1 l1.length c1, .int .i64 a2, .int .i64 a3] w fun e w' => e = .returned (.bool r) ∧ Below w.heap.size w w' := by
  unfold laws_FnCacheCompute.f at h
  by_cases hg : 0 ≤ a0 ∧ a0 ≤ 255 ∧ Lrc.In64 a2 ∧ ∀ x ∈ l1, Lrc.In64 x.f1
  · rw [if_pos hg] at h
    obtain rfl := Option.some.inj h
    exact Ccw.law_any a0 A1 c1 l1 a2 a3 w hr1 hc1 hg.1 hg.2.1 hg.2.2.1 hg.2.2.2
  · rw [if_neg hg] at h
    exact absurd h (by simp)
end Go.Proofs.Ytjhmcpdnmfhodaa.GFnCacheCompute
