/- The contract of the law, in the print's own form (the walk: Lw). The calls are those of MpBody; -- structure S32 where -/
import Derived.Test.YtokdamfalhcnnaaLw
section
/- The contract of the law, in the print's own form (the walk: Lw). The calls are those of MpBody; -- structure S32 where -/
namespace Go.Proofs.Ytokdamfalhcnnaa.GFnMapper
open Go.RowKit Go.Proofs.YtokdamfalhcnnaaW.PrintWords
set_option linter.unusedVariables false
abbrev S32 := GMpBody.S32
abbrev k32 := GMpBody.k32
abbrev z32 := GMpBody.z32
/-- what the arguments' kinds say -/
def Fine (a0 : Int) (l1 : List Int) (l2 : List (S32)) (a3 : Int) : Prop := (0 ≤ a0 ∧ a0 ≤ 255) ∧ (∀ x ∈ l1, Mq.In64 x) ∧ (∀ x ∈ l2, Mq.In64 x.f0 ∧ Mq.In64 x.f1 ∧ Mq.In64 x.f2) ∧ Mq.In64 a3
/-! ### laws_FnMapper: function 3 -/
noncomputable def laws_FnMapper.f (a0 : Int) (l1 : List Int) (l2 : List (S32)) (a3 : Int) : Option (Bool) := @ite _ (Fine a0 l1 l2 a3) (Classical.propDecidable _) (some true) none
theorem laws_FnMapper.calls (a0 : Int) (A1 : Option Addr) (c1 : Nat) (l1 : List Int) (A2 : Option Addr) (c2 : Nat) (l2 : List (S32)) (a3 : Int) (r : Bool) (w : World) (hr1 : Kd.C (Kd.int .i64) w A1 l1.length l1) (hc1 : l1.length ≤ c1) (hr2 : Kd.C k32 w A2 l2.length l2) (hc2 : l2.length ≤ c2) (h : laws_FnMapper.f a0 l1 l2 a3 = some r) :
    Calls Try.prog 3 #[.int .u8 a0, .slice A1 l1.length c1, .slice A2 l2.length c2, .int .i64 a3] w fun e w' => e = .returned (.bool r) ∧ Below w.heap.size w w' := by
  unfold laws_FnMapper.f at h
  by_cases hg : Fine a0 l1 l2 a3
  · rw [if_pos hg] at h
    obtain rfl := Option.some.inj h
    exact Lw.law_any w a0 l1 A1 c1 l2 A2 c2 a3 hg.1 ⟨hr1, hc1, hr2, hc2, hg.2.1, hg.2.2.1, hg.2.2.2⟩
  · rw [if_neg hg] at h
    exact absurd h (by simp)
end Go.Proofs.Ytokdamfalhcnnaa.GFnMapper
end
