/- How the arguments of laws.FnCacheCompute open, and the one statement over numbers and lists that is left of it. -/
import Derived.Test.YtjhmcpdnmfhodaaGFnCacheComputex
import Derived.Test.YtjhmcpdnmfhodaaOpens
namespace Go.Proofs.Ytjhmcpdnmfhodaa.OpnFnCacheCompute
open Go.RowKit Go.Proofs.Ytjhmcpdnmfhodaa.GFnCacheCompute Go.Proofs.Ytjhmcpdnmfhodaa.Opn Go.Proofs.YtjhmcpdnmfhodaaW.PrintWords Go.Proofs.YtjhmcpdnmfhodaaW.PrintLast
set_option linter.unusedVariables false

def ok3 (x : Int) : Prop := (Lit.int .i64 x).wf = true
theorem opens3 : Opens Try.prog 3 (Kd.int .i64) ok3 := Opens.int Try.underlying3 (by kernel_rfl)
def ok36 (x : S36) : Prop := (Lit.int .i64 x.f0).wf = true ∧ (Lit.int .i64 x.f1).wf = true ∧ (Lit.int .i64 x.f2).wf = true
theorem opens36 : Opens Try.prog 36 k36 ok36 :=
  Opens.struct (fun x : S36 => (x.f0, x.f1, x.f2)) (fun p => ⟨p.1, p.2.1, p.2.2⟩) (fun _ => rfl) Try.underlying36 (by kernel_rfl) (Fields.cons opens3 rfl (Fields.cons opens3 rfl (Fields.last opens3 rfl)))
noncomputable instance : Inhabited S36 := ⟨z36⟩
def Pure : Prop := ∀ (a0 : Int) (l1 : List (S36)) (a2 : Int) (a3 : Int), (Lit.int .u8 a0).wf = true → l1.length ≤ maxLen → (∀ x ∈ l1, ok36 x) → (Lit.int .i64 a2).wf = true → (Lit.int .i64 a3).wf = true → laws_FnCacheCompute.f a0 l1 a2 a3 = some true
end Go.Proofs.Ytjhmcpdnmfhodaa.OpnFnCacheCompute
