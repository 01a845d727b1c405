/- How the arguments of laws.FnMapper open, and the one statement over numbers and lists that is left of it. -/
import Derived.Test.YtokdamfalhcnnaaGFnMapperx
import Derived.Test.YtokdamfalhcnnaaOpens
namespace Go.Proofs.Ytokdamfalhcnnaa.OpnFnMapper
open Go.RowKit Go.Proofs.Ytokdamfalhcnnaa.GFnMapper Go.Proofs.Ytokdamfalhcnnaa.Opn Go.Proofs.YtokdamfalhcnnaaW.PrintWords Go.Proofs.YtokdamfalhcnnaaW.PrintLast
set_option linter.unusedVariables false

def ok3 (x : Int) : Prop := (Lit.int .i64 x).wf = true
theorem opens3 : Opens Try.prog 3 (Kd.int .i64) ok3 := Opens.int Try.underlying3 (by kernel_rfl)
def ok22 (x : List (Int)) : Prop := (∀ y_ ∈ x, ok3 y_)
theorem opens22 : Opens Try.prog 22 (Kd.slice 3 (Kd.int .i64)) ok22 := Opens.slice Try.underlying22 (by kernel_rfl) opens3
def ok32 (x : S32) : Prop := (Lit.int .i64 x.f0).wf = true ∧ (Lit.int .i64 x.f1).wf = true ∧ (Lit.int .i64 x.f2).wf = true ∧ (∀ y_ ∈ x.f3, ok3 y_)
theorem opens32 : Opens Try.prog 32 k32 ok32 :=
  Opens.struct (fun x : S32 => (x.f0, x.f1, x.f2, x.f3)) (fun p => ⟨p.1, p.2.1, p.2.2.1, p.2.2.2⟩) (fun _ => rfl) Try.underlying32 (by kernel_rfl) (Fields.cons opens3 rfl (Fields.cons opens3 rfl (Fields.cons opens3 rfl (Fields.last opens22 rfl))))
noncomputable instance : Inhabited S32 := ⟨z32⟩
def Pure : Prop := ∀ (a0 : Int) (l1 : List (Int)) (l2 : List (S32)) (a3 : Int), (Lit.int .u8 a0).wf = true → l1.length ≤ maxLen → (∀ x ∈ l1, ok3 x) → l2.length ≤ maxLen → (∀ x ∈ l2, ok32 x) → (Lit.int .i64 a3).wf = true → laws_FnMapper.f a0 l1 l2 a3 = some true
end Go.Proofs.Ytokdamfalhcnnaa.OpnFnMapper
