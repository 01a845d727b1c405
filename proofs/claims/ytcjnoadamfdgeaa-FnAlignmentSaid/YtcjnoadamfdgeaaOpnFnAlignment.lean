/- How the arguments of laws.FnAlignment open, and the one statement over numbers and lists that is left of it. -/
import Derived.Test.YtcjnoadamfdgeaaGFnAlignmentx
import Derived.Test.YtcjnoadamfdgeaaOpens
namespace Go.Proofs.Ytcjnoadamfdgeaa.OpnFnAlignment
open Go.RowKit Go.Proofs.Ytcjnoadamfdgeaa.GFnAlignment Go.Proofs.Ytcjnoadamfdgeaa.Opn Go.Proofs.YtcjnoadamfdgeaaW.PrintWords Go.Proofs.YtcjnoadamfdgeaaW.PrintLast
set_option linter.unusedVariables false

def ok3 (x : Int) : Prop := (Lit.int .i64 x).wf = true
theorem opens3 : Opens Try.prog 3 (Kd.int .i64) ok3 := Opens.int Try.underlying3 (by kernel_rfl)
def ok9 (x : ByteArray) : Prop := (x).size ≤ maxLen
theorem opens9 : Opens Try.prog 9 Kd.string ok9 := Opens.string Try.underlying9 (by kernel_rfl)
def ok28 (x : List (ByteArray)) : Prop := (∀ y_ ∈ x, ok9 y_)
theorem opens28 : Opens Try.prog 28 (Kd.slice 9 Kd.string) ok28 := Opens.slice Try.underlying28 (by kernel_rfl) opens9
def ok30 (x : S30) : Prop := (Lit.int .i64 x.f0).wf = true ∧ (Lit.int .i64 x.f1).wf = true ∧ (∀ y_ ∈ x.f2, ok9 y_)
theorem opens30 : Opens Try.prog 30 k30 ok30 :=
  Opens.struct (fun x : S30 => (x.f0, x.f1, x.f2)) (fun p => ⟨p.1, p.2.1, p.2.2⟩) (fun _ => rfl) Try.underlying30 (by kernel_rfl) (Fields.cons opens3 rfl (Fields.cons opens3 rfl (Fields.last opens28 rfl)))
noncomputable instance : Inhabited S30 := ⟨z30⟩
def Pure : Prop := ∀ (a0 : Int) (a1 : ByteArray) (l2 : List (S30)), (Lit.int .u8 a0).wf = true → a1.size ≤ 140737488351232 → l2.length ≤ maxLen → (∀ x ∈ l2, ok30 x) → ∃ k, laws_FnAlignment.f k a0 a1 l2 = some true
end Go.Proofs.Ytcjnoadamfdgeaa.OpnFnAlignment
