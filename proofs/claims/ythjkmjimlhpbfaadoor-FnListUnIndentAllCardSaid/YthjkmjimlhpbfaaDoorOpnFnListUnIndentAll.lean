/- How the arguments of laws.FnListUnIndentAll open, and the one statement over numbers and lists that is left of it. -/
import Derived.Test.YthjkmjimlhpbfaaDoorGFnListUnIndentAllx
import Derived.Test.YthjkmjimlhpbfaaDoorOpens
namespace Go.Proofs.YthjkmjimlhpbfaaDoor.OpnFnListUnIndentAll
open Go.RowKit Go.Proofs.YthjkmjimlhpbfaaDoor.GFnListUnIndentAll Go.Proofs.YthjkmjimlhpbfaaDoor.Opn Go.Proofs.YthjkmjimlhpbfaaDoorW.PrintWords Go.Proofs.YthjkmjimlhpbfaaDoorW.PrintLast
set_option linter.unusedVariables false

def ok9 (x : ByteArray) : Prop := (x).size ≤ maxLen
theorem opens9 : Opens Tryd.prog 9 Kd.string ok9 := Opens.string Tryd.underlying9 (by kernel_rfl)
def ok3 (x : Int) : Prop := (Lit.int .i64 x).wf = true
theorem opens3 : Opens Tryd.prog 3 (Kd.int .i64) ok3 := Opens.int Tryd.underlying3 (by kernel_rfl)
def ok38 (x : S38) : Prop := (x.f0).size ≤ maxLen ∧ (Lit.int .i64 x.f1).wf = true
theorem opens38 : Opens Tryd.prog 38 k38 ok38 :=
  Opens.struct (fun x : S38 => (x.f0, x.f1)) (fun p => ⟨p.1, p.2⟩) (fun _ => rfl) Tryd.underlying38 (by kernel_rfl) (Fields.cons opens9 rfl (Fields.last opens3 rfl))
noncomputable instance : Inhabited S38 := ⟨z38⟩
def ok24 (x : S24) : Prop := (Lit.int .i64 x.f0).wf = true ∧ (x.f1).size ≤ maxLen ∧ (x.f2).size ≤ maxLen ∧ (x.f3).size ≤ maxLen ∧ (x.f4).size ≤ maxLen ∧ (x.f5).size ≤ maxLen ∧ (x.f6).size ≤ maxLen ∧ (x.f7).size ≤ maxLen ∧ (x.f8).size ≤ maxLen
theorem opens24 : Opens Tryd.prog 24 k24 ok24 :=
  Opens.struct (fun x : S24 => (x.f0, x.f1, x.f2, x.f3, x.f4, x.f5, x.f6, x.f7, x.f8)) (fun p => ⟨p.1, p.2.1, p.2.2.1, p.2.2.2.1, p.2.2.2.2.1, p.2.2.2.2.2.1, p.2.2.2.2.2.2.1, p.2.2.2.2.2.2.2.1, p.2.2.2.2.2.2.2.2⟩) (fun _ => rfl) Tryd.underlying24 (by kernel_rfl) (Fields.cons opens3 rfl (Fields.cons opens9 rfl (Fields.cons opens9 rfl (Fields.cons opens9 rfl (Fields.cons opens9 rfl (Fields.cons opens9 rfl (Fields.cons opens9 rfl (Fields.cons opens9 rfl (Fields.last opens9 rfl)))))))))
noncomputable instance : Inhabited S24 := ⟨z24⟩
def Pure : Prop := ∀ (l0 : List (S38)) (a1 : ByteArray) (a2 : Int) (x3 : S24), l0.length ≤ maxLen → (∀ x ∈ l0, ok38 x) → a1.size ≤ 140737488351232 → (Lit.int .u8 a2).wf = true → ok24 x3 → ∃ k, laws_FnListUnIndentAll.f k l0 a1 a2 x3.f0 x3.f1 x3.f2 x3.f3 x3.f4 x3.f5 x3.f6 x3.f7 x3.f8 = some true
end Go.Proofs.YthjkmjimlhpbfaaDoor.OpnFnListUnIndentAll
