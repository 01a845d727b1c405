/- How the arguments of laws.FnListPlain open, and the one statement over numbers and lists that is left of it. -/
import Derived.Test.YthjkmjimlhpbfaaGreatDoorGFnListPlainx
import Derived.Test.YthjkmjimlhpbfaaGreatDoorOpens
namespace Go.Proofs.YthjkmjimlhpbfaaGreatDoor.OpnFnListPlain
open Go.RowKit Go.Proofs.YthjkmjimlhpbfaaGreatDoor.GFnListPlain Go.Proofs.YthjkmjimlhpbfaaGreatDoor.Opn Go.Proofs.YthjkmjimlhpbfaaGreatDoorW.PrintWords Go.Proofs.YthjkmjimlhpbfaaGreatDoorW.PrintLast
set_option linter.unusedVariables false

def ok9 (x : ByteArray) : Prop := (x).size ≤ maxLen
theorem opens9 : Opens Tryz.prog 9 Kd.string ok9 := Opens.string Tryz.underlying9 (by kernel_rfl)
def ok3 (x : Int) : Prop := (Lit.int .i64 x).wf = true
theorem opens3 : Opens Tryz.prog 3 (Kd.int .i64) ok3 := Opens.int Tryz.underlying3 (by kernel_rfl)
def ok33 (x : S33) : Prop := (x.f0).size ≤ maxLen ∧ (Lit.int .i64 x.f1).wf = true
theorem opens33 : Opens Tryz.prog 33 k33 ok33 :=
  Opens.struct (fun x : S33 => (x.f0, x.f1)) (fun p => ⟨p.1, p.2⟩) (fun _ => rfl) Tryz.underlying33 (by kernel_rfl) (Fields.cons opens9 rfl (Fields.last opens3 rfl))
noncomputable instance : Inhabited S33 := ⟨z33⟩
def Pure : Prop := ∀ (l0 : List (S33)), l0.length ≤ maxLen → (∀ x ∈ l0, ok33 x) → ∃ k, laws_FnListPlain.f k l0 = some true
end Go.Proofs.YthjkmjimlhpbfaaGreatDoor.OpnFnListPlain
