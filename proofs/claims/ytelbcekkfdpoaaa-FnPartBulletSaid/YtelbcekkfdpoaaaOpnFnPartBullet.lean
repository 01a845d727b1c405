/- How the arguments of laws.FnPartBullet open, and the one statement over numbers and lists that is left of it. -/
import Derived.Test.YtelbcekkfdpoaaaGFnPartBulletx
import Derived.Test.YtelbcekkfdpoaaaOpens
namespace Go.Proofs.Ytelbcekkfdpoaaa.OpnFnPartBullet
open Go.RowKit Go.Proofs.Ytelbcekkfdpoaaa.GFnPartBullet Go.Proofs.Ytelbcekkfdpoaaa.Opn Go.Proofs.YtelbcekkfdpoaaaW.PrintWords Go.Proofs.YtelbcekkfdpoaaaW.PrintLast
set_option linter.unusedVariables false

def ok3 (x : Int) : Prop := (Lit.int .i64 x).wf = true
theorem opens3 : Opens Try.prog 3 (Kd.int .i64) ok3 := Opens.int Try.underlying3 (by kernel_rfl)
def ok9 (x : ByteArray) : Prop := (x).size ≤ maxLen
theorem opens9 : Opens Try.prog 9 Kd.string ok9 := Opens.string Try.underlying9 (by kernel_rfl)
structure S39 where
  f0 : Int
  f1 : ByteArray
  f2 : ByteArray
  f3 : ByteArray
  f4 : ByteArray
  f5 : ByteArray
  f6 : ByteArray
  f7 : ByteArray
  f8 : ByteArray
def z39 : S39 := ⟨(0 : Int), (⟨#[]⟩ : ByteArray), (⟨#[]⟩ : ByteArray), (⟨#[]⟩ : ByteArray), (⟨#[]⟩ : ByteArray), (⟨#[]⟩ : ByteArray), (⟨#[]⟩ : ByteArray), (⟨#[]⟩ : ByteArray), (⟨#[]⟩ : ByteArray)⟩
def k39 : Kd S39 := Kd.iso (Kd.pair (Kd.int .i64) (Kd.pair Kd.string (Kd.pair Kd.string (Kd.pair Kd.string (Kd.pair Kd.string (Kd.pair Kd.string (Kd.pair Kd.string (Kd.pair Kd.string Kd.string)))))))) (fun x : S39 => (x.f0, x.f1, x.f2, x.f3, x.f4, x.f5, x.f6, x.f7, x.f8))
theorem k39_open {w : World} {x : S39} {cs : List Value} (h : k39.K w x cs) : cs = [.int .i64 x.f0, .string x.f1, .string x.f2, .string x.f3, .string x.f4, .string x.f5, .string x.f6, .string x.f7, .string x.f8] := by
  obtain ⟨_, _, rfl, rfl, ⟨_, _, rfl, rfl, ⟨_, _, rfl, rfl, ⟨_, _, rfl, rfl, ⟨_, _, rfl, rfl, ⟨_, _, rfl, rfl, ⟨_, _, rfl, rfl, ⟨_, _, rfl, rfl, rfl⟩⟩⟩⟩⟩⟩⟩⟩ := h
  exact rfl
def ok39 (x : S39) : Prop := (Lit.int .i64 x.f0).wf = true ∧ (x.f1).size ≤ maxLen ∧ (x.f2).size ≤ maxLen ∧ (x.f3).size ≤ maxLen ∧ (x.f4).size ≤ maxLen ∧ (x.f5).size ≤ maxLen ∧ (x.f6).size ≤ maxLen ∧ (x.f7).size ≤ maxLen ∧ (x.f8).size ≤ maxLen
theorem opens39 : Opens Try.prog 39 k39 ok39 :=
  Opens.struct (fun x : S39 => (x.f0, x.f1, x.f2, x.f3, x.f4, x.f5, x.f6, x.f7, x.f8)) (fun p => ⟨p.1, p.2.1, p.2.2.1, p.2.2.2.1, p.2.2.2.2.1, p.2.2.2.2.2.1, p.2.2.2.2.2.2.1, p.2.2.2.2.2.2.2.1, p.2.2.2.2.2.2.2.2⟩) (fun _ => rfl) Try.underlying39 (by kernel_rfl) (Fields.cons opens3 rfl (Fields.cons opens9 rfl (Fields.cons opens9 rfl (Fields.cons opens9 rfl (Fields.cons opens9 rfl (Fields.cons opens9 rfl (Fields.cons opens9 rfl (Fields.cons opens9 rfl (Fields.last opens9 rfl)))))))))
noncomputable instance : Inhabited S39 := ⟨z39⟩
def Pure : Prop := ∀ (a0 : Int) (a1 : Bool) (a2 : Bool) (a3 : Bool) (a4 : Bool) (a5 : Bool) (x6 : S39), (Lit.int .i64 a0).wf = true → ok39 x6 → ∃ k, laws_FnPartBullet.f k a0 a1 a2 a3 a4 a5 x6.f0 x6.f1 x6.f2 x6.f3 x6.f4 x6.f5 x6.f6 x6.f7 x6.f8 = some true
end Go.Proofs.Ytelbcekkfdpoaaa.OpnFnPartBullet
