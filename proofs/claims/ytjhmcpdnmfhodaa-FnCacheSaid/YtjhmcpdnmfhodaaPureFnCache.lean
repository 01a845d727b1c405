/- How the arguments of laws.FnCache open, and the one statement over numbers and lists that is left of it. -/
import Derived.Test.YtjhmcpdnmfhodaaGFnCachex
import Derived.Test.YtjhmcpdnmfhodaaOpens
section
/- How the arguments of laws.FnCache open, and the one statement over numbers and lists that is left of it. -/
namespace Go.Proofs.Ytjhmcpdnmfhodaa.OpnFnCache
open Go.RowKit Go.Proofs.Ytjhmcpdnmfhodaa.GFnCache Go.Proofs.Ytjhmcpdnmfhodaa.Opn Go.Proofs.YtjhmcpdnmfhodaaW.PrintWords Go.Proofs.YtjhmcpdnmfhodaaW.PrintLast
set_option linter.unusedVariables false

def ok3 (x : Int) : Prop := (Lit.int .i64 x).wf = true
theorem opens3 : Opens Try.prog 3 (Kd.int .i64) ok3 := Opens.int Try.underlying3 (by kernel_rfl)
def ok36 (x : S36) : Prop := (Lit.int .i64 x.f0).wf = true ∧ (Lit.int .i64 x.f1).wf = true ∧ (Lit.int .i64 x.f2).wf = true
theorem opens36 : Opens Try.prog 36 k36 ok36 :=
  Opens.struct (fun x : S36 => (x.f0, x.f1, x.f2)) (fun p => ⟨p.1, p.2.1, p.2.2⟩) (fun _ => rfl) Try.underlying36 (by kernel_rfl) (Fields.cons opens3 rfl (Fields.cons opens3 rfl (Fields.last opens3 rfl)))
noncomputable instance : Inhabited S36 := ⟨z36⟩
def Pure : Prop := ∀ (a0 : Int) (a1 : Bool) (l2 : List (S36)), (Lit.int .i64 a0).wf = true → l2.length ≤ maxLen → (∀ x ∈ l2, ok36 x) → laws_FnCache.f a0 a1 l2 = some true
end Go.Proofs.Ytjhmcpdnmfhodaa.OpnFnCache
end

section
/- The cache gives what its definition says: entries, evictions, what the callback was told, the hit rate; asked of scripts of at most 2000 known calls. -/
namespace Go.Proofs.Ytjhmcpdnmfhodaa.Pure
open Go.RowKit Go.Proofs.Ytjhmcpdnmfhodaa.GFnCache Go.Proofs.Ytjhmcpdnmfhodaa.Opn Go.Proofs.Ytjhmcpdnmfhodaa.OpnFnCache Go.Proofs.YtjhmcpdnmfhodaaW.PrintWords Go.Proofs.YtjhmcpdnmfhodaaW.PrintLast

theorem in64 {k : Int} (h : (Lit.int .i64 k).wf = true) : Lrc.In64 k := by
  have := bounds_i64 h
  unfold Lrc.In64
  omega
theorem FnCache : OpnFnCache.Pure := by
  intro a0 a1 l2 _ _ hl
  unfold laws_FnCache.f
  exact if_pos (fun x hx => in64 (hl x hx).2.1)

end Go.Proofs.Ytjhmcpdnmfhodaa.Pure
end
