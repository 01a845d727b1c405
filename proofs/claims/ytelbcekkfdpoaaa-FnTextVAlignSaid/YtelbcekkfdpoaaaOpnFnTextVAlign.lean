/- How the arguments of laws.FnTextVAlign open, and the one statement over numbers and lists that is left of it. -/
import Derived.Test.YtelbcekkfdpoaaaGFnTextVAlignx
import Derived.Test.YtelbcekkfdpoaaaOpens
namespace Go.Proofs.Ytelbcekkfdpoaaa.OpnFnTextVAlign
open Go.RowKit Go.Proofs.Ytelbcekkfdpoaaa.GFnTextVAlign Go.Proofs.Ytelbcekkfdpoaaa.Opn Go.Proofs.YtelbcekkfdpoaaaW.PrintWords Go.Proofs.YtelbcekkfdpoaaaW.PrintLast
set_option linter.unusedVariables false

def ok9 (x : ByteArray) : Prop := (x).size ≤ maxLen
theorem opens9 : Opens Try.prog 9 Kd.string ok9 := Opens.string Try.underlying9 (by kernel_rfl)
def Pure : Prop := ∀ (a0 : Int) (l1 : List (ByteArray)) (a2 : Int), (Lit.int .u8 a0).wf = true → l1.length ≤ maxLen → (∀ x ∈ l1, ok9 x) → (Lit.int .i64 a2).wf = true → ∃ k, laws_FnTextVAlign.f k a0 l1 a2 = some true
end Go.Proofs.Ytelbcekkfdpoaaa.OpnFnTextVAlign
