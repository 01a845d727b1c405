/- How the arguments of laws.FnTsvRowBack open, and the one statement over numbers and lists that is left of it. -/
import Derived.Test.YtelbcekkfdpoaaaGFnTsvRowBackx
import Derived.Test.YtelbcekkfdpoaaaOpens
namespace Go.Proofs.Ytelbcekkfdpoaaa.OpnFnTsvRowBack
open Go.RowKit Go.Proofs.Ytelbcekkfdpoaaa.GFnTsvRowBack Go.Proofs.Ytelbcekkfdpoaaa.Opn Go.Proofs.YtelbcekkfdpoaaaW.PrintWords Go.Proofs.YtelbcekkfdpoaaaW.PrintLast
set_option linter.unusedVariables false

def ok9 (x : ByteArray) : Prop := (x).size ≤ maxLen
theorem opens9 : Opens Try.prog 9 Kd.string ok9 := Opens.string Try.underlying9 (by kernel_rfl)
def Pure : Prop := ∀ (l0 : List (ByteArray)), l0.length ≤ maxLen → (∀ x ∈ l0, ok9 x) → laws_FnTsvRowBack.f l0 = some true
end Go.Proofs.Ytelbcekkfdpoaaa.OpnFnTsvRowBack
