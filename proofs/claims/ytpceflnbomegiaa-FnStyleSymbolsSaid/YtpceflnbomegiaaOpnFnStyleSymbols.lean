/- How the arguments of laws.FnStyleSymbols open, and the one statement over numbers and lists that is left of it. -/
import Derived.Test.YtpceflnbomegiaaGFnStyleSymbolsx
import Derived.Test.YtpceflnbomegiaaOpens
namespace Go.Proofs.Ytpceflnbomegiaa.OpnFnStyleSymbols
open Go.RowKit Go.Proofs.Ytpceflnbomegiaa.GFnStyleSymbols Go.Proofs.Ytpceflnbomegiaa.Opn Go.Proofs.YtpceflnbomegiaaW.PrintWords Go.Proofs.YtpceflnbomegiaaW.PrintLast
set_option linter.unusedVariables false

def Pure : Prop := ∀ (a0 : Int), (Lit.int .u8 a0).wf = true → laws_FnStyleSymbols.f a0 = some true
end Go.Proofs.Ytpceflnbomegiaa.OpnFnStyleSymbols
