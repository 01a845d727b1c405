/- the symbols of a style have its name -- ownproof -/
import Derived.Test.YtpceflnbomegiaaOpnFnStyleSymbols
import Derived.OpenShut
namespace Go.Proofs.Ytpceflnbomegiaa.Pure
open Go.RowKit Go.Proofs.Ytpceflnbomegiaa.GFnStyleSymbols Go.Proofs.Ytpceflnbomegiaa.Opn Go.Proofs.Ytpceflnbomegiaa.OpnFnStyleSymbols Go.Proofs.YtpceflnbomegiaaW.PrintWords
theorem FnStyleSymbols : OpnFnStyleSymbols.Pure := by
  intro a0 w0
  have := Go.bounds_u8 w0
  unfold laws_FnStyleSymbols.f
  rw [if_pos ⟨by omega, by omega⟩]
end Go.Proofs.Ytpceflnbomegiaa.Pure
