/- a row in TSV is read back -/ -- ownproof
import Derived.Test.YtelbcekkfdpoaaaOpnFnTsvRowBack
namespace Go.Proofs.Ytelbcekkfdpoaaa.Pure
open Go.RowKit Go.Proofs.Ytelbcekkfdpoaaa.GFnTsvRowBack Go.Proofs.Ytelbcekkfdpoaaa.Opn Go.Proofs.Ytelbcekkfdpoaaa.OpnFnTsvRowBack Go.Proofs.YtelbcekkfdpoaaaW.PrintWords Go.Proofs.YtelbcekkfdpoaaaW.PrintLast

theorem FnTsvRowBack : OpnFnTsvRowBack.Pure := by
  intro l0 _ _
  exact rfl

end Go.Proofs.Ytelbcekkfdpoaaa.Pure
