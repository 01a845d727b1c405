/- Hiding some columns, and then others of those that are left, is hiding them together; asked of at most 60 rows, and of at most 60 columns that are hidden or not, each time. -/
import Derived.Test.YtjpdkmmpofddlaaOpnFnHiddenTwice
namespace Go.Proofs.Ytjpdkmmpofddlaa.Pure
open Go.RowKit Go.Proofs.Ytjpdkmmpofddlaa.GFnHiddenTwice Go.Proofs.Ytjpdkmmpofddlaa.Opn Go.Proofs.Ytjpdkmmpofddlaa.OpnFnHiddenTwice Go.Proofs.YtjpdkmmpofddlaaW.PrintWords Go.Proofs.YtjpdkmmpofddlaaW.PrintLast

theorem FnHiddenTwice : OpnFnHiddenTwice.Pure := by
  intro l0 l1 l2 _ _ _ _ _ _
  exact rfl

end Go.Proofs.Ytjpdkmmpofddlaa.Pure
