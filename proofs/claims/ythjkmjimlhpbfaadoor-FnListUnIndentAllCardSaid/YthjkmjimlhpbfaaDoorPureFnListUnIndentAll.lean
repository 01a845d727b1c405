/- Un-indenting all is un-indenting as often as the last item stands deep, and more is not done: a list, all un-indented and one more item, and the same list un-indented so many times or up to three times more and that item, are rendered as the list with that item at the top; asked where the list is right (at most 60 items of at most 200 octets of known characters, each no more than one level deeper than the one ahead, the first at the top), not empty, the last text is of known characters and at most 200 octets, and the style is of known texts of at most 20 octets, with the plain format and line ends. -/
import Derived.OpenShut
import Derived.Test.YthjkmjimlhpbfaaDoorOpnFnListUnIndentAll
import Derived.Test.YthjkmjimlhpbfaaDoorLpeFnListUnIndentAll
namespace Go.Proofs.YthjkmjimlhpbfaaDoor.Pure
open Go.RowKit Go.Proofs.YthjkmjimlhpbfaaDoor.GFnListUnIndentAll Go.Proofs.YthjkmjimlhpbfaaDoor.Opn Go.Proofs.YthjkmjimlhpbfaaDoor.OpnFnListUnIndentAll Go.Proofs.YthjkmjimlhpbfaaDoorW.PrintWords Go.Proofs.YthjkmjimlhpbfaaDoorW.PrintLast

theorem FnListUnIndentAll : OpnFnListUnIndentAll.Pure := by
  exact fun l t a2 x _ _ _ ha _ => LpeFnListUnIndentAll.law l t a2 (Go.bounds_u8 ha).1 (Go.bounds_u8 ha).2 x.f0 x.f1 x.f2 x.f3 x.f4 x.f5 x.f6 x.f7 x.f8

end Go.Proofs.YthjkmjimlhpbfaaDoor.Pure
