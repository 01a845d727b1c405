/- A style's prefix stands ahead of each line, and changes nothing else: the lines of a list that is rendered in a style are those of the same style without a prefix, each behind the prefix; asked where the list is right (at most 60 items of at most 200 octets of known characters, each no more than one level deeper than the one ahead, the first at the top), not empty, and the style is of known texts of at most 20 octets, with the plain format and line ends. -/
import Derived.Test.YthjkmjimlhpbfaaDoorOpnFnListPrefix
import Derived.Test.YthjkmjimlhpbfaaDoorLpeFnListPrefix
namespace Go.Proofs.YthjkmjimlhpbfaaDoor.Pure
open Go.RowKit Go.Proofs.YthjkmjimlhpbfaaDoor.GFnListPrefix Go.Proofs.YthjkmjimlhpbfaaDoor.Opn Go.Proofs.YthjkmjimlhpbfaaDoor.OpnFnListPrefix Go.Proofs.YthjkmjimlhpbfaaDoorW.PrintWords Go.Proofs.YthjkmjimlhpbfaaDoorW.PrintLast

theorem FnListPrefix : OpnFnListPrefix.Pure := by
  exact fun l x _ _ _ => LpeFnListPrefix.law l x.f0 x.f1 x.f2 x.f3 x.f4 x.f5 x.f6 x.f7 x.f8

end Go.Proofs.YthjkmjimlhpbfaaDoor.Pure
