/- The default style counts, if none is set: a list that is rendered without a style is rendered as in the style that is named the default one; asked where the list is right (at most 60 items of at most 200 octets of known characters, each no more than one level deeper than the one ahead, the first at the top). -/
import Derived.Test.YthjkmjimlhpbfaaGreatDoorOpnFnListPlain
import Derived.Test.YthjkmjimlhpbfaaGreatDoorLpeFnListPlain
namespace Go.Proofs.YthjkmjimlhpbfaaGreatDoor.Pure
open Go.RowKit Go.Proofs.YthjkmjimlhpbfaaGreatDoor.GFnListPlain Go.Proofs.YthjkmjimlhpbfaaGreatDoor.Opn Go.Proofs.YthjkmjimlhpbfaaGreatDoor.OpnFnListPlain Go.Proofs.YthjkmjimlhpbfaaGreatDoorW.PrintWords Go.Proofs.YthjkmjimlhpbfaaGreatDoorW.PrintLast

theorem FnListPlain : OpnFnListPlain.Pure := by
  exact fun l _ _ => LpeFnListPlain.law l

end Go.Proofs.YthjkmjimlhpbfaaGreatDoor.Pure
