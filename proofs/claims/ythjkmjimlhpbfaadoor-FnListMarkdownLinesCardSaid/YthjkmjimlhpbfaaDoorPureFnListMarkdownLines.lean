/- A list in Markdown has a line for each item: two blanks, two more for each level, a star, a blank, and the text, whatever style is set ahead; asked where the list is right (at most 60 items of at most 200 octets of known characters, each no more than one level deeper than the one ahead, the first at the top), not empty, and the style is of known texts of at most 20 octets, with the plain format and line ends. -/
import Derived.Test.YthjkmjimlhpbfaaDoorOpnFnListMarkdownLines
import Derived.Test.YthjkmjimlhpbfaaDoorLpeFnListMarkdownLines
namespace Go.Proofs.YthjkmjimlhpbfaaDoor.Pure
open Go.RowKit Go.Proofs.YthjkmjimlhpbfaaDoor.GFnListMarkdownLines Go.Proofs.YthjkmjimlhpbfaaDoor.Opn Go.Proofs.YthjkmjimlhpbfaaDoor.OpnFnListMarkdownLines Go.Proofs.YthjkmjimlhpbfaaDoorW.PrintWords Go.Proofs.YthjkmjimlhpbfaaDoorW.PrintLast

theorem FnListMarkdownLines : OpnFnListMarkdownLines.Pure := by
  exact fun l x _ _ _ => LpeFnListMarkdownLines.law l x.f0 x.f1 x.f2 x.f3 x.f4 x.f5 x.f6 x.f7 x.f8

end Go.Proofs.YthjkmjimlhpbfaaDoor.Pure
