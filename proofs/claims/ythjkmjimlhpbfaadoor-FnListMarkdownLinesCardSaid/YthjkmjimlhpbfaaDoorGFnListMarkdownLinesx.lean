-- Written by gprint.py, a program of this session over the kit's printer, with contracts of its own for what the printer does not take. Not trusted: Lean checks it.
import Derived.Test.YthjkmjimlhpbfaaDoorGFnListMarkdownLinesx0
import Derived.Test.YthjkmjimlhpbfaaDoorGFnListMarkdownLinesx1
import Derived.Test.YthjkmjimlhpbfaaDoorGFnListMarkdownLinesx2
import Derived.Test.YthjkmjimlhpbfaaDoorGFnListMarkdownLinesx3
import Derived.Test.YthjkmjimlhpbfaaDoorGFnListMarkdownLinesx4
namespace Go.Proofs.YthjkmjimlhpbfaaDoor.GFnListMarkdownLines
open Go.RowKit Go.Proofs.YthjkmjimlhpbfaaDoor.Itr Go.Proofs.YthjkmjimlhpbfaaDoorW.PrintWords Go.Proofs.YthjkmjimlhpbfaaDoorW.PrintLast Go.Proofs.YthjkmjimlhpbfaaDoorW.PrintMore
attribute [local go_sem] max2_int min2_int max_two min_two max_three min_three max_four min_four   -- for this text's walks alone
set_option linter.unusedVariables false
set_option linter.unusedSimpArgs false
noncomputable section

end
end Go.Proofs.YthjkmjimlhpbfaaDoor.GFnListMarkdownLines
