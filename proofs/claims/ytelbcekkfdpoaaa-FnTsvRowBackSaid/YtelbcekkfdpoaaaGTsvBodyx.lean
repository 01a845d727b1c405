-- Written by gprint.py, a program of this session over the kit's printer, with contracts of its own for what the printer does not take. Not trusted: Lean checks it.
import Derived.Test.YtelbcekkfdpoaaaGTsvBodyx0
import Derived.Test.YtelbcekkfdpoaaaGTsvBodyx1
import Derived.Test.YtelbcekkfdpoaaaGTsvBodyx2
import Derived.Test.YtelbcekkfdpoaaaGTsvBodyx3
namespace Go.Proofs.Ytelbcekkfdpoaaa.GTsvBody
open Go.RowKit Go.Proofs.Ytelbcekkfdpoaaa.Itr Go.Proofs.YtelbcekkfdpoaaaW.PrintWords Go.Proofs.YtelbcekkfdpoaaaW.PrintLast Go.Proofs.YtelbcekkfdpoaaaW.PrintMore
attribute [local go_sem] max2_int min2_int max_two min_two max_three min_three max_four min_four   -- for this text's walks alone
set_option linter.unusedVariables false
set_option linter.unusedSimpArgs false
noncomputable section

end
end Go.Proofs.Ytelbcekkfdpoaaa.GTsvBody
