-- Written by gprint.py, a program of this session over the kit's printer, with contracts of its own for what the printer does not take. Not trusted: Lean checks it.
import Derived.Test.YtelbcekkfdpoaaaGTsvHelpx0
import Derived.Test.YtelbcekkfdpoaaaGTsvHelpx1
import Derived.Test.YtelbcekkfdpoaaaGTsvHelpx2
namespace Go.Proofs.Ytelbcekkfdpoaaa.GTsvHelp
open Go.RowKit Go.Proofs.Ytelbcekkfdpoaaa.Itr Go.Proofs.YtelbcekkfdpoaaaW.PrintWords Go.Proofs.YtelbcekkfdpoaaaW.PrintLast Go.Proofs.YtelbcekkfdpoaaaW.PrintMore
attribute [local go_sem] max2_int min2_int max_two min_two max_three min_three max_four min_four   -- for this text's walks alone
set_option linter.unusedVariables false
set_option linter.unusedSimpArgs false

end Go.Proofs.Ytelbcekkfdpoaaa.GTsvHelp
