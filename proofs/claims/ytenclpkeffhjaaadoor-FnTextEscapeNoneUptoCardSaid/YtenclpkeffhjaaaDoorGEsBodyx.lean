-- Written by gprint.py, a program of this session over the kit's printer, with contracts of its own for what the printer does not take. Not trusted: Lean checks it.
import Derived.Test.YtenclpkeffhjaaaDoorGEsBodyx0
import Derived.Test.YtenclpkeffhjaaaDoorGEsBodyx1
import Derived.Test.YtenclpkeffhjaaaDoorGEsBodyx2
import Derived.Test.YtenclpkeffhjaaaDoorGEsBodyx3
namespace Go.Proofs.YtenclpkeffhjaaaDoor.GEsBody
open Go.RowKit Go.Proofs.YtenclpkeffhjaaaDoor.Itr Go.Proofs.YtenclpkeffhjaaaDoorW.PrintWords Go.Proofs.YtenclpkeffhjaaaDoorW.PrintLast Go.Proofs.YtenclpkeffhjaaaDoorW.PrintMore
attribute [local go_sem] max2_int min2_int max_two min_two max_three min_three max_four min_four   -- for this text's walks alone
set_option linter.unusedVariables false
set_option linter.unusedSimpArgs false

end Go.Proofs.YtenclpkeffhjaaaDoor.GEsBody
