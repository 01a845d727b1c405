-- Written by gprint.py, a program of this session over the kit's printer, with contracts of its own for what the printer does not take. Not trusted: Lean checks it.
import Derived.Test.YtmphemnmbofpaaaDoorRRRGFnTextFormatx0
import Derived.Test.YtmphemnmbofpaaaDoorRRRGFnTextFormatx1
import Derived.Test.YtmphemnmbofpaaaDoorRRRGFnTextFormatx2
import Derived.Test.YtmphemnmbofpaaaDoorRRRGFnTextFormatx3
import Derived.Test.YtmphemnmbofpaaaDoorRRRGFnTextFormatx4
import Derived.Test.YtmphemnmbofpaaaDoorRRRGFnTextFormatx5
namespace Go.Proofs.YtmphemnmbofpaaaDoorRRR.GFnTextFormat
open Go.RowKit Go.Proofs.YtmphemnmbofpaaaDoorRRR.Itr Go.Proofs.YtmphemnmbofpaaaDoorRRRW.PrintWords Go.Proofs.YtmphemnmbofpaaaDoorRRRW.PrintLast Go.Proofs.YtmphemnmbofpaaaDoorRRRW.PrintMore
attribute [local go_sem] max2_int min2_int max_two min_two max_three min_three max_four min_four   -- for this text's walks alone
set_option linter.unusedVariables false
set_option linter.unusedSimpArgs false

end Go.Proofs.YtmphemnmbofpaaaDoorRRR.GFnTextFormat
