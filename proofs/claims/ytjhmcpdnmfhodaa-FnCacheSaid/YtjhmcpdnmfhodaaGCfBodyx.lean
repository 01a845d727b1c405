-- Written by gprint.py, a program of this session over the kit's printer, with contracts of its own for what the printer does not take. Not trusted: Lean checks it.
import Derived.Test.YtjhmcpdnmfhodaaGCfBodyx0
import Derived.Test.YtjhmcpdnmfhodaaGCfBodyx1
namespace Go.Proofs.Ytjhmcpdnmfhodaa.GCfBody
open Go.RowKit Go.Proofs.Ytjhmcpdnmfhodaa.Itr Go.Proofs.YtjhmcpdnmfhodaaW.PrintWords Go.Proofs.YtjhmcpdnmfhodaaW.PrintLast Go.Proofs.YtjhmcpdnmfhodaaW.PrintMore
attribute [local go_sem] max2_int min2_int max_two min_two max_three min_three max_four min_four   -- for this text's walks alone
set_option linter.unusedVariables false
set_option linter.unusedSimpArgs false

end Go.Proofs.Ytjhmcpdnmfhodaa.GCfBody
