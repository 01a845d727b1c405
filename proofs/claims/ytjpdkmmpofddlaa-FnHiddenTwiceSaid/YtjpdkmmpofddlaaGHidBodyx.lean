-- Written by gprint.py, a program of this session over the kit's printer, with contracts of its own for what the printer does not take. Not trusted: Lean checks it.
import Derived.Test.YtjpdkmmpofddlaaGHidBodyx0
import Derived.Test.YtjpdkmmpofddlaaGHidBodyx1
import Derived.Test.YtjpdkmmpofddlaaGHidBodyx2
namespace Go.Proofs.Ytjpdkmmpofddlaa.GHidBody
open Go.RowKit Go.Proofs.Ytjpdkmmpofddlaa.Itr Go.Proofs.YtjpdkmmpofddlaaW.PrintWords Go.Proofs.YtjpdkmmpofddlaaW.PrintLast Go.Proofs.YtjpdkmmpofddlaaW.PrintMore
attribute [local go_sem] max2_int min2_int max_two min_two max_three min_three max_four min_four   -- for this text's walks alone
set_option linter.unusedVariables false
set_option linter.unusedSimpArgs false

end Go.Proofs.Ytjpdkmmpofddlaa.GHidBody
