-- Written by gprint.py, a program of this session over the kit's printer, with contracts of its own for what the printer does not take. Not trusted: Lean checks it.
import Derived.Test.YtjpdkmmpofddlaaProg
import Derived.Below
import Derived.Deep.Draws
import Derived.Deep.AppendLies
import Derived.Maps.AppendAt
import Derived.OwnWalk
import Derived.Laws.BytesArg
import Derived.Laws.MakeOwn
import Derived.Laws.OwnMore
import Derived.Deep.OwnRows
import Derived.Tactics
import Derived.Lib.ConvBytes
import Derived.Laws.Slices
import Derived.WalkKit
import Derived.KernelRfl
import Derived.RowKit3
import Derived.Deep.LoopGhost
import Derived.Deep.QuietTactic
import Derived.BigQuiet
import Derived.WideLaws
import Derived.Deep.DeepCutAuto
import Derived.Deep.CutBlock
import Derived.Deep.RegionHeld3
import Derived.Laws.Rows
import Derived.Lib.AppendStr
import Derived.ArgAppend
import Derived.Laws.IdiomCopy
import Derived.OrdersHeld
import Derived.Laws.BitsLemmas
import Derived.RowKit
import Derived.Test.YtjpdkmmpofddlaaIter
import Derived.Test.YtjpdkmmpofddlaaWWords
import Derived.Test.YtjpdkmmpofddlaaWLast
import Derived.Test.YtjpdkmmpofddlaaWTab
import Derived.Test.YtjpdkmmpofddlaaWFour
import Derived.Test.YtjpdkmmpofddlaaWQPut
import Derived.Test.YtjpdkmmpofddlaaWApart
import Derived.Test.YtjpdkmmpofddlaaWArr
import Derived.Test.YtjpdkmmpofddlaaWZeros
import Derived.Test.YtjpdkmmpofddlaaWFoot
import Derived.Test.YtjpdkmmpofddlaaWKept
import Derived.Test.YtjpdkmmpofddlaaWShare
import Derived.Test.YtjpdkmmpofddlaaWN
import Derived.Test.YtjpdkmmpofddlaaWFootNe
import Derived.Test.YtjpdkmmpofddlaaWAt
import Derived.Test.YtjpdkmmpofddlaaWEqStruct
import Derived.Test.YtjpdkmmpofddlaaWRepsOne
import Derived.Test.YtjpdkmmpofddlaaWInv
import Derived.Test.YtjpdkmmpofddlaaWInvWords
import Derived.Test.YtjpdkmmpofddlaaWGuard
import Derived.Test.YtjpdkmmpofddlaaWNEv
import Derived.Test.YtjpdkmmpofddlaaWMore
namespace Go.Proofs.Ytjpdkmmpofddlaa.GGrBody
open Go.RowKit Go.Proofs.Ytjpdkmmpofddlaa.Itr Go.Proofs.YtjpdkmmpofddlaaW.PrintWords Go.Proofs.YtjpdkmmpofddlaaW.PrintLast Go.Proofs.YtjpdkmmpofddlaaW.PrintMore
attribute [local go_sem] max2_int min2_int max_two min_two max_three min_three max_four min_four   -- for this text's walks alone
set_option linter.unusedVariables false
set_option linter.unusedSimpArgs false



def errW : Option Int → Value
  | none => .nilIface
  | some c => .iface 0 (.int .i64 c)
theorem errW_none : errW none = .nilIface := rfl
theorem errW_some (c : Int) : errW (some c) = .iface 0 (.int .i64 c) := rfl

theorem info3 : (Try.prog.info? 3).map (fun i => (i.zero, i.size, i.bytes)) = some (some (.int .i64 0), 1, 8) := by kernel_rfl
-- the values' own types

end Go.Proofs.Ytjpdkmmpofddlaa.GGrBody
