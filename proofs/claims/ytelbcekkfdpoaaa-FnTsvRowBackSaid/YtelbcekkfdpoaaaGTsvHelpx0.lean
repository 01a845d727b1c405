-- Written by gprint.py, a program of this session over the kit's printer, with contracts of its own for what the printer does not take. Not trusted: Lean checks it.
import Derived.Test.YtelbcekkfdpoaaaProg
import Derived.Below
import Derived.Deep.Draws
import Derived.Deep.AppendLies
import Derived.Maps.AppendAt
import Derived.OwnWalk
import Derived.Laws.BytesArg
import Derived.Laws.MakeOwn
import Derived.Laws.OwnMore
import Derived.Deep.OwnRows
import Derived.Tactics
import Derived.Lib.ConvBytes
import Derived.Laws.Slices
import Derived.WalkKit
import Derived.KernelRfl
import Derived.RowKit3
import Derived.Deep.LoopGhost
import Derived.Deep.QuietTactic
import Derived.BigQuiet
import Derived.WideLaws
import Derived.Deep.DeepCutAuto
import Derived.Deep.CutBlock
import Derived.Deep.RegionHeld3
import Derived.Laws.Rows
import Derived.Lib.AppendStr
import Derived.ArgAppend
import Derived.Laws.IdiomCopy
import Derived.OrdersHeld
import Derived.Laws.BitsLemmas
import Derived.RowKit
import Derived.Test.YtelbcekkfdpoaaaBlu
import Derived.Test.YtelbcekkfdpoaaaShelf
import Derived.Test.YtelbcekkfdpoaaaIter
import Derived.Test.YtelbcekkfdpoaaaWWords
import Derived.Test.YtelbcekkfdpoaaaWLast
import Derived.Test.YtelbcekkfdpoaaaWTab
import Derived.Test.YtelbcekkfdpoaaaWFour
import Derived.Test.YtelbcekkfdpoaaaWQPut
import Derived.Test.YtelbcekkfdpoaaaWApart
import Derived.Test.YtelbcekkfdpoaaaWArr
import Derived.Test.YtelbcekkfdpoaaaWZeros
import Derived.Test.YtelbcekkfdpoaaaWFoot
import Derived.Test.YtelbcekkfdpoaaaWKept
import Derived.Test.YtelbcekkfdpoaaaWShare
import Derived.Test.YtelbcekkfdpoaaaWN
import Derived.Test.YtelbcekkfdpoaaaWFootNe
import Derived.Test.YtelbcekkfdpoaaaWAt
import Derived.Test.YtelbcekkfdpoaaaWEqStruct
import Derived.Test.YtelbcekkfdpoaaaWRepsOne
import Derived.Test.YtelbcekkfdpoaaaWInv
import Derived.Test.YtelbcekkfdpoaaaWInvWords
import Derived.Test.YtelbcekkfdpoaaaWGuard
import Derived.Test.YtelbcekkfdpoaaaWNEv
import Derived.Test.YtelbcekkfdpoaaaWMore
namespace Go.Proofs.Ytelbcekkfdpoaaa.GTsvHelp
open Go.RowKit Go.Proofs.Ytelbcekkfdpoaaa.Itr Go.Proofs.YtelbcekkfdpoaaaW.PrintWords Go.Proofs.YtelbcekkfdpoaaaW.PrintLast Go.Proofs.YtelbcekkfdpoaaaW.PrintMore
attribute [local go_sem] max2_int min2_int max_two min_two max_three min_three max_four min_four   -- for this text's walks alone
set_option linter.unusedVariables false
set_option linter.unusedSimpArgs false



def errW : Option Int → Value
  | none => .nilIface
  | some c => .iface 0 (.int .i64 c)
theorem errW_none : errW none = .nilIface := rfl
theorem errW_some (c : Int) : errW (some c) = .iface 0 (.int .i64 c) := rfl

theorem info5 : (Try.prog.info? 5).map (fun i => (i.zero, i.size, i.bytes)) = some (some (.int .u8 0), 1, 1) := by kernel_rfl
-- the values' own types

end Go.Proofs.Ytelbcekkfdpoaaa.GTsvHelp
