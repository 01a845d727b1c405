-- Written by gprint.py, a program of this session over the kit's printer, with contracts of its own for what the printer does not take. Not trusted: Lean checks it.
import Derived.Test.YtpgnipfpinldgaaGreatDoorProg
import Derived.Below
import Derived.Deep.Draws
import Derived.Deep.AppendLies
import Derived.Maps.AppendAt
import Derived.OwnWalk
import Derived.Laws.BytesArg
import Derived.Laws.MakeOwn
import Derived.Laws.OwnMore
import Derived.Deep.OwnRows
import Derived.Tactics
import Derived.Lib.ConvBytes
import Derived.Laws.Slices
import Derived.WalkKit
import Derived.KernelRfl
import Derived.RowKit3
import Derived.Deep.LoopGhost
import Derived.Deep.QuietTactic
import Derived.BigQuiet
import Derived.WideLaws
import Derived.Deep.DeepCutAuto
import Derived.Deep.CutBlock
import Derived.Deep.RegionHeld3
import Derived.Laws.Rows
import Derived.Lib.AppendStr
import Derived.ArgAppend
import Derived.Laws.IdiomCopy
import Derived.OrdersHeld
import Derived.Laws.BitsLemmas
import Derived.RowKit
import Derived.Test.YtpgnipfpinldgaaGreatDoorIter
import Derived.Test.YtpgnipfpinldgaaGreatDoorWWords
import Derived.Test.YtpgnipfpinldgaaGreatDoorWLast
import Derived.Test.YtpgnipfpinldgaaGreatDoorWTab
import Derived.Test.YtpgnipfpinldgaaGreatDoorWFour
import Derived.Test.YtpgnipfpinldgaaGreatDoorWQPut
import Derived.Test.YtpgnipfpinldgaaGreatDoorWApart
import Derived.Test.YtpgnipfpinldgaaGreatDoorWArr
import Derived.Test.YtpgnipfpinldgaaGreatDoorWZeros
import Derived.Test.YtpgnipfpinldgaaGreatDoorWFoot
import Derived.Test.YtpgnipfpinldgaaGreatDoorWKept
import Derived.Test.YtpgnipfpinldgaaGreatDoorWShare
import Derived.Test.YtpgnipfpinldgaaGreatDoorWN
import Derived.Test.YtpgnipfpinldgaaGreatDoorWFootNe
import Derived.Test.YtpgnipfpinldgaaGreatDoorWAt
import Derived.Test.YtpgnipfpinldgaaGreatDoorWEqStruct
import Derived.Test.YtpgnipfpinldgaaGreatDoorWRepsOne
import Derived.Test.YtpgnipfpinldgaaGreatDoorWInv
import Derived.Test.YtpgnipfpinldgaaGreatDoorWInvWords
import Derived.Test.YtpgnipfpinldgaaGreatDoorWGuard
import Derived.Test.YtpgnipfpinldgaaGreatDoorWNEv
import Derived.Test.YtpgnipfpinldgaaGreatDoorWMore
namespace Go.Proofs.YtpgnipfpinldgaaGreatDoor.GHtBody
open Go.RowKit Go.Proofs.YtpgnipfpinldgaaGreatDoor.Itr Go.Proofs.YtpgnipfpinldgaaGreatDoorW.PrintWords Go.Proofs.YtpgnipfpinldgaaGreatDoorW.PrintLast Go.Proofs.YtpgnipfpinldgaaGreatDoorW.PrintMore
attribute [local go_sem] max2_int min2_int max_two min_two max_three min_three max_four min_four   -- for this text's walks alone
set_option linter.unusedVariables false
set_option linter.unusedSimpArgs false



def errW : Option Int → Value
  | none => .nilIface
  | some c => .iface 0 (.int .i64 c)
theorem errW_none : errW none = .nilIface := rfl
theorem errW_some (c : Int) : errW (some c) = .iface 0 (.int .i64 c) := rfl

theorem info5 : (Tryz.prog.info? 5).map (fun i => (i.zero, i.size, i.bytes)) = some (some (.int .u8 0), 1, 1) := by kernel_rfl
-- the values' own types

end Go.Proofs.YtpgnipfpinldgaaGreatDoor.GHtBody
