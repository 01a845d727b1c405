-- Written by gprint.py, a program of this session over the kit's printer, with contracts of its own for what the printer does not take. Not trusted: Lean checks it.
import Derived.Test.YthjkmjimlhpbfaaGreatDoorProg
import Derived.Below
import Derived.Deep.Draws
import Derived.Deep.AppendLies
import Derived.Maps.AppendAt
import Derived.OwnWalk
import Derived.Laws.BytesArg
import Derived.Laws.MakeOwn
import Derived.Laws.OwnMore
import Derived.Deep.OwnRows
import Derived.Tactics
import Derived.Lib.ConvBytes
import Derived.Laws.Slices
import Derived.WalkKit
import Derived.KernelRfl
import Derived.RowKit3
import Derived.Deep.LoopGhost
import Derived.Deep.QuietTactic
import Derived.BigQuiet
import Derived.WideLaws
import Derived.Deep.DeepCutAuto
import Derived.Deep.CutBlock
import Derived.Deep.RegionHeld3
import Derived.Laws.Rows
import Derived.Lib.AppendStr
import Derived.ArgAppend
import Derived.Laws.IdiomCopy
import Derived.OrdersHeld
import Derived.Laws.BitsLemmas
import Derived.RowKit
import Derived.Test.YthjkmjimlhpbfaaGreatDoorIter
import Derived.Test.YthjkmjimlhpbfaaGreatDoorWWords
import Derived.Test.YthjkmjimlhpbfaaGreatDoorWLast
import Derived.Test.YthjkmjimlhpbfaaGreatDoorWTab
import Derived.Test.YthjkmjimlhpbfaaGreatDoorWApart
import Derived.Test.YthjkmjimlhpbfaaGreatDoorWArr
import Derived.Test.YthjkmjimlhpbfaaGreatDoorWFoot
import Derived.Test.YthjkmjimlhpbfaaGreatDoorWKept
import Derived.Test.YthjkmjimlhpbfaaGreatDoorWShare
import Derived.Test.YthjkmjimlhpbfaaGreatDoorWN
import Derived.Test.YthjkmjimlhpbfaaGreatDoorWRepsOne
import Derived.Test.YthjkmjimlhpbfaaGreatDoorWInv
import Derived.Test.YthjkmjimlhpbfaaGreatDoorWInvWords
import Derived.Test.YthjkmjimlhpbfaaGreatDoorWGuard
import Derived.Test.YthjkmjimlhpbfaaGreatDoorWMore
namespace Go.Proofs.YthjkmjimlhpbfaaGreatDoor.GLsBody
open Go.RowKit Go.Proofs.YthjkmjimlhpbfaaGreatDoor.Itr Go.Proofs.YthjkmjimlhpbfaaGreatDoorW.PrintWords Go.Proofs.YthjkmjimlhpbfaaGreatDoorW.PrintLast Go.Proofs.YthjkmjimlhpbfaaGreatDoorW.PrintMore
attribute [local go_sem] max2_int min2_int max_two min_two max_three min_three max_four min_four   -- for this text's walks alone
set_option linter.unusedVariables false
set_option linter.unusedSimpArgs false



def errW : Option Int → Value
  | none => .nilIface
  | some c => .iface 0 (.int .i64 c)
theorem errW_none : errW none = .nilIface := rfl
theorem errW_some (c : Int) : errW (some c) = .iface 0 (.int .i64 c) := rfl

theorem info5 : (Tryz.prog.info? 5).map (fun i => (i.zero, i.size, i.bytes)) = some (some (.int .u8 0), 1, 1) := by kernel_rfl
theorem info9 : (Tryz.prog.info? 9).map (fun i => (i.zero, i.size, i.bytes)) = some (some (.string ⟨#[]⟩), 1, 16) := by kernel_rfl
-- the values' own types

end Go.Proofs.YthjkmjimlhpbfaaGreatDoor.GLsBody
