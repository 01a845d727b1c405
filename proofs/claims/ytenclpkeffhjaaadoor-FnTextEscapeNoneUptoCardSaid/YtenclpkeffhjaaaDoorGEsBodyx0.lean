-- Written by gprint.py, a program of this session over the kit's printer, with contracts of its own for what the printer does not take. Not trusted: Lean checks it.
import Derived.Test.YtenclpkeffhjaaaDoorProg
import Derived.Below
import Derived.Deep.Draws
import Derived.Deep.AppendLies
import Derived.Maps.AppendAt
import Derived.OwnWalk
import Derived.Laws.BytesArg
import Derived.Laws.MakeOwn
import Derived.Laws.OwnMore
import Derived.Deep.OwnRows
import Derived.Tactics
import Derived.Lib.ConvBytes
import Derived.Laws.Slices
import Derived.WalkKit
import Derived.KernelRfl
import Derived.RowKit3
import Derived.Deep.LoopGhost
import Derived.Deep.QuietTactic
import Derived.BigQuiet
import Derived.WideLaws
import Derived.Deep.DeepCutAuto
import Derived.Deep.CutBlock
import Derived.Deep.RegionHeld3
import Derived.Laws.Rows
import Derived.Lib.AppendStr
import Derived.ArgAppend
import Derived.Laws.IdiomCopy
import Derived.OrdersHeld
import Derived.Laws.BitsLemmas
import Derived.RowKit
import Derived.Test.YtenclpkeffhjaaaDoorIter
import Derived.Test.YtenclpkeffhjaaaDoorWWords
import Derived.Test.YtenclpkeffhjaaaDoorWLast
import Derived.Test.YtenclpkeffhjaaaDoorWTab
import Derived.Test.YtenclpkeffhjaaaDoorWFour
import Derived.Test.YtenclpkeffhjaaaDoorWQPut
import Derived.Test.YtenclpkeffhjaaaDoorWApart
import Derived.Test.YtenclpkeffhjaaaDoorWArr
import Derived.Test.YtenclpkeffhjaaaDoorWZeros
import Derived.Test.YtenclpkeffhjaaaDoorWFoot
import Derived.Test.YtenclpkeffhjaaaDoorWKept
import Derived.Test.YtenclpkeffhjaaaDoorWShare
import Derived.Test.YtenclpkeffhjaaaDoorWN
import Derived.Test.YtenclpkeffhjaaaDoorWFootNe
import Derived.Test.YtenclpkeffhjaaaDoorWAt
import Derived.Test.YtenclpkeffhjaaaDoorWEqStruct
import Derived.Test.YtenclpkeffhjaaaDoorWRepsOne
import Derived.Test.YtenclpkeffhjaaaDoorWInv
import Derived.Test.YtenclpkeffhjaaaDoorWInvWords
import Derived.Test.YtenclpkeffhjaaaDoorWGuard
import Derived.Test.YtenclpkeffhjaaaDoorWNEv
import Derived.Test.YtenclpkeffhjaaaDoorWMore
namespace Go.Proofs.YtenclpkeffhjaaaDoor.GEsBody
open Go.RowKit Go.Proofs.YtenclpkeffhjaaaDoor.Itr Go.Proofs.YtenclpkeffhjaaaDoorW.PrintWords Go.Proofs.YtenclpkeffhjaaaDoorW.PrintLast Go.Proofs.YtenclpkeffhjaaaDoorW.PrintMore
attribute [local go_sem] max2_int min2_int max_two min_two max_three min_three max_four min_four   -- for this text's walks alone
set_option linter.unusedVariables false
set_option linter.unusedSimpArgs false



def errW : Option Int → Value
  | none => .nilIface
  | some c => .iface 0 (.int .i64 c)
theorem errW_none : errW none = .nilIface := rfl
theorem errW_some (c : Int) : errW (some c) = .iface 0 (.int .i64 c) := rfl

theorem info5 : (Tryd.prog.info? 5).map (fun i => (i.zero, i.size, i.bytes)) = some (some (.int .u8 0), 1, 1) := by kernel_rfl
-- the values' own types

end Go.Proofs.YtenclpkeffhjaaaDoor.GEsBody
