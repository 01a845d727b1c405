-- Written by gprint.py, a program of this session over the kit's printer, with contracts of its own for what the printer does not take. Not trusted: Lean checks it.
import Derived.Test.YtjaebonfojnmdaaDoorProg
import Derived.Below
import Derived.Deep.Draws
import Derived.Deep.AppendLies
import Derived.Maps.AppendAt
import Derived.OwnWalk
import Derived.Laws.BytesArg
import Derived.Laws.MakeOwn
import Derived.Laws.OwnMore
import Derived.Deep.OwnRows
import Derived.Tactics
import Derived.Lib.ConvBytes
import Derived.Laws.Slices
import Derived.WalkKit
import Derived.KernelRfl
import Derived.RowKit3
import Derived.Deep.LoopGhost
import Derived.Deep.QuietTactic
import Derived.BigQuiet
import Derived.WideLaws
import Derived.Deep.DeepCutAuto
import Derived.Deep.CutBlock
import Derived.Deep.RegionHeld3
import Derived.Laws.Rows
import Derived.Lib.AppendStr
import Derived.ArgAppend
import Derived.Laws.IdiomCopy
import Derived.OrdersHeld
import Derived.Laws.BitsLemmas
import Derived.RowKit
import Derived.Test.YtjaebonfojnmdaaDoorCmf
import Derived.Test.YtjaebonfojnmdaaDoorIter
import Derived.Test.YtjaebonfojnmdaaDoorWWords
import Derived.Test.YtjaebonfojnmdaaDoorWLast
import Derived.Test.YtjaebonfojnmdaaDoorWTab
import Derived.Test.YtjaebonfojnmdaaDoorWFour
import Derived.Test.YtjaebonfojnmdaaDoorWQPut
import Derived.Test.YtjaebonfojnmdaaDoorWApart
import Derived.Test.YtjaebonfojnmdaaDoorWArr
import Derived.Test.YtjaebonfojnmdaaDoorWZeros
import Derived.Test.YtjaebonfojnmdaaDoorWFoot
import Derived.Test.YtjaebonfojnmdaaDoorWKept
import Derived.Test.YtjaebonfojnmdaaDoorWShare
import Derived.Test.YtjaebonfojnmdaaDoorWN
import Derived.Test.YtjaebonfojnmdaaDoorWFootNe
import Derived.Test.YtjaebonfojnmdaaDoorWAt
import Derived.Test.YtjaebonfojnmdaaDoorWEqStruct
import Derived.Test.YtjaebonfojnmdaaDoorWRepsOne
import Derived.Test.YtjaebonfojnmdaaDoorWInv
import Derived.Test.YtjaebonfojnmdaaDoorWInvWords
import Derived.Test.YtjaebonfojnmdaaDoorWGuard
import Derived.Test.YtjaebonfojnmdaaDoorWNEv
import Derived.Test.YtjaebonfojnmdaaDoorWMore
namespace Go.Proofs.YtjaebonfojnmdaaDoor.GFnCamel
open Go.RowKit Go.Proofs.YtjaebonfojnmdaaDoor.Itr Go.Proofs.YtjaebonfojnmdaaDoorW.PrintWords Go.Proofs.YtjaebonfojnmdaaDoorW.PrintLast Go.Proofs.YtjaebonfojnmdaaDoorW.PrintMore
attribute [local go_sem] max2_int min2_int max_two min_two max_three min_three max_four min_four   -- for this text's walks alone
set_option linter.unusedVariables false
set_option linter.unusedSimpArgs false



def errW : Option Int → Value
  | none => .nilIface
  | some c => .iface 0 (.int .i64 c)
theorem errW_none : errW none = .nilIface := rfl
theorem errW_some (c : Int) : errW (some c) = .iface 0 (.int .i64 c) := rfl

theorem info9 : (Tryd.prog.info? 9).map (fun i => (i.zero, i.size, i.bytes)) = some (some (.string ⟨#[]⟩), 1, 16) := by kernel_rfl
-- the values' own types

end Go.Proofs.YtjaebonfojnmdaaDoor.GFnCamel
