-- Written by gprint.py, a program of this session over the kit's printer, with contracts of its own for what the printer does not take. Not trusted: Lean checks it.
import Derived.Test.YtpceflnbomegiaaProg
import Derived.Below
import Derived.Deep.Draws
import Derived.Deep.AppendLies
import Derived.Maps.AppendAt
import Derived.OwnWalk
import Derived.Laws.BytesArg
import Derived.Laws.MakeOwn
import Derived.Laws.OwnMore
import Derived.Deep.OwnRows
import Derived.Tactics
import Derived.Lib.ConvBytes
import Derived.Laws.Slices
import Derived.WalkKit
import Derived.KernelRfl
import Derived.RowKit3
import Derived.Deep.LoopGhost
import Derived.Deep.QuietTactic
import Derived.BigQuiet
import Derived.WideLaws
import Derived.Deep.DeepCutAuto
import Derived.Deep.CutBlock
import Derived.Deep.RegionHeld3
import Derived.Laws.Rows
import Derived.Lib.AppendStr
import Derived.ArgAppend
import Derived.Laws.IdiomCopy
import Derived.OrdersHeld
import Derived.Laws.BitsLemmas
import Derived.RowKit
import Derived.Test.YtpceflnbomegiaaIter
import Derived.Test.YtpceflnbomegiaaWWords
import Derived.Test.YtpceflnbomegiaaWLast
import Derived.Test.YtpceflnbomegiaaWTab
import Derived.Test.YtpceflnbomegiaaWFour
import Derived.Test.YtpceflnbomegiaaWQPut
import Derived.Test.YtpceflnbomegiaaWApart
import Derived.Test.YtpceflnbomegiaaWArr
import Derived.Test.YtpceflnbomegiaaWZeros
import Derived.Test.YtpceflnbomegiaaWFoot
import Derived.Test.YtpceflnbomegiaaWKept
import Derived.Test.YtpceflnbomegiaaWShare
import Derived.Test.YtpceflnbomegiaaWN
import Derived.Test.YtpceflnbomegiaaWFootNe
import Derived.Test.YtpceflnbomegiaaWAt
import Derived.Test.YtpceflnbomegiaaWEqStruct
import Derived.Test.YtpceflnbomegiaaWRepsOne
import Derived.Test.YtpceflnbomegiaaWInv
import Derived.Test.YtpceflnbomegiaaWInvWords
import Derived.Test.YtpceflnbomegiaaWGuard
import Derived.Test.YtpceflnbomegiaaWNEv
import Derived.Test.YtpceflnbomegiaaWMore
namespace Go.Proofs.Ytpceflnbomegiaa.GSyBody
open Go.RowKit Go.Proofs.Ytpceflnbomegiaa.Itr Go.Proofs.YtpceflnbomegiaaW.PrintWords Go.Proofs.YtpceflnbomegiaaW.PrintLast Go.Proofs.YtpceflnbomegiaaW.PrintMore
attribute [local go_sem] max2_int min2_int max_two min_two max_three min_three max_four min_four   -- for this text's walks alone
set_option linter.unusedVariables false
set_option linter.unusedSimpArgs false



def errW : Option Int → Value
  | none => .nilIface
  | some c => .iface 0 (.int .i64 c)
theorem errW_none : errW none = .nilIface := rfl
theorem errW_some (c : Int) : errW (some c) = .iface 0 (.int .i64 c) := rfl

theorem info9 : (Try.prog.info? 9).map (fun i => (i.zero, i.size, i.bytes)) = some (some (.string ⟨#[]⟩), 1, 16) := by kernel_rfl
-- the values' own types

end Go.Proofs.Ytpceflnbomegiaa.GSyBody
