-- Written by gprint.py, a program of this session over the kit's printer, with contracts of its own for what the printer does not take. Not trusted: Lean checks it.
import Derived.Test.YtjpdkmmpofddlaaProg
import Derived.Below
import Derived.Deep.Draws
import Derived.Deep.AppendLies
import Derived.Maps.AppendAt
import Derived.OwnWalk
import Derived.Laws.BytesArg
import Derived.Laws.MakeOwn
import Derived.Laws.OwnMore
import Derived.Deep.OwnRows
import Derived.Tactics
import Derived.Lib.ConvBytes
import Derived.Laws.Slices
import Derived.WalkKit
import Derived.KernelRfl
import Derived.RowKit3
import Derived.Deep.LoopGhost
import Derived.Deep.QuietTactic
import Derived.BigQuiet
import Derived.WideLaws
import Derived.Deep.DeepCutAuto
import Derived.Deep.CutBlock
import Derived.Deep.RegionHeld3
import Derived.Laws.Rows
import Derived.Lib.AppendStr
import Derived.ArgAppend
import Derived.Laws.IdiomCopy
import Derived.OrdersHeld
import Derived.Laws.BitsLemmas
import Derived.RowKit
import Derived.Test.YtjpdkmmpofddlaaIter
import Derived.Test.YtjpdkmmpofddlaaWWords
import Derived.Test.YtjpdkmmpofddlaaWLast
import Derived.Test.YtjpdkmmpofddlaaWTab
import Derived.Test.YtjpdkmmpofddlaaWFour
import Derived.Test.YtjpdkmmpofddlaaWQPut
import Derived.Test.YtjpdkmmpofddlaaWApart
import Derived.Test.YtjpdkmmpofddlaaWArr
import Derived.Test.YtjpdkmmpofddlaaWZeros
import Derived.Test.YtjpdkmmpofddlaaWFoot
import Derived.Test.YtjpdkmmpofddlaaWKept
import Derived.Test.YtjpdkmmpofddlaaWShare
import Derived.Test.YtjpdkmmpofddlaaWN
import Derived.Test.YtjpdkmmpofddlaaWFootNe
import Derived.Test.YtjpdkmmpofddlaaWAt
import Derived.Test.YtjpdkmmpofddlaaWEqStruct
import Derived.Test.YtjpdkmmpofddlaaWRepsOne
import Derived.Test.YtjpdkmmpofddlaaWInv
import Derived.Test.YtjpdkmmpofddlaaWInvWords
import Derived.Test.YtjpdkmmpofddlaaWGuard
import Derived.Test.YtjpdkmmpofddlaaWNEv
import Derived.Test.YtjpdkmmpofddlaaWMore
namespace Go.Proofs.Ytjpdkmmpofddlaa.GHidBody
open Go.RowKit Go.Proofs.Ytjpdkmmpofddlaa.Itr Go.Proofs.YtjpdkmmpofddlaaW.PrintWords Go.Proofs.YtjpdkmmpofddlaaW.PrintLast Go.Proofs.YtjpdkmmpofddlaaW.PrintMore
attribute [local go_sem] max2_int min2_int max_two min_two max_three min_three max_four min_four   -- for this text's walks alone
set_option linter.unusedVariables false
set_option linter.unusedSimpArgs false



def errW : Option Int → Value
  | none => .nilIface
  | some c => .iface 0 (.int .i64 c)
theorem errW_none : errW none = .nilIface := rfl
theorem errW_some (c : Int) : errW (some c) = .iface 0 (.int .i64 c) := rfl

theorem info4 : (Try.prog.info? 4).map (fun i => (i.zero, i.size, i.bytes)) = some (some (.bool false), 1, 1) := by kernel_rfl
theorem info33 : (Try.prog.info? 33).map (fun i => (i.zero, i.size, i.bytes)) = some (some (.slice none 0 0), 1, 24) := by kernel_rfl
theorem info100 : (Try.prog.info? 100).map (fun i => (i.zero, i.size, i.bytes)) = some (some (.slice none 0 0), 1, 24) := by kernel_rfl
-- the values' own types
def rd_L1 (xs : List (List ByteArray)) (i : Int) : (List ByteArray) := xs.getD i.toNat ([] : List ByteArray)
theorem at_L1 {w : World} {A : Option Addr} {n : Nat} {xs : List (List ByteArray)} (h : Kd.C (Kd.slice 9 Kd.string) w A n xs) (i : Int) (h0 : 0 ≤ i) (h1 : i < n) : ∃ ad A0 c0, A = some ad ∧ w.cell? (ad.add i.toNat) = some (.slice A0 (rd_L1 xs i).length c0) ∧ (rd_L1 xs i).length ≤ c0 ∧ Kd.string.C w A0 (rd_L1 xs i).length (rd_L1 xs i) := by
  obtain ⟨ad, c, e, _, hK, hc0⟩ := Kd.C_get h ([] : List ByteArray) i h0 h1
  have hc : ∀ j u, c[j]? = some u → w.cell? (ad.add (i.toNat * 1 + j)) = some u := hc0
  obtain ⟨A0, c0, rfl, l0, g0⟩ := hK
  exact ⟨ad, A0, c0, e, by have hq := hc 0 _ rfl; rwa [Nat.mul_one, Nat.add_zero] at hq, l0, g0⟩

end Go.Proofs.Ytjpdkmmpofddlaa.GHidBody
