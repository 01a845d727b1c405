/- Written by laygen.py: contracts of the shelf laid at this dump by the names. -/
import Derived.Test.YtenclpkeffhjaaaDoorProg
import Derived.Shelf.Strings.BuilderK
set_option maxRecDepth 100000
set_option maxHeartbeats 4000000
open Go.Shelf Go.RowKit
namespace Go.Proofs
def Tryd.bl166_ren : Go.Shelf.Ren := ⟨fun | 166 => 27 | 240 => 38 | 276 => 45 | n => n, fun | 0 => 0 | 3 => 3 | 4 => 4 | 5 => 5 | 9 => 9 | 20 => 20 | 37 => 50 | 70 => 49 | 72 => 52 | 75 => 56 | 80 => 45 | 164 => 66 | n => n, fun | n => n⟩
theorem Tryd.bl166 : Go.Proofs.Lays.n166 Tryd.prog Tryd.bl166_ren := {
  mixed := by kernel_rfl
  f166 := Tryd.func27.trans (congrArg some (by kernel_rfl))
  f240 := Tryd.func38.trans (congrArg some (by kernel_rfl))
  f276 := Tryd.func45.trans (congrArg some (by kernel_rfl))
  t0 := Tryd.underlying0
  a0 := Tryd.isAgg0
  z0 := Tryd.sizeOf0
  v0 := Tryd.zeroValue0
  t3 := Tryd.underlying3
  a3 := Tryd.isAgg3
  z3 := Tryd.sizeOf3
  v3 := Tryd.zeroValue3
  t4 := Tryd.underlying4
  a4 := Tryd.isAgg4
  z4 := Tryd.sizeOf4
  v4 := Tryd.zeroValue4
  t9 := Tryd.underlying9
  a9 := Tryd.isAgg9
  z9 := Tryd.sizeOf9
  v9 := Tryd.zeroValue9
  t20 := Tryd.underlying20
  a20 := Tryd.isAgg20
  z20 := Tryd.sizeOf20
  v20 := Tryd.zeroValue20
  t37 := Tryd.underlying50
  a37 := Tryd.isAgg50
  z37 := Tryd.sizeOf50
  v37 := Tryd.zeroValue50
  t70 := Tryd.underlying49
  a70 := Tryd.isAgg49
  z70 := Tryd.sizeOf49
  v70 := Tryd.zeroValue49
  t72 := Tryd.underlying52
  a72 := Tryd.isAgg52
  z72 := Tryd.sizeOf52
  v72 := Tryd.zeroValue52
  t75 := Tryd.underlying56
  a75 := Tryd.isAgg56
  z75 := Tryd.sizeOf56
  v75 := Tryd.zeroValue56
  t164 := Tryd.underlying66
  a164 := Tryd.isAgg66
  z164 := Tryd.sizeOf66
  v164 := Tryd.zeroValue66 }
theorem Tryd.bx166 : Builder.Extra Tryd.prog Tryd.bl166_ren := {
  sizeBuilder := by kernel_rfl
  liesBuilder := by kernel_rfl
  t5 := Tryd.underlying5
  a5 := Tryd.isAgg5
  z5 := Tryd.sizeOf5
  v5 := Tryd.zeroValue5
  infoByte := by kernel_rfl
  cellsByte := by kernel_rfl
  sizeByte := by kernel_rfl
  neB5 := by decide }
end Go.Proofs
