/- Written by laygen.py: contracts of the shelf laid at this dump by the names. -/
import Derived.Test.YtpgnipfpinldgaaGreatDoorProg
import Derived.Shelf.Strings.BuilderK
import Derived.Shelf.Strings.BuilderRune
set_option maxRecDepth 100000
set_option maxHeartbeats 4000000
open Go.Shelf Go.RowKit
namespace Go.Proofs
def Tryz.bl166_ren : Go.Shelf.Ren := ⟨fun | 166 => 11 | 240 => 15 | 276 => 22 | n => n, fun | 0 => 0 | 3 => 3 | 4 => 4 | 5 => 5 | 9 => 9 | 20 => 20 | 37 => 28 | 70 => 27 | 72 => 30 | 75 => 87 | 80 => 83 | 164 => 103 | n => n, fun | n => n⟩
theorem Tryz.bl166 : Go.Proofs.Lays.n166 Tryz.prog Tryz.bl166_ren := {
  mixed := by kernel_rfl
  f166 := Tryz.func11.trans (congrArg some (by kernel_rfl))
  f240 := Tryz.func15.trans (congrArg some (by kernel_rfl))
  f276 := Tryz.func22.trans (congrArg some (by kernel_rfl))
  t0 := Tryz.underlying0
  a0 := Tryz.isAgg0
  z0 := Tryz.sizeOf0
  v0 := Tryz.zeroValue0
  t3 := Tryz.underlying3
  a3 := Tryz.isAgg3
  z3 := Tryz.sizeOf3
  v3 := Tryz.zeroValue3
  t4 := Tryz.underlying4
  a4 := Tryz.isAgg4
  z4 := Tryz.sizeOf4
  v4 := Tryz.zeroValue4
  t9 := Tryz.underlying9
  a9 := Tryz.isAgg9
  z9 := Tryz.sizeOf9
  v9 := Tryz.zeroValue9
  t20 := Tryz.underlying20
  a20 := Tryz.isAgg20
  z20 := Tryz.sizeOf20
  v20 := Tryz.zeroValue20
  t37 := Tryz.underlying28
  a37 := Tryz.isAgg28
  z37 := Tryz.sizeOf28
  v37 := Tryz.zeroValue28
  t70 := Tryz.underlying27
  a70 := Tryz.isAgg27
  z70 := Tryz.sizeOf27
  v70 := Tryz.zeroValue27
  t72 := Tryz.underlying30
  a72 := Tryz.isAgg30
  z72 := Tryz.sizeOf30
  v72 := Tryz.zeroValue30
  t75 := Tryz.underlying87
  a75 := Tryz.isAgg87
  z75 := Tryz.sizeOf87
  v75 := Tryz.zeroValue87
  t164 := Tryz.underlying103
  a164 := Tryz.isAgg103
  z164 := Tryz.sizeOf103
  v164 := Tryz.zeroValue103 }
theorem Tryz.bx166 : Builder.Extra Tryz.prog Tryz.bl166_ren := {
  sizeBuilder := by kernel_rfl
  liesBuilder := by kernel_rfl
  t5 := Tryz.underlying5
  a5 := Tryz.isAgg5
  z5 := Tryz.sizeOf5
  v5 := Tryz.zeroValue5
  infoByte := by kernel_rfl
  cellsByte := by kernel_rfl
  sizeByte := by kernel_rfl
  neB5 := by decide }
def Tryz.bl169_ren : Go.Shelf.Ren := ⟨fun | 169 => 7 | n => n, fun | 0 => 0 | 3 => 3 | 5 => 5 | 9 => 9 | 37 => 28 | 70 => 27 | 72 => 30 | 127 => 90 | n => n, fun | n => n⟩
theorem Tryz.bl169 : Go.Proofs.Lays.n169 Tryz.prog Tryz.bl169_ren := {
  mixed := by kernel_rfl
  f169 := Tryz.func7.trans (congrArg some (by kernel_rfl))
  t0 := Tryz.underlying0
  a0 := Tryz.isAgg0
  z0 := Tryz.sizeOf0
  v0 := Tryz.zeroValue0
  t3 := Tryz.underlying3
  a3 := Tryz.isAgg3
  z3 := Tryz.sizeOf3
  v3 := Tryz.zeroValue3
  t9 := Tryz.underlying9
  a9 := Tryz.isAgg9
  z9 := Tryz.sizeOf9
  v9 := Tryz.zeroValue9
  t37 := Tryz.underlying28
  a37 := Tryz.isAgg28
  z37 := Tryz.sizeOf28
  v37 := Tryz.zeroValue28
  t70 := Tryz.underlying27
  a70 := Tryz.isAgg27
  z70 := Tryz.sizeOf27
  v70 := Tryz.zeroValue27
  t72 := Tryz.underlying30
  a72 := Tryz.isAgg30
  z72 := Tryz.sizeOf30
  v72 := Tryz.zeroValue30
  t127 := Tryz.underlying90
  a127 := Tryz.isAgg90
  z127 := Tryz.sizeOf90
  v127 := Tryz.zeroValue90 }
theorem Tryz.bx169 : Builder.Extra Tryz.prog Tryz.bl169_ren := {
  sizeBuilder := by kernel_rfl
  liesBuilder := by kernel_rfl
  t5 := Tryz.underlying5
  a5 := Tryz.isAgg5
  z5 := Tryz.sizeOf5
  v5 := Tryz.zeroValue5
  infoByte := by kernel_rfl
  cellsByte := by kernel_rfl
  sizeByte := by kernel_rfl
  neB5 := by decide }
end Go.Proofs
