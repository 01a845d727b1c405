/- Written by laygen.py: contracts of the shelf laid at this dump by the names. -/
import Derived.Test.YtjaebonfojnmdaaDoorProg
import Derived.Shelf.Unicode.ValidAny
set_option maxRecDepth 100000
set_option maxHeartbeats 4000000
open Go.Shelf Go.RowKit
namespace Go.Proofs
def Tryd.bl196_ren : Go.Shelf.Ren := ⟨fun | 196 => 8 | 259 => 13 | n => n, fun | 0 => 0 | 3 => 3 | 4 => 4 | 5 => 5 | 9 => 9 | 12 => 12 | 46 => 36 | 53 => 42 | 119 => 32 | 138 => 34 | 139 => 35 | n => n, fun | 3 => 0 | 4 => 1 | n => n⟩
theorem Tryd.bl196 : Go.Proofs.Lays.n196 Tryd.prog Tryd.bl196_ren := {
  mixed := by kernel_rfl
  f196 := Tryd.func8.trans (congrArg some (by kernel_rfl))
  f259 := Tryd.func13.trans (congrArg some (by kernel_rfl))
  t0 := Tryd.underlying0
  a0 := Tryd.isAgg0
  z0 := Tryd.sizeOf0
  v0 := Tryd.zeroValue0
  t3 := Tryd.underlying3
  a3 := Tryd.isAgg3
  z3 := Tryd.sizeOf3
  v3 := Tryd.zeroValue3
  t4 := Tryd.underlying4
  a4 := Tryd.isAgg4
  z4 := Tryd.sizeOf4
  v4 := Tryd.zeroValue4
  t5 := Tryd.underlying5
  a5 := Tryd.isAgg5
  z5 := Tryd.sizeOf5
  v5 := Tryd.zeroValue5
  t9 := Tryd.underlying9
  a9 := Tryd.isAgg9
  z9 := Tryd.sizeOf9
  v9 := Tryd.zeroValue9
  t12 := Tryd.underlying12
  a12 := Tryd.isAgg12
  z12 := Tryd.sizeOf12
  v12 := Tryd.zeroValue12
  t46 := Tryd.underlying36
  a46 := Tryd.isAgg36
  z46 := Tryd.sizeOf36
  v46 := Tryd.zeroValue36
  t53 := Tryd.underlying42
  a53 := Tryd.isAgg42
  z53 := Tryd.sizeOf42
  v53 := Tryd.zeroValue42
  t119 := Tryd.underlying32
  a119 := Tryd.isAgg32
  z119 := Tryd.sizeOf32
  t138 := Tryd.underlying34
  a138 := Tryd.isAgg34
  z138 := Tryd.sizeOf34
  v138 := Tryd.zeroValue34
  t139 := Tryd.underlying35
  a139 := Tryd.isAgg35
  z139 := Tryd.sizeOf35
  v139 := Tryd.zeroValue35
  g3 := by kernel_rfl
  g4 := by kernel_rfl }
end Go.Proofs
