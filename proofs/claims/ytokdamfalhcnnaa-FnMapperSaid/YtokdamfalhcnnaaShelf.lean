/-
  DERIVED: THE SHELF's CONTRACTS AT THIS DUMP, IN PLAIN WORDS (tools/lay-plain.mjs out of 'TryShelf.lean', which tools/lay-shelf.mjs wrote): THE SAME DECLARATIONS UNDER THE SAME NAMES: 'import', 'namespace', 'open', 'def', 'theorem' AND NOTHING ELSE: no command of the shelf's: FOR A HAND-IN. Each laying: the table of numbers ('.._ren') and one theorem, a field a fact of the dump's own or the kernel's comparison; each contract: ONE APPLICATION.
-/
import Derived.Shelf.Small.Bits
import Derived.Shelf.Strconv.Itoa0
import Derived.Ground.GgsProg
import Derived.Shelf.GgSortFunc.Insertion
import Derived.Shelf.GgSortFunc.Small
import Derived.Shelf.GgSortFunc.Tiny
import Derived.Shelf.GgSortFunc.Compose
import Derived.Shelf.GgSortFunc.LotD
import Derived.Shelf.GgSortFunc.Pivot
import Derived.Shelf.GgSortFunc.Partition
import Derived.Shelf.GgSortFunc.Pdq
import Derived.Shelf.GgSortFunc.Whole
import Derived.Shelf.SlSortFunc.Xorshift
import Derived.Shelf.SlSortFunc.SiftDown
import Derived.Shelf.SlSortFunc.HeapSort
import Derived.Shelf.SlSortFunc.PartialInsertion
import Derived.Test.YtokdamfalhcnnaaProg
namespace Go.Proofs
open Go.Shelf
def Try.laysGg6_ren : Go.Shelf.Ren := ⟨fun | 6 => 41 | 10 => 43 | 11 => 44 | 12 => 45 | 13 => 46 | 14 => 47 | 24 => 57 | 25 => 58 | 26 => 59 | 27 => 60 | 28 => 61 | 29 => 62 | 30 => 63 | 31 => 64 | 32 => 65 | 33 => 66 | 34 => 67 | 35 => 68 | 36 => 69 | 37 => 70 | 38 => 71 | 39 => 72 | n => n, fun | 20 => 20 | 26 => 68 | 35 => 86 | 0 => 0 | 37 => 63 | 3 => 3 | 41 => 74 | 44 => 92 | 49 => 97 | 51 => 76 | 4 => 4 | 54 => 101 | 53 => 100 | 58 => 41 | 5 => 5 | 9 => 9 | 60 => 106 | 64 => 64 | 66 => 111 | 67 => 112 | 17 => 17 | 32 => 83 | 33 => 84 | 82 => 127 | 12 => 12 | 75 => 120 | 76 => 121 | 77 => 122 | 78 => 123 | 79 => 124 | 80 => 125 | n => n, fun | n => n⟩
theorem Try.laysGg6 : Go.Proofs.LaysGg.n6 Try.prog Try.laysGg6_ren := {
  mixed := by kernel_rfl
  f6 := Try.func41.trans (congrArg some (by kernel_rfl))
  f10 := Try.func43.trans (congrArg some (by kernel_rfl))
  f11 := Try.func44.trans (congrArg some (by kernel_rfl))
  f12 := Try.func45.trans (congrArg some (by kernel_rfl))
  f13 := Try.func46.trans (congrArg some (by kernel_rfl))
  f14 := Try.func47.trans (congrArg some (by kernel_rfl))
  f24 := Try.func57.trans (congrArg some (by kernel_rfl))
  f25 := Try.func58.trans (congrArg some (by kernel_rfl))
  f26 := Try.func59.trans (congrArg some (by kernel_rfl))
  f27 := Try.func60.trans (congrArg some (by kernel_rfl))
  f28 := Try.func61.trans (congrArg some (by kernel_rfl))
  f29 := Try.func62.trans (congrArg some (by kernel_rfl))
  f30 := Try.func63.trans (congrArg some (by kernel_rfl))
  f31 := Try.func64.trans (congrArg some (by kernel_rfl))
  f32 := Try.func65.trans (congrArg some (by kernel_rfl))
  f33 := Try.func66.trans (congrArg some (by kernel_rfl))
  f34 := Try.func67.trans (congrArg some (by kernel_rfl))
  f35 := Try.func68.trans (congrArg some (by kernel_rfl))
  f36 := Try.func69.trans (congrArg some (by kernel_rfl))
  f37 := Try.func70.trans (congrArg some (by kernel_rfl))
  f38 := Try.func71.trans (congrArg some (by kernel_rfl))
  f39 := Try.func72.trans (congrArg some (by kernel_rfl))
  t0 := Try.underlying0
  a0 := Try.isAgg0
  z0 := Try.sizeOf0
  v0 := Try.zeroValue0
  i0 := by kernel_rfl
  t3 := Try.underlying3
  a3 := Try.isAgg3
  z3 := Try.sizeOf3
  v3 := Try.zeroValue3
  i3 := by kernel_rfl
  t4 := Try.underlying4
  a4 := Try.isAgg4
  z4 := Try.sizeOf4
  v4 := Try.zeroValue4
  i4 := by kernel_rfl
  t5 := Try.underlying5
  a5 := Try.isAgg5
  z5 := Try.sizeOf5
  v5 := Try.zeroValue5
  i5 := by kernel_rfl
  t9 := Try.underlying9
  a9 := Try.isAgg9
  z9 := Try.sizeOf9
  v9 := Try.zeroValue9
  i9 := by kernel_rfl
  t12 := Try.underlying12
  a12 := Try.isAgg12
  z12 := Try.sizeOf12
  v12 := Try.zeroValue12
  i12 := by kernel_rfl
  t17 := Try.underlying17
  a17 := Try.isAgg17
  z17 := Try.sizeOf17
  v17 := Try.zeroValue17
  i17 := by kernel_rfl
  t20 := Try.underlying20
  a20 := Try.isAgg20
  z20 := Try.sizeOf20
  v20 := Try.zeroValue20
  i20 := by kernel_rfl
  t26 := Try.underlying68
  a26 := Try.isAgg68
  z26 := Try.sizeOf68
  v26 := Try.zeroValue68
  i26 := by kernel_rfl
  t32 := Try.underlying83
  a32 := Try.isAgg83
  z32 := Try.sizeOf83
  v32 := Try.zeroValue83
  i32 := by kernel_rfl
  t33 := Try.underlying84
  a33 := Try.isAgg84
  z33 := Try.sizeOf84
  v33 := Try.zeroValue84
  i33 := by kernel_rfl
  t35 := Try.underlying86
  a35 := Try.isAgg86
  z35 := Try.sizeOf86
  v35 := Try.zeroValue86
  i35 := by kernel_rfl
  t37 := Try.underlying63
  a37 := Try.isAgg63
  z37 := Try.sizeOf63
  v37 := Try.zeroValue63
  i37 := by kernel_rfl
  t41 := Try.underlying74
  a41 := Try.isAgg74
  z41 := Try.sizeOf74
  v41 := Try.zeroValue74
  i41 := by kernel_rfl
  t44 := Try.underlying92
  a44 := Try.isAgg92
  z44 := Try.sizeOf92
  v44 := Try.zeroValue92
  i44 := by kernel_rfl
  t49 := Try.underlying97
  a49 := Try.isAgg97
  z49 := Try.sizeOf97
  v49 := Try.zeroValue97
  i49 := by kernel_rfl
  t51 := Try.underlying76
  a51 := Try.isAgg76
  z51 := Try.sizeOf76
  v51 := Try.zeroValue76
  i51 := by kernel_rfl
  t53 := Try.underlying100
  a53 := Try.isAgg100
  z53 := Try.sizeOf100
  v53 := Try.zeroValue100
  i53 := by kernel_rfl
  t54 := Try.underlying101
  a54 := Try.isAgg101
  z54 := Try.sizeOf101
  v54 := Try.zeroValue101
  i54 := by kernel_rfl
  t58 := Try.underlying41
  a58 := Try.isAgg41
  z58 := Try.sizeOf41
  v58 := Try.zeroValue41
  i58 := by kernel_rfl
  t60 := Try.underlying106
  a60 := Try.isAgg106
  z60 := Try.sizeOf106
  v60 := Try.zeroValue106
  i60 := by kernel_rfl
  t64 := Try.underlying64
  a64 := Try.isAgg64
  z64 := Try.sizeOf64
  v64 := Try.zeroValue64
  i64 := by kernel_rfl
  t66 := Try.underlying111
  a66 := Try.isAgg111
  z66 := Try.sizeOf111
  v66 := Try.zeroValue111
  i66 := by kernel_rfl
  t67 := Try.underlying112
  a67 := Try.isAgg112
  z67 := Try.sizeOf112
  v67 := Try.zeroValue112
  i67 := by kernel_rfl
  t75 := Try.underlying120
  a75 := Try.isAgg120
  z75 := Try.sizeOf120
  v75 := Try.zeroValue120
  i75 := by kernel_rfl
  t76 := Try.underlying121
  a76 := Try.isAgg121
  z76 := Try.sizeOf121
  v76 := Try.zeroValue121
  i76 := by kernel_rfl
  t77 := Try.underlying122
  a77 := Try.isAgg122
  z77 := Try.sizeOf122
  v77 := Try.zeroValue122
  i77 := by kernel_rfl
  t78 := Try.underlying123
  a78 := Try.isAgg123
  z78 := Try.sizeOf123
  v78 := Try.zeroValue123
  i78 := by kernel_rfl
  t79 := Try.underlying124
  a79 := Try.isAgg124
  z79 := Try.sizeOf124
  v79 := Try.zeroValue124
  i79 := by kernel_rfl
  t80 := Try.underlying125
  a80 := Try.isAgg125
  z80 := Try.sizeOf125
  v80 := Try.zeroValue125
  i80 := by kernel_rfl
  t82 := Try.underlying127
  a82 := Try.isAgg127
  z82 := Try.sizeOf127
  v82 := Try.zeroValue127
  i82 := by kernel_rfl }
end Go.Proofs
