/-
  DERIVED: THE SHELF's CONTRACTS AT THIS DUMP, IN PLAIN WORDS (tools/lay-plain.mjs out of 'TrydShelf.lean', which tools/lay-shelf.mjs wrote): THE SAME DECLARATIONS UNDER THE SAME NAMES: 'import', 'namespace', 'open', 'def', 'theorem' AND NOTHING ELSE: no command of the shelf's: FOR A HAND-IN. Each laying: the table of numbers ('.._ren') and one theorem, a field a fact of the dump's own or the kernel's comparison; each contract: ONE APPLICATION.
-/
import Derived.Shelf.Strings.Builder1
import Derived.Shelf.Strings.Builder2
import Derived.Shelf.Strings.OnBuilder
import Derived.Shelf.Small.Utf8
import Derived.Shelf.Strings.BuilderF
import Derived.Shelf.Strings.BuilderK
import Derived.Shelf.Strings.BuilderRune
import Derived.Shelf.Utf8.AppendRune
import Derived.Shelf.Utf8.AppendRunePlain
import Derived.Shelf.Utf8.RuneCount
import Derived.Shelf.Strings.Builder2Cap
import Derived.Shelf.Strings.Prefix
import Derived.Shelf.Unicode.Latin
import Derived.Shelf.Unicode.Props
import Derived.Shelf.LaysM
import Derived.Shelf.Unicode.PropsLaid
import Derived.Shelf.Unicode.Decode
import Derived.Shelf.Strings.RuneCount
import Derived.Shelf.Bits.Mul64
import Derived.Shelf.Strings.Repeat
import Derived.Shelf.Unicode.DecodeSlow
import Derived.Shelf.Unicode.DecodeAny
import Derived.Shelf.Unicode.Is16White
import Derived.Shelf.Unicode.IsSpaceAny
import Derived.Shelf.Unicode.Is16WhiteD
import Derived.Shelf.Unicode.IsSpaceAnyD
import Derived.Shelf.Unicode.CaseLookup
import Derived.Shelf.Unicode.CaseConvert
import Derived.Shelf.Unicode.CaseTo
import Derived.Shelf.Unicode.CaseLaid
import Derived.Shelf.Strings.MapAny
import Derived.Shelf.Strings.CaseAny
import Derived.Shelf.Unicode.Is16Any
import Derived.Shelf.Unicode.Is32Any
import Derived.Shelf.Unicode.ExclAny
import Derived.Shelf.Unicode.PredsAny
import Derived.Shelf.Strings.BuilderCap
import Derived.Test.YthjkmjimlhpbfaaGreatDoorProg
namespace Go.Proofs
open Go.Shelf
def Tryz.lays169_ren : Go.Shelf.Ren := ⟨fun | 169 => 56 | n => n, fun | 70 => 56 | 9 => 9 | 0 => 0 | 72 => 59 | 37 => 57 | 127 => 95 | 3 => 3 | 5 => 5 | n => n, fun | n => n⟩
theorem Tryz.lays169 : Go.Proofs.Lays.n169 Tryz.prog Tryz.lays169_ren := {
  mixed := by kernel_rfl
  f169 := Tryz.func56.trans (congrArg some (by kernel_rfl))
  t0 := Tryz.underlying0
  a0 := Tryz.isAgg0
  z0 := Tryz.sizeOf0
  v0 := Tryz.zeroValue0
  t3 := Tryz.underlying3
  a3 := Tryz.isAgg3
  z3 := Tryz.sizeOf3
  v3 := Tryz.zeroValue3
  t9 := Tryz.underlying9
  a9 := Tryz.isAgg9
  z9 := Tryz.sizeOf9
  v9 := Tryz.zeroValue9
  t37 := Tryz.underlying57
  a37 := Tryz.isAgg57
  z37 := Tryz.sizeOf57
  v37 := Tryz.zeroValue57
  t70 := Tryz.underlying56
  a70 := Tryz.isAgg56
  z70 := Tryz.sizeOf56
  v70 := Tryz.zeroValue56
  t72 := Tryz.underlying59
  a72 := Tryz.isAgg59
  z72 := Tryz.sizeOf59
  v72 := Tryz.zeroValue59
  t127 := Tryz.underlying95
  a127 := Tryz.isAgg95
  z127 := Tryz.sizeOf95
  v127 := Tryz.zeroValue95 }
theorem Tryz.Builder_Extra_169 : Builder.Extra Tryz.prog Tryz.lays169_ren := {
  sizeBuilder := by kernel_rfl
  liesBuilder := by kernel_rfl
  t5 := Tryz.underlying5
  a5 := Tryz.isAgg5
  z5 := Tryz.sizeOf5
  v5 := Tryz.zeroValue5
  infoByte := by kernel_rfl
  cellsByte := by kernel_rfl
  sizeByte := by kernel_rfl
  neB5 := by decide }
open Go.RowKit in
theorem Tryz.Builder_String_any_f (B b : Nat) (l : List UInt8) (w : World) (h : Lib.IsBuilderF 59 5 B b (Lib.byteCells l) w) (hBw : B ≤ w.heap.size) :
    Calls Tryz.prog 56 #[.pointer (some ⟨b, 0, none⟩)] w fun e w' => e = .returned (.string ⟨l.toArray⟩) ∧ (Lib.IsBuilderF 59 5 B b (Lib.byteCells l) w' ∧ Below B w w') := Any.Builder_String_any_f Tryz.lays169 Tryz.Builder_Extra_169 B b l w h hBw
def Tryz.lays195_ren : Go.Shelf.Ren := ⟨fun | 195 => 45 | n => n, fun | 9 => 9 | 3 => 3 | 0 => 0 | 4 => 4 | n => n, fun | n => n⟩
theorem Tryz.lays195 : Go.Proofs.Lays.n195 Tryz.prog Tryz.lays195_ren := {
  mixed := by kernel_rfl
  f195 := Tryz.func45.trans (congrArg some (by kernel_rfl))
  t0 := Tryz.underlying0
  a0 := Tryz.isAgg0
  z0 := Tryz.sizeOf0
  v0 := Tryz.zeroValue0
  t3 := Tryz.underlying3
  a3 := Tryz.isAgg3
  z3 := Tryz.sizeOf3
  v3 := Tryz.zeroValue3
  t4 := Tryz.underlying4
  a4 := Tryz.isAgg4
  z4 := Tryz.sizeOf4
  v4 := Tryz.zeroValue4
  t9 := Tryz.underlying9
  a9 := Tryz.isAgg9
  z9 := Tryz.sizeOf9
  v9 := Tryz.zeroValue9 }
open Go.RowKit in
theorem Tryz.utf8_RuneCountInString (s : ByteArray) (w : World) (hs : s.size < 9223372036854775807) :
    Calls Tryz.prog 45 #[.string s] w fun e w' => e = .returned (.int .i64 (Lib.runeCount s)) ∧ ∃ pos, w' = w.iter s pos := Any.utf8_RuneCountInString Tryz.lays195 s w hs
def Tryz.lays105_ren : Go.Shelf.Ren := ⟨fun | 105 => 44 | 212 => 59 | 99 => 60 | 165 => 36 | 166 => 55 | 170 => 61 | 169 => 56 | 263 => 75 | 264 => 76 | 206 => 77 | 240 => 46 | 241 => 47 | 276 => 62 | 277 => 63 | n => n, fun | 9 => 9 | 3 => 3 | 4 => 4 | 20 => 20 | 0 => 0 | 46 => 85 | 109 => 86 | 5 => 5 | 72 => 59 | 76 => 75 | 51 => 99 | 146 => 100 | 53 => 102 | 148 => 103 | 70 => 56 | 37 => 57 | 75 => 74 | 127 => 95 | 164 => 89 | 80 => 38 | n => n, fun | n => n⟩
theorem Tryz.lays105 : Go.Proofs.Lays.n105 Tryz.prog Tryz.lays105_ren := {
  mixed := by kernel_rfl
  f99 := Tryz.func60.trans (congrArg some (by kernel_rfl))
  f105 := Tryz.func44.trans (congrArg some (by kernel_rfl))
  f165 := Tryz.func36.trans (congrArg some (by kernel_rfl))
  f166 := Tryz.func55.trans (congrArg some (by kernel_rfl))
  f169 := Tryz.func56.trans (congrArg some (by kernel_rfl))
  f170 := Tryz.func61.trans (congrArg some (by kernel_rfl))
  f206 := Tryz.func77.trans (congrArg some (by kernel_rfl))
  f212 := Tryz.func59.trans (congrArg some (by kernel_rfl))
  f240 := Tryz.func46.trans (congrArg some (by kernel_rfl))
  f241 := Tryz.func47.trans (congrArg some (by kernel_rfl))
  f263 := Tryz.func75.trans (congrArg some (by kernel_rfl))
  f264 := Tryz.func76.trans (congrArg some (by kernel_rfl))
  f276 := Tryz.func62.trans (congrArg some (by kernel_rfl))
  f277 := Tryz.func63.trans (congrArg some (by kernel_rfl))
  t0 := Tryz.underlying0
  a0 := Tryz.isAgg0
  z0 := Tryz.sizeOf0
  v0 := Tryz.zeroValue0
  t3 := Tryz.underlying3
  a3 := Tryz.isAgg3
  z3 := Tryz.sizeOf3
  v3 := Tryz.zeroValue3
  t4 := Tryz.underlying4
  a4 := Tryz.isAgg4
  z4 := Tryz.sizeOf4
  v4 := Tryz.zeroValue4
  t5 := Tryz.underlying5
  a5 := Tryz.isAgg5
  z5 := Tryz.sizeOf5
  v5 := Tryz.zeroValue5
  t9 := Tryz.underlying9
  a9 := Tryz.isAgg9
  z9 := Tryz.sizeOf9
  v9 := Tryz.zeroValue9
  t20 := Tryz.underlying20
  a20 := Tryz.isAgg20
  z20 := Tryz.sizeOf20
  v20 := Tryz.zeroValue20
  t37 := Tryz.underlying57
  a37 := Tryz.isAgg57
  z37 := Tryz.sizeOf57
  v37 := Tryz.zeroValue57
  t46 := Tryz.underlying85
  a46 := Tryz.isAgg85
  z46 := Tryz.sizeOf85
  v46 := Tryz.zeroValue85
  t51 := Tryz.underlying99
  a51 := Tryz.isAgg99
  z51 := Tryz.sizeOf99
  v51 := Tryz.zeroValue99
  t53 := Tryz.underlying102
  a53 := Tryz.isAgg102
  z53 := Tryz.sizeOf102
  v53 := Tryz.zeroValue102
  t70 := Tryz.underlying56
  a70 := Tryz.isAgg56
  z70 := Tryz.sizeOf56
  v70 := Tryz.zeroValue56
  t72 := Tryz.underlying59
  a72 := Tryz.isAgg59
  z72 := Tryz.sizeOf59
  v72 := Tryz.zeroValue59
  t75 := Tryz.underlying74
  a75 := Tryz.isAgg74
  z75 := Tryz.sizeOf74
  v75 := Tryz.zeroValue74
  t76 := Tryz.underlying75
  a76 := Tryz.isAgg75
  z76 := Tryz.sizeOf75
  v76 := Tryz.zeroValue75
  t109 := Tryz.underlying86
  a109 := Tryz.isAgg86
  z109 := Tryz.sizeOf86
  v109 := Tryz.zeroValue86
  t127 := Tryz.underlying95
  a127 := Tryz.isAgg95
  z127 := Tryz.sizeOf95
  v127 := Tryz.zeroValue95
  t146 := Tryz.underlying100
  a146 := Tryz.isAgg100
  z146 := Tryz.sizeOf100
  v146 := Tryz.zeroValue100
  t148 := Tryz.underlying103
  a148 := Tryz.isAgg103
  z148 := Tryz.sizeOf103
  v148 := Tryz.zeroValue103
  t164 := Tryz.underlying89
  a164 := Tryz.isAgg89
  z164 := Tryz.sizeOf89
  v164 := Tryz.zeroValue89 }
theorem Tryz.Builder_Extra_105 : Builder.Extra Tryz.prog Tryz.lays105_ren := {
  sizeBuilder := by kernel_rfl
  liesBuilder := by kernel_rfl
  t5 := Tryz.underlying5
  a5 := Tryz.isAgg5
  z5 := Tryz.sizeOf5
  v5 := Tryz.zeroValue5
  infoByte := by kernel_rfl
  cellsByte := by kernel_rfl
  sizeByte := by kernel_rfl
  neB5 := by decide }
open Go.RowKit Go.Lib in
theorem Tryz.strings_Repeat (s : ByteArray) (c : Nat) (w : World) (hc : c ≤ 9223372036854775807) (hlen : s.size * c ≤ 140737488355328) :
    Calls Tryz.prog 44 #[.string s, .int .i64 c] w fun e w' => e = .returned (.string ⟨(Lib.repeatL s.data.toList c).toArray⟩) ∧ Below w.heap.size w w' := Any.strings_Repeat Tryz.lays105 Tryz.Builder_Extra_105 s c w hc hlen
end Go.Proofs
