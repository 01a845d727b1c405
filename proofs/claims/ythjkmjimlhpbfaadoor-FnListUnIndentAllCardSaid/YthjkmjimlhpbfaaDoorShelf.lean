/-
  DERIVED: THE SHELF's CONTRACTS AT THIS DUMP, IN PLAIN WORDS (tools/lay-plain.mjs out of 'TrydShelf.lean', which tools/lay-shelf.mjs wrote): THE SAME DECLARATIONS UNDER THE SAME NAMES: 'import', 'namespace', 'open', 'def', 'theorem' AND NOTHING ELSE: no command of the shelf's: FOR A HAND-IN. Each laying: the table of numbers ('.._ren') and one theorem, a field a fact of the dump's own or the kernel's comparison; each contract: ONE APPLICATION.
-/
import Derived.Shelf.Strings.Builder1
import Derived.Shelf.Strings.Builder2
import Derived.Shelf.Strings.OnBuilder
import Derived.Shelf.Small.Utf8
import Derived.Shelf.Strings.BuilderF
import Derived.Shelf.Strings.BuilderK
import Derived.Shelf.Strings.BuilderRune
import Derived.Shelf.Utf8.AppendRune
import Derived.Shelf.Utf8.AppendRunePlain
import Derived.Shelf.Utf8.RuneCount
import Derived.Shelf.Strings.Builder2Cap
import Derived.Shelf.Strings.Prefix
import Derived.Shelf.Unicode.Latin
import Derived.Shelf.Unicode.Props
import Derived.Shelf.LaysM
import Derived.Shelf.Unicode.PropsLaid
import Derived.Shelf.Unicode.Decode
import Derived.Shelf.Strings.RuneCount
import Derived.Shelf.Bits.Mul64
import Derived.Shelf.Strings.Repeat
import Derived.Shelf.Unicode.DecodeSlow
import Derived.Shelf.Unicode.DecodeAny
import Derived.Shelf.Unicode.Is16White
import Derived.Shelf.Unicode.IsSpaceAny
import Derived.Shelf.Unicode.Is16WhiteD
import Derived.Shelf.Unicode.IsSpaceAnyD
import Derived.Shelf.Unicode.CaseLookup
import Derived.Shelf.Unicode.CaseConvert
import Derived.Shelf.Unicode.CaseTo
import Derived.Shelf.Unicode.CaseLaid
import Derived.Shelf.Strings.MapAny
import Derived.Shelf.Strings.CaseAny
import Derived.Shelf.Unicode.Is16Any
import Derived.Shelf.Unicode.Is32Any
import Derived.Shelf.Unicode.ExclAny
import Derived.Shelf.Unicode.PredsAny
import Derived.Shelf.Strings.BuilderCap
import Derived.Test.YthjkmjimlhpbfaaDoorProg
namespace Go.Proofs
open Go.Shelf
def Tryd.lays169_ren : Go.Shelf.Ren := ⟨fun | 169 => 54 | n => n, fun | 70 => 60 | 9 => 9 | 0 => 0 | 72 => 62 | 37 => 52 | 127 => 98 | 3 => 3 | 5 => 5 | n => n, fun | n => n⟩
theorem Tryd.lays169 : Go.Proofs.Lays.n169 Tryd.prog Tryd.lays169_ren := {
  mixed := by kernel_rfl
  f169 := Tryd.func54.trans (congrArg some (by kernel_rfl))
  t0 := Tryd.underlying0
  a0 := Tryd.isAgg0
  z0 := Tryd.sizeOf0
  v0 := Tryd.zeroValue0
  t3 := Tryd.underlying3
  a3 := Tryd.isAgg3
  z3 := Tryd.sizeOf3
  v3 := Tryd.zeroValue3
  t9 := Tryd.underlying9
  a9 := Tryd.isAgg9
  z9 := Tryd.sizeOf9
  v9 := Tryd.zeroValue9
  t37 := Tryd.underlying52
  a37 := Tryd.isAgg52
  z37 := Tryd.sizeOf52
  v37 := Tryd.zeroValue52
  t70 := Tryd.underlying60
  a70 := Tryd.isAgg60
  z70 := Tryd.sizeOf60
  v70 := Tryd.zeroValue60
  t72 := Tryd.underlying62
  a72 := Tryd.isAgg62
  z72 := Tryd.sizeOf62
  v72 := Tryd.zeroValue62
  t127 := Tryd.underlying98
  a127 := Tryd.isAgg98
  z127 := Tryd.sizeOf98
  v127 := Tryd.zeroValue98 }
theorem Tryd.Builder_Extra_169 : Builder.Extra Tryd.prog Tryd.lays169_ren := {
  sizeBuilder := by kernel_rfl
  liesBuilder := by kernel_rfl
  t5 := Tryd.underlying5
  a5 := Tryd.isAgg5
  z5 := Tryd.sizeOf5
  v5 := Tryd.zeroValue5
  infoByte := by kernel_rfl
  cellsByte := by kernel_rfl
  sizeByte := by kernel_rfl
  neB5 := by decide }
open Go.RowKit in
theorem Tryd.Builder_String_any_f (B b : Nat) (l : List UInt8) (w : World) (h : Lib.IsBuilderF 62 5 B b (Lib.byteCells l) w) (hBw : B ≤ w.heap.size) :
    Calls Tryd.prog 54 #[.pointer (some ⟨b, 0, none⟩)] w fun e w' => e = .returned (.string ⟨l.toArray⟩) ∧ (Lib.IsBuilderF 62 5 B b (Lib.byteCells l) w' ∧ Below B w w') := Any.Builder_String_any_f Tryd.lays169 Tryd.Builder_Extra_169 B b l w h hBw
def Tryd.lays195_ren : Go.Shelf.Ren := ⟨fun | 195 => 43 | n => n, fun | 9 => 9 | 3 => 3 | 0 => 0 | 4 => 4 | n => n, fun | n => n⟩
theorem Tryd.lays195 : Go.Proofs.Lays.n195 Tryd.prog Tryd.lays195_ren := {
  mixed := by kernel_rfl
  f195 := Tryd.func43.trans (congrArg some (by kernel_rfl))
  t0 := Tryd.underlying0
  a0 := Tryd.isAgg0
  z0 := Tryd.sizeOf0
  v0 := Tryd.zeroValue0
  t3 := Tryd.underlying3
  a3 := Tryd.isAgg3
  z3 := Tryd.sizeOf3
  v3 := Tryd.zeroValue3
  t4 := Tryd.underlying4
  a4 := Tryd.isAgg4
  z4 := Tryd.sizeOf4
  v4 := Tryd.zeroValue4
  t9 := Tryd.underlying9
  a9 := Tryd.isAgg9
  z9 := Tryd.sizeOf9
  v9 := Tryd.zeroValue9 }
open Go.RowKit in
theorem Tryd.utf8_RuneCountInString (s : ByteArray) (w : World) (hs : s.size < 9223372036854775807) :
    Calls Tryd.prog 43 #[.string s] w fun e w' => e = .returned (.int .i64 (Lib.runeCount s)) ∧ ∃ pos, w' = w.iter s pos := Any.utf8_RuneCountInString Tryd.lays195 s w hs
def Tryd.lays105_ren : Go.Shelf.Ren := ⟨fun | 105 => 42 | 212 => 58 | 99 => 59 | 165 => 33 | 166 => 53 | 170 => 60 | 169 => 54 | 263 => 74 | 264 => 75 | 206 => 76 | 240 => 44 | 241 => 45 | 276 => 61 | 277 => 62 | n => n, fun | 9 => 9 | 3 => 3 | 4 => 4 | 20 => 20 | 0 => 0 | 46 => 88 | 109 => 89 | 5 => 5 | 72 => 62 | 76 => 78 | 51 => 102 | 146 => 103 | 53 => 105 | 148 => 106 | 70 => 60 | 37 => 52 | 75 => 77 | 127 => 98 | 164 => 92 | 80 => 51 | n => n, fun | n => n⟩
theorem Tryd.lays105 : Go.Proofs.Lays.n105 Tryd.prog Tryd.lays105_ren := {
  mixed := by kernel_rfl
  f99 := Tryd.func59.trans (congrArg some (by kernel_rfl))
  f105 := Tryd.func42.trans (congrArg some (by kernel_rfl))
  f165 := Tryd.func33.trans (congrArg some (by kernel_rfl))
  f166 := Tryd.func53.trans (congrArg some (by kernel_rfl))
  f169 := Tryd.func54.trans (congrArg some (by kernel_rfl))
  f170 := Tryd.func60.trans (congrArg some (by kernel_rfl))
  f206 := Tryd.func76.trans (congrArg some (by kernel_rfl))
  f212 := Tryd.func58.trans (congrArg some (by kernel_rfl))
  f240 := Tryd.func44.trans (congrArg some (by kernel_rfl))
  f241 := Tryd.func45.trans (congrArg some (by kernel_rfl))
  f263 := Tryd.func74.trans (congrArg some (by kernel_rfl))
  f264 := Tryd.func75.trans (congrArg some (by kernel_rfl))
  f276 := Tryd.func61.trans (congrArg some (by kernel_rfl))
  f277 := Tryd.func62.trans (congrArg some (by kernel_rfl))
  t0 := Tryd.underlying0
  a0 := Tryd.isAgg0
  z0 := Tryd.sizeOf0
  v0 := Tryd.zeroValue0
  t3 := Tryd.underlying3
  a3 := Tryd.isAgg3
  z3 := Tryd.sizeOf3
  v3 := Tryd.zeroValue3
  t4 := Tryd.underlying4
  a4 := Tryd.isAgg4
  z4 := Tryd.sizeOf4
  v4 := Tryd.zeroValue4
  t5 := Tryd.underlying5
  a5 := Tryd.isAgg5
  z5 := Tryd.sizeOf5
  v5 := Tryd.zeroValue5
  t9 := Tryd.underlying9
  a9 := Tryd.isAgg9
  z9 := Tryd.sizeOf9
  v9 := Tryd.zeroValue9
  t20 := Tryd.underlying20
  a20 := Tryd.isAgg20
  z20 := Tryd.sizeOf20
  v20 := Tryd.zeroValue20
  t37 := Tryd.underlying52
  a37 := Tryd.isAgg52
  z37 := Tryd.sizeOf52
  v37 := Tryd.zeroValue52
  t46 := Tryd.underlying88
  a46 := Tryd.isAgg88
  z46 := Tryd.sizeOf88
  v46 := Tryd.zeroValue88
  t51 := Tryd.underlying102
  a51 := Tryd.isAgg102
  z51 := Tryd.sizeOf102
  v51 := Tryd.zeroValue102
  t53 := Tryd.underlying105
  a53 := Tryd.isAgg105
  z53 := Tryd.sizeOf105
  v53 := Tryd.zeroValue105
  t70 := Tryd.underlying60
  a70 := Tryd.isAgg60
  z70 := Tryd.sizeOf60
  v70 := Tryd.zeroValue60
  t72 := Tryd.underlying62
  a72 := Tryd.isAgg62
  z72 := Tryd.sizeOf62
  v72 := Tryd.zeroValue62
  t75 := Tryd.underlying77
  a75 := Tryd.isAgg77
  z75 := Tryd.sizeOf77
  v75 := Tryd.zeroValue77
  t76 := Tryd.underlying78
  a76 := Tryd.isAgg78
  z76 := Tryd.sizeOf78
  v76 := Tryd.zeroValue78
  t109 := Tryd.underlying89
  a109 := Tryd.isAgg89
  z109 := Tryd.sizeOf89
  v109 := Tryd.zeroValue89
  t127 := Tryd.underlying98
  a127 := Tryd.isAgg98
  z127 := Tryd.sizeOf98
  v127 := Tryd.zeroValue98
  t146 := Tryd.underlying103
  a146 := Tryd.isAgg103
  z146 := Tryd.sizeOf103
  v146 := Tryd.zeroValue103
  t148 := Tryd.underlying106
  a148 := Tryd.isAgg106
  z148 := Tryd.sizeOf106
  v148 := Tryd.zeroValue106
  t164 := Tryd.underlying92
  a164 := Tryd.isAgg92
  z164 := Tryd.sizeOf92
  v164 := Tryd.zeroValue92 }
theorem Tryd.Builder_Extra_105 : Builder.Extra Tryd.prog Tryd.lays105_ren := {
  sizeBuilder := by kernel_rfl
  liesBuilder := by kernel_rfl
  t5 := Tryd.underlying5
  a5 := Tryd.isAgg5
  z5 := Tryd.sizeOf5
  v5 := Tryd.zeroValue5
  infoByte := by kernel_rfl
  cellsByte := by kernel_rfl
  sizeByte := by kernel_rfl
  neB5 := by decide }
open Go.RowKit Go.Lib in
theorem Tryd.strings_Repeat (s : ByteArray) (c : Nat) (w : World) (hc : c ≤ 9223372036854775807) (hlen : s.size * c ≤ 140737488355328) :
    Calls Tryd.prog 42 #[.string s, .int .i64 c] w fun e w' => e = .returned (.string ⟨(Lib.repeatL s.data.toList c).toArray⟩) ∧ Below w.heap.size w w' := Any.strings_Repeat Tryd.lays105 Tryd.Builder_Extra_105 s c w hc hlen
end Go.Proofs
