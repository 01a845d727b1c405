/-
  DERIVED: THE SHELF's CONTRACTS AT THIS DUMP, IN PLAIN WORDS (tools/lay-plain.mjs out of 'TrydShelf.lean', which tools/lay-shelf.mjs wrote): THE SAME DECLARATIONS UNDER THE SAME NAMES: 'import', 'namespace', 'open', 'def', 'theorem' AND NOTHING ELSE: no command of the shelf's: FOR A HAND-IN. Each laying: the table of numbers ('.._ren') and one theorem, a field a fact of the dump's own or the kernel's comparison; each contract: ONE APPLICATION.
-/
import Derived.Shelf.Strings.TrimSpace
import Derived.Shelf.Small.Utf8
import Derived.Shelf.GgClosure.StringsIndexFunc
import Derived.Shelf.GgClosure.StringsTrimFunc
import Derived.Shelf.GgClosure.StringsRunes
import Derived.Shelf.Unicode.Latin
import Derived.Shelf.Unicode.Props
import Derived.Shelf.LaysM
import Derived.Shelf.Unicode.PropsLaid
import Derived.Shelf.Unicode.Decode
import Derived.Shelf.Unicode.DecodeSlow
import Derived.Shelf.Unicode.DecodeAny
import Derived.Shelf.Unicode.Is16White
import Derived.Shelf.Unicode.IsSpaceAny
import Derived.Shelf.Unicode.DecodeLast
import Derived.Shelf.Strings.TrimSpaceAny
import Derived.Shelf.Unicode.Is16WhiteD
import Derived.Shelf.Unicode.IsSpaceAnyD
import Derived.Shelf.Unicode.Is16Any
import Derived.Shelf.Unicode.Is32Any
import Derived.Shelf.Unicode.ExclAny
import Derived.Shelf.Unicode.PredsAny
import Derived.Shelf.Strings.FuncGrows
import Derived.Shelf.Unicode.PredsPay
import Derived.Test.YtjaebonfojnmdaaDoorProg
namespace Go.Proofs
open Go.Shelf
def Tryd.lays163_ren : Go.Shelf.Ren := ⟨fun | 163 => 12 | 237 => 15 | 199 => 16 | 238 => 17 | 272 => 20 | 261 => 14 | 273 => 21 | 197 => 22 | 315 => 23 | 311 => 18 | 312 => 19 | 271 => 24 | 260 => 25 | 120 => 26 | n => n, fun | 9 => 9 | 37 => 40 | 3 => 3 | 0 => 0 | 5 => 5 | 4 => 4 | 40 => 28 | 119 => 32 | 21 => 21 | 51 => 37 | 141 => 39 | 105 => 55 | 196 => 46 | 193 => 43 | 198 => 49 | 49 => 47 | 194 => 44 | 201 => 52 | 226 => 57 | 46 => 36 | 227 => 58 | 139 => 35 | 138 => 34 | n => n, fun | 0 => 6 | 6 => 7 | 3 => 0 | 4 => 1 | n => n⟩
theorem Tryd.lays163 : Go.Proofs.Lays.n163 Tryd.prog Tryd.lays163_ren := {
  mixed := by kernel_rfl
  f120 := Tryd.func26.trans (congrArg some (by kernel_rfl))
  f163 := Tryd.func12.trans (congrArg some (by kernel_rfl))
  f197 := Tryd.func22.trans (congrArg some (by kernel_rfl))
  f199 := Tryd.func16.trans (congrArg some (by kernel_rfl))
  f237 := Tryd.func15.trans (congrArg some (by kernel_rfl))
  f238 := Tryd.func17.trans (congrArg some (by kernel_rfl))
  f260 := Tryd.func25.trans (congrArg some (by kernel_rfl))
  f261 := Tryd.func14.trans (congrArg some (by kernel_rfl))
  f271 := Tryd.func24.trans (congrArg some (by kernel_rfl))
  f272 := Tryd.func20.trans (congrArg some (by kernel_rfl))
  f273 := Tryd.func21.trans (congrArg some (by kernel_rfl))
  f311 := Tryd.func18.trans (congrArg some (by kernel_rfl))
  f312 := Tryd.func19.trans (congrArg some (by kernel_rfl))
  f315 := Tryd.func23.trans (congrArg some (by kernel_rfl))
  t0 := Tryd.underlying0
  a0 := Tryd.isAgg0
  z0 := Tryd.sizeOf0
  v0 := Tryd.zeroValue0
  t3 := Tryd.underlying3
  a3 := Tryd.isAgg3
  z3 := Tryd.sizeOf3
  v3 := Tryd.zeroValue3
  t4 := Tryd.underlying4
  a4 := Tryd.isAgg4
  z4 := Tryd.sizeOf4
  v4 := Tryd.zeroValue4
  t5 := Tryd.underlying5
  a5 := Tryd.isAgg5
  z5 := Tryd.sizeOf5
  v5 := Tryd.zeroValue5
  t9 := Tryd.underlying9
  a9 := Tryd.isAgg9
  z9 := Tryd.sizeOf9
  v9 := Tryd.zeroValue9
  t21 := Tryd.underlying21
  a21 := Tryd.isAgg21
  z21 := Tryd.sizeOf21
  v21 := Tryd.zeroValue21
  t37 := Tryd.underlying40
  a37 := Tryd.isAgg40
  z37 := Tryd.sizeOf40
  v37 := Tryd.zeroValue40
  t40 := Tryd.underlying28
  a40 := Tryd.isAgg28
  z40 := Tryd.sizeOf28
  v40 := Tryd.zeroValue28
  t46 := Tryd.underlying36
  a46 := Tryd.isAgg36
  z46 := Tryd.sizeOf36
  v46 := Tryd.zeroValue36
  t49 := Tryd.underlying47
  a49 := Tryd.isAgg47
  z49 := Tryd.sizeOf47
  v49 := Tryd.zeroValue47
  t51 := Tryd.underlying37
  a51 := Tryd.isAgg37
  z51 := Tryd.sizeOf37
  v51 := Tryd.zeroValue37
  t105 := Tryd.underlying55
  a105 := Tryd.isAgg55
  z105 := Tryd.sizeOf55
  v105 := Tryd.zeroValue55
  t119 := Tryd.underlying32
  a119 := Tryd.isAgg32
  z119 := Tryd.sizeOf32
  t138 := Tryd.underlying34
  a138 := Tryd.isAgg34
  z138 := Tryd.sizeOf34
  v138 := Tryd.zeroValue34
  t139 := Tryd.underlying35
  a139 := Tryd.isAgg35
  z139 := Tryd.sizeOf35
  v139 := Tryd.zeroValue35
  t141 := Tryd.underlying39
  a141 := Tryd.isAgg39
  z141 := Tryd.sizeOf39
  v141 := Tryd.zeroValue39
  t193 := Tryd.underlying43
  a193 := Tryd.isAgg43
  z193 := Tryd.sizeOf43
  v193 := Tryd.zeroValue43
  t194 := Tryd.underlying44
  a194 := Tryd.isAgg44
  z194 := Tryd.sizeOf44
  v194 := Tryd.zeroValue44
  t196 := Tryd.underlying46
  a196 := Tryd.isAgg46
  z196 := Tryd.sizeOf46
  v196 := Tryd.zeroValue46
  t198 := Tryd.underlying49
  a198 := Tryd.isAgg49
  z198 := Tryd.sizeOf49
  v198 := Tryd.zeroValue49
  t201 := Tryd.underlying52
  a201 := Tryd.isAgg52
  z201 := Tryd.sizeOf52
  v201 := Tryd.zeroValue52
  t226 := Tryd.underlying57
  a226 := Tryd.isAgg57
  z226 := Tryd.sizeOf57
  v226 := Tryd.zeroValue57
  t227 := Tryd.underlying58
  a227 := Tryd.isAgg58
  z227 := Tryd.sizeOf58
  v227 := Tryd.zeroValue58
  g0 := by kernel_rfl
  g3 := by kernel_rfl
  g4 := by kernel_rfl
  g6 := by kernel_rfl }
theorem Tryd.Space_Extra_163 : Space.Extra Tryd.prog Tryd.lays163_ren := {
  gNamed := by kernel_rfl }
open Go.RowKit in
theorem Tryd.strings_TrimSpace (s : ByteArray) (w : World) (hs : s.size ≤ 9223372036854775807) (hascii : ∀ (j : Nat) b, s.data.toList[j]? = some b → b.toNat < 128) (htab : Lib.TabIs Tryd.prog w "strings.asciiSpace" .u8 Lib.asciiSpaceTab) :
    Calls Tryd.prog 12 #[.string s] w fun e w' => e = .returned (.string ⟨(Lib.trimSpace s.data.toList).toArray⟩) ∧ w' = Lib.bytesWorld w 5 s := Any.strings_TrimSpace Tryd.lays163 Tryd.Space_Extra_163 s w hs hascii htab
def Tryd.lays120_ren : Go.Shelf.Ren := ⟨fun | 120 => 26 | n => n, fun | 5 => 5 | 4 => 4 | n => n, fun | n => n⟩
theorem Tryd.lays120 : Go.Proofs.Lays.n120 Tryd.prog Tryd.lays120_ren := {
  mixed := by kernel_rfl
  f120 := Tryd.func26.trans (congrArg some (by kernel_rfl))
  t4 := Tryd.underlying4
  a4 := Tryd.isAgg4
  z4 := Tryd.sizeOf4
  v4 := Tryd.zeroValue4
  t5 := Tryd.underlying5
  a5 := Tryd.isAgg5
  z5 := Tryd.sizeOf5
  v5 := Tryd.zeroValue5 }
/-- utf8.RuneStart: "RuneStart reports whether the byte could be the first byte of an encoded, possibly invalid rune. Second and subsequent bytes always have the top two bits set to 10.": IT RETURNS 'Lib.runeStart b'; the world is as it was. ('h0', 'h1': b is a byte: a caller has it of every byte that it was handed.) (LAID: no walk: one application.) -/
theorem Tryd.utf8_RuneStart (b : Int) (w : World) (h0 : 0 ≤ b) (h1 : b < 256) :
    Calls Tryd.prog 26 #[.int .u8 b] w fun e w' => e = .returned (.bool (Lib.runeStart b)) ∧ w' = w := Any.utf8_RuneStart Tryd.lays120 b w h0 h1
def Tryd.lays315_ren : Go.Shelf.Ren := ⟨fun | 315 => 23 | n => n, fun | 9 => 9 | 40 => 28 | 4 => 4 | 3 => 3 | 0 => 0 | 21 => 21 | n => n, fun | n => n⟩
theorem Tryd.lays315 : Go.Proofs.Lays.n315 Tryd.prog Tryd.lays315_ren := {
  mixed := by kernel_rfl
  f315 := Tryd.func23.trans (congrArg some (by kernel_rfl))
  t0 := Tryd.underlying0
  a0 := Tryd.isAgg0
  z0 := Tryd.sizeOf0
  v0 := Tryd.zeroValue0
  t3 := Tryd.underlying3
  a3 := Tryd.isAgg3
  z3 := Tryd.sizeOf3
  v3 := Tryd.zeroValue3
  t4 := Tryd.underlying4
  a4 := Tryd.isAgg4
  z4 := Tryd.sizeOf4
  v4 := Tryd.zeroValue4
  t9 := Tryd.underlying9
  a9 := Tryd.isAgg9
  z9 := Tryd.sizeOf9
  v9 := Tryd.zeroValue9
  t21 := Tryd.underlying21
  a21 := Tryd.isAgg21
  z21 := Tryd.sizeOf21
  v21 := Tryd.zeroValue21
  t40 := Tryd.underlying28
  a40 := Tryd.isAgg28
  z40 := Tryd.sizeOf28
  v40 := Tryd.zeroValue28 }
open Go.RowKit Go.Lib in
theorem Tryd.strings_indexFunc (g : Nat) (lb : Array Value) (eg : ∀ args w, (callFunc g args).run Tryd.prog w = .ok (.enter g args) w) (p : Nat → Bool) (truth : Bool) (s : ByteArray) (w : World) (hp : PredAt Tryd.prog g lb encR p w) :
    Calls Tryd.prog 23 #[.string s, .func (.func g) #[] lb, .bool truth] w fun e w' => e = .returned (.int .i64 (Lib.idxFunc p truth s)) ∧ Below w.heap.size w w' := Any.strings_indexFunc Tryd.lays315 g lb eg p truth s w hp
def Tryd.lays273_ren : Go.Shelf.Ren := ⟨fun | 273 => 21 | 271 => 24 | 120 => 26 | 197 => 22 | 260 => 25 | n => n, fun | 9 => 9 | 40 => 28 | 4 => 4 | 3 => 3 | 105 => 55 | 21 => 21 | 5 => 5 | 119 => 32 | 0 => 0 | 46 => 36 | 139 => 35 | 138 => 34 | n => n, fun | 3 => 0 | 4 => 1 | n => n⟩
theorem Tryd.lays273 : Go.Proofs.Lays.n273 Tryd.prog Tryd.lays273_ren := {
  mixed := by kernel_rfl
  f120 := Tryd.func26.trans (congrArg some (by kernel_rfl))
  f197 := Tryd.func22.trans (congrArg some (by kernel_rfl))
  f260 := Tryd.func25.trans (congrArg some (by kernel_rfl))
  f271 := Tryd.func24.trans (congrArg some (by kernel_rfl))
  f273 := Tryd.func21.trans (congrArg some (by kernel_rfl))
  t0 := Tryd.underlying0
  a0 := Tryd.isAgg0
  z0 := Tryd.sizeOf0
  v0 := Tryd.zeroValue0
  t3 := Tryd.underlying3
  a3 := Tryd.isAgg3
  z3 := Tryd.sizeOf3
  v3 := Tryd.zeroValue3
  t4 := Tryd.underlying4
  a4 := Tryd.isAgg4
  z4 := Tryd.sizeOf4
  v4 := Tryd.zeroValue4
  t5 := Tryd.underlying5
  a5 := Tryd.isAgg5
  z5 := Tryd.sizeOf5
  v5 := Tryd.zeroValue5
  t9 := Tryd.underlying9
  a9 := Tryd.isAgg9
  z9 := Tryd.sizeOf9
  v9 := Tryd.zeroValue9
  t21 := Tryd.underlying21
  a21 := Tryd.isAgg21
  z21 := Tryd.sizeOf21
  v21 := Tryd.zeroValue21
  t40 := Tryd.underlying28
  a40 := Tryd.isAgg28
  z40 := Tryd.sizeOf28
  v40 := Tryd.zeroValue28
  t46 := Tryd.underlying36
  a46 := Tryd.isAgg36
  z46 := Tryd.sizeOf36
  v46 := Tryd.zeroValue36
  t105 := Tryd.underlying55
  a105 := Tryd.isAgg55
  z105 := Tryd.sizeOf55
  v105 := Tryd.zeroValue55
  t119 := Tryd.underlying32
  a119 := Tryd.isAgg32
  z119 := Tryd.sizeOf32
  t138 := Tryd.underlying34
  a138 := Tryd.isAgg34
  z138 := Tryd.sizeOf34
  v138 := Tryd.zeroValue34
  t139 := Tryd.underlying35
  a139 := Tryd.isAgg35
  z139 := Tryd.sizeOf35
  v139 := Tryd.zeroValue35
  g3 := by kernel_rfl
  g4 := by kernel_rfl }
open Go.RowKit Go.Lib in
theorem Tryd.strings_lastIndexFunc (g : Nat) (lb : Array Value) (eg : ∀ args w, (callFunc g args).run Tryd.prog w = .ok (.enter g args) w) (p : Nat → Bool) (truth : Bool) (s : ByteArray) (w : World) (hs : s.size ≤ 9223372036854775807) (hT : Lib.Utf8Tabs 0 1 w) (hp : PredAt Tryd.prog g lb encR p w) :
    Calls Tryd.prog 21 #[.string s, .func (.func g) #[] lb, .bool truth] w fun e w' => e = .returned (.int .i64 (Lib.lastIdxFunc p truth s)) ∧ Below w.heap.size w w' := Any.strings_lastIndexFunc Tryd.lays273 g lb eg p truth s w hs hT hp
def Tryd.lays272_ren : Go.Shelf.Ren := ⟨fun | 272 => 20 | 315 => 23 | n => n, fun | 9 => 9 | 40 => 28 | 4 => 4 | 3 => 3 | 0 => 0 | 21 => 21 | n => n, fun | n => n⟩
theorem Tryd.lays272 : Go.Proofs.Lays.n272 Tryd.prog Tryd.lays272_ren := {
  mixed := by kernel_rfl
  f272 := Tryd.func20.trans (congrArg some (by kernel_rfl))
  f315 := Tryd.func23.trans (congrArg some (by kernel_rfl))
  t0 := Tryd.underlying0
  a0 := Tryd.isAgg0
  z0 := Tryd.sizeOf0
  v0 := Tryd.zeroValue0
  t3 := Tryd.underlying3
  a3 := Tryd.isAgg3
  z3 := Tryd.sizeOf3
  v3 := Tryd.zeroValue3
  t4 := Tryd.underlying4
  a4 := Tryd.isAgg4
  z4 := Tryd.sizeOf4
  v4 := Tryd.zeroValue4
  t9 := Tryd.underlying9
  a9 := Tryd.isAgg9
  z9 := Tryd.sizeOf9
  v9 := Tryd.zeroValue9
  t21 := Tryd.underlying21
  a21 := Tryd.isAgg21
  z21 := Tryd.sizeOf21
  v21 := Tryd.zeroValue21
  t40 := Tryd.underlying28
  a40 := Tryd.isAgg28
  z40 := Tryd.sizeOf28
  v40 := Tryd.zeroValue28 }
open Go.RowKit Go.Lib in
theorem Tryd.strings_TrimLeftFunc (g : Nat) (lb : Array Value) (eg : ∀ args w, (callFunc g args).run Tryd.prog w = .ok (.enter g args) w) (p : Nat → Bool) (s : ByteArray) (w : World) (hp : PredAt Tryd.prog g lb encR p w) :
    Calls Tryd.prog 20 #[.string s, .func (.func g) #[] lb] w fun e w' => e = .returned (.string (Lib.trimLeftF p s)) ∧ Below w.heap.size w w' := Any.strings_TrimLeftFunc Tryd.lays272 g lb eg p s w hp
def Tryd.lays238_ren : Go.Shelf.Ren := ⟨fun | 238 => 17 | 273 => 21 | 197 => 22 | 271 => 24 | 260 => 25 | 120 => 26 | n => n, fun | 9 => 9 | 40 => 28 | 4 => 4 | 3 => 3 | 105 => 55 | 21 => 21 | 5 => 5 | 119 => 32 | 0 => 0 | 46 => 36 | 139 => 35 | 138 => 34 | n => n, fun | 3 => 0 | 4 => 1 | n => n⟩
theorem Tryd.lays238 : Go.Proofs.Lays.n238 Tryd.prog Tryd.lays238_ren := {
  mixed := by kernel_rfl
  f120 := Tryd.func26.trans (congrArg some (by kernel_rfl))
  f197 := Tryd.func22.trans (congrArg some (by kernel_rfl))
  f238 := Tryd.func17.trans (congrArg some (by kernel_rfl))
  f260 := Tryd.func25.trans (congrArg some (by kernel_rfl))
  f271 := Tryd.func24.trans (congrArg some (by kernel_rfl))
  f273 := Tryd.func21.trans (congrArg some (by kernel_rfl))
  t0 := Tryd.underlying0
  a0 := Tryd.isAgg0
  z0 := Tryd.sizeOf0
  v0 := Tryd.zeroValue0
  t3 := Tryd.underlying3
  a3 := Tryd.isAgg3
  z3 := Tryd.sizeOf3
  v3 := Tryd.zeroValue3
  t4 := Tryd.underlying4
  a4 := Tryd.isAgg4
  z4 := Tryd.sizeOf4
  v4 := Tryd.zeroValue4
  t5 := Tryd.underlying5
  a5 := Tryd.isAgg5
  z5 := Tryd.sizeOf5
  v5 := Tryd.zeroValue5
  t9 := Tryd.underlying9
  a9 := Tryd.isAgg9
  z9 := Tryd.sizeOf9
  v9 := Tryd.zeroValue9
  t21 := Tryd.underlying21
  a21 := Tryd.isAgg21
  z21 := Tryd.sizeOf21
  v21 := Tryd.zeroValue21
  t40 := Tryd.underlying28
  a40 := Tryd.isAgg28
  z40 := Tryd.sizeOf28
  v40 := Tryd.zeroValue28
  t46 := Tryd.underlying36
  a46 := Tryd.isAgg36
  z46 := Tryd.sizeOf36
  v46 := Tryd.zeroValue36
  t105 := Tryd.underlying55
  a105 := Tryd.isAgg55
  z105 := Tryd.sizeOf55
  v105 := Tryd.zeroValue55
  t119 := Tryd.underlying32
  a119 := Tryd.isAgg32
  z119 := Tryd.sizeOf32
  t138 := Tryd.underlying34
  a138 := Tryd.isAgg34
  z138 := Tryd.sizeOf34
  v138 := Tryd.zeroValue34
  t139 := Tryd.underlying35
  a139 := Tryd.isAgg35
  z139 := Tryd.sizeOf35
  v139 := Tryd.zeroValue35
  g3 := by kernel_rfl
  g4 := by kernel_rfl }
open Go.RowKit Go.Lib in
theorem Tryd.strings_TrimRightFunc (g : Nat) (lb : Array Value) (eg : ∀ args w, (callFunc g args).run Tryd.prog w = .ok (.enter g args) w) (p : Nat → Bool) (s : ByteArray) (w : World) (hs : s.size ≤ 9223372036854775807) (hT : Lib.Utf8Tabs 0 1 w) (hp : PredAt Tryd.prog g lb encR p w) :
    Calls Tryd.prog 17 #[.string s, .func (.func g) #[] lb] w fun e w' => e = .returned (.string (Lib.trimRightF p s)) ∧ Below w.heap.size w w' := Any.strings_TrimRightFunc Tryd.lays238 g lb eg p s w hs hT hp
def Tryd.lays237_ren : Go.Shelf.Ren := ⟨fun | 237 => 15 | 272 => 20 | 238 => 17 | 315 => 23 | 273 => 21 | 197 => 22 | 271 => 24 | 260 => 25 | 120 => 26 | n => n, fun | 9 => 9 | 40 => 28 | 4 => 4 | 3 => 3 | 105 => 55 | 21 => 21 | 0 => 0 | 5 => 5 | 119 => 32 | 46 => 36 | 139 => 35 | 138 => 34 | n => n, fun | 3 => 0 | 4 => 1 | n => n⟩
theorem Tryd.lays237 : Go.Proofs.Lays.n237 Tryd.prog Tryd.lays237_ren := {
  mixed := by kernel_rfl
  f120 := Tryd.func26.trans (congrArg some (by kernel_rfl))
  f197 := Tryd.func22.trans (congrArg some (by kernel_rfl))
  f237 := Tryd.func15.trans (congrArg some (by kernel_rfl))
  f238 := Tryd.func17.trans (congrArg some (by kernel_rfl))
  f260 := Tryd.func25.trans (congrArg some (by kernel_rfl))
  f271 := Tryd.func24.trans (congrArg some (by kernel_rfl))
  f272 := Tryd.func20.trans (congrArg some (by kernel_rfl))
  f273 := Tryd.func21.trans (congrArg some (by kernel_rfl))
  f315 := Tryd.func23.trans (congrArg some (by kernel_rfl))
  t0 := Tryd.underlying0
  a0 := Tryd.isAgg0
  z0 := Tryd.sizeOf0
  v0 := Tryd.zeroValue0
  t3 := Tryd.underlying3
  a3 := Tryd.isAgg3
  z3 := Tryd.sizeOf3
  v3 := Tryd.zeroValue3
  t4 := Tryd.underlying4
  a4 := Tryd.isAgg4
  z4 := Tryd.sizeOf4
  v4 := Tryd.zeroValue4
  t5 := Tryd.underlying5
  a5 := Tryd.isAgg5
  z5 := Tryd.sizeOf5
  v5 := Tryd.zeroValue5
  t9 := Tryd.underlying9
  a9 := Tryd.isAgg9
  z9 := Tryd.sizeOf9
  v9 := Tryd.zeroValue9
  t21 := Tryd.underlying21
  a21 := Tryd.isAgg21
  z21 := Tryd.sizeOf21
  v21 := Tryd.zeroValue21
  t40 := Tryd.underlying28
  a40 := Tryd.isAgg28
  z40 := Tryd.sizeOf28
  v40 := Tryd.zeroValue28
  t46 := Tryd.underlying36
  a46 := Tryd.isAgg36
  z46 := Tryd.sizeOf36
  v46 := Tryd.zeroValue36
  t105 := Tryd.underlying55
  a105 := Tryd.isAgg55
  z105 := Tryd.sizeOf55
  v105 := Tryd.zeroValue55
  t119 := Tryd.underlying32
  a119 := Tryd.isAgg32
  z119 := Tryd.sizeOf32
  t138 := Tryd.underlying34
  a138 := Tryd.isAgg34
  z138 := Tryd.sizeOf34
  v138 := Tryd.zeroValue34
  t139 := Tryd.underlying35
  a139 := Tryd.isAgg35
  z139 := Tryd.sizeOf35
  v139 := Tryd.zeroValue35
  g3 := by kernel_rfl
  g4 := by kernel_rfl }
open Go.RowKit Go.Lib in
/-- **strings.TrimFunc(s, f) AT EVERY STRING, AT WHATEVER FUNCTION VALUE.** (LAID: no walk: one application.) -/
theorem Tryd.strings_TrimFunc (g : Nat) (lb : Array Value) (eg : ∀ args w, (callFunc g args).run Tryd.prog w = .ok (.enter g args) w) (p : Nat → Bool) (s : ByteArray) (w : World) (hs : s.size ≤ 9223372036854775807) (hT : Lib.Utf8Tabs 0 1 w) (hp : PredAt Tryd.prog g lb encR p w) :
    Calls Tryd.prog 15 #[.string s, .func (.func g) #[] lb] w fun e w' => e = .returned (.string (Lib.trimF p s)) ∧ Below w.heap.size w w' := Any.strings_TrimFunc Tryd.lays237 g lb eg p s w hs hT hp
open Go.RowKit Go.Lib in
theorem Tryd.strings_indexFunc_runes (g : Nat) (lb : Array Value) (eg : ∀ args w, (callFunc g args).run Tryd.prog w = .ok (.enter g args) w) (p : Nat → Bool) (truth : Bool) (s : ByteArray) (w : World) (hp : PredAtRunes Tryd.prog g lb p w) :
    Calls Tryd.prog 23 #[.string s, .func (.func g) #[] lb, .bool truth] w fun e w' => e = .returned (.int .i64 (Lib.idxFunc p truth s)) ∧ Below w.heap.size w w' := Any.strings_indexFunc_runes Tryd.lays315 g lb eg p truth s w hp
open Go.RowKit Go.Lib in
theorem Tryd.strings_lastIndexFunc_runes (g : Nat) (lb : Array Value) (eg : ∀ args w, (callFunc g args).run Tryd.prog w = .ok (.enter g args) w) (p : Nat → Bool) (truth : Bool) (s : ByteArray) (w : World) (hs : s.size ≤ 9223372036854775807) (hT : Lib.Utf8Tabs 0 1 w) (hp : PredAtRunes Tryd.prog g lb p w) :
    Calls Tryd.prog 21 #[.string s, .func (.func g) #[] lb, .bool truth] w fun e w' => e = .returned (.int .i64 (Lib.lastIdxFunc p truth s)) ∧ Below w.heap.size w w' := Any.strings_lastIndexFunc_runes Tryd.lays273 g lb eg p truth s w hs hT hp
open Go.RowKit Go.Lib in
theorem Tryd.strings_TrimLeftFunc_runes (g : Nat) (lb : Array Value) (eg : ∀ args w, (callFunc g args).run Tryd.prog w = .ok (.enter g args) w) (p : Nat → Bool) (s : ByteArray) (w : World) (hp : PredAtRunes Tryd.prog g lb p w) :
    Calls Tryd.prog 20 #[.string s, .func (.func g) #[] lb] w fun e w' => e = .returned (.string (Lib.trimLeftF p s)) ∧ Below w.heap.size w w' := Any.strings_TrimLeftFunc_runes Tryd.lays272 g lb eg p s w hp
open Go.RowKit Go.Lib in
theorem Tryd.strings_TrimRightFunc_runes (g : Nat) (lb : Array Value) (eg : ∀ args w, (callFunc g args).run Tryd.prog w = .ok (.enter g args) w) (p : Nat → Bool) (s : ByteArray) (w : World) (hs : s.size ≤ 9223372036854775807) (hT : Lib.Utf8Tabs 0 1 w) (hp : PredAtRunes Tryd.prog g lb p w) :
    Calls Tryd.prog 17 #[.string s, .func (.func g) #[] lb] w fun e w' => e = .returned (.string (Lib.trimRightF p s)) ∧ Below w.heap.size w w' := Any.strings_TrimRightFunc_runes Tryd.lays238 g lb eg p s w hs hT hp
open Go.RowKit Go.Lib in
/-- **strings.TrimFunc(s, f) AT EVERY STRING, AT WHATEVER FUNCTION VALUE.** (LAID: no walk: one application.) -/
theorem Tryd.strings_TrimFunc_runes (g : Nat) (lb : Array Value) (eg : ∀ args w, (callFunc g args).run Tryd.prog w = .ok (.enter g args) w) (p : Nat → Bool) (s : ByteArray) (w : World) (hs : s.size ≤ 9223372036854775807) (hT : Lib.Utf8Tabs 0 1 w) (hp : PredAtRunes Tryd.prog g lb p w) :
    Calls Tryd.prog 15 #[.string s, .func (.func g) #[] lb] w fun e w' => e = .returned (.string (Lib.trimF p s)) ∧ Below w.heap.size w w' := Any.strings_TrimFunc_runes Tryd.lays237 g lb eg p s w hs hT hp
def Tryd.lays198_ren : Go.Shelf.Ren := ⟨fun | 198 => 11 | 261 => 14 | 311 => 18 | 312 => 19 | n => n, fun | 21 => 21 | 4 => 4 | 141 => 39 | 0 => 0 | 196 => 46 | 193 => 43 | 3 => 3 | 51 => 37 | 198 => 49 | 49 => 47 | 194 => 44 | 201 => 52 | 226 => 57 | 46 => 36 | 227 => 58 | n => n, fun | 5 => 5 | n => n⟩
theorem Tryd.lays198 : Go.Proofs.Lays.n198 Tryd.prog Tryd.lays198_ren := {
  mixed := by kernel_rfl
  f198 := Tryd.func11.trans (congrArg some (by kernel_rfl))
  f261 := Tryd.func14.trans (congrArg some (by kernel_rfl))
  f311 := Tryd.func18.trans (congrArg some (by kernel_rfl))
  f312 := Tryd.func19.trans (congrArg some (by kernel_rfl))
  t0 := Tryd.underlying0
  a0 := Tryd.isAgg0
  z0 := Tryd.sizeOf0
  v0 := Tryd.zeroValue0
  t3 := Tryd.underlying3
  a3 := Tryd.isAgg3
  z3 := Tryd.sizeOf3
  v3 := Tryd.zeroValue3
  t4 := Tryd.underlying4
  a4 := Tryd.isAgg4
  z4 := Tryd.sizeOf4
  v4 := Tryd.zeroValue4
  t21 := Tryd.underlying21
  a21 := Tryd.isAgg21
  z21 := Tryd.sizeOf21
  v21 := Tryd.zeroValue21
  t46 := Tryd.underlying36
  a46 := Tryd.isAgg36
  z46 := Tryd.sizeOf36
  v46 := Tryd.zeroValue36
  t49 := Tryd.underlying47
  a49 := Tryd.isAgg47
  z49 := Tryd.sizeOf47
  v49 := Tryd.zeroValue47
  t51 := Tryd.underlying37
  a51 := Tryd.isAgg37
  z51 := Tryd.sizeOf37
  v51 := Tryd.zeroValue37
  t141 := Tryd.underlying39
  a141 := Tryd.isAgg39
  z141 := Tryd.sizeOf39
  v141 := Tryd.zeroValue39
  t193 := Tryd.underlying43
  a193 := Tryd.isAgg43
  z193 := Tryd.sizeOf43
  v193 := Tryd.zeroValue43
  t194 := Tryd.underlying44
  a194 := Tryd.isAgg44
  z194 := Tryd.sizeOf44
  v194 := Tryd.zeroValue44
  t196 := Tryd.underlying46
  a196 := Tryd.isAgg46
  z196 := Tryd.sizeOf46
  v196 := Tryd.zeroValue46
  t198 := Tryd.underlying49
  a198 := Tryd.isAgg49
  z198 := Tryd.sizeOf49
  v198 := Tryd.zeroValue49
  t201 := Tryd.underlying52
  a201 := Tryd.isAgg52
  z201 := Tryd.sizeOf52
  v201 := Tryd.zeroValue52
  t226 := Tryd.underlying57
  a226 := Tryd.isAgg57
  z226 := Tryd.sizeOf57
  v226 := Tryd.zeroValue57
  t227 := Tryd.underlying58
  a227 := Tryd.isAgg58
  z227 := Tryd.sizeOf58
  v227 := Tryd.zeroValue58
  g5 := by kernel_rfl }
open Go.RowKit Go.Lib in
theorem Tryd.unicode_IsDigit (r : Int) (w : World) (h : r ≤ 255) :
    Calls Tryd.prog 11 #[.int .i32 r] w fun e w' => e = .returned (.bool (Lib.isDigitL r)) ∧ w' = w := Any.unicode_IsDigit Tryd.lays198 r w h
def Tryd.lays199_ren : Go.Shelf.Ren := ⟨fun | 199 => 16 | 261 => 14 | 311 => 18 | 312 => 19 | n => n, fun | 21 => 21 | 4 => 4 | 51 => 37 | 141 => 39 | 0 => 0 | 196 => 46 | 193 => 43 | 3 => 3 | 198 => 49 | 49 => 47 | 194 => 44 | 201 => 52 | 226 => 57 | 46 => 36 | 227 => 58 | n => n, fun | 6 => 7 | n => n⟩
theorem Tryd.lays199 : Go.Proofs.Lays.n199 Tryd.prog Tryd.lays199_ren := {
  mixed := by kernel_rfl
  f199 := Tryd.func16.trans (congrArg some (by kernel_rfl))
  f261 := Tryd.func14.trans (congrArg some (by kernel_rfl))
  f311 := Tryd.func18.trans (congrArg some (by kernel_rfl))
  f312 := Tryd.func19.trans (congrArg some (by kernel_rfl))
  t0 := Tryd.underlying0
  a0 := Tryd.isAgg0
  z0 := Tryd.sizeOf0
  v0 := Tryd.zeroValue0
  t3 := Tryd.underlying3
  a3 := Tryd.isAgg3
  z3 := Tryd.sizeOf3
  v3 := Tryd.zeroValue3
  t4 := Tryd.underlying4
  a4 := Tryd.isAgg4
  z4 := Tryd.sizeOf4
  v4 := Tryd.zeroValue4
  t21 := Tryd.underlying21
  a21 := Tryd.isAgg21
  z21 := Tryd.sizeOf21
  v21 := Tryd.zeroValue21
  t46 := Tryd.underlying36
  a46 := Tryd.isAgg36
  z46 := Tryd.sizeOf36
  v46 := Tryd.zeroValue36
  t49 := Tryd.underlying47
  a49 := Tryd.isAgg47
  z49 := Tryd.sizeOf47
  v49 := Tryd.zeroValue47
  t51 := Tryd.underlying37
  a51 := Tryd.isAgg37
  z51 := Tryd.sizeOf37
  v51 := Tryd.zeroValue37
  t141 := Tryd.underlying39
  a141 := Tryd.isAgg39
  z141 := Tryd.sizeOf39
  v141 := Tryd.zeroValue39
  t193 := Tryd.underlying43
  a193 := Tryd.isAgg43
  z193 := Tryd.sizeOf43
  v193 := Tryd.zeroValue43
  t194 := Tryd.underlying44
  a194 := Tryd.isAgg44
  z194 := Tryd.sizeOf44
  v194 := Tryd.zeroValue44
  t196 := Tryd.underlying46
  a196 := Tryd.isAgg46
  z196 := Tryd.sizeOf46
  v196 := Tryd.zeroValue46
  t198 := Tryd.underlying49
  a198 := Tryd.isAgg49
  z198 := Tryd.sizeOf49
  v198 := Tryd.zeroValue49
  t201 := Tryd.underlying52
  a201 := Tryd.isAgg52
  z201 := Tryd.sizeOf52
  v201 := Tryd.zeroValue52
  t226 := Tryd.underlying57
  a226 := Tryd.isAgg57
  z226 := Tryd.sizeOf57
  v226 := Tryd.zeroValue57
  t227 := Tryd.underlying58
  a227 := Tryd.isAgg58
  z227 := Tryd.sizeOf58
  v227 := Tryd.zeroValue58
  g6 := by kernel_rfl }
open Go.RowKit Go.Lib in
theorem Tryd.unicode_IsSpace (r : Int) (w : World) (h0 : 0 ≤ r) (h : r ≤ 255) :
    Calls Tryd.prog 16 #[.int .i32 r] w fun e w' => e = .returned (.bool (Lib.isSpaceL r)) ∧ w' = w := Any.unicode_IsSpace Tryd.lays199 r w h0 h
def Tryd.lays201_ren : Go.Shelf.Ren := ⟨fun | 201 => 10 | 261 => 14 | 311 => 18 | 312 => 19 | n => n, fun | 21 => 21 | 4 => 4 | 51 => 37 | 5 => 5 | 119 => 32 | 0 => 0 | 141 => 39 | 196 => 46 | 193 => 43 | 3 => 3 | 198 => 49 | 49 => 47 | 194 => 44 | 201 => 52 | 226 => 57 | 46 => 36 | 227 => 58 | n => n, fun | 7 => 2 | 9 => 4 | n => n⟩
theorem Tryd.lays201 : Go.Proofs.Lays.n201 Tryd.prog Tryd.lays201_ren := {
  mixed := by kernel_rfl
  f201 := Tryd.func10.trans (congrArg some (by kernel_rfl))
  f261 := Tryd.func14.trans (congrArg some (by kernel_rfl))
  f311 := Tryd.func18.trans (congrArg some (by kernel_rfl))
  f312 := Tryd.func19.trans (congrArg some (by kernel_rfl))
  t0 := Tryd.underlying0
  a0 := Tryd.isAgg0
  z0 := Tryd.sizeOf0
  v0 := Tryd.zeroValue0
  t3 := Tryd.underlying3
  a3 := Tryd.isAgg3
  z3 := Tryd.sizeOf3
  v3 := Tryd.zeroValue3
  t4 := Tryd.underlying4
  a4 := Tryd.isAgg4
  z4 := Tryd.sizeOf4
  v4 := Tryd.zeroValue4
  t5 := Tryd.underlying5
  a5 := Tryd.isAgg5
  z5 := Tryd.sizeOf5
  v5 := Tryd.zeroValue5
  t21 := Tryd.underlying21
  a21 := Tryd.isAgg21
  z21 := Tryd.sizeOf21
  v21 := Tryd.zeroValue21
  t46 := Tryd.underlying36
  a46 := Tryd.isAgg36
  z46 := Tryd.sizeOf36
  v46 := Tryd.zeroValue36
  t49 := Tryd.underlying47
  a49 := Tryd.isAgg47
  z49 := Tryd.sizeOf47
  v49 := Tryd.zeroValue47
  t51 := Tryd.underlying37
  a51 := Tryd.isAgg37
  z51 := Tryd.sizeOf37
  v51 := Tryd.zeroValue37
  t119 := Tryd.underlying32
  a119 := Tryd.isAgg32
  z119 := Tryd.sizeOf32
  t141 := Tryd.underlying39
  a141 := Tryd.isAgg39
  z141 := Tryd.sizeOf39
  v141 := Tryd.zeroValue39
  t193 := Tryd.underlying43
  a193 := Tryd.isAgg43
  z193 := Tryd.sizeOf43
  v193 := Tryd.zeroValue43
  t194 := Tryd.underlying44
  a194 := Tryd.isAgg44
  z194 := Tryd.sizeOf44
  v194 := Tryd.zeroValue44
  t196 := Tryd.underlying46
  a196 := Tryd.isAgg46
  z196 := Tryd.sizeOf46
  v196 := Tryd.zeroValue46
  t198 := Tryd.underlying49
  a198 := Tryd.isAgg49
  z198 := Tryd.sizeOf49
  v198 := Tryd.zeroValue49
  t201 := Tryd.underlying52
  a201 := Tryd.isAgg52
  z201 := Tryd.sizeOf52
  v201 := Tryd.zeroValue52
  t226 := Tryd.underlying57
  a226 := Tryd.isAgg57
  z226 := Tryd.sizeOf57
  v226 := Tryd.zeroValue57
  t227 := Tryd.underlying58
  a227 := Tryd.isAgg58
  z227 := Tryd.sizeOf58
  v227 := Tryd.zeroValue58
  g7 := by kernel_rfl
  g9 := by kernel_rfl }
open Go.RowKit Go.Lib in
theorem Tryd.unicode_IsUpper (c : Nat) (w : World) (hc : c < 256) (htab : Lib.TabIs Tryd.prog w "unicode.properties" .u8 Lib.propertiesTab) :
    Calls Tryd.prog 10 #[.int .i32 c] w fun e w' => e = .returned (.bool (Lib.isUpperL c)) ∧ w' = w := Any.unicode_IsUpper Tryd.lays201 (by kernel_rfl) c w hc htab
def Tryd.lays202_ren : Go.Shelf.Ren := ⟨fun | 202 => 9 | 261 => 14 | 311 => 18 | 312 => 19 | n => n, fun | 21 => 21 | 4 => 4 | 51 => 37 | 5 => 5 | 119 => 32 | 0 => 0 | 141 => 39 | 196 => 46 | 193 => 43 | 3 => 3 | 198 => 49 | 49 => 47 | 194 => 44 | 201 => 52 | 226 => 57 | 46 => 36 | 227 => 58 | n => n, fun | 7 => 2 | 10 => 3 | n => n⟩
theorem Tryd.lays202 : Go.Proofs.Lays.n202 Tryd.prog Tryd.lays202_ren := {
  mixed := by kernel_rfl
  f202 := Tryd.func9.trans (congrArg some (by kernel_rfl))
  f261 := Tryd.func14.trans (congrArg some (by kernel_rfl))
  f311 := Tryd.func18.trans (congrArg some (by kernel_rfl))
  f312 := Tryd.func19.trans (congrArg some (by kernel_rfl))
  t0 := Tryd.underlying0
  a0 := Tryd.isAgg0
  z0 := Tryd.sizeOf0
  v0 := Tryd.zeroValue0
  t3 := Tryd.underlying3
  a3 := Tryd.isAgg3
  z3 := Tryd.sizeOf3
  v3 := Tryd.zeroValue3
  t4 := Tryd.underlying4
  a4 := Tryd.isAgg4
  z4 := Tryd.sizeOf4
  v4 := Tryd.zeroValue4
  t5 := Tryd.underlying5
  a5 := Tryd.isAgg5
  z5 := Tryd.sizeOf5
  v5 := Tryd.zeroValue5
  t21 := Tryd.underlying21
  a21 := Tryd.isAgg21
  z21 := Tryd.sizeOf21
  v21 := Tryd.zeroValue21
  t46 := Tryd.underlying36
  a46 := Tryd.isAgg36
  z46 := Tryd.sizeOf36
  v46 := Tryd.zeroValue36
  t49 := Tryd.underlying47
  a49 := Tryd.isAgg47
  z49 := Tryd.sizeOf47
  v49 := Tryd.zeroValue47
  t51 := Tryd.underlying37
  a51 := Tryd.isAgg37
  z51 := Tryd.sizeOf37
  v51 := Tryd.zeroValue37
  t119 := Tryd.underlying32
  a119 := Tryd.isAgg32
  z119 := Tryd.sizeOf32
  t141 := Tryd.underlying39
  a141 := Tryd.isAgg39
  z141 := Tryd.sizeOf39
  v141 := Tryd.zeroValue39
  t193 := Tryd.underlying43
  a193 := Tryd.isAgg43
  z193 := Tryd.sizeOf43
  v193 := Tryd.zeroValue43
  t194 := Tryd.underlying44
  a194 := Tryd.isAgg44
  z194 := Tryd.sizeOf44
  v194 := Tryd.zeroValue44
  t196 := Tryd.underlying46
  a196 := Tryd.isAgg46
  z196 := Tryd.sizeOf46
  v196 := Tryd.zeroValue46
  t198 := Tryd.underlying49
  a198 := Tryd.isAgg49
  z198 := Tryd.sizeOf49
  v198 := Tryd.zeroValue49
  t201 := Tryd.underlying52
  a201 := Tryd.isAgg52
  z201 := Tryd.sizeOf52
  v201 := Tryd.zeroValue52
  t226 := Tryd.underlying57
  a226 := Tryd.isAgg57
  z226 := Tryd.sizeOf57
  v226 := Tryd.zeroValue57
  t227 := Tryd.underlying58
  a227 := Tryd.isAgg58
  z227 := Tryd.sizeOf58
  v227 := Tryd.zeroValue58
  g7 := by kernel_rfl
  g10 := by kernel_rfl }
open Go.RowKit Go.Lib in
theorem Tryd.unicode_IsLower (c : Nat) (w : World) (hc : c < 256) (htab : Lib.TabIs Tryd.prog w "unicode.properties" .u8 Lib.propertiesTab) :
    Calls Tryd.prog 9 #[.int .i32 c] w fun e w' => e = .returned (.bool (Lib.isLowerL c)) ∧ w' = w := Any.unicode_IsLower Tryd.lays202 (by kernel_rfl) c w hc htab
def Tryd.laysM201_ren : Go.Shelf.Ren := ⟨fun | 201 => 10 | 261 => 14 | 311 => 18 | 312 => 19 | n => n, fun | 21 => 21 | 4 => 4 | 51 => 37 | 5 => 5 | 119 => 32 | 0 => 0 | 141 => 39 | 196 => 46 | 193 => 43 | 3 => 3 | 198 => 49 | 49 => 47 | 194 => 44 | 201 => 52 | 226 => 57 | 46 => 36 | 227 => 58 | n => n, fun | 7 => 2 | 9 => 4 | n => n⟩
theorem Tryd.laysM201 : Go.Proofs.LaysM.n201 Tryd.prog Tryd.laysM201_ren := {
  mixed := by kernel_rfl
  f201 := Tryd.func10.trans (congrArg some (by kernel_rfl))
  f261 := Tryd.func14.trans (congrArg some (by kernel_rfl))
  f311 := Tryd.func18.trans (congrArg some (by kernel_rfl))
  f312 := Tryd.func19.trans (congrArg some (by kernel_rfl))
  t0 := Tryd.underlying0
  a0 := Tryd.isAgg0
  z0 := Tryd.sizeOf0
  v0 := Tryd.zeroValue0
  t3 := Tryd.underlying3
  a3 := Tryd.isAgg3
  z3 := Tryd.sizeOf3
  v3 := Tryd.zeroValue3
  t4 := Tryd.underlying4
  a4 := Tryd.isAgg4
  z4 := Tryd.sizeOf4
  v4 := Tryd.zeroValue4
  t5 := Tryd.underlying5
  a5 := Tryd.isAgg5
  z5 := Tryd.sizeOf5
  v5 := Tryd.zeroValue5
  t21 := Tryd.underlying21
  a21 := Tryd.isAgg21
  z21 := Tryd.sizeOf21
  v21 := Tryd.zeroValue21
  t46 := Tryd.underlying36
  a46 := Tryd.isAgg36
  z46 := Tryd.sizeOf36
  v46 := Tryd.zeroValue36
  t49 := Tryd.underlying47
  a49 := Tryd.isAgg47
  z49 := Tryd.sizeOf47
  v49 := Tryd.zeroValue47
  t51 := Tryd.underlying37
  a51 := Tryd.isAgg37
  z51 := Tryd.sizeOf37
  v51 := Tryd.zeroValue37
  t119 := Tryd.underlying32
  a119 := Tryd.isAgg32
  z119 := Tryd.sizeOf32
  t141 := Tryd.underlying39
  a141 := Tryd.isAgg39
  z141 := Tryd.sizeOf39
  v141 := Tryd.zeroValue39
  t193 := Tryd.underlying43
  a193 := Tryd.isAgg43
  z193 := Tryd.sizeOf43
  v193 := Tryd.zeroValue43
  t194 := Tryd.underlying44
  a194 := Tryd.isAgg44
  z194 := Tryd.sizeOf44
  v194 := Tryd.zeroValue44
  t196 := Tryd.underlying46
  a196 := Tryd.isAgg46
  z196 := Tryd.sizeOf46
  v196 := Tryd.zeroValue46
  t198 := Tryd.underlying49
  a198 := Tryd.isAgg49
  z198 := Tryd.sizeOf49
  v198 := Tryd.zeroValue49
  t201 := Tryd.underlying52
  a201 := Tryd.isAgg52
  z201 := Tryd.sizeOf52
  v201 := Tryd.zeroValue52
  t226 := Tryd.underlying57
  a226 := Tryd.isAgg57
  z226 := Tryd.sizeOf57
  v226 := Tryd.zeroValue57
  t227 := Tryd.underlying58
  a227 := Tryd.isAgg58
  z227 := Tryd.sizeOf58
  v227 := Tryd.zeroValue58
  g7 := by kernel_rfl
  g9 := by kernel_rfl
  i0 := by kernel_rfl
  i3 := by kernel_rfl
  i4 := by kernel_rfl
  i5 := by kernel_rfl
  i21 := by kernel_rfl
  i46 := by kernel_rfl
  i49 := by kernel_rfl
  i51 := by kernel_rfl
  i141 := by kernel_rfl
  i193 := by kernel_rfl
  i194 := by kernel_rfl
  i196 := by kernel_rfl
  i198 := by kernel_rfl
  i201 := by kernel_rfl
  i226 := by kernel_rfl
  i227 := by kernel_rfl
  m7 := by kernel_rfl
  m9 := by kernel_rfl }
open Go.RowKit Go.Lib in
theorem Tryd.unicode_IsUpper_laid (c : Nat) (w : World) (hc : c < 256) (htab : Lib.TabIs Tryd.prog w "unicode.properties" .u8 Lib.propertiesTab) :
    Calls Tryd.prog 10 #[.int .i32 c] w fun e w' => e = .returned (.bool (Lib.isUpperL c)) ∧ w' = w := Any.unicode_IsUpper_laid Tryd.laysM201 c w hc htab
def Tryd.laysM202_ren : Go.Shelf.Ren := ⟨fun | 202 => 9 | 261 => 14 | 311 => 18 | 312 => 19 | n => n, fun | 21 => 21 | 4 => 4 | 51 => 37 | 5 => 5 | 119 => 32 | 0 => 0 | 141 => 39 | 196 => 46 | 193 => 43 | 3 => 3 | 198 => 49 | 49 => 47 | 194 => 44 | 201 => 52 | 226 => 57 | 46 => 36 | 227 => 58 | n => n, fun | 7 => 2 | 10 => 3 | n => n⟩
theorem Tryd.laysM202 : Go.Proofs.LaysM.n202 Tryd.prog Tryd.laysM202_ren := {
  mixed := by kernel_rfl
  f202 := Tryd.func9.trans (congrArg some (by kernel_rfl))
  f261 := Tryd.func14.trans (congrArg some (by kernel_rfl))
  f311 := Tryd.func18.trans (congrArg some (by kernel_rfl))
  f312 := Tryd.func19.trans (congrArg some (by kernel_rfl))
  t0 := Tryd.underlying0
  a0 := Tryd.isAgg0
  z0 := Tryd.sizeOf0
  v0 := Tryd.zeroValue0
  t3 := Tryd.underlying3
  a3 := Tryd.isAgg3
  z3 := Tryd.sizeOf3
  v3 := Tryd.zeroValue3
  t4 := Tryd.underlying4
  a4 := Tryd.isAgg4
  z4 := Tryd.sizeOf4
  v4 := Tryd.zeroValue4
  t5 := Tryd.underlying5
  a5 := Tryd.isAgg5
  z5 := Tryd.sizeOf5
  v5 := Tryd.zeroValue5
  t21 := Tryd.underlying21
  a21 := Tryd.isAgg21
  z21 := Tryd.sizeOf21
  v21 := Tryd.zeroValue21
  t46 := Tryd.underlying36
  a46 := Tryd.isAgg36
  z46 := Tryd.sizeOf36
  v46 := Tryd.zeroValue36
  t49 := Tryd.underlying47
  a49 := Tryd.isAgg47
  z49 := Tryd.sizeOf47
  v49 := Tryd.zeroValue47
  t51 := Tryd.underlying37
  a51 := Tryd.isAgg37
  z51 := Tryd.sizeOf37
  v51 := Tryd.zeroValue37
  t119 := Tryd.underlying32
  a119 := Tryd.isAgg32
  z119 := Tryd.sizeOf32
  t141 := Tryd.underlying39
  a141 := Tryd.isAgg39
  z141 := Tryd.sizeOf39
  v141 := Tryd.zeroValue39
  t193 := Tryd.underlying43
  a193 := Tryd.isAgg43
  z193 := Tryd.sizeOf43
  v193 := Tryd.zeroValue43
  t194 := Tryd.underlying44
  a194 := Tryd.isAgg44
  z194 := Tryd.sizeOf44
  v194 := Tryd.zeroValue44
  t196 := Tryd.underlying46
  a196 := Tryd.isAgg46
  z196 := Tryd.sizeOf46
  v196 := Tryd.zeroValue46
  t198 := Tryd.underlying49
  a198 := Tryd.isAgg49
  z198 := Tryd.sizeOf49
  v198 := Tryd.zeroValue49
  t201 := Tryd.underlying52
  a201 := Tryd.isAgg52
  z201 := Tryd.sizeOf52
  v201 := Tryd.zeroValue52
  t226 := Tryd.underlying57
  a226 := Tryd.isAgg57
  z226 := Tryd.sizeOf57
  v226 := Tryd.zeroValue57
  t227 := Tryd.underlying58
  a227 := Tryd.isAgg58
  z227 := Tryd.sizeOf58
  v227 := Tryd.zeroValue58
  g7 := by kernel_rfl
  g10 := by kernel_rfl
  i0 := by kernel_rfl
  i3 := by kernel_rfl
  i4 := by kernel_rfl
  i5 := by kernel_rfl
  i21 := by kernel_rfl
  i46 := by kernel_rfl
  i49 := by kernel_rfl
  i51 := by kernel_rfl
  i141 := by kernel_rfl
  i193 := by kernel_rfl
  i194 := by kernel_rfl
  i196 := by kernel_rfl
  i198 := by kernel_rfl
  i201 := by kernel_rfl
  i226 := by kernel_rfl
  i227 := by kernel_rfl
  m7 := by kernel_rfl
  m10 := by kernel_rfl }
open Go.RowKit Go.Lib in
theorem Tryd.unicode_IsLower_laid (c : Nat) (w : World) (hc : c < 256) (htab : Lib.TabIs Tryd.prog w "unicode.properties" .u8 Lib.propertiesTab) :
    Calls Tryd.prog 9 #[.int .i32 c] w fun e w' => e = .returned (.bool (Lib.isLowerL c)) ∧ w' = w := Any.unicode_IsLower_laid Tryd.laysM202 c w hc htab
def Tryd.lays197_ren : Go.Shelf.Ren := ⟨fun | 197 => 22 | 260 => 25 | n => n, fun | 9 => 9 | 21 => 21 | 3 => 3 | 4 => 4 | 5 => 5 | 105 => 55 | 119 => 32 | 0 => 0 | 46 => 36 | 139 => 35 | 138 => 34 | n => n, fun | 3 => 0 | 4 => 1 | n => n⟩
theorem Tryd.lays197 : Go.Proofs.Lays.n197 Tryd.prog Tryd.lays197_ren := {
  mixed := by kernel_rfl
  f197 := Tryd.func22.trans (congrArg some (by kernel_rfl))
  f260 := Tryd.func25.trans (congrArg some (by kernel_rfl))
  t0 := Tryd.underlying0
  a0 := Tryd.isAgg0
  z0 := Tryd.sizeOf0
  v0 := Tryd.zeroValue0
  t3 := Tryd.underlying3
  a3 := Tryd.isAgg3
  z3 := Tryd.sizeOf3
  v3 := Tryd.zeroValue3
  t4 := Tryd.underlying4
  a4 := Tryd.isAgg4
  z4 := Tryd.sizeOf4
  v4 := Tryd.zeroValue4
  t5 := Tryd.underlying5
  a5 := Tryd.isAgg5
  z5 := Tryd.sizeOf5
  v5 := Tryd.zeroValue5
  t9 := Tryd.underlying9
  a9 := Tryd.isAgg9
  z9 := Tryd.sizeOf9
  v9 := Tryd.zeroValue9
  t21 := Tryd.underlying21
  a21 := Tryd.isAgg21
  z21 := Tryd.sizeOf21
  v21 := Tryd.zeroValue21
  t46 := Tryd.underlying36
  a46 := Tryd.isAgg36
  z46 := Tryd.sizeOf36
  v46 := Tryd.zeroValue36
  t105 := Tryd.underlying55
  a105 := Tryd.isAgg55
  z105 := Tryd.sizeOf55
  v105 := Tryd.zeroValue55
  t119 := Tryd.underlying32
  a119 := Tryd.isAgg32
  z119 := Tryd.sizeOf32
  t138 := Tryd.underlying34
  a138 := Tryd.isAgg34
  z138 := Tryd.sizeOf34
  v138 := Tryd.zeroValue34
  t139 := Tryd.underlying35
  a139 := Tryd.isAgg35
  z139 := Tryd.sizeOf35
  v139 := Tryd.zeroValue35
  g3 := by kernel_rfl
  g4 := by kernel_rfl }
open Go.RowKit Go.Lib in
/-- unicode/utf8.DecodeRuneInString: "DecodeRuneInString is like DecodeRune but its input is a string.": ("DecodeRune unpacks the first UTF-8 encoding in p and returns the rune and its width in bytes."): WHERE s BEGINS WITH AN ASCII BYTE x: (x, 1). (LAID: no walk: one application.) -/
theorem Tryd.utf8_DecodeRuneInString_ascii (s : ByteArray) (x : UInt8) (w : World) (h0 : s.data.toList[0]? = some x) (hx : x.toNat < 128) :
    Calls Tryd.prog 22 #[.string s] w fun e w' => e = .returned (.tuple #[.int .i32 x.toNat, .int .i64 1]) ∧ w' = w := Any.utf8_DecodeRuneInString_ascii Tryd.lays197 s x w h0 hx
def Tryd.lays260_ren : Go.Shelf.Ren := ⟨fun | 260 => 25 | n => n, fun | 9 => 9 | 21 => 21 | 3 => 3 | 4 => 4 | 5 => 5 | 119 => 32 | 0 => 0 | 46 => 36 | 139 => 35 | 138 => 34 | n => n, fun | 3 => 0 | 4 => 1 | n => n⟩
theorem Tryd.lays260 : Go.Proofs.Lays.n260 Tryd.prog Tryd.lays260_ren := {
  mixed := by kernel_rfl
  f260 := Tryd.func25.trans (congrArg some (by kernel_rfl))
  t0 := Tryd.underlying0
  a0 := Tryd.isAgg0
  z0 := Tryd.sizeOf0
  v0 := Tryd.zeroValue0
  t3 := Tryd.underlying3
  a3 := Tryd.isAgg3
  z3 := Tryd.sizeOf3
  v3 := Tryd.zeroValue3
  t4 := Tryd.underlying4
  a4 := Tryd.isAgg4
  z4 := Tryd.sizeOf4
  v4 := Tryd.zeroValue4
  t5 := Tryd.underlying5
  a5 := Tryd.isAgg5
  z5 := Tryd.sizeOf5
  v5 := Tryd.zeroValue5
  t9 := Tryd.underlying9
  a9 := Tryd.isAgg9
  z9 := Tryd.sizeOf9
  v9 := Tryd.zeroValue9
  t21 := Tryd.underlying21
  a21 := Tryd.isAgg21
  z21 := Tryd.sizeOf21
  v21 := Tryd.zeroValue21
  t46 := Tryd.underlying36
  a46 := Tryd.isAgg36
  z46 := Tryd.sizeOf36
  v46 := Tryd.zeroValue36
  t119 := Tryd.underlying32
  a119 := Tryd.isAgg32
  z119 := Tryd.sizeOf32
  t138 := Tryd.underlying34
  a138 := Tryd.isAgg34
  z138 := Tryd.sizeOf34
  v138 := Tryd.zeroValue34
  t139 := Tryd.underlying35
  a139 := Tryd.isAgg35
  z139 := Tryd.sizeOf35
  v139 := Tryd.zeroValue35
  g3 := by kernel_rfl
  g4 := by kernel_rfl }
open Go.RowKit Go.Lib in
theorem Tryd.utf8_decodeRuneInStringSlow (s : ByteArray) (w : World) (hT : Lib.Utf8Tabs 0 1 w) :
    Calls Tryd.prog 25 #[.string s] w fun e w' => e = .returned (.tuple #[.int .i32 (Lib.decodeGo s).1, .int .i64 (Lib.decodeGo s).2]) ∧ Below w.heap.size w w' := Any.utf8_decodeRuneInStringSlow Tryd.lays260 s w hT
open Go.RowKit Go.Lib in
/-- **unicode/utf8.DecodeRuneInString AT EVERY STRING.** (LAID: no walk: one application.) -/
theorem Tryd.utf8_DecodeRuneInString (s : ByteArray) (w : World) (hT : Lib.Utf8Tabs 0 1 w) :
    Calls Tryd.prog 22 #[.string s] w fun e w' => e = .returned (.tuple #[.int .i32 (Lib.decodeGo s).1, .int .i64 (Lib.decodeGo s).2]) ∧ Below w.heap.size w w' := Any.utf8_DecodeRuneInString Tryd.lays197 s w hT
def Tryd.lays311_ren : Go.Shelf.Ren := ⟨fun | 311 => 18 | n => n, fun | 193 => 43 | 49 => 47 | 4 => 4 | 3 => 3 | 0 => 0 | 226 => 57 | 198 => 49 | 46 => 36 | n => n, fun | n => n⟩
theorem Tryd.lays311 : Go.Proofs.Lays.n311 Tryd.prog Tryd.lays311_ren := {
  mixed := by kernel_rfl
  f311 := Tryd.func18.trans (congrArg some (by kernel_rfl))
  t0 := Tryd.underlying0
  a0 := Tryd.isAgg0
  z0 := Tryd.sizeOf0
  v0 := Tryd.zeroValue0
  t3 := Tryd.underlying3
  a3 := Tryd.isAgg3
  z3 := Tryd.sizeOf3
  v3 := Tryd.zeroValue3
  t4 := Tryd.underlying4
  a4 := Tryd.isAgg4
  z4 := Tryd.sizeOf4
  v4 := Tryd.zeroValue4
  t46 := Tryd.underlying36
  a46 := Tryd.isAgg36
  z46 := Tryd.sizeOf36
  v46 := Tryd.zeroValue36
  t49 := Tryd.underlying47
  a49 := Tryd.isAgg47
  z49 := Tryd.sizeOf47
  v49 := Tryd.zeroValue47
  t193 := Tryd.underlying43
  a193 := Tryd.isAgg43
  z193 := Tryd.sizeOf43
  v193 := Tryd.zeroValue43
  t198 := Tryd.underlying49
  a198 := Tryd.isAgg49
  z198 := Tryd.sizeOf49
  v198 := Tryd.zeroValue49
  t226 := Tryd.underlying57
  a226 := Tryd.isAgg57
  z226 := Tryd.sizeOf57
  v226 := Tryd.zeroValue57 }
open Go.RowKit Go.Lib in
theorem Tryd.unicode_is16_white (R oR : Nat) (z : Nat) (w : World) (hz : z < 65536) (hz0 : 255 < z) (c6 : w.cell? ⟨R, oR + 6, none⟩ = some (.int .u16 160)) (c7 : w.cell? ⟨R, oR + 7, none⟩ = some (.int .u16 5760)) (c8 : w.cell? ⟨R, oR + 8, none⟩ = some (.int .u16 5600)) (c9 : w.cell? ⟨R, oR + 9, none⟩ = some (.int .u16 8192)) (c10 : w.cell? ⟨R, oR + 10, none⟩ = some (.int .u16 8202)) (c11 : w.cell? ⟨R, oR + 11, none⟩ = some (.int .u16 1)) (c12 : w.cell? ⟨R, oR + 12, none⟩ = some (.int .u16 8232)) (c13 : w.cell? ⟨R, oR + 13, none⟩ = some (.int .u16 8233)) (c14 : w.cell? ⟨R, oR + 14, none⟩ = some (.int .u16 1)) (c15 : w.cell? ⟨R, oR + 15, none⟩ = some (.int .u16 8239)) (c16 : w.cell? ⟨R, oR + 16, none⟩ = some (.int .u16 8287)) (c17 : w.cell? ⟨R, oR + 17, none⟩ = some (.int .u16 48)) (c18 : w.cell? ⟨R, oR + 18, none⟩ = some (.int .u16 12288)) (c19 : w.cell? ⟨R, oR + 19, none⟩ = some (.int .u16 12288)) (c20 : w.cell? ⟨R, oR + 20, none⟩ = some (.int .u16 1)) :
    Calls Tryd.prog 18 #[.slice (some ⟨R, oR + 6, none⟩) 5 5, .int .u16 z] w fun e w' => e = .returned (.bool (Lib.isSpaceR z)) ∧ Below w.heap.size w w' := Any.unicode_is16_white Tryd.lays311 R oR z w hz hz0 c6 c7 c8 c9 c10 c11 c12 c13 c14 c15 c16 c17 c18 c19 c20
def Tryd.lays261_ren : Go.Shelf.Ren := ⟨fun | 261 => 14 | 311 => 18 | 312 => 19 | n => n, fun | 141 => 39 | 21 => 21 | 4 => 4 | 0 => 0 | 196 => 46 | 193 => 43 | 3 => 3 | 51 => 37 | 198 => 49 | 49 => 47 | 194 => 44 | 201 => 52 | 226 => 57 | 46 => 36 | 227 => 58 | n => n, fun | n => n⟩
theorem Tryd.lays261 : Go.Proofs.Lays.n261 Tryd.prog Tryd.lays261_ren := {
  mixed := by kernel_rfl
  f261 := Tryd.func14.trans (congrArg some (by kernel_rfl))
  f311 := Tryd.func18.trans (congrArg some (by kernel_rfl))
  f312 := Tryd.func19.trans (congrArg some (by kernel_rfl))
  t0 := Tryd.underlying0
  a0 := Tryd.isAgg0
  z0 := Tryd.sizeOf0
  v0 := Tryd.zeroValue0
  t3 := Tryd.underlying3
  a3 := Tryd.isAgg3
  z3 := Tryd.sizeOf3
  v3 := Tryd.zeroValue3
  t4 := Tryd.underlying4
  a4 := Tryd.isAgg4
  z4 := Tryd.sizeOf4
  v4 := Tryd.zeroValue4
  t21 := Tryd.underlying21
  a21 := Tryd.isAgg21
  z21 := Tryd.sizeOf21
  v21 := Tryd.zeroValue21
  t46 := Tryd.underlying36
  a46 := Tryd.isAgg36
  z46 := Tryd.sizeOf36
  v46 := Tryd.zeroValue36
  t49 := Tryd.underlying47
  a49 := Tryd.isAgg47
  z49 := Tryd.sizeOf47
  v49 := Tryd.zeroValue47
  t51 := Tryd.underlying37
  a51 := Tryd.isAgg37
  z51 := Tryd.sizeOf37
  v51 := Tryd.zeroValue37
  t141 := Tryd.underlying39
  a141 := Tryd.isAgg39
  z141 := Tryd.sizeOf39
  v141 := Tryd.zeroValue39
  t193 := Tryd.underlying43
  a193 := Tryd.isAgg43
  z193 := Tryd.sizeOf43
  v193 := Tryd.zeroValue43
  t194 := Tryd.underlying44
  a194 := Tryd.isAgg44
  z194 := Tryd.sizeOf44
  v194 := Tryd.zeroValue44
  t196 := Tryd.underlying46
  a196 := Tryd.isAgg46
  z196 := Tryd.sizeOf46
  v196 := Tryd.zeroValue46
  t198 := Tryd.underlying49
  a198 := Tryd.isAgg49
  z198 := Tryd.sizeOf49
  v198 := Tryd.zeroValue49
  t201 := Tryd.underlying52
  a201 := Tryd.isAgg52
  z201 := Tryd.sizeOf52
  v201 := Tryd.zeroValue52
  t226 := Tryd.underlying57
  a226 := Tryd.isAgg57
  z226 := Tryd.sizeOf57
  v226 := Tryd.zeroValue57
  t227 := Tryd.underlying58
  a227 := Tryd.isAgg58
  z227 := Tryd.sizeOf58
  v227 := Tryd.zeroValue58 }
open Go.RowKit Go.Lib in
/-- unicode.isExcludingLatin(White_Space, r), r beyond U+00FF or negative. (LAID: no walk: one application.) -/
theorem Tryd.unicode_isExcludingLatin_white (T oT R oR : Nat) (r : Int) (w : World) (hlo : -2147483648 ≤ r) (hhi : r ≤ 2147483647) (hr : r < 0 ∨ 255 < r) (h2 : w.cell? ⟨T, oT, none⟩ = some (.slice (some ⟨R, oR, none⟩) 7 7)) (h3 : w.cell? ⟨T, oT + 1, none⟩ = some (.slice none 0 0)) (h4 : w.cell? ⟨T, oT + 2, none⟩ = some (.int .i64 2)) (h5 : ∀ i, i < 21 → w.cell? ⟨R, oR + i, none⟩ = some (.int .u16 (whiteT.getD i 0))) :
    Calls Tryd.prog 14 #[.pointer (some ⟨T, oT, none⟩), .int .i32 r] w fun e w' => e = .returned (.bool (Lib.isSpaceZ r)) ∧ Below w.heap.size w w' := Any.unicode_isExcludingLatin_white Tryd.lays261 T oT R oR r w hlo hhi hr h2 h3 h4 h5
open Go.RowKit Go.Lib in
/-- **unicode.IsSpace AT EVERY int32.** (LAID: no walk: one application.) -/
theorem Tryd.unicode_IsSpace_any (r : Int) (w : World) (hlo : -2147483648 ≤ r) (hhi : r ≤ 2147483647) (hW : Lib.WhiteTab 7 w) :
    Calls Tryd.prog 16 #[.int .i32 r] w fun e w' => e = .returned (.bool (Lib.isSpaceZ r)) ∧ Below w.heap.size w w' := Any.unicode_IsSpace_any Tryd.lays199 r w hlo hhi hW
def Tryd.lays271_ren : Go.Shelf.Ren := ⟨fun | 271 => 24 | 120 => 26 | 197 => 22 | 260 => 25 | n => n, fun | 9 => 9 | 21 => 21 | 3 => 3 | 4 => 4 | 5 => 5 | 105 => 55 | 119 => 32 | 0 => 0 | 46 => 36 | 139 => 35 | 138 => 34 | n => n, fun | 3 => 0 | 4 => 1 | n => n⟩
theorem Tryd.lays271 : Go.Proofs.Lays.n271 Tryd.prog Tryd.lays271_ren := {
  mixed := by kernel_rfl
  f120 := Tryd.func26.trans (congrArg some (by kernel_rfl))
  f197 := Tryd.func22.trans (congrArg some (by kernel_rfl))
  f260 := Tryd.func25.trans (congrArg some (by kernel_rfl))
  f271 := Tryd.func24.trans (congrArg some (by kernel_rfl))
  t0 := Tryd.underlying0
  a0 := Tryd.isAgg0
  z0 := Tryd.sizeOf0
  v0 := Tryd.zeroValue0
  t3 := Tryd.underlying3
  a3 := Tryd.isAgg3
  z3 := Tryd.sizeOf3
  v3 := Tryd.zeroValue3
  t4 := Tryd.underlying4
  a4 := Tryd.isAgg4
  z4 := Tryd.sizeOf4
  v4 := Tryd.zeroValue4
  t5 := Tryd.underlying5
  a5 := Tryd.isAgg5
  z5 := Tryd.sizeOf5
  v5 := Tryd.zeroValue5
  t9 := Tryd.underlying9
  a9 := Tryd.isAgg9
  z9 := Tryd.sizeOf9
  v9 := Tryd.zeroValue9
  t21 := Tryd.underlying21
  a21 := Tryd.isAgg21
  z21 := Tryd.sizeOf21
  v21 := Tryd.zeroValue21
  t46 := Tryd.underlying36
  a46 := Tryd.isAgg36
  z46 := Tryd.sizeOf36
  v46 := Tryd.zeroValue36
  t105 := Tryd.underlying55
  a105 := Tryd.isAgg55
  z105 := Tryd.sizeOf55
  v105 := Tryd.zeroValue55
  t119 := Tryd.underlying32
  a119 := Tryd.isAgg32
  z119 := Tryd.sizeOf32
  t138 := Tryd.underlying34
  a138 := Tryd.isAgg34
  z138 := Tryd.sizeOf34
  v138 := Tryd.zeroValue34
  t139 := Tryd.underlying35
  a139 := Tryd.isAgg35
  z139 := Tryd.sizeOf35
  v139 := Tryd.zeroValue35
  g3 := by kernel_rfl
  g4 := by kernel_rfl }
open Go.RowKit Go.Lib in
/-- **unicode/utf8.DecodeLastRuneInString AT EVERY STRING.** (LAID: no walk: one application.) -/
theorem Tryd.utf8_DecodeLastRuneInString (s : ByteArray) (w : World) (hs : s.size ≤ 9223372036854775807) (hT : Lib.Utf8Tabs 0 1 w) :
    Calls Tryd.prog 24 #[.string s] w fun e w' => e = .returned (.tuple #[.int .i32 (Lib.decodeLastL s.data.toList).1, .int .i64 (Lib.decodeLastL s.data.toList).2]) ∧ Below w.heap.size w w' := Any.utf8_DecodeLastRuneInString Tryd.lays271 s w hs hT
open Go.RowKit in
theorem Tryd.strings_TrimSpace_any (s : ByteArray) (w : World) (hs : s.size ≤ 9223372036854775807) (htab : Lib.TabIs Tryd.prog w "strings.asciiSpace" .u8 Lib.asciiSpaceTab) (hU8 : Lib.Utf8Tabs 0 1 w) (hWS : Lib.WhiteTab 7 w) :
    Calls Tryd.prog 12 #[.string s] w fun e w' => e = .returned (.string ⟨(Lib.trimSpaceD s.data.toList).toArray⟩) ∧ Below w.heap.size w w' := Any.strings_TrimSpace_any Tryd.lays163 Tryd.Space_Extra_163 s w hs htab hU8 hWS
open Go.RowKit Go.Lib in
theorem Tryd.unicode_is16_white_d (R oR : Nat) (z : Nat) (w : World) (hz : z < 65536) (hz0 : 255 < z) (c6 : w.cell? ⟨R, oR + 6, none⟩ = some (.int .u16 160)) (c7 : w.cell? ⟨R, oR + 7, none⟩ = some (.int .u16 5760)) (c8 : w.cell? ⟨R, oR + 8, none⟩ = some (.int .u16 5600)) (c9 : w.cell? ⟨R, oR + 9, none⟩ = some (.int .u16 8192)) (c10 : w.cell? ⟨R, oR + 10, none⟩ = some (.int .u16 8202)) (c11 : w.cell? ⟨R, oR + 11, none⟩ = some (.int .u16 1)) (c12 : w.cell? ⟨R, oR + 12, none⟩ = some (.int .u16 8232)) (c13 : w.cell? ⟨R, oR + 13, none⟩ = some (.int .u16 8233)) (c14 : w.cell? ⟨R, oR + 14, none⟩ = some (.int .u16 1)) (c15 : w.cell? ⟨R, oR + 15, none⟩ = some (.int .u16 8239)) (c16 : w.cell? ⟨R, oR + 16, none⟩ = some (.int .u16 8287)) (c17 : w.cell? ⟨R, oR + 17, none⟩ = some (.int .u16 48)) (c18 : w.cell? ⟨R, oR + 18, none⟩ = some (.int .u16 12288)) (c19 : w.cell? ⟨R, oR + 19, none⟩ = some (.int .u16 12288)) (c20 : w.cell? ⟨R, oR + 20, none⟩ = some (.int .u16 1)) :
    Calls Tryd.prog 18 #[.slice (some ⟨R, oR + 6, none⟩) 5 5, .int .u16 z] w fun e w' => e = .returned (.bool (Lib.isSpaceR z)) ∧ ∃ q, w' = w.drewN q := Any.unicode_is16_white_d Tryd.lays311 R oR z w hz hz0 c6 c7 c8 c9 c10 c11 c12 c13 c14 c15 c16 c17 c18 c19 c20
open Go.RowKit Go.Lib in
/-- unicode.isExcludingLatin(White_Space, r), r beyond U+00FF or negative. (LAID: no walk: one application.) -/
theorem Tryd.unicode_isExcludingLatin_white_d (T oT R oR : Nat) (r : Int) (w : World) (hlo : -2147483648 ≤ r) (hhi : r ≤ 2147483647) (hr : r < 0 ∨ 255 < r) (h2 : w.cell? ⟨T, oT, none⟩ = some (.slice (some ⟨R, oR, none⟩) 7 7)) (h3 : w.cell? ⟨T, oT + 1, none⟩ = some (.slice none 0 0)) (h4 : w.cell? ⟨T, oT + 2, none⟩ = some (.int .i64 2)) (h5 : ∀ i, i < 21 → w.cell? ⟨R, oR + i, none⟩ = some (.int .u16 (whiteT.getD i 0))) :
    Calls Tryd.prog 14 #[.pointer (some ⟨T, oT, none⟩), .int .i32 r] w fun e w' => e = .returned (.bool (Lib.isSpaceZ r)) ∧ ∃ q, w' = w.drewN q := Any.unicode_isExcludingLatin_white_d Tryd.lays261 T oT R oR r w hlo hhi hr h2 h3 h4 h5
open Go.RowKit Go.Lib in
/-- **unicode.IsSpace AT EVERY int32.** (LAID: no walk: one application.) -/
theorem Tryd.unicode_IsSpace_any_d (r : Int) (w : World) (hlo : -2147483648 ≤ r) (hhi : r ≤ 2147483647) (hW : Lib.WhiteTab 7 w) :
    Calls Tryd.prog 16 #[.int .i32 r] w fun e w' => e = .returned (.bool (Lib.isSpaceZ r)) ∧ ∃ q, w' = w.drewN q := Any.unicode_IsSpace_any_d Tryd.lays199 r w hlo hhi hW
open Go.RowKit Go.Lib in
theorem Tryd.unicode_is16_any (T : Array Rg) (R oR cap : Nat) (z : Nat) (w : World) (hz : z < 65536) (hT : RgTab .u16 R oR T w) (hok : RgOk 65536 T) (hn : T.size ≤ 1000000000) :
    Calls Tryd.prog 18 #[.slice (some ⟨R, oR, none⟩) T.size cap, .int .u16 z] w fun e w' => e = .returned (.bool (is16Go T z)) ∧ ∃ q, w' = w.drewN q := Any.unicode_is16_any Tryd.lays311 T R oR cap z w hz hT hok hn
def Tryd.lays312_ren : Go.Shelf.Ren := ⟨fun | 312 => 19 | n => n, fun | 194 => 44 | 51 => 37 | 4 => 4 | 3 => 3 | 0 => 0 | 227 => 58 | 201 => 52 | 46 => 36 | n => n, fun | n => n⟩
theorem Tryd.lays312 : Go.Proofs.Lays.n312 Tryd.prog Tryd.lays312_ren := {
  mixed := by kernel_rfl
  f312 := Tryd.func19.trans (congrArg some (by kernel_rfl))
  t0 := Tryd.underlying0
  a0 := Tryd.isAgg0
  z0 := Tryd.sizeOf0
  v0 := Tryd.zeroValue0
  t3 := Tryd.underlying3
  a3 := Tryd.isAgg3
  z3 := Tryd.sizeOf3
  v3 := Tryd.zeroValue3
  t4 := Tryd.underlying4
  a4 := Tryd.isAgg4
  z4 := Tryd.sizeOf4
  v4 := Tryd.zeroValue4
  t46 := Tryd.underlying36
  a46 := Tryd.isAgg36
  z46 := Tryd.sizeOf36
  v46 := Tryd.zeroValue36
  t51 := Tryd.underlying37
  a51 := Tryd.isAgg37
  z51 := Tryd.sizeOf37
  v51 := Tryd.zeroValue37
  t194 := Tryd.underlying44
  a194 := Tryd.isAgg44
  z194 := Tryd.sizeOf44
  v194 := Tryd.zeroValue44
  t201 := Tryd.underlying52
  a201 := Tryd.isAgg52
  z201 := Tryd.sizeOf52
  v201 := Tryd.zeroValue52
  t227 := Tryd.underlying58
  a227 := Tryd.isAgg58
  z227 := Tryd.sizeOf58
  v227 := Tryd.zeroValue58 }
open Go.RowKit Go.Lib in
theorem Tryd.unicode_is32_any (T : Array Rg) (R oR cap : Nat) (z : Nat) (w : World) (hz : z < 4294967296) (hT : RgTab .u32 R oR T w) (hok : RgOk 4294967296 T) (hn : T.size ≤ 1000000000) :
    Calls Tryd.prog 19 #[.slice (some ⟨R, oR, none⟩) T.size cap, .int .u32 z] w fun e w' => e = .returned (.bool (is32Go T z)) ∧ Below w.heap.size w w' := Any.unicode_is32_any Tryd.lays312 T R oR cap z w hz hT hok hn
open Go.RowKit Go.Lib in
theorem Tryd.unicode_isExcludingLatin_any (Tb oT : Nat) (T : RTab) (r : Int) (w : World) (hlo : -2147483648 ≤ r) (hhi : r ≤ 2147483647) (hA : RTabAt Tb oT T w) (hok : RTabOk T) :
    Calls Tryd.prog 14 #[.pointer (some ⟨Tb, oT, none⟩), .int .i32 r] w fun e w' => e = .returned (.bool (exclGo T r)) ∧ Below w.heap.size w w' := Any.unicode_isExcludingLatin_any Tryd.lays261 Tb oT T r w hlo hhi hA hok
open Go.RowKit Go.Lib in
/-- unicode.IsUpper(r) AT EVERY int32, over whatever table the variable unicode.Upper leads to. (LAID: no walk: one application.) -/
theorem Tryd.unicode_IsUpper_any (T : RTab) (r : Int) (w : World) (hlo : -2147483648 ≤ r) (hhi : r ≤ 2147483647) (htab : Lib.TabIs Tryd.prog w "unicode.properties" .u8 Lib.propertiesTab) (hV : RVar 4 T w) (hok : RTabOk T) :
    Calls Tryd.prog 10 #[.int .i32 r] w fun e w' => e = .returned (.bool (if latin1 r then isUpperL r else exclGo T r)) ∧ Below w.heap.size w w' := Any.unicode_IsUpper_any Tryd.lays201 (by kernel_rfl) T r w hlo hhi htab hV hok
open Go.RowKit Go.Lib in
/-- unicode.IsLower(r) AT EVERY int32, over whatever table the variable unicode.Lower leads to. (LAID: no walk: one application.) -/
theorem Tryd.unicode_IsLower_any (T : RTab) (r : Int) (w : World) (hlo : -2147483648 ≤ r) (hhi : r ≤ 2147483647) (htab : Lib.TabIs Tryd.prog w "unicode.properties" .u8 Lib.propertiesTab) (hV : RVar 3 T w) (hok : RTabOk T) :
    Calls Tryd.prog 9 #[.int .i32 r] w fun e w' => e = .returned (.bool (if latin1 r then isLowerL r else exclGo T r)) ∧ Below w.heap.size w w' := Any.unicode_IsLower_any Tryd.lays202 (by kernel_rfl) T r w hlo hhi htab hV hok
open Go.RowKit Go.Lib in
/-- unicode.IsDigit(r) AT EVERY int32, over whatever table the variable unicode.Digit leads to. (LAID: no walk: one application.) -/
theorem Tryd.unicode_IsDigit_any (T : RTab) (r : Int) (w : World) (hlo : -2147483648 ≤ r) (hhi : r ≤ 2147483647) (hV : RVar 5 T w) (hok : RTabOk T) :
    Calls Tryd.prog 11 #[.int .i32 r] w fun e w' => e = .returned (.bool (if r ≤ 255 then isDigitL r else exclGo T r)) ∧ Below w.heap.size w w' := Any.unicode_IsDigit_any Tryd.lays198 T r w hlo hhi hV hok
open Go.RowKit Go.Lib in
theorem Tryd.strings_indexFunc_grows (g : Nat) (lb : Array Value) (eg : ∀ args w, (callFunc g args).run Tryd.prog w = .ok (.enter g args) w) (p : Nat → Bool) (truth : Bool) (s : ByteArray) (w : World) (hp : PredGrows Tryd.prog g lb p w) :
    Calls Tryd.prog 23 #[.string s, .func (.func g) #[] lb, .bool truth] w fun e w' => e = .returned (.int .i64 (Lib.idxFunc p truth s)) ∧ Below w.heap.size w w' := Any.strings_indexFunc_grows Tryd.lays315 g lb eg p truth s w hp
open Go.RowKit Go.Lib in
theorem Tryd.strings_lastIndexFunc_grows (g : Nat) (lb : Array Value) (eg : ∀ args w, (callFunc g args).run Tryd.prog w = .ok (.enter g args) w) (p : Nat → Bool) (truth : Bool) (s : ByteArray) (w : World) (hs : s.size ≤ 9223372036854775807) (hT : Lib.Utf8Tabs 0 1 w) (hp : PredGrows Tryd.prog g lb p w) :
    Calls Tryd.prog 21 #[.string s, .func (.func g) #[] lb, .bool truth] w fun e w' => e = .returned (.int .i64 (Lib.lastIdxFunc p truth s)) ∧ Below w.heap.size w w' := Any.strings_lastIndexFunc_grows Tryd.lays273 g lb eg p truth s w hs hT hp
open Go.RowKit Go.Lib in
theorem Tryd.strings_TrimLeftFunc_grows (g : Nat) (lb : Array Value) (eg : ∀ args w, (callFunc g args).run Tryd.prog w = .ok (.enter g args) w) (p : Nat → Bool) (s : ByteArray) (w : World) (hp : PredGrows Tryd.prog g lb p w) :
    Calls Tryd.prog 20 #[.string s, .func (.func g) #[] lb] w fun e w' => e = .returned (.string (Lib.trimLeftF p s)) ∧ Below w.heap.size w w' := Any.strings_TrimLeftFunc_grows Tryd.lays272 g lb eg p s w hp
open Go.RowKit Go.Lib in
theorem Tryd.strings_TrimRightFunc_grows (g : Nat) (lb : Array Value) (eg : ∀ args w, (callFunc g args).run Tryd.prog w = .ok (.enter g args) w) (p : Nat → Bool) (s : ByteArray) (w : World) (hs : s.size ≤ 9223372036854775807) (hT : Lib.Utf8Tabs 0 1 w) (hp : PredGrows Tryd.prog g lb p w) :
    Calls Tryd.prog 17 #[.string s, .func (.func g) #[] lb] w fun e w' => e = .returned (.string (Lib.trimRightF p s)) ∧ Below w.heap.size w w' := Any.strings_TrimRightFunc_grows Tryd.lays238 g lb eg p s w hs hT hp
open Go.RowKit Go.Lib in
/-- **strings.TrimFunc(s, f) AT EVERY STRING, AT WHATEVER FUNCTION VALUE.** (LAID: no walk: one application.) -/
theorem Tryd.strings_TrimFunc_grows (g : Nat) (lb : Array Value) (eg : ∀ args w, (callFunc g args).run Tryd.prog w = .ok (.enter g args) w) (p : Nat → Bool) (s : ByteArray) (w : World) (hs : s.size ≤ 9223372036854775807) (hT : Lib.Utf8Tabs 0 1 w) (hp : PredGrows Tryd.prog g lb p w) :
    Calls Tryd.prog 15 #[.string s, .func (.func g) #[] lb] w fun e w' => e = .returned (.string (Lib.trimF p s)) ∧ Below w.heap.size w w' := Any.strings_TrimFunc_grows Tryd.lays237 g lb eg p s w hs hT hp
open Go.RowKit Go.Lib in
/-- unicode.IsUpper(r) AT EVERY int32, the tables as their initialisers lay them: 'Lib.isUpperU r'. (LAID: no walk: one application.) -/
theorem Tryd.unicode_IsUpper_all (r : Int) (w : World) (hlo : -2147483648 ≤ r) (hhi : r ≤ 2147483647) (htab : Lib.TabIs Tryd.prog w "unicode.properties" .u8 Lib.propertiesTab) (hV : RVar 4 upperT w) :
    Calls Tryd.prog 10 #[.int .i32 r] w fun e w' => e = .returned (.bool (isUpperU r)) ∧ Below w.heap.size w w' := Any.unicode_IsUpper_all Tryd.lays201 (by kernel_rfl) r w hlo hhi htab hV
open Go.RowKit Go.Lib in
/-- unicode.IsLower(r) AT EVERY int32, the tables as their initialisers lay them: 'Lib.isLowerU r'. (LAID: no walk: one application.) -/
theorem Tryd.unicode_IsLower_all (r : Int) (w : World) (hlo : -2147483648 ≤ r) (hhi : r ≤ 2147483647) (htab : Lib.TabIs Tryd.prog w "unicode.properties" .u8 Lib.propertiesTab) (hV : RVar 3 lowerT w) :
    Calls Tryd.prog 9 #[.int .i32 r] w fun e w' => e = .returned (.bool (isLowerU r)) ∧ Below w.heap.size w w' := Any.unicode_IsLower_all Tryd.lays202 (by kernel_rfl) r w hlo hhi htab hV
open Go.RowKit Go.Lib in
/-- unicode.IsDigit(r) AT EVERY int32: 'Lib.isDigitU r'. (LAID: no walk: one application.) -/
theorem Tryd.unicode_IsDigit_all (r : Int) (w : World) (hlo : -2147483648 ≤ r) (hhi : r ≤ 2147483647) (hV : RVar 5 digitT w) :
    Calls Tryd.prog 11 #[.int .i32 r] w fun e w' => e = .returned (.bool (isDigitU r)) ∧ Below w.heap.size w w' := Any.unicode_IsDigit_all Tryd.lays198 r w hlo hhi hV
end Go.Proofs
