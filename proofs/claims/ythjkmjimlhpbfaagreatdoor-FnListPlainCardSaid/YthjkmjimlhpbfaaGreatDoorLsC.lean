/- Written by laygen.py: contracts of the shelf laid at this dump by the names. -/
import Derived.Test.YthjkmjimlhpbfaaGreatDoorProg
import Derived.Shelf.Strings.BuilderK
import Derived.Shelf.Strings.BuilderRune
import Derived.Test.YthjkmjimlhpbfaaGreatDoorLsA
import Derived.Lib.OthersKept
import Derived.Test.YthjkmjimlhpbfaaGreatDoorLsB
section
/- Written by laygen.py: contracts of the shelf laid at this dump by the names. -/
set_option maxRecDepth 100000
set_option maxHeartbeats 4000000
open Go.Shelf Go.RowKit
namespace Go.Proofs
def Tryz.bl165_ren : Go.Shelf.Ren := ⟨fun | 165 => 36 | 240 => 46 | 241 => 47 | 276 => 62 | 277 => 63 | n => n, fun | 0 => 0 | 3 => 3 | 4 => 4 | 5 => 5 | 9 => 9 | 20 => 20 | 37 => 57 | 70 => 56 | 72 => 59 | 164 => 89 | n => n, fun | n => n⟩
theorem Tryz.bl165 : Go.Proofs.Lays.n165 Tryz.prog Tryz.bl165_ren := {
  mixed := by kernel_rfl
  f165 := Tryz.func36.trans (congrArg some (by kernel_rfl))
  f240 := Tryz.func46.trans (congrArg some (by kernel_rfl))
  f241 := Tryz.func47.trans (congrArg some (by kernel_rfl))
  f276 := Tryz.func62.trans (congrArg some (by kernel_rfl))
  f277 := Tryz.func63.trans (congrArg some (by kernel_rfl))
  t0 := Tryz.underlying0
  a0 := Tryz.isAgg0
  z0 := Tryz.sizeOf0
  v0 := Tryz.zeroValue0
  t3 := Tryz.underlying3
  a3 := Tryz.isAgg3
  z3 := Tryz.sizeOf3
  v3 := Tryz.zeroValue3
  t4 := Tryz.underlying4
  a4 := Tryz.isAgg4
  z4 := Tryz.sizeOf4
  v4 := Tryz.zeroValue4
  t9 := Tryz.underlying9
  a9 := Tryz.isAgg9
  z9 := Tryz.sizeOf9
  v9 := Tryz.zeroValue9
  t20 := Tryz.underlying20
  a20 := Tryz.isAgg20
  z20 := Tryz.sizeOf20
  v20 := Tryz.zeroValue20
  t37 := Tryz.underlying57
  a37 := Tryz.isAgg57
  z37 := Tryz.sizeOf57
  v37 := Tryz.zeroValue57
  t70 := Tryz.underlying56
  a70 := Tryz.isAgg56
  z70 := Tryz.sizeOf56
  v70 := Tryz.zeroValue56
  t72 := Tryz.underlying59
  a72 := Tryz.isAgg59
  z72 := Tryz.sizeOf59
  v72 := Tryz.zeroValue59
  t164 := Tryz.underlying89
  a164 := Tryz.isAgg89
  z164 := Tryz.sizeOf89
  v164 := Tryz.zeroValue89 }
theorem Tryz.bx165 : Builder.Extra Tryz.prog Tryz.bl165_ren := {
  sizeBuilder := by kernel_rfl
  liesBuilder := by kernel_rfl
  t5 := Tryz.underlying5
  a5 := Tryz.isAgg5
  z5 := Tryz.sizeOf5
  v5 := Tryz.zeroValue5
  infoByte := by kernel_rfl
  cellsByte := by kernel_rfl
  sizeByte := by kernel_rfl
  neB5 := by decide }
def Tryz.bl166_ren : Go.Shelf.Ren := ⟨fun | 166 => 55 | 240 => 46 | 276 => 62 | n => n, fun | 0 => 0 | 3 => 3 | 4 => 4 | 5 => 5 | 9 => 9 | 20 => 20 | 37 => 57 | 70 => 56 | 72 => 59 | 75 => 74 | 80 => 38 | 164 => 89 | n => n, fun | n => n⟩
theorem Tryz.bl166 : Go.Proofs.Lays.n166 Tryz.prog Tryz.bl166_ren := {
  mixed := by kernel_rfl
  f166 := Tryz.func55.trans (congrArg some (by kernel_rfl))
  f240 := Tryz.func46.trans (congrArg some (by kernel_rfl))
  f276 := Tryz.func62.trans (congrArg some (by kernel_rfl))
  t0 := Tryz.underlying0
  a0 := Tryz.isAgg0
  z0 := Tryz.sizeOf0
  v0 := Tryz.zeroValue0
  t3 := Tryz.underlying3
  a3 := Tryz.isAgg3
  z3 := Tryz.sizeOf3
  v3 := Tryz.zeroValue3
  t4 := Tryz.underlying4
  a4 := Tryz.isAgg4
  z4 := Tryz.sizeOf4
  v4 := Tryz.zeroValue4
  t9 := Tryz.underlying9
  a9 := Tryz.isAgg9
  z9 := Tryz.sizeOf9
  v9 := Tryz.zeroValue9
  t20 := Tryz.underlying20
  a20 := Tryz.isAgg20
  z20 := Tryz.sizeOf20
  v20 := Tryz.zeroValue20
  t37 := Tryz.underlying57
  a37 := Tryz.isAgg57
  z37 := Tryz.sizeOf57
  v37 := Tryz.zeroValue57
  t70 := Tryz.underlying56
  a70 := Tryz.isAgg56
  z70 := Tryz.sizeOf56
  v70 := Tryz.zeroValue56
  t72 := Tryz.underlying59
  a72 := Tryz.isAgg59
  z72 := Tryz.sizeOf59
  v72 := Tryz.zeroValue59
  t75 := Tryz.underlying74
  a75 := Tryz.isAgg74
  z75 := Tryz.sizeOf74
  v75 := Tryz.zeroValue74
  t164 := Tryz.underlying89
  a164 := Tryz.isAgg89
  z164 := Tryz.sizeOf89
  v164 := Tryz.zeroValue89 }
theorem Tryz.bx166 : Builder.Extra Tryz.prog Tryz.bl166_ren := {
  sizeBuilder := by kernel_rfl
  liesBuilder := by kernel_rfl
  t5 := Tryz.underlying5
  a5 := Tryz.isAgg5
  z5 := Tryz.sizeOf5
  v5 := Tryz.zeroValue5
  infoByte := by kernel_rfl
  cellsByte := by kernel_rfl
  sizeByte := by kernel_rfl
  neB5 := by decide }
def Tryz.bl168_ren : Go.Shelf.Ren := ⟨fun | 168 => 48 | 240 => 46 | 242 => 64 | 276 => 62 | 278 => 78 | n => n, fun | 0 => 0 | 3 => 3 | 4 => 4 | 5 => 5 | 9 => 9 | 20 => 20 | 21 => 21 | 37 => 57 | 46 => 85 | 51 => 99 | 70 => 56 | 72 => 59 | 75 => 74 | 80 => 38 | 164 => 89 | n => n, fun | n => n⟩
theorem Tryz.bl168 : Go.Proofs.Lays.n168 Tryz.prog Tryz.bl168_ren := {
  mixed := by kernel_rfl
  f168 := Tryz.func48.trans (congrArg some (by kernel_rfl))
  f240 := Tryz.func46.trans (congrArg some (by kernel_rfl))
  f242 := Tryz.func64.trans (congrArg some (by kernel_rfl))
  f276 := Tryz.func62.trans (congrArg some (by kernel_rfl))
  f278 := Tryz.func78.trans (congrArg some (by kernel_rfl))
  t0 := Tryz.underlying0
  a0 := Tryz.isAgg0
  z0 := Tryz.sizeOf0
  v0 := Tryz.zeroValue0
  t3 := Tryz.underlying3
  a3 := Tryz.isAgg3
  z3 := Tryz.sizeOf3
  v3 := Tryz.zeroValue3
  t4 := Tryz.underlying4
  a4 := Tryz.isAgg4
  z4 := Tryz.sizeOf4
  v4 := Tryz.zeroValue4
  t5 := Tryz.underlying5
  a5 := Tryz.isAgg5
  z5 := Tryz.sizeOf5
  v5 := Tryz.zeroValue5
  t9 := Tryz.underlying9
  a9 := Tryz.isAgg9
  z9 := Tryz.sizeOf9
  v9 := Tryz.zeroValue9
  t20 := Tryz.underlying20
  a20 := Tryz.isAgg20
  z20 := Tryz.sizeOf20
  v20 := Tryz.zeroValue20
  t21 := Tryz.underlying21
  a21 := Tryz.isAgg21
  z21 := Tryz.sizeOf21
  v21 := Tryz.zeroValue21
  t37 := Tryz.underlying57
  a37 := Tryz.isAgg57
  z37 := Tryz.sizeOf57
  v37 := Tryz.zeroValue57
  t46 := Tryz.underlying85
  a46 := Tryz.isAgg85
  z46 := Tryz.sizeOf85
  v46 := Tryz.zeroValue85
  t51 := Tryz.underlying99
  a51 := Tryz.isAgg99
  z51 := Tryz.sizeOf99
  v51 := Tryz.zeroValue99
  t70 := Tryz.underlying56
  a70 := Tryz.isAgg56
  z70 := Tryz.sizeOf56
  v70 := Tryz.zeroValue56
  t72 := Tryz.underlying59
  a72 := Tryz.isAgg59
  z72 := Tryz.sizeOf59
  v72 := Tryz.zeroValue59
  t75 := Tryz.underlying74
  a75 := Tryz.isAgg74
  z75 := Tryz.sizeOf74
  v75 := Tryz.zeroValue74
  t164 := Tryz.underlying89
  a164 := Tryz.isAgg89
  z164 := Tryz.sizeOf89
  v164 := Tryz.zeroValue89 }
theorem Tryz.bx168 : Builder.Extra Tryz.prog Tryz.bl168_ren := {
  sizeBuilder := by kernel_rfl
  liesBuilder := by kernel_rfl
  t5 := Tryz.underlying5
  a5 := Tryz.isAgg5
  z5 := Tryz.sizeOf5
  v5 := Tryz.zeroValue5
  infoByte := by kernel_rfl
  cellsByte := by kernel_rfl
  sizeByte := by kernel_rfl
  neB5 := by decide }
def Tryz.bl169_ren : Go.Shelf.Ren := ⟨fun | 169 => 56 | n => n, fun | 0 => 0 | 3 => 3 | 5 => 5 | 9 => 9 | 37 => 57 | 70 => 56 | 72 => 59 | 127 => 95 | n => n, fun | n => n⟩
theorem Tryz.bl169 : Go.Proofs.Lays.n169 Tryz.prog Tryz.bl169_ren := {
  mixed := by kernel_rfl
  f169 := Tryz.func56.trans (congrArg some (by kernel_rfl))
  t0 := Tryz.underlying0
  a0 := Tryz.isAgg0
  z0 := Tryz.sizeOf0
  v0 := Tryz.zeroValue0
  t3 := Tryz.underlying3
  a3 := Tryz.isAgg3
  z3 := Tryz.sizeOf3
  v3 := Tryz.zeroValue3
  t9 := Tryz.underlying9
  a9 := Tryz.isAgg9
  z9 := Tryz.sizeOf9
  v9 := Tryz.zeroValue9
  t37 := Tryz.underlying57
  a37 := Tryz.isAgg57
  z37 := Tryz.sizeOf57
  v37 := Tryz.zeroValue57
  t70 := Tryz.underlying56
  a70 := Tryz.isAgg56
  z70 := Tryz.sizeOf56
  v70 := Tryz.zeroValue56
  t72 := Tryz.underlying59
  a72 := Tryz.isAgg59
  z72 := Tryz.sizeOf59
  v72 := Tryz.zeroValue59
  t127 := Tryz.underlying95
  a127 := Tryz.isAgg95
  z127 := Tryz.sizeOf95
  v127 := Tryz.zeroValue95 }
theorem Tryz.bx169 : Builder.Extra Tryz.prog Tryz.bl169_ren := {
  sizeBuilder := by kernel_rfl
  liesBuilder := by kernel_rfl
  t5 := Tryz.underlying5
  a5 := Tryz.isAgg5
  z5 := Tryz.sizeOf5
  v5 := Tryz.zeroValue5
  infoByte := by kernel_rfl
  cellsByte := by kernel_rfl
  sizeByte := by kernel_rfl
  neB5 := by decide }
end Go.Proofs
end

section
/- The walk of list's ZzBullet: a list without items is made ready, and the bullet of one line is written into a builder. -/
namespace Go.Proofs.YthjkmjimlhpbfaaGreatDoor.Blb
open Go.RowKit Go.Lib

theorem ws (B b : Nat) (bs : List Value) (s : ByteArray) (w : World) (h : IsBuilderF 59 5 B b bs w) (hlen : bs.length + s.size ≤ 140737488355328) (hBw : B ≤ w.heap.size) :
    Calls Tryz.prog 55 #[.pointer (some ⟨b, 0, none⟩), .string s] w fun e w' => e = .returned (.tuple #[.int .i64 s.size, .nilIface]) ∧ IsBuilderF 59 5 B b (bs ++ strCells s) w' ∧ Below B w w' ∧ OthersKept 5 (some b) w w' :=
  (Any.Builder_WriteString_k Tryz.bl166 Tryz.bx166 B b bs s w h hlen hBw).mono fun _ _ h => ⟨h.1, .inr h.2.1, h.2.2⟩

theorem wr (B b : Nat) (bs : List Value) (r : Int) (hr0 : -2147483648 ≤ r) (hr1 : r ≤ 2147483647) (w : World) (h : IsBuilderF 59 5 B b bs w) (hlen : bs.length + 4 ≤ 140737488355328) (hBw : B ≤ w.heap.size) :
    Calls Tryz.prog 48 #[.pointer (some ⟨b, 0, none⟩), .int .i32 r] w fun e w' => e = .returned (.tuple #[.int .i64 (runeCells r).length, .nilIface]) ∧ IsBuilderF 59 5 B b (bs ++ runeCells r) w' ∧ Below B w w' ∧ OthersKept 5 (some b) w w' :=
  (Any.Builder_WriteRune_k Tryz.bl168 Tryz.bx168 B b bs r hr0 hr1 w h hlen hBw).mono fun _ _ h => ⟨h.1, .inr h.2.1, h.2.2⟩

/-- a style's block -/
def Sty (w : World) (g : Nat) (fm : Int) (s1 s2 s3 s4 s5 s6 s7 s8 s9 : ByteArray) : Prop :=
  w.heap[g]? = some (.cells #[.int .i64 fm, .string s1, .string s2, .string s3, .string s4, .string s5, .string s6, .string s7, .string s8, .string s9] 45 (0, 0))
/-- a list's block -/
def LstB (w : World) (g : Nat) (v : Value) (n lv : Int) (vs cls : ByteArray) (sg : Nat) : Prop :=
  w.heap[g]? = some (.cells (Lst.lcells n vs cls v lv (some ⟨sg, 0, none⟩)) 52 (0, 0))

theorem keep {b k : Nat} {w w' : World} {o : Obj} (h : OthersKept 5 (some b) w w') (hk : w.heap[k]? = some o) (hb : k ≠ b) (ho : ∀ c fz, o ≠ .cells c 5 fz) : w'.heap[k]? = some o := h k o hk (by simpa using hb) ho

theorem apart {B b k : Nat} {bs : List Value} {w : World} {c : Array Value} {T : TypeId} {fz : Nat × Nat} (h : IsBuilderF 59 5 B b bs w) (hk : w.heap[k]? = some (.cells c T fz)) (hT : T ≠ 59) : k ≠ b := by
  rintro rfl
  rcases h with ⟨_, v, h, _⟩ | ⟨_, v, h, _⟩ <;> (rw [hk] at h; simp at h; exact hT h.2.1)

theorem lt_of_get {w : World} {k : Nat} {o : Obj} (h : w.heap[k]? = some o) : k < w.heap.size := by
  rcases Nat.lt_or_ge k w.heap.size with h' | h'
  · exact h'
  · simp [Array.getElem?_eq_none h'] at h
theorem alloc_get {w : World} {k : Nat} {o : Obj} (h : w.heap[k]? = some o) (x : Obj) : (w.alloc x).heap[k]? = some o := by
  have := lt_of_get h
  show (w.heap.push x)[k]? = some o
  rw [Array.getElem?_push, if_neg (Nat.ne_of_lt this), h]

def bullet1 (top first only last bottom : Bool) (s1 s2 s3 s4 s6 : ByteArray) : ByteArray :=
  if only then (if top then s1 else s6) else if top then s2 else if first then s3 else if bottom || last then s6 else s4

set_option maxRecDepth 100000 in
set_option maxHeartbeats 400000 in
theorem single (top first only last bottom : Bool) (B b l sg : Nat) (bs : List Value) (v : Value) (n lv fm : Int) (vs cls s1 s2 s3 s4 s5 s6 s7 s8 s9 : ByteArray) (w : World) (hb : IsBuilderF 59 5 B b bs w) (hl : LstB w l v n lv vs cls sg) (hs : Sty w sg fm s1 s2 s3 s4 s5 s6 s7 s8 s9)
    (hlen : bs.length + (bullet1 top first only last bottom s1 s2 s3 s4 s6).size + 4 ≤ 140737488355328) (hBw : B ≤ w.heap.size) :
    Calls Tryz.prog 69 #[.pointer (some ⟨l, 0, none⟩), .pointer (some ⟨b, 0, none⟩), .agg #[.bool top, .bool first, .bool only, .bool last, .bool bottom]] w fun e w' => e = .returned (.tuple #[]) ∧ IsBuilderF 59 5 B b (bs ++ strCells (bullet1 top first only last bottom s1 s2 s3 s4 s6) ++ runeCells 32) w' ∧ Below B w w' := by
  have hll := lt_of_get hl
  have hsl := lt_of_get hs
  have l5 : ∀ o, (w.alloc o).cell? ⟨l, 5, none⟩ = some (.pointer (some ⟨sg, 0, none⟩)) := fun o => by rw [Lib.cell_of_heap (alloc_get hl o)]; rfl
  have y : ∀ o, ∀ (j : Nat), (w.alloc o).cell? ⟨sg, j, none⟩ = (#[.int .i64 fm, .string s1, .string s2, .string s3, .string s4, .string s5, .string s6, .string s7, .string s8, .string s9] : Array Value)[j]? := fun o j => by rw [Lib.cell_of_heap (alloc_get hs o)]
  have y1 : ∀ o, (w.alloc o).cell? ⟨sg, 1, none⟩ = some (.string s1) := fun o => by rw [y]; rfl
  have y2 : ∀ o, (w.alloc o).cell? ⟨sg, 2, none⟩ = some (.string s2) := fun o => by rw [y]; rfl
  have y3 : ∀ o, (w.alloc o).cell? ⟨sg, 3, none⟩ = some (.string s3) := fun o => by rw [y]; rfl
  have y4 : ∀ o, (w.alloc o).cell? ⟨sg, 4, none⟩ = some (.string s4) := fun o => by rw [y]; rfl
  have y6 : ∀ o, (w.alloc o).cell? ⟨sg, 6, none⟩ = some (.string s6) := fun o => by rw [y]; rfl
  clear y hl hs
  cases only <;> cases top <;> cases first <;> cases bottom <;> cases last
  all_goals
    simp only [bullet1, if_true, if_false, Bool.false_eq_true, Bool.or_true, Bool.or_false, Bool.true_or, Bool.false_or, reduceIte] at hlen ⊢
    go_enter Tryz.func69, Tryz.ntmps69
    go_wp2_with (first
      | (go_at_call 55; refine (ws B b bs _ _ (hb.alloc _) (by omega) (by simp; omega)).mono ?_; rintro e w1 ⟨rfl, hb1, hw1, ho1⟩)
      | (go_at_call 48; refine (wr B b _ 32 (by omega) (by omega) _ hb1 (by simp [strCells_length]; omega) (by have := hw1.size; simp at this; omega)).mono ?_; rintro e w2 ⟨rfl, hb2, hw2, ho2⟩))
    go_end0
    exact ⟨rfl, hb2, (((Below.refl B w).alloc hBw _).trans hw1).trans hw2⟩

def bullet (line : Int) (top first only last bottom : Bool) (vs s1 s2 s3 s4 s5 s6 : ByteArray) : ByteArray :=
  if line > 0 then (if last then vs else s5) else bullet1 top first only last bottom s1 s2 s3 s4 s6 ++ (⟨#[32]⟩ : ByteArray)

set_option maxRecDepth 100000 in
set_option maxHeartbeats 400000 in
theorem item (line : Int) (top first only last bottom : Bool) (B b l sg : Nat) (bs : List Value) (v : Value) (n lv fm : Int) (vs cls s1 s2 s3 s4 s5 s6 s7 s8 s9 : ByteArray) (w : World) (hb : IsBuilderF 59 5 B b bs w) (hl : LstB w l v n lv vs cls sg) (hs : Sty w sg fm s1 s2 s3 s4 s5 s6 s7 s8 s9)
    (hlen : bs.length + (bullet line top first only last bottom vs s1 s2 s3 s4 s5 s6).size + 4 ≤ 140737488355328) (hBw : B ≤ w.heap.size) :
    Calls Tryz.prog 54 #[.pointer (some ⟨l, 0, none⟩), .pointer (some ⟨b, 0, none⟩), .int .i64 line, .agg #[.bool top, .bool first, .bool only, .bool last, .bool bottom]] w fun e w' => e = .returned (.tuple #[]) ∧ IsBuilderF 59 5 B b (bs ++ strCells (bullet line top first only last bottom vs s1 s2 s3 s4 s5 s6)) w' ∧ Below B w w' := by
  have l1 : ∀ o, (w.alloc o).cell? ⟨l, 1, none⟩ = some (.string vs) := fun o => by rw [Lib.cell_of_heap (alloc_get hl o)]; rfl
  have l5 : ∀ o, (w.alloc o).cell? ⟨l, 5, none⟩ = some (.pointer (some ⟨sg, 0, none⟩)) := fun o => by rw [Lib.cell_of_heap (alloc_get hl o)]; rfl
  have y5 : ∀ o, (w.alloc o).cell? ⟨sg, 5, none⟩ = some (.string s5) := fun o => by rw [Lib.cell_of_heap (alloc_get hs o)]; rfl
  have hLst : ∀ o, LstB (w.alloc o) l v n lv vs cls sg := fun o => alloc_get hl o
  have hSty : ∀ o, Sty (w.alloc o) sg fm s1 s2 s3 s4 s5 s6 s7 s8 s9 := fun o => alloc_get hs o
  have hll := lt_of_get hl
  clear hl hs
  unfold bullet at hlen ⊢
  by_cases h0 : line > 0
  · rw [if_pos h0] at hlen ⊢
    cases last
    all_goals
      simp only [if_true, if_false, Bool.false_eq_true, reduceIte] at hlen ⊢
      go_enter Tryz.func54, Tryz.ntmps54
      go_wp2_with (first
        | (go_at_call 55; refine (ws B b bs _ _ (hb.alloc _) (by omega) (by simp; omega)).mono ?_; rintro e w1 ⟨rfl, hb1, hw1, ho1⟩))
      go_end0
      exact ⟨rfl, hb1, (((Below.refl B w).alloc hBw _).trans hw1)⟩
  · rw [if_neg h0] at hlen ⊢
    have hsz : ((bullet1 top first only last bottom s1 s2 s3 s4 s6) ++ (⟨#[32]⟩ : ByteArray)).size = (bullet1 top first only last bottom s1 s2 s3 s4 s6).size + 1 := by simp [ByteArray.size_append]; rfl
    rw [hsz] at hlen
    go_enter Tryz.func54, Tryz.ntmps54
    go_wp2_with (first
      | (go_at_call 69; refine (single top first only last bottom B b l sg bs v n lv fm vs cls s1 s2 s3 s4 s5 s6 s7 s8 s9 _ (hb.alloc _) (hLst _) (hSty _) (by omega) (by simp; omega)).mono ?_; rintro e w1 ⟨rfl, hb1, hw1⟩))
    go_end0
    refine ⟨rfl, ?_, (((Below.refl B w).alloc hBw _).trans hw1)⟩
    have e : strCells ((bullet1 top first only last bottom s1 s2 s3 s4 s6) ++ (⟨#[32]⟩ : ByteArray)) = strCells (bullet1 top first only last bottom s1 s2 s3 s4 s6) ++ runeCells 32 := by
      rw [strCells_eq, strCells_eq, ByteArray.data_append, Array.toList_append, byteCells_append]; rfl
    rw [e, ← List.append_assoc]
    exact hb1
end Go.Proofs.YthjkmjimlhpbfaaGreatDoor.Blb
end

section
/- The walk of renderItemBulletPrefix. -/
namespace Go.Proofs.YthjkmjimlhpbfaaGreatDoor.Lpr
open Go Go.RowKit Go.Lib Go.Proofs.YthjkmjimlhpbfaaGreatDoor.Lst Go.Proofs.YthjkmjimlhpbfaaGreatDoor.Lmo Go.Proofs.YthjkmjimlhpbfaaGreatDoor.Blb Go.Proofs.YthjkmjimlhpbfaaGreatDoorW.PrintWords

/-- what stands ahead of an item's bullet: the levels ahead of k -/
def pre (s5 cv : ByteArray) (xs : List (Int × ByteArray)) (idx : Nat) : Nat → List UInt8
  | 0 => []
  | k + 1 => pre s5 cv xs idx k ++ (if more (xs.drop (idx + 1)) (k : Int) = true then s5 else cv).data.toList
theorem pre_len (s5 cv : ByteArray) (xs : List (Int × ByteArray)) (idx : Nat) (h5 : s5.size ≤ 1000) (hc : cv.size ≤ 1000) : ∀ k, (pre s5 cv xs idx k).length ≤ 1000 * k
  | 0 => by simp [pre]
  | k + 1 => by
    have h := pre_len s5 cv xs idx h5 hc k
    have hx : (if more (xs.drop (idx + 1)) (k : Int) = true then s5 else cv).data.toList.length ≤ 1000 := by
      split
      · rw [Small.size_data]; exact h5
      · rw [Small.size_data]; exact hc
    simp only [pre, List.length_append]
    omega
theorem bld_below {T e : TypeId} {B b : Nat} {bs : List Value} {w w' : World} (h : IsBuilderF T e B b bs w) (hw : Below w.heap.size w w') : IsBuilderF T e B b bs w' := by
  have gr : w.grownBy w' none := ⟨hw.os, hw.tape, hw.output, hw.size, fun i hi _ => hw.block i hi⟩
  have hx : ∀ p, BuilderAtF T e B b p bs w → BuilderAtF T e B b p bs w' := fun p ⟨hB, v, hb, hown, hne⟩ => ⟨hB, v, by rw [hw.block _ (Lst.lt_of hb)]; exact hb, hown.kept gr (by cases h : v.ownBlock with | none => exact .inl rfl | some k => exact .inr (by simp)), hne⟩
  exact h.elim (fun h => .inl (hx _ h)) (fun h => .inr (hx _ h))

/-- the list and its style lie, the builder holds acc -/
structure Rs (w0 wo wb : World) (b bld sg : Nat) (v : Value) (ps : List Nat) (xs : List (Int × ByteArray)) (lv ap fm : Int) (cv css s1 s2 s3 s4 s5 s6 s7 s8 s9 : ByteArray) (acc : List UInt8) (w : World) : Prop where
  lst : LstV w0 b v ps xs lv ap cv css (some ⟨sg, 0, none⟩) wb
  sty : Sty wb sg fm s1 s2 s3 s4 s5 s6 s7 s8 s9
  below : Below wb.heap.size wb w
  bl : IsBuilderF 59 5 wb.heap.size bld (byteCells acc) w
  oth : OthersKept 5 (some bld) wo w
section
variable {w0 wo wb w w' : World} {b bld sg : Nat} {v : Value} {ps : List Nat} {xs : List (Int × ByteArray)} {lv ap fm : Int} {cv css s1 s2 s3 s4 s5 s6 s7 s8 s9 : ByteArray} {acc : List UInt8}
theorem Rs.now (h : Rs w0 wo wb b bld sg v ps xs lv ap fm cv css s1 s2 s3 s4 s5 s6 s7 s8 s9 acc w) : LstV w0 b v ps xs lv ap cv css (some ⟨sg, 0, none⟩) w := h.lst.kept h.below
theorem Rs.st (h : Rs w0 wo wb b bld sg v ps xs lv ap fm cv css s1 s2 s3 s4 s5 s6 s7 s8 s9 acc w) : Sty w sg fm s1 s2 s3 s4 s5 s6 s7 s8 s9 := (h.below.block _ (Lst.lt_of h.sty)).trans h.sty
theorem Rs.kept (h : Rs w0 wo wb b bld sg v ps xs lv ap fm cv css s1 s2 s3 s4 s5 s6 s7 s8 s9 acc w) (hw : Below w.heap.size w w') : Rs w0 wo wb b bld sg v ps xs lv ap fm cv css s1 s2 s3 s4 s5 s6 s7 s8 s9 acc w' :=
  ⟨h.lst, h.sty, h.below.trans (hw.mono h.below.size), bld_below h.bl hw, h.oth.trans (fun k o hk _ _ => (hw.block k (Lst.lt_of hk)).trans hk)⟩
theorem Rs.ws (h : Rs w0 wo wb b bld sg v ps xs lv ap fm cv css s1 s2 s3 s4 s5 s6 s7 s8 s9 acc w) (s : ByteArray) (hs : acc.length + s.size ≤ 140737488355328) :
    Calls Tryz.prog 55 #[.pointer (some ⟨bld, 0, none⟩), .string s] w fun e w' => (∃ u, e = .returned u) ∧ Rs w0 wo wb b bld sg v ps xs lv ap fm cv css s1 s2 s3 s4 s5 s6 s7 s8 s9 (acc ++ s.data.toList) w' := by
  refine (Blb.ws wb.heap.size bld _ s w h.bl (by rw [byteCells_length]; exact hs) h.below.size).mono ?_
  rintro e w' ⟨he, hb, hw, ho⟩
  exact ⟨⟨_, he⟩, h.lst, h.sty, h.below.trans hw, by rw [byteCells_append, ← strCells_eq]; exact hb, h.oth.trans ho⟩
end

set_option linter.all false in
set_option maxRecDepth 100000 in
set_option maxHeartbeats 2000000 in
theorem prefix_ {w0 wo wb w : World} {b bld sg : Nat} {v : Value} {ps : List Nat} {xs : List (Int × ByteArray)} {lv ap fm : Int} {cv css s1 s2 s3 s4 s5 s6 s7 s8 s9 : ByteArray} {acc : List UInt8} (h : Rs w0 wo wb b bld sg v ps xs lv ap fm cv css s1 s2 s3 s4 s5 s6 s7 s8 s9 acc w)
    (idx K : Nat) (hn : xs.length ≤ 100000) (hi : idx < xs.length) (h5 : s5.size ≤ 1000) (h8 : s8.size ≤ 1000) (hc : cv.size ≤ 1000) (hK : K ≤ 100000) (ha : acc.length ≤ 1000000000000) :
    Calls Tryz.prog 53 #[.pointer (some ⟨b, 0, none⟩), .pointer (some ⟨bld, 0, none⟩), .int .i64 idx, .int .i64 K] w fun e w' => e = .returned (.tuple #[]) ∧ Rs w0 wo wb b bld sg v ps xs lv ap fm cv css s1 s2 s3 s4 s5 s6 s7 s8 s9 (acc ++ s8.data.toList ++ pre s5 cv xs idx K) w' := by
  have facts : ∀ acc' w', Rs w0 wo wb b bld sg v ps xs lv ap fm cv css s1 s2 s3 s4 s5 s6 s7 s8 s9 acc' w' → w'.cell? ⟨b, 5, none⟩ = some (.pointer (some ⟨sg, 0, none⟩)) ∧ w'.cell? ⟨b, 1, none⟩ = some (.string cv) ∧ w'.cell? ⟨sg, 8, none⟩ = some (.string s8) ∧ w'.cell? ⟨sg, 9, none⟩ = some (.string s9) ∧ w'.cell? ⟨sg, 5, none⟩ = some (.string s5) := fun acc' w' R =>
    ⟨R.now.c 5, R.now.c 1, by rw [Lib.cell_of_heap R.st]; rfl, by rw [Lib.cell_of_heap R.st]; rfl, by rw [Lib.cell_of_heap R.st]; rfl⟩
  obtain ⟨f1, f2, f3, f4, f5⟩ := facts _ _ h
  have HF := Aside0.mk facts
  have HH := Aside0.mk h
  have PL := Aside0.mk (pre_len s5 cv xs idx h5 hc)
  clear facts h
  have HL : ∀ acc' w', Rs w0 wo wb b bld sg v ps xs lv ap fm cv css s1 s2 s3 s4 s5 s6 s7 s8 s9 acc' w' → ∀ k : Nat, Calls Tryz.prog 37 #[.pointer (some ⟨b, 0, none⟩), .int .i64 k, .int .i64 idx] w' fun e w'' => e = .returned (.bool (more (xs.drop (idx + 1)) k)) ∧ w'' = w' := fun acc' w' R k => hasMore w0 w' b v ps xs lv ap cv css _ k idx R.now hn hi
  have HLA := Aside0.mk HL
  have HB8 := Aside0.mk (And.intro h8 (And.intro h5 (And.intro hc ha)))
  clear HL hn hi h5 hc ha
  -- behind the line's prefix
  have REST : ∀ w1, Rs w0 wo wb b bld sg v ps xs lv ap fm cv css s1 s2 s3 s4 s5 s6 s7 s8 s9 (acc ++ s8.data.toList) w1 → Rs w0 wo wb b bld sg v ps xs lv ap fm cv css s1 s2 s3 s4 s5 s6 s7 s8 s9 (acc ++ s8.data.toList ++ pre s5 cv xs idx 0) w1 := fun w1 R => by
    have e : acc ++ s8.data.toList ++ pre s5 cv xs idx 0 = acc ++ s8.data.toList := by simp [pre]
    rw [e]; exact R
  by_cases h0 : s8.data.toList = []
  · have e0 : acc ++ s8.data.toList = acc := by rw [h0, List.append_nil]
    have q1 : s8.toList.isEmpty = true := by rw [Small.toList_data, h0]; rfl
    have q2 : (s8.toList == []) = true := by rw [Small.toList_data, h0]; rfl
    have q3 : (s8.toList != []) = false := by rw [Small.toList_data, h0]; rfl
    have R0 := Aside0.mk (REST w (by rw [e0]; exact HH.out))
    clear REST h0 e0
    go_enter Tryz.func53, Tryz.ntmps53
    go_wp2_with (fail)
    go_loopw [8] (fun i wr => ∃ k : Nat, k ≤ K ∧ i = .int .i64 k ∧ Rs w0 wo wb b bld sg v ps xs lv ap fm cv css s1 s2 s3 s4 s5 s6 s7 s8 s9 (acc ++ s8.data.toList ++ pre s5 cv xs idx k) wr) (fun i _ => K - (RowKit.intOf i).toNat)
    case atStart => exact ⟨0, by omega, rfl, R0.out⟩
    case round =>
      obtain ⟨k, hk, rfl, R⟩ := hrel
      obtain ⟨f1, f2, f3, f4, f5⟩ := HF.out _ _ R
      by_cases hlt : k < K
      · have hd : decide ((k : Int) < (K : Int)) = true := by simp; omega
        have hm := HLA.out _ _ R k
        have hnext : pre s5 cv xs idx (k + 1) = pre s5 cv xs idx k ++ (if more (xs.drop (idx + 1)) (k : Int) = true then s5 else cv).data.toList := rfl
        have hpl := PL.out k
        obtain ⟨m, hme⟩ : ∃ m, m = more (xs.drop (idx + 1)) (k : Int) := ⟨_, rfl⟩
        rw [← hme] at hm hnext
        have HN := Aside0.mk hnext
        have hsz : (acc ++ s8.data.toList ++ pre s5 cv xs idx k).length ≤ 2000000000000 := by
          have := HB8.out
          rw [List.length_append, List.length_append, Small.size_data]; omega
        have HSZ := Aside0.mk hsz
        have HMC := Aside0.mk hm
        have RR := Aside0.mk R
        have hw : IntKind.i64.wrap ((k : Int) + 1) = ((k + 1 : Nat) : Int) := by rw [wrap_i _ (by omega) (by omega)]; omega
        clear hnext hme hpl hsz hm R
        cases m with
        | true =>
          go_wp2_with (first
            | (go_at_call 37; go_must (refine HMC.out.mono ?_; rintro e w2 ⟨rfl, rfl⟩))
            | (go_at_call 55; go_must (refine (RR.out.ws s5 (by have := HSZ.out; have := HB8.out; omega)).mono ?_; rintro e w3 ⟨⟨u3, rfl⟩, R3⟩)))
          go_roundw
          case rel => exact ⟨k + 1, hlt, by first | rfl | (rw [hw]; rfl) | simp, by rw [HN.out, if_pos (by first | rfl | trivial), ← List.append_assoc]; exact R3⟩
          case measure => simp [RowKit.intOf]; omega
        | false =>
          go_wp2_with (first
            | (go_at_call 37; go_must (refine HMC.out.mono ?_; rintro e w2 ⟨rfl, rfl⟩))
            | (go_at_call 55; go_must (refine (RR.out.ws cv (by have := HSZ.out; have := HB8.out; omega)).mono ?_; rintro e w3 ⟨⟨u3, rfl⟩, R3⟩)))
          go_roundw
          case rel => exact ⟨k + 1, hlt, by first | rfl | (rw [hw]; rfl) | simp, by rw [HN.out, if_neg (by first | decide | simp), ← List.append_assoc]; exact R3⟩
          case measure => simp [RowKit.intOf]; omega
      · have hd : decide ((k : Int) < (K : Int)) = false := by simp; omega
        obtain rfl : k = K := by omega
        have RR := Aside0.mk R
        clear R
        go_wp2_with (fail)
        go_end0
        exact ⟨rfl, RR.out⟩
  · have q1 : s8.toList.isEmpty = false := by rw [Small.toList_data]; simpa using h0
    have q2 : (s8.toList == []) = false := by rw [Small.toList_data]; simpa using h0
    have q3 : (s8.toList != []) = true := by rw [bne, q2]; rfl
    have RA := Aside0.mk REST
    clear REST h0
    go_enter Tryz.func53, Tryz.ntmps53
    go_wp2_with (first
      | (go_at_call 55; go_must (refine (HH.out.ws s8 (by have := HB8.out; omega)).mono ?_; rintro e w1 ⟨⟨u1, rfl⟩, R1⟩)))
    go_loopw [8] (fun i wr => ∃ k : Nat, k ≤ K ∧ i = .int .i64 k ∧ Rs w0 wo wb b bld sg v ps xs lv ap fm cv css s1 s2 s3 s4 s5 s6 s7 s8 s9 (acc ++ s8.data.toList ++ pre s5 cv xs idx k) wr) (fun i _ => K - (RowKit.intOf i).toNat)
    case atStart => exact ⟨0, by omega, rfl, RA.out _ R1⟩
    case round =>
      obtain ⟨k, hk, rfl, R⟩ := hrel
      obtain ⟨f1, f2, f3, f4, f5⟩ := HF.out _ _ R
      by_cases hlt : k < K
      · have hd : decide ((k : Int) < (K : Int)) = true := by simp; omega
        have hm := HLA.out _ _ R k
        have hnext : pre s5 cv xs idx (k + 1) = pre s5 cv xs idx k ++ (if more (xs.drop (idx + 1)) (k : Int) = true then s5 else cv).data.toList := rfl
        have hpl := PL.out k
        obtain ⟨m, hme⟩ : ∃ m, m = more (xs.drop (idx + 1)) (k : Int) := ⟨_, rfl⟩
        rw [← hme] at hm hnext
        have HN := Aside0.mk hnext
        have hsz : (acc ++ s8.data.toList ++ pre s5 cv xs idx k).length ≤ 2000000000000 := by
          have := HB8.out
          rw [List.length_append, List.length_append, Small.size_data]; omega
        have HSZ := Aside0.mk hsz
        have HMC := Aside0.mk hm
        have RR := Aside0.mk R
        have hw : IntKind.i64.wrap ((k : Int) + 1) = ((k + 1 : Nat) : Int) := by rw [wrap_i _ (by omega) (by omega)]; omega
        clear hnext hme hpl hsz hm R
        cases m with
        | true =>
          go_wp2_with (first
            | (go_at_call 37; go_must (refine HMC.out.mono ?_; rintro e w2 ⟨rfl, rfl⟩))
            | (go_at_call 55; go_must (refine (RR.out.ws s5 (by have := HSZ.out; have := HB8.out; omega)).mono ?_; rintro e w3 ⟨⟨u3, rfl⟩, R3⟩)))
          go_roundw
          case rel => exact ⟨k + 1, hlt, by first | rfl | (rw [hw]; rfl) | simp, by rw [HN.out, if_pos (by first | rfl | trivial), ← List.append_assoc]; exact R3⟩
          case measure => simp [RowKit.intOf]; omega
        | false =>
          go_wp2_with (first
            | (go_at_call 37; go_must (refine HMC.out.mono ?_; rintro e w2 ⟨rfl, rfl⟩))
            | (go_at_call 55; go_must (refine (RR.out.ws cv (by have := HSZ.out; have := HB8.out; omega)).mono ?_; rintro e w3 ⟨⟨u3, rfl⟩, R3⟩)))
          go_roundw
          case rel => exact ⟨k + 1, hlt, by first | rfl | (rw [hw]; rfl) | simp, by rw [HN.out, if_neg (by first | decide | simp), ← List.append_assoc]; exact R3⟩
          case measure => simp [RowKit.intOf]; omega
      · have hd : decide ((k : Int) < (K : Int)) = false := by simp; omega
        obtain rfl : k = K := by omega
        have RR := Aside0.mk R
        clear R
        go_wp2_with (fail)
        go_end0
        exact ⟨rfl, RR.out⟩
end Go.Proofs.YthjkmjimlhpbfaaGreatDoor.Lpr
end

section
/- The walk of renderItem, for texts without line ends, formats as they come. -/
namespace Go.Proofs.YthjkmjimlhpbfaaGreatDoor.Lri
open Go Go.RowKit Go.Lib Go.Proofs.YthjkmjimlhpbfaaGreatDoor.GLsBody Go.Proofs.YthjkmjimlhpbfaaGreatDoor.Lst Go.Proofs.YthjkmjimlhpbfaaGreatDoor.Lmo Go.Proofs.YthjkmjimlhpbfaaGreatDoor.Blb Go.Proofs.YthjkmjimlhpbfaaGreatDoor.Lpr Go.Proofs.YthjkmjimlhpbfaaGreatDoor.Lan Go.Proofs.YthjkmjimlhpbfaaGreatDoorW.PrintWords Go.Proofs.YthjkmjimlhpbfaaGreatDoorW.PrintLast Go.Proofs.YthjkmjimlhpbfaaGreatDoorW.PrintMore

set_option linter.all false in
set_option maxRecDepth 100000 in
set_option maxHeartbeats 1000000 in
theorem apply0 (t : ByteArray) (w : World) : Calls Tryz.prog 49 #[.int .i64 0, .string t] w fun e w' => e = .returned (.string t) ∧ w' = w := by
  go_enter Tryz.func49, Tryz.ntmps49
  go_wp2_with (fail)
  go_ret
  exact ⟨rfl, rfl⟩
/-- a text without line ends is one line -/
theorem split1 (t : ByteArray) (h : Pl t.data.toList) (ht : t.size ≤ 100000) : ∃ k, list_zzSplit.f k t ⟨#[10]⟩ = some [t] := by
  have hl : t.data.toList.length ≤ 100000 := by rw [Small.size_data]; exact ht
  have h1 := L.index_none t.data.toList [10] (by omega) (by decide) (no_sign _ h 10 (by decide) _ rfl) (t.data.toList.length + 1) 0 (by omega)
  rw [Small.str_of] at h1
  have : Ev (fun k => list_zzSplit.f k t (Small.str [10])) [t] := by
    have hz : ¬ ((Small.str [10]).size : Int) = 0 := by decide
    simp only [list_zzSplit.f, if_neg hz]
    refine Small.Ev.shift ?_
    simp only [list_zzSplit.l1]
    have hidx : Ev (fun k => list_zzIndex.f k t (Small.str [10])) (-1 : Int) := by simp only [list_zzIndex.f]; exact h1
    refine Ev.bind hidx ?_
    simp only [if_pos (show (-1 : Int) < 0 by omega), List.length_nil, if_pos (show 0 < 8796093022208 by omega), List.nil_append]
    exact Ev.now _
  obtain ⟨K, hK⟩ := this
  exact ⟨K, hK K (Nat.le_refl _)⟩
theorem has10 (t : ByteArray) (h : Pl t.data.toList) (ht : t.size ≤ 100000) : ∃ k, list_zzContains.f k t ⟨#[10]⟩ = some false := by
  have hl : t.data.toList.length ≤ 100000 := by rw [Small.size_data]; exact ht
  obtain ⟨k, hk⟩ := L.contains_none t.data.toList [10] (by omega) (by decide) (no_sign _ h 10 (by decide) _ rfl)
  rw [Small.str_of] at hk
  exact ⟨k, hk⟩
section
variable {w0 wo wb w w' : World} {b bld sg : Nat} {v : Value} {ps : List Nat} {xs : List (Int × ByteArray)} {lv ap fm : Int} {cv css s1 s2 s3 s4 s5 s6 s7 s8 s9 : ByteArray} {acc : List UInt8}
theorem _root_.Go.Proofs.YthjkmjimlhpbfaaGreatDoor.Lpr.Rs.lf (h : Rs w0 wo wb b bld sg v ps xs lv ap fm cv css s1 s2 s3 s4 s5 s6 s7 s8 s9 acc w) (hs : acc.length + 4 ≤ 140737488355328) :
    Calls Tryz.prog 48 #[.pointer (some ⟨bld, 0, none⟩), .int .i32 10] w fun e w' => (∃ u, e = .returned u) ∧ Rs w0 wo wb b bld sg v ps xs lv ap fm cv css s1 s2 s3 s4 s5 s6 s7 s8 s9 (acc ++ [10]) w' := by
  refine (Blb.wr wb.heap.size bld _ 10 (by omega) (by omega) w h.bl (by rw [byteCells_length]; exact hs) h.below.size).mono ?_
  rintro e w' ⟨he, hb, hw, ho⟩
  have e10 : runeCells 10 = byteCells [10] := by kernel_rfl
  exact ⟨⟨_, he⟩, h.lst, h.sty, h.below.trans hw, by rw [byteCells_append, ← e10]; exact hb, h.oth.trans ho⟩
theorem _root_.Go.Proofs.YthjkmjimlhpbfaaGreatDoor.Lpr.Rs.bul (h : Rs w0 wo wb b bld sg v ps xs lv ap fm cv css s1 s2 s3 s4 s5 s6 s7 s8 s9 acc w) (top first only last bottom : Bool)
    (hs : acc.length + (bullet 0 top first only last bottom cv s1 s2 s3 s4 s5 s6).size + 4 ≤ 140737488355328) :
    Calls Tryz.prog 54 #[.pointer (some ⟨b, 0, none⟩), .pointer (some ⟨bld, 0, none⟩), .int .i64 0, .agg #[.bool top, .bool first, .bool only, .bool last, .bool bottom]] w fun e w' => e = .returned (.tuple #[]) ∧ Rs w0 w' wb b bld sg v ps xs lv ap fm cv css s1 s2 s3 s4 s5 s6 s7 s8 s9 (acc ++ (bullet 0 top first only last bottom cv s1 s2 s3 s4 s5 s6).data.toList) w' := by
  refine (Blb.item 0 top first only last bottom wb.heap.size bld b sg _ v ap lv fm cv css s1 s2 s3 s4 s5 s6 s7 s8 s9 w h.bl h.now.own h.st (by rw [byteCells_length]; exact hs) h.below.size).mono ?_
  rintro e w' ⟨he, hb, hw⟩
  exact ⟨he, h.lst, h.sty, h.below.trans hw, by rw [byteCells_append, ← strCells_eq]; exact hb, OthersKept.refl _ _ _⟩
theorem _root_.Go.Proofs.YthjkmjimlhpbfaaGreatDoor.Lpr.Rs.drewN (h : Rs w0 wo wb b bld sg v ps xs lv ap fm cv css s1 s2 s3 s4 s5 s6 s7 s8 s9 acc w) (q : Nat) : Rs w0 wo wb b bld sg v ps xs lv ap fm cv css s1 s2 s3 s4 s5 s6 s7 s8 s9 acc (w.drewN q) := h.kept (pw_below_drewN (Below.refl _ _) q)
theorem _root_.Go.Proofs.YthjkmjimlhpbfaaGreatDoor.Lpr.Rs.alloc (h : Rs w0 wo wb b bld sg v ps xs lv ap fm cv css s1 s2 s3 s4 s5 s6 s7 s8 s9 acc w) (o : Obj) : Rs w0 wo wb b bld sg v ps xs lv ap fm cv css s1 s2 s3 s4 s5 s6 s7 s8 s9 acc (w.alloc o) := h.kept ((Below.refl _ _).alloc (Nat.le_refl _) o)
theorem _root_.Go.Proofs.YthjkmjimlhpbfaaGreatDoor.Lpr.Rs.re (h : Rs w0 wo wb b bld sg v ps xs lv ap fm cv css s1 s2 s3 s4 s5 s6 s7 s8 s9 acc w) : Rs w0 w wb b bld sg v ps xs lv ap fm cv css s1 s2 s3 s4 s5 s6 s7 s8 s9 acc w := ⟨h.lst, h.sty, h.below, h.bl, OthersKept.refl _ _ _⟩
/-- a block that is not the builder's stays -/
theorem _root_.Go.Proofs.YthjkmjimlhpbfaaGreatDoor.Lpr.Rs.stays (h : Rs w0 wo wb b bld sg v ps xs lv ap fm cv css s1 s2 s3 s4 s5 s6 s7 s8 s9 acc w) {k : Nat} {o : Obj} (hk : wo.heap[k]? = some o) (hb : k ≠ bld) (ho : ∀ c fz, o ≠ .cells c 5 fz) : w.heap[k]? = some o := h.oth k o hk (by simpa using hb) ho
end
/-- a row of one text -/
theorem one_row {w w' : World} {v : Value} {t : ByteArray} (h : Kd.R Kd.string 9 w' w.heap.size (fun _ => True) v [t]) : ∃ g c, v = .slice (some ⟨g, 0, none⟩) 1 c ∧ ∀ W, Below w'.heap.size w' W → W.cell? ⟨g, 0, none⟩ = some (.string t) := by
  obtain ⟨ad, c, rfl⟩ := Kd.R_slice1 h (by simp)
  obtain ⟨g, rfl⟩ : ∃ g, ad = ⟨g, 0, none⟩ := by
    obtain ⟨_, inner, ho, _⟩ := h
    rcases ho.2 with ⟨hv, _⟩ | ⟨g, cap', cur, hv, _⟩
    · cases hv
    · injection hv with ha _ _
      injection ha with ha
      exact ⟨g, ha⟩
  refine ⟨g, c, rfl, fun W hW => ?_⟩
  have := (Kd.R_cell (d := ⟨#[]⟩) (Kd.R_below h hW) 0 (by omega) (by simp)).1
  exact this
end Go.Proofs.YthjkmjimlhpbfaaGreatDoor.Lri
end

section
/- The walk of renderItem, for texts without line ends, format 0. -/
namespace Go.Proofs.YthjkmjimlhpbfaaGreatDoor.Lrj
open Go Go.RowKit Go.Lib Go.Proofs.YthjkmjimlhpbfaaGreatDoor.GLsBody Go.Proofs.YthjkmjimlhpbfaaGreatDoor.Lst Go.Proofs.YthjkmjimlhpbfaaGreatDoor.Lmo Go.Proofs.YthjkmjimlhpbfaaGreatDoor.Blb Go.Proofs.YthjkmjimlhpbfaaGreatDoor.Lpr Go.Proofs.YthjkmjimlhpbfaaGreatDoor.Lan Go.Proofs.YthjkmjimlhpbfaaGreatDoor.Lri Go.Proofs.YthjkmjimlhpbfaaGreatDoorW.PrintWords Go.Proofs.YthjkmjimlhpbfaaGreatDoorW.PrintLast Go.Proofs.YthjkmjimlhpbfaaGreatDoorW.PrintMore

/-- an item's line, with the line's end ahead of all but the first one -/
def line (idx : Nat) (top first only last bottom : Bool) (K : Nat) (t : ByteArray) (cv s1 s2 s3 s4 s5 s6 s8 : ByteArray) (xs : List (Int × ByteArray)) : List UInt8 :=
  (if idx = 0 then [] else [10]) ++ s8.data.toList ++ pre s5 cv xs idx K ++ (bullet 0 top first only last bottom cv s1 s2 s3 s4 s5 s6).data.toList ++ t.data.toList

theorem bld_lt {T e : TypeId} {B b : Nat} {bs : List Value} {w : World} (h : IsBuilderF T e B b bs w) : b < w.heap.size := by
  rcases h with ⟨_, v, h, _⟩ | ⟨_, v, h, _⟩ <;> exact Lst.lt_of h

set_option linter.all false in
set_option maxRecDepth 100000 in
set_option maxHeartbeats 2000000 in
theorem body {w0 wo wb w : World} {b bld sg : Nat} {v : Value} {ps : List Nat} {xs : List (Int × ByteArray)} {lv ap : Int} {cv css s1 s2 s3 s4 s5 s6 s7 s8 s9 : ByteArray} {acc : List UInt8} (h : Rs w0 wo wb b bld sg v ps xs lv ap 0 cv css s1 s2 s3 s4 s5 s6 s7 s8 s9 acc w)
    (idx K p : Nat) (t : ByteArray) (top first only last bottom : Bool) (hp : ps[idx]? = some p) (hx : xs[idx]? = some ((K : Int), t)) (hn : xs.length ≤ 100000) (h5 : s5.size ≤ 1000) (h8 : s8.size ≤ 1000) (hc : cv.size ≤ 1000) (hK : K ≤ 100000) (ha : acc.length ≤ 100000000000) (hbu : (bullet 0 top first only last bottom cv s1 s2 s3 s4 s5 s6).size ≤ 10000) (ht : Pl t.data.toList) (hts : t.size ≤ 100000) :
    Calls Tryz.prog 38 #[.pointer (some ⟨b, 0, none⟩), .pointer (some ⟨bld, 0, none⟩), .int .i64 idx, .pointer (some ⟨p, 0, none⟩), .agg #[.bool top, .bool first, .bool only, .bool last, .bool bottom]] w fun e w' => e = .returned (.tuple #[]) ∧ Rs w0 w' wb b bld sg v ps xs lv ap 0 cv css s1 s2 s3 s4 s5 s6 s7 s8 s9 (acc ++ line idx top first only last bottom K t cv s1 s2 s3 s4 s5 s6 s8 xs) w' := by
  have hi : idx < xs.length := (List.getElem?_eq_some_iff.1 hx).1
  have facts : ∀ wo acc' w', Rs w0 wo wb b bld sg v ps xs lv ap 0 cv css s1 s2 s3 s4 s5 s6 s7 s8 s9 acc' w' → w'.cell? ⟨b, 5, none⟩ = some (.pointer (some ⟨sg, 0, none⟩)) ∧ w'.cell? ⟨sg, 0, none⟩ = some (.int .i64 0) ∧ w'.cell? ⟨p, 0, none⟩ = some (.int .i64 K) ∧ w'.cell? ⟨p, 1, none⟩ = some (.string t) := fun wo acc' w' R => by
    have hpi := (R.now.item idx p _ hp hx).2
    exact ⟨R.now.c 5, by rw [Lib.cell_of_heap R.st]; rfl, by rw [Lib.cell_of_heap hpi]; rfl, by rw [Lib.cell_of_heap hpi]; rfl⟩
  obtain ⟨k1, e1⟩ := has10 t ht hts
  obtain ⟨k2, e2⟩ := split1 t ht hts
  have E1 := Aside0.mk e1
  have E2 := Aside0.mk e2
  have HF := Aside0.mk facts
  have h' := h
  obtain ⟨o9, ho9⟩ : ∃ o9 : Obj, o9 = .cells #[.bool top, .bool first, .bool only, .bool last, .bool bottom] 66 := ⟨_, rfl⟩
  have HO9 := Aside0.mk ho9
  obtain ⟨W, hW⟩ : ∃ W, W = w.alloc o9 := ⟨_, rfl⟩
  have h9 : W.heap[w.heap.size]? = some o9 := by rw [hW]; exact heap_alloc_new w o9
  have H9W := Aside0.mk h9
  have HH := Aside0.mk ((h'.alloc o9).re)
  rw [← hW] at HH
  have HW := Aside0.mk hW
  have HB9 := Aside0.mk (bld_lt h.bl)
  have PL := Aside0.mk (And.intro (pre_len s5 cv xs idx h5 hc K) (And.intro h5 (And.intro h8 (And.intro hc (And.intro ha (And.intro hbu hts))))))
  have PX := fun wo (acc' : List UInt8) w' (R : Rs w0 wo wb b bld sg v ps xs lv ap 0 cv css s1 s2 s3 s4 s5 s6 s7 s8 s9 acc' w') (hl : acc'.length ≤ 1000000000000) => prefix_ R idx K hn hi h5 h8 hc hK hl
  have HPX := Aside0.mk PX
  clear PX e1 e2 facts h h' hp hx h5 h8 hc ha hbu ht hn hi hts ho9 hW h9
  by_cases h0 : idx = 0
  · have hd : decide ((idx : Int) > 0) = false := by simp; omega
    have H0 := Aside0.mk h0
    have hd2 : ¬ 0 < idx := by omega
    clear h0
    go_enter Tryz.func38, Tryz.ntmps38
    obtain ⟨f1, f2, f3, f4⟩ := HF.out _ _ _ HH.out
    go_wp2_with (fail)
    rw [← HO9.out, ← HW.out]
    go_quiet ((go_at_call 49; exact Calls.quiet_of_same (apply0 t _)))
    have R2 := Aside0.mk (HH.out.drewN nq)
    clear f1 f2 f3 f4
    go_wp2_with (first
      | (go_at_call 50; go_must (refine (list_zzContains.calls k1 t ⟨#[10]⟩ false _ E1.out).mono ?_; rintro e w2 ⟨rfl, hb2⟩))
      | (go_at_call 52; go_must (with_reducible refine (list_zzSplit.calls k2 t ⟨#[10]⟩ [t] _ E2.out).mono ?_; rintro e w3 ⟨v3, rfl, hr3, hb3⟩; obtain ⟨g, c, rfl, cg⟩ := one_row hr3)))
    have R3 := Aside0.mk ((R2.out.kept hb2.below).kept hb3)
    have CG := Aside0.mk cg
    clear R2 hr3 hb2 hb3 cg
    go_loopw [53] (fun i wr => (i = .int .i64 0 ∧ wr = w3) ∨ (i = .int .i64 1 ∧ Aside0 (Rs w0 wr wb b bld sg v ps xs lv ap 0 cv css s1 s2 s3 s4 s5 s6 s7 s8 s9 (acc ++ line idx top first only last bottom K t cv s1 s2 s3 s4 s5 s6 s8 xs) wr))) (fun i _ => 1 - (RowKit.intOf i).toNat)
    case atStart => exact .inl ⟨rfl, rfl⟩
    case round =>
      rcases hrel with ⟨rfl, rfl⟩ | ⟨rfl, RF⟩
      · have cg := CG.out wr (Below.refl _ _)
        obtain ⟨f1, f2, f3, f4⟩ := HF.out _ _ _ R3.out
        go_wp2_with (first
          | (go_at_call 53; go_must (refine (HPX.out _ _ _ R3.out (by have := PL.out; simp; omega)).mono ?_; rintro e w4 ⟨rfl, R4⟩; have hb9 := R4.stays H9W.out (by have := HB9.out; omega) (by rw [HO9.out]; intro c fz; simp); rw [HO9.out] at hb9; have q0 : w4.cell? ⟨w.heap.size, 0, none⟩ = some (.bool top) := (Lib.cell_of_heap hb9 0).trans rfl; have q1 : w4.cell? ⟨w.heap.size, 1, none⟩ = some (.bool first) := (Lib.cell_of_heap hb9 1).trans rfl; have q2 : w4.cell? ⟨w.heap.size, 2, none⟩ = some (.bool only) := (Lib.cell_of_heap hb9 2).trans rfl; have q3 : w4.cell? ⟨w.heap.size, 3, none⟩ = some (.bool last) := (Lib.cell_of_heap hb9 3).trans rfl; have q4 : w4.cell? ⟨w.heap.size, 4, none⟩ = some (.bool bottom) := (Lib.cell_of_heap hb9 4).trans rfl))
          | (go_at_call 54; go_must (refine (R4.bul top first only last bottom (by have := PL.out; simp; omega)).mono ?_; rintro e w5 ⟨rfl, R5⟩))
          | (go_at_call 55; go_must (refine (R5.ws t (by have := PL.out; simp; omega)).mono ?_; rintro e w6 ⟨⟨u6, rfl⟩, R6⟩)))
        go_roundw
        case rel =>
          refine .inr ⟨rfl, ⟨?_⟩⟩
          have e : acc ++ line idx top first only last bottom K t cv s1 s2 s3 s4 s5 s6 s8 xs = acc ++ s8.data.toList ++ pre s5 cv xs idx K ++ (bullet 0 top first only last bottom cv s1 s2 s3 s4 s5 s6).data.toList ++ t.data.toList := by
            unfold line
            rw [if_pos H0.out]
            simp only [List.append_assoc, List.nil_append]
          rw [e]
          exact R6.re
        case measure => decide
      · go_wp2_with (fail)
        go_end0
        exact ⟨rfl, RF.out⟩
  · have hd : decide ((idx : Int) > 0) = true := by simp; omega
    go_enter Tryz.func38, Tryz.ntmps38
    go_wp2_with (first
      | (go_at_call 48; go_must (rw [← HO9.out, ← HW.out]; refine ((HH.out.lf (by have := PL.out; omega))).mono ?_; rintro e w1 ⟨⟨u1, rfl⟩, R1⟩; obtain ⟨f1, f2, f3, f4⟩ := HF.out _ _ _ R1)))
    go_quiet ((go_at_call 49; exact Calls.quiet_of_same (apply0 t _)))
    have R2 := Aside0.mk (R1.drewN nq)
    clear R1 f1 f2 f3 f4
    go_wp2_with (first
      | (go_at_call 50; go_must (refine (list_zzContains.calls k1 t ⟨#[10]⟩ false _ E1.out).mono ?_; rintro e w2 ⟨rfl, hb2⟩))
      | (go_at_call 52; go_must (with_reducible refine (list_zzSplit.calls k2 t ⟨#[10]⟩ [t] _ E2.out).mono ?_; rintro e w3 ⟨v3, rfl, hr3, hb3⟩; obtain ⟨g, c, rfl, cg⟩ := one_row hr3)))
    have R3 := Aside0.mk ((R2.out.kept hb2.below).kept hb3)
    have CG := Aside0.mk cg
    clear R2 hr3 hb2 hb3 cg
    go_loopw [53] (fun i wr => (i = .int .i64 0 ∧ wr = w3) ∨ (i = .int .i64 1 ∧ Aside0 (Rs w0 wr wb b bld sg v ps xs lv ap 0 cv css s1 s2 s3 s4 s5 s6 s7 s8 s9 (acc ++ line idx top first only last bottom K t cv s1 s2 s3 s4 s5 s6 s8 xs) wr))) (fun i _ => 1 - (RowKit.intOf i).toNat)
    case atStart => exact .inl ⟨rfl, rfl⟩
    case round =>
      rcases hrel with ⟨rfl, rfl⟩ | ⟨rfl, RF⟩
      · have cg := CG.out wr (Below.refl _ _)
        obtain ⟨f1, f2, f3, f4⟩ := HF.out _ _ _ R3.out
        go_wp2_with (first
          | (go_at_call 53; go_must (refine (HPX.out _ _ _ R3.out (by have := PL.out; simp; omega)).mono ?_; rintro e w4 ⟨rfl, R4⟩; have hb9 := R4.stays H9W.out (by have := HB9.out; omega) (by rw [HO9.out]; intro c fz; simp); rw [HO9.out] at hb9; have q0 : w4.cell? ⟨w.heap.size, 0, none⟩ = some (.bool top) := (Lib.cell_of_heap hb9 0).trans rfl; have q1 : w4.cell? ⟨w.heap.size, 1, none⟩ = some (.bool first) := (Lib.cell_of_heap hb9 1).trans rfl; have q2 : w4.cell? ⟨w.heap.size, 2, none⟩ = some (.bool only) := (Lib.cell_of_heap hb9 2).trans rfl; have q3 : w4.cell? ⟨w.heap.size, 3, none⟩ = some (.bool last) := (Lib.cell_of_heap hb9 3).trans rfl; have q4 : w4.cell? ⟨w.heap.size, 4, none⟩ = some (.bool bottom) := (Lib.cell_of_heap hb9 4).trans rfl))
          | (go_at_call 54; go_must (refine (R4.bul top first only last bottom (by have := PL.out; simp; omega)).mono ?_; rintro e w5 ⟨rfl, R5⟩))
          | (go_at_call 55; go_must (refine (R5.ws t (by have := PL.out; simp; omega)).mono ?_; rintro e w6 ⟨⟨u6, rfl⟩, R6⟩)))
        go_roundw
        case rel =>
          refine .inr ⟨rfl, ⟨?_⟩⟩
          have e : acc ++ line idx top first only last bottom K t cv s1 s2 s3 s4 s5 s6 s8 xs = acc ++ [10] ++ s8.data.toList ++ pre s5 cv xs idx K ++ (bullet 0 top first only last bottom cv s1 s2 s3 s4 s5 s6).data.toList ++ t.data.toList := by
            unfold line
            rw [if_neg h0]
            simp only [List.append_assoc, List.nil_append]
          rw [e]
          exact R6.re
        case measure => decide
      · go_wp2_with (fail)
        go_end0
        exact ⟨rfl, RF.out⟩
end Go.Proofs.YthjkmjimlhpbfaaGreatDoor.Lrj
end
