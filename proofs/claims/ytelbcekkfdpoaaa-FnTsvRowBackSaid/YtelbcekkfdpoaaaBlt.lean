/- The walk of list's ZzBullet: a list without items is made ready, and the bullet of one line is written into a builder. -/
import Derived.Test.YtelbcekkfdpoaaaBld
import Derived.Test.YtelbcekkfdpoaaaShelf
import Derived.Lib.OthersKept
namespace Go.Proofs.Ytelbcekkfdpoaaa.Blt
open Go.RowKit Go.Lib

theorem ws (B b : Nat) (bs : List Value) (s : ByteArray) (w : World) (h : IsBuilderF 82 5 B b bs w) (hlen : bs.length + s.size ≤ 140737488355328) (hBw : B ≤ w.heap.size) :
    Calls Try.prog 36 #[.pointer (some ⟨b, 0, none⟩), .string s] w fun e w' => e = .returned (.tuple #[.int .i64 s.size, .nilIface]) ∧ IsBuilderF 82 5 B b (bs ++ strCells s) w' ∧ Below B w w' ∧ OthersKept 5 (some b) w w' :=
  (Any.Builder_WriteString_k Try.bl166 Try.bx166 B b bs s w h hlen hBw).mono fun _ _ h => ⟨h.1, .inr h.2.1, h.2.2⟩

theorem wr (B b : Nat) (bs : List Value) (r : Int) (hr0 : -2147483648 ≤ r) (hr1 : r ≤ 2147483647) (w : World) (h : IsBuilderF 82 5 B b bs w) (hlen : bs.length + 4 ≤ 140737488355328) (hBw : B ≤ w.heap.size) :
    Calls Try.prog 34 #[.pointer (some ⟨b, 0, none⟩), .int .i32 r] w fun e w' => e = .returned (.tuple #[.int .i64 (runeCells r).length, .nilIface]) ∧ IsBuilderF 82 5 B b (bs ++ runeCells r) w' ∧ Below B w w' ∧ OthersKept 5 (some b) w w' :=
  (Any.Builder_WriteRune_k Try.bl168 Try.bx168 B b bs r hr0 hr1 w h hlen hBw).mono fun _ _ h => ⟨h.1, .inr h.2.1, h.2.2⟩

/-- a style's block -/
def Sty (w : World) (g : Nat) (fm : Int) (s1 s2 s3 s4 s5 s6 s7 s8 s9 : ByteArray) : Prop :=
  w.heap[g]? = some (.cells #[.int .i64 fm, .string s1, .string s2, .string s3, .string s4, .string s5, .string s6, .string s7, .string s8, .string s9] 54 (0, 0))
/-- a list's block without items -/
def Lst (w : World) (g : Nat) (n lv : Int) (vs cls : ByteArray) (sg : Nat) : Prop :=
  w.heap[g]? = some (.cells #[.int .i64 n, .string vs, .string cls, .slice none 0 0, .int .i64 lv, .pointer (some ⟨sg, 0, none⟩)] 114 (0, 0))

theorem keep {b k : Nat} {w w' : World} {o : Obj} (h : OthersKept 5 (some b) w w') (hk : w.heap[k]? = some o) (hb : k ≠ b) (ho : ∀ c fz, o ≠ .cells c 5 fz) : w'.heap[k]? = some o := h k o hk (by simpa using hb) ho

theorem apart {B b k : Nat} {bs : List Value} {w : World} {c : Array Value} {T : TypeId} {fz : Nat × Nat} (h : IsBuilderF 82 5 B b bs w) (hk : w.heap[k]? = some (.cells c T fz)) (hT : T ≠ 82) : k ≠ b := by
  rintro rfl
  rcases h with ⟨_, v, h, _⟩ | ⟨_, v, h, _⟩ <;> (rw [hk] at h; simp at h; exact hT h.2.1)

theorem lt_of_get {w : World} {k : Nat} {o : Obj} (h : w.heap[k]? = some o) : k < w.heap.size := by
  rcases Nat.lt_or_ge k w.heap.size with h' | h'
  · exact h'
  · simp [Array.getElem?_eq_none h'] at h
theorem alloc_get {w : World} {k : Nat} {o : Obj} (h : w.heap[k]? = some o) (x : Obj) : (w.alloc x).heap[k]? = some o := by
  have := lt_of_get h
  show (w.heap.push x)[k]? = some o
  rw [Array.getElem?_push, if_neg (Nat.ne_of_lt this), h]

def bullet1 (top first only last bottom : Bool) (s1 s2 s3 s4 s6 : ByteArray) : ByteArray :=
  if only then (if top then s1 else s6) else if top then s2 else if first then s3 else if bottom || last then s6 else s4

set_option maxRecDepth 100000 in
set_option maxHeartbeats 400000 in
theorem single (top first only last bottom : Bool) (B b l sg : Nat) (bs : List Value) (n lv fm : Int) (vs cls s1 s2 s3 s4 s5 s6 s7 s8 s9 : ByteArray) (w : World) (hb : IsBuilderF 82 5 B b bs w) (hl : Lst w l n lv vs cls sg) (hs : Sty w sg fm s1 s2 s3 s4 s5 s6 s7 s8 s9)
    (hlen : bs.length + (bullet1 top first only last bottom s1 s2 s3 s4 s6).size + 4 ≤ 140737488355328) (hBw : B ≤ w.heap.size) :
    Calls Try.prog 46 #[.pointer (some ⟨l, 0, none⟩), .pointer (some ⟨b, 0, none⟩), .agg #[.bool top, .bool first, .bool only, .bool last, .bool bottom]] w fun e w' => e = .returned (.tuple #[]) ∧ IsBuilderF 82 5 B b (bs ++ strCells (bullet1 top first only last bottom s1 s2 s3 s4 s6) ++ runeCells 32) w' ∧ Below B w w' := by
  have hll := lt_of_get hl
  have hsl := lt_of_get hs
  have l5 : ∀ o, (w.alloc o).cell? ⟨l, 5, none⟩ = some (.pointer (some ⟨sg, 0, none⟩)) := fun o => by rw [Lib.cell_of_heap (alloc_get hl o)]; rfl
  have y : ∀ o, ∀ (j : Nat), (w.alloc o).cell? ⟨sg, j, none⟩ = (#[.int .i64 fm, .string s1, .string s2, .string s3, .string s4, .string s5, .string s6, .string s7, .string s8, .string s9] : Array Value)[j]? := fun o j => by rw [Lib.cell_of_heap (alloc_get hs o)]
  have y1 : ∀ o, (w.alloc o).cell? ⟨sg, 1, none⟩ = some (.string s1) := fun o => by rw [y]; rfl
  have y2 : ∀ o, (w.alloc o).cell? ⟨sg, 2, none⟩ = some (.string s2) := fun o => by rw [y]; rfl
  have y3 : ∀ o, (w.alloc o).cell? ⟨sg, 3, none⟩ = some (.string s3) := fun o => by rw [y]; rfl
  have y4 : ∀ o, (w.alloc o).cell? ⟨sg, 4, none⟩ = some (.string s4) := fun o => by rw [y]; rfl
  have y6 : ∀ o, (w.alloc o).cell? ⟨sg, 6, none⟩ = some (.string s6) := fun o => by rw [y]; rfl
  clear y hl hs
  cases only <;> cases top <;> cases first <;> cases bottom <;> cases last
  all_goals
    simp only [bullet1, if_true, if_false, Bool.false_eq_true, Bool.or_true, Bool.or_false, Bool.true_or, Bool.false_or, reduceIte] at hlen ⊢
    go_enter Try.func46, Try.ntmps46
    go_wp2_with (first
      | (go_at_call 36; refine (ws B b bs _ _ (hb.alloc _) (by omega) (by simp; omega)).mono ?_; rintro e w1 ⟨rfl, hb1, hw1, ho1⟩)
      | (go_at_call 34; refine (wr B b _ 32 (by omega) (by omega) _ hb1 (by simp [strCells_length]; omega) (by have := hw1.size; simp at this; omega)).mono ?_; rintro e w2 ⟨rfl, hb2, hw2, ho2⟩))
    go_end0
    exact ⟨rfl, hb2, (((Below.refl B w).alloc hBw _).trans hw1).trans hw2⟩

def bullet (line : Int) (top first only last bottom : Bool) (vs s1 s2 s3 s4 s5 s6 : ByteArray) : ByteArray :=
  if line > 0 then (if last then vs else s5) else bullet1 top first only last bottom s1 s2 s3 s4 s6 ++ (⟨#[32]⟩ : ByteArray)

set_option maxRecDepth 100000 in
set_option maxHeartbeats 400000 in
theorem item (line : Int) (top first only last bottom : Bool) (B b l sg : Nat) (bs : List Value) (n lv fm : Int) (vs cls s1 s2 s3 s4 s5 s6 s7 s8 s9 : ByteArray) (w : World) (hb : IsBuilderF 82 5 B b bs w) (hl : Lst w l n lv vs cls sg) (hs : Sty w sg fm s1 s2 s3 s4 s5 s6 s7 s8 s9)
    (hlen : bs.length + (bullet line top first only last bottom vs s1 s2 s3 s4 s5 s6).size + 4 ≤ 140737488355328) (hBw : B ≤ w.heap.size) :
    Calls Try.prog 32 #[.pointer (some ⟨l, 0, none⟩), .pointer (some ⟨b, 0, none⟩), .int .i64 line, .agg #[.bool top, .bool first, .bool only, .bool last, .bool bottom]] w fun e w' => e = .returned (.tuple #[]) ∧ IsBuilderF 82 5 B b (bs ++ strCells (bullet line top first only last bottom vs s1 s2 s3 s4 s5 s6)) w' ∧ Below B w w' := by
  have l1 : ∀ o, (w.alloc o).cell? ⟨l, 1, none⟩ = some (.string vs) := fun o => by rw [Lib.cell_of_heap (alloc_get hl o)]; rfl
  have l5 : ∀ o, (w.alloc o).cell? ⟨l, 5, none⟩ = some (.pointer (some ⟨sg, 0, none⟩)) := fun o => by rw [Lib.cell_of_heap (alloc_get hl o)]; rfl
  have y5 : ∀ o, (w.alloc o).cell? ⟨sg, 5, none⟩ = some (.string s5) := fun o => by rw [Lib.cell_of_heap (alloc_get hs o)]; rfl
  have hLst : ∀ o, Lst (w.alloc o) l n lv vs cls sg := fun o => alloc_get hl o
  have hSty : ∀ o, Sty (w.alloc o) sg fm s1 s2 s3 s4 s5 s6 s7 s8 s9 := fun o => alloc_get hs o
  have hll := lt_of_get hl
  clear hl hs
  unfold bullet at hlen ⊢
  by_cases h0 : line > 0
  · rw [if_pos h0] at hlen ⊢
    cases last
    all_goals
      simp only [if_true, if_false, Bool.false_eq_true, reduceIte] at hlen ⊢
      go_enter Try.func32, Try.ntmps32
      go_wp2_with (first
        | (go_at_call 36; refine (ws B b bs _ _ (hb.alloc _) (by omega) (by simp; omega)).mono ?_; rintro e w1 ⟨rfl, hb1, hw1, ho1⟩))
      go_end0
      exact ⟨rfl, hb1, (((Below.refl B w).alloc hBw _).trans hw1)⟩
  · rw [if_neg h0] at hlen ⊢
    have hsz : ((bullet1 top first only last bottom s1 s2 s3 s4 s6) ++ (⟨#[32]⟩ : ByteArray)).size = (bullet1 top first only last bottom s1 s2 s3 s4 s6).size + 1 := by simp [ByteArray.size_append]; rfl
    rw [hsz] at hlen
    go_enter Try.func32, Try.ntmps32
    go_wp2_with (first
      | (go_at_call 46; refine (single top first only last bottom B b l sg bs n lv fm vs cls s1 s2 s3 s4 s5 s6 s7 s8 s9 _ (hb.alloc _) (hLst _) (hSty _) (by omega) (by simp; omega)).mono ?_; rintro e w1 ⟨rfl, hb1, hw1⟩))
    go_end0
    refine ⟨rfl, ?_, (((Below.refl B w).alloc hBw _).trans hw1)⟩
    have e : strCells ((bullet1 top first only last bottom s1 s2 s3 s4 s6) ++ (⟨#[32]⟩ : ByteArray)) = strCells (bullet1 top first only last bottom s1 s2 s3 s4 s6) ++ runeCells 32 := by
      rw [strCells_eq, strCells_eq, ByteArray.data_append, Array.toList_append, byteCells_append]; rfl
    rw [e, ← List.append_assoc]
    exact hb1
end Go.Proofs.Ytelbcekkfdpoaaa.Blt
