/- The walk of list's ZzBullet: a list without items is made ready, and the bullet of one line is written into a builder. -/
import Derived.Test.YtelbcekkfdpoaaaBld
import Derived.Test.YtelbcekkfdpoaaaShelf
import Derived.Lib.OthersKept
import Derived.Test.YtelbcekkfdpoaaaBlt
namespace Go.Proofs.Ytelbcekkfdpoaaa.Blt
open Go.RowKit Go.Lib


theorem put_get {w : World} {g : Nat} {cs : Array Value} {t : TypeId} {fr : Nat × Nat} (h : w.heap[g]? = some (.cells cs t fr)) (i : Nat) (v : Value) : (w.setCell ⟨g, i, none⟩ v).heap[g]? = some (.cells (cs.setIfInBounds i v) t fr) := by
  simp [World.setCell, Array.getElem?_modify, h]
theorem get_alloc_self (w : World) (x : Obj) : (w.alloc x).heap[w.heap.size]? = some x := by
  show (w.heap.push x)[w.heap.size]? = some x
  simp
theorem get_alloc_next (w : World) (x y : Obj) : ((w.alloc x).alloc y).heap[w.heap.size + 1]? = some y := by
  have := get_alloc_self (w.alloc x) y
  rwa [show (w.alloc x).heap.size = w.heap.size + 1 from by show (w.heap.push x).size = _; simp] at this
theorem get_below {B k : Nat} {w w' : World} (h : Below B w w') (hk : k < B) {o : Obj} (hg : w.heap[k]? = some o) : w'.heap[k]? = some o := by
  rw [h.block k hk]; exact hg

set_option maxRecDepth 100000 in
set_option maxHeartbeats 400000 in
/-- a list without items and with a style, made ready -/
theorem init (l sg : Nat) (n lv fm : Int) (vs s1 s2 s3 s4 s5 s6 s7 s8 s9 : ByteArray) (w : World) (hl : Lst w l n lv vs ⟨#[]⟩ sg) (hs : Sty w sg fm s1 s2 s3 s4 s5 s6 s7 s8 s9)
    (h5 : s5.size < 4294967281) (ha : ∀ (j : Nat) b, s5.data.toList[j]? = some b → b.toNat < 128) :
    Calls Try.prog 45 #[.pointer (some ⟨l, 0, none⟩)] w fun e w' => e = .returned (.tuple #[]) ∧ ∃ cls, Lst w' l 0 lv ⟨(Lib.repeatL [32] s5.size).toArray⟩ cls sg ∧ Sty w' sg fm s1 s2 s3 s4 s5 s6 s7 s8 s9 ∧ ∀ B, B ≤ l → B ≤ w.heap.size → Below B w w' := by
  have l3 : w.cell? ⟨l, 3, none⟩ = some (.slice none 0 0) := by rw [Lib.cell_of_heap hl]; rfl
  have l5 : w.cell? ⟨l, 5, none⟩ = some (.pointer (some ⟨sg, 0, none⟩)) := by rw [Lib.cell_of_heap hl]; rfl
  have y5 : w.cell? ⟨sg, 5, none⟩ = some (.string s5) := by rw [Lib.cell_of_heap hs]; rfl
  go_enter Try.func45, Try.ntmps45
  go_wp2_with (first
    | (go_at_call 57; refine (Try.utf8_RuneCountInString_ascii s5 _ h5 ha).mono ?_; rintro e w1 ⟨rfl, rfl⟩)
    | (go_at_call 29; refine (Try.strings_Repeat (⟨#[32]⟩ : ByteArray) s5.size _ (by omega) (by show 1 * s5.size ≤ _; omega)).mono ?_; rintro e w2 ⟨rfl, hw2⟩
       have hl2 : Lst w2 l n lv vs ⟨#[]⟩ sg := get_below hw2 (lt_of_get (alloc_get hl _)) (alloc_get hl _)
       have hs2 : Sty w2 sg fm s1 s2 s3 s4 s5 s6 s7 s8 s9 := get_below hw2 (lt_of_get (alloc_get hs _)) (alloc_get hs _)
       have f2 : ∀ j, w2.frozen? ⟨l, j, none⟩ = false := fun j => Lib.frozen_of_heap hl2 j
       have c20 : w2.cell? ⟨l, 0, none⟩ = some (.int .i64 n) := by rw [Lib.cell_of_heap hl2]; rfl
       have c21 : w2.cell? ⟨l, 1, none⟩ = some (.string vs) := by rw [Lib.cell_of_heap hl2]; rfl
       have c22 : w2.cell? ⟨l, 2, none⟩ = some (.string ⟨#[]⟩) := by rw [Lib.cell_of_heap hl2]; rfl
       have c23 : w2.cell? ⟨l, 3, none⟩ = some (.slice none 0 0) := by rw [Lib.cell_of_heap hl2]; rfl)
    | go_in)
  refine wp_loop_once ?_
  go_wp2_with fail
  go_end0
  have hne : sg ≠ l := by
    rintro rfl
    unfold Lst at hl2; unfold Sty at hs2
    rw [hs2] at hl2; simp at hl2
  refine ⟨rfl, _, put_get (put_get (put_get hl2 _ _) _ _) _ _, ?_, ?_⟩
  · unfold Sty
    rw [Below.heap_setCell _ _ _ _ hne, Below.heap_setCell _ _ _ _ hne, Below.heap_setCell _ _ _ _ hne]
    exact hs2
  · intro B hB hBw
    exact (((((Below.refl B w).alloc hBw _).trans (hw2.mono (by have := (Below.refl B w).alloc hBw (.stringIter s5 s5.size); exact Nat.le_trans hBw this.size))).setCell (p := ⟨l, 1, none⟩) hB _).setCell (p := ⟨l, 0, none⟩) hB _).setCell (p := ⟨l, 2, none⟩) hB _

set_option maxRecDepth 100000 in
set_option maxHeartbeats 400000 in
theorem levels (fm : Int) (s1 s2 s3 s4 s5 s6 s7 s8 s9 : ByteArray) (w : World) (h5 : s5.size < 4294967281) (ha : ∀ (j : Nat) b, s5.data.toList[j]? = some b → b.toNat < 128) :
    Calls Try.prog 31 #[.slice none 0 0, .agg #[.int .i64 fm, .string s1, .string s2, .string s3, .string s4, .string s5, .string s6, .string s7, .string s8, .string s9]] w fun e w' =>
      ∃ l sg cls, e = .returned (.pointer (some ⟨l, 0, none⟩)) ∧ Lst w' l 0 0 ⟨(Lib.repeatL [32] s5.size).toArray⟩ cls sg ∧ Sty w' sg fm s1 s2 s3 s4 s5 s6 s7 s8 s9 ∧ Below w.heap.size w w' := by
  go_enter Try.func31, Try.ntmps31
  go_wp2_with fail
  refine wp_loop_once ?_
  go_wp2_with (go_at_call 45; refine (init (w.heap.size + 1) w.heap.size 0 0 fm ⟨#[]⟩ s1 s2 s3 s4 s5 s6 s7 s8 s9 _ (get_alloc_next _ _ _) (alloc_get (get_alloc_self _ _) _) h5 ha).mono ?_; rintro e w3 ⟨rfl, cls, hl3, hs3, hb3⟩)
  go_ret
  exact ⟨_, _, cls, rfl, hl3, hs3, (((Below.refl _ w).alloc (Nat.le_refl _) _).alloc (by simp) _).trans (hb3 w.heap.size (by omega) (by simp; omega))⟩

set_option maxRecDepth 100000 in
set_option maxHeartbeats 400000 in
theorem bullet_any (line : Int) (top first only last bottom : Bool) (fm : Int) (s1 s2 s3 s4 s5 s6 s7 s8 s9 : ByteArray) (w : World) (h5 : s5.size < 4294967281) (ha : ∀ (j : Nat) b, s5.data.toList[j]? = some b → b.toNat < 128)
    (hlen : (bullet line top first only last bottom ⟨(Lib.repeatL [32] s5.size).toArray⟩ s1 s2 s3 s4 s5 s6).size + 4 ≤ 140737488355328) :
    Calls Try.prog 25 #[.int .i64 line, .bool top, .bool first, .bool only, .bool last, .bool bottom, .agg #[.int .i64 fm, .string s1, .string s2, .string s3, .string s4, .string s5, .string s6, .string s7, .string s8, .string s9]] w fun e w' =>
      e = .returned (.string (bullet line top first only last bottom ⟨(Lib.repeatL [32] s5.size).toArray⟩ s1 s2 s3 s4 s5 s6)) ∧ Below w.heap.size w w' := by
  have hcut : ∀ x : ByteArray, x.size + 4 ≤ 140737488355328 → ([] : List Value).length + x.size + 4 ≤ 140737488355328 := fun x h => by simpa using h
  go_enter Try.func25, Try.ntmps25
  go_wp2_with (first
    | (go_at_call 31; refine (levels fm s1 s2 s3 s4 s5 s6 s7 s8 s9 _ h5 ha).mono ?_; rintro e w2 ⟨l, sg, cls, rfl, hl2, hs2, hw2⟩
       have hb2 : IsBuilderF 82 5 w.heap.size (w.heap.size + 1) [] w2 := .inl ⟨by omega, _, get_below hw2 (by simp) (get_alloc_next _ _ _), World.ownsRowF_nil _ _ _ _, by simp [Value.ownBlock]⟩)
    | (go_at_call 32; refine (item line top first only last bottom w.heap.size (w.heap.size + 1) l sg [] 0 0 fm _ cls s1 s2 s3 s4 s5 s6 s7 s8 s9 w2 hb2 hl2 hs2 (hcut _ hlen) (by have := hw2.size; simp at this; omega)).mono ?_; rintro e w3 ⟨rfl, hb3, hw3⟩
       rw [List.nil_append, strCells_eq] at hb3)
    | (go_at_call 28; go_loud (refine (Try.Builder_String_any_k w.heap.size (w.heap.size + 1) _ w3 hb3 (by have h1 := hw2.size; have h2 := hw3.size; simp at h1; omega)).mono ?_; rintro e w4 ⟨rfl, hb4, hw4, _⟩)))
  go_ret
  refine ⟨by simp, ?_⟩
  exact ((((Below.refl _ w).alloc (Nat.le_refl _) _).alloc (by simp) _).trans (hw2.mono (by simp; omega))).trans (hw3.trans hw4)
end Go.Proofs.Ytelbcekkfdpoaaa.Blt
