/- What impl's TwSymbolsOf gives, for each style. -/
import Derived.Test.YtpceflnbomegiaaSy0
import Derived.Test.YtpceflnbomegiaaSy1
import Derived.Test.YtpceflnbomegiaaSy2
import Derived.Test.YtpceflnbomegiaaSy3
import Derived.Test.YtpceflnbomegiaaSy4
import Derived.Test.YtpceflnbomegiaaSy5
import Derived.Test.YtpceflnbomegiaaSy6
import Derived.Test.YtpceflnbomegiaaSy7
import Derived.Test.YtpceflnbomegiaaSy8
import Derived.Test.YtpceflnbomegiaaSz
import Derived.Test.YtpceflnbomegiaaGSyBodyx
namespace Go.Proofs.Ytpceflnbomegiaa.Sw
open Go.RowKit Go.Proofs.Ytpceflnbomegiaa.Sz Go.Proofs.Ytpceflnbomegiaa.Sy Go.Proofs.YtpceflnbomegiaaW.PrintWords
theorem new : ∀ k : Nat, k < 45 → ∀ w : World, Calls Try.prog 9 #[.int .i64 (k : Int)] w fun e w' => e = .returned (.iface 36 (.pointer (some ⟨w.heap.size, 0, none⟩))) ∧ w' = w.alloc (.cells ((gl k).map Value.string).toArray 40)
  | 0, _, w => new0 w
  | 1, _, w => new1 w
  | 2, _, w => new2 w
  | 3, _, w => new3 w
  | 4, _, w => new4 w
  | 5, _, w => new5 w
  | 6, _, w => new6 w
  | 7, _, w => new7 w
  | 8, _, w => new8 w
  | 9, _, w => new9 w
  | 10, _, w => new10 w
  | 11, _, w => new11 w
  | 12, _, w => new12 w
  | 13, _, w => new13 w
  | 14, _, w => new14 w
  | 15, _, w => new15 w
  | 16, _, w => new16 w
  | 17, _, w => new17 w
  | 18, _, w => new18 w
  | 19, _, w => new19 w
  | 20, _, w => new20 w
  | 21, _, w => new21 w
  | 22, _, w => new22 w
  | 23, _, w => new23 w
  | 24, _, w => new24 w
  | 25, _, w => new25 w
  | 26, _, w => new26 w
  | 27, _, w => new27 w
  | 28, _, w => new28 w
  | 29, _, w => new29 w
  | 30, _, w => new30 w
  | 31, _, w => new31 w
  | 32, _, w => new32 w
  | 33, _, w => new33 w
  | 34, _, w => new34 w
  | 35, _, w => new35 w
  | 36, _, w => new36 w
  | 37, _, w => new37 w
  | 38, _, w => new38 w
  | 39, _, w => new39 w
  | 40, _, w => new40 w
  | 41, _, w => new41 w
  | 42, _, w => new42 w
  | 43, _, w => new43 w
  | 44, _, w => new44 w
  | k + 45, h, _ => absurd h (by omega)
theorem gl_len : ∀ k : Nat, k < 45 → (gl k).length = 16 := by decide
/-- the parts in their order -/
def parts (g : List ByteArray) : List ByteArray := [3, 1, 2, 4, 5, 6, 7, 9, 10, 11, 12, 13, 14, 15].map fun i => g.getD i ByteArray.empty
theorem sixteen (g : List ByteArray) (h : g.length = 16) : ∃ s0 s1 s2 s3 s4 s5 s6 s7 s8 s9 s10 s11 s12 s13 s14 s15, g = [s0, s1, s2, s3, s4, s5, s6, s7, s8, s9, s10, s11, s12, s13, s14, s15] := by
  match g, h with
  | [s0, s1, s2, s3, s4, s5, s6, s7, s8, s9, s10, s11, s12, s13, s14, s15], _ => exact ⟨s0, s1, s2, s3, s4, s5, s6, s7, s8, s9, s10, s11, s12, s13, s14, s15, rfl⟩
theorem row_C {w : World} {b : Nat} (l : List ByteArray) (hl : l.length ≤ 9223372036854775807) (hb : w.heap[b]? = some (.cells (l.map Value.string).toArray 9 (0, 0))) : Kd.C Kd.string w (some ⟨b, 0, none⟩) l.length l := by
  refine ⟨rfl, hl, fun _ => ⟨_, rfl, fun j p hj => ⟨[.string p], rfl, rfl, fun i u hi => ?_⟩⟩⟩
  obtain rfl : i = 0 := by have := (List.getElem?_eq_some_iff.1 hi).1; simp at this; omega
  simp at hi
  subst hi
  have e : ({ block := b, off := 0 } : Addr).add (j * Kd.string.sz + 0) = ⟨b, j, none⟩ := by
    show ({ block := b, off := 0 } : Addr).add (j * 1 + 0) = _
    simp [Addr.add] <;> omega
  rw [e, Lib.cell_of_heap hb]
  simp [hj]
theorem get_alloc_self (w : World) (x : Obj) : (w.alloc x).heap[w.heap.size]? = some x := by
  show (w.heap.push x)[w.heap.size]? = some x
  simp

theorem get_alloc_next (w : World) (x y : Obj) : ((w.alloc x).alloc y).heap[w.heap.size + 1]? = some y := by
  have := get_alloc_self (w.alloc x) y
  rwa [show (w.alloc x).heap.size = w.heap.size + 1 from by show (w.heap.push x).size = _; simp] at this
theorem put_get {w : World} {g : Nat} {cs : Array Value} {t : TypeId} {fr : Nat × Nat} (h : w.heap[g]? = some (.cells cs t fr)) (i : Nat) (v : Value) : (w.setCell ⟨g, i, none⟩ v).heap[g]? = some (.cells (cs.setIfInBounds i v) t fr) := by
  simp [World.setCell, Array.getElem?_modify, h]
set_option maxRecDepth 100000 in
set_option maxHeartbeats 1000000 in
theorem of1 (k : Int) (s0 s1 s2 s3 s4 s5 s6 s7 s8 s9 s10 s11 s12 s13 s14 s15 : ByteArray)
    (HN : Aside0 (∀ w : World, Calls Try.prog 9 #[.int .i64 k] w fun e w' => e = .returned (.iface 36 (.pointer (some ⟨w.heap.size, 0, none⟩))) ∧ w' = w.alloc (.cells #[.string s0, .string s1, .string s2, .string s3, .string s4, .string s5, .string s6, .string s7, .string s8, .string s9, .string s10, .string s11, .string s12, .string s13, .string s14, .string s15] 40)))
    (w : World) : Calls Try.prog 5 #[.int .i64 k] w fun e w' => ∃ b, e = .returned (.agg #[.string s0, .slice (some ⟨b, 0, none⟩) 14 14]) ∧ w'.heap[b]? = some (.cells #[.string s3, .string s1, .string s2, .string s4, .string s5, .string s6, .string s7, .string s9, .string s10, .string s11, .string s12, .string s13, .string s14, .string s15] 9 (0, 0)) ∧ Below w.heap.size w w' := by
  go_enter Try.func5, Try.ntmps5
  go_wp2_with (first
    | (go_at_call 9; refine (HN.out _).mono ?_; rintro e w1 ⟨rfl, hw1⟩
       have hg1 := get_alloc_next w (.cells #[.string ⟨#[]⟩, .slice none 0 0] 25) (.cells #[.string s0, .string s1, .string s2, .string s3, .string s4, .string s5, .string s6, .string s7, .string s8, .string s9, .string s10, .string s11, .string s12, .string s13, .string s14, .string s15] 40)
       have hr1 := alloc_get (get_alloc_self w (.cells #[.string ⟨#[]⟩, .slice none 0 0] 25)) (.cells #[.string s0, .string s1, .string s2, .string s3, .string s4, .string s5, .string s6, .string s7, .string s8, .string s9, .string s10, .string s11, .string s12, .string s13, .string s14, .string s15] 40)
       have hb1 := (((Below.refl _ w).alloc (Nat.le_refl _) (.cells #[.string ⟨#[]⟩, .slice none 0 0] 25)).alloc (by simp) (.cells #[.string s0, .string s1, .string s2, .string s3, .string s4, .string s5, .string s6, .string s7, .string s8, .string s9, .string s10, .string s11, .string s12, .string s13, .string s14, .string s15] 40))
       rw [← hw1] at hg1 hr1 hb1
       clear hw1)
    | (go_at_call 8; refine (Sz.symbols _ s0 s1 s2 s3 s4 s5 s6 s7 s8 s9 s10 s11 s12 s13 s14 s15 _ hg1).mono ?_; rintro e w2 ⟨rfl, hw2⟩
       have hp2 := get_alloc_next w1 (.cells #[.string s0, .slice (some ⟨w1.heap.size + 1, 0, none⟩) 14 14] 25) (.cells #[.string s3, .string s1, .string s2, .string s4, .string s5, .string s6, .string s7, .string s9, .string s10, .string s11, .string s12, .string s13, .string s14, .string s15] 9)
       have hr2 := alloc_get (alloc_get hr1 (.cells #[.string s0, .slice (some ⟨w1.heap.size + 1, 0, none⟩) 14 14] 25)) (.cells #[.string s3, .string s1, .string s2, .string s4, .string s5, .string s6, .string s7, .string s9, .string s10, .string s11, .string s12, .string s13, .string s14, .string s15] 9)
       have hb2 := (hb1.alloc hb1.size (.cells #[.string s0, .slice (some ⟨w1.heap.size + 1, 0, none⟩) 14 14] 25)).alloc (by have := hb1.size; simp; omega) (.cells #[.string s3, .string s1, .string s2, .string s4, .string s5, .string s6, .string s7, .string s9, .string s10, .string s11, .string s12, .string s13, .string s14, .string s15] 9)
       rw [← hw2] at hp2 hr2 hb2
       clear hw2
       have f2 : ∀ j, w2.frozen? ⟨w.heap.size, j, none⟩ = false := fun j => Lib.frozen_of_heap hr2 j
       have c20 : w2.cell? ⟨w.heap.size, 0, none⟩ = some (.string ⟨#[]⟩) := by rw [Lib.cell_of_heap hr2]; rfl
       have c21 : w2.cell? ⟨w.heap.size, 1, none⟩ = some (.slice none 0 0) := by rw [Lib.cell_of_heap hr2]; rfl))
  have hne : w1.heap.size + 1 ≠ w.heap.size := by have := hb1.size; omega
  have hz := put_get (put_get hr2 0 (.string s0)) 1 (.slice (some ⟨w1.heap.size + 1, 0, none⟩) 14 14)
  have z0 : ((w2.setCell ⟨w.heap.size, 0, none⟩ (.string s0)).setCell ⟨w.heap.size, 1, none⟩ (.slice (some ⟨w1.heap.size + 1, 0, none⟩) 14 14)).cell? ⟨w.heap.size, 0, none⟩ = some (.string s0) := by rw [Lib.cell_of_heap hz]; rfl
  have z1 : ((w2.setCell ⟨w.heap.size, 0, none⟩ (.string s0)).setCell ⟨w.heap.size, 1, none⟩ (.slice (some ⟨w1.heap.size + 1, 0, none⟩) 14 14)).cell? ⟨w.heap.size, 1, none⟩ = some (.slice (some ⟨w1.heap.size + 1, 0, none⟩) 14 14) := by rw [Lib.cell_of_heap hz]; rfl
  refine bodyPost_ret (v := .agg #[.string s0, .slice (some ⟨w1.heap.size + 1, 0, none⟩) 14 14]) ?_ rfl ⟨w1.heap.size + 1, rfl, ?_, ?_⟩
  · simp [results, go_sem, z0, z1]
  · rw [Below.heap_setCell _ _ _ _ hne, Below.heap_setCell _ _ _ _ hne]; exact hp2
  · exact (hb2.setCell (p := ⟨w.heap.size, 0, none⟩) (Nat.le_refl _) _).setCell (p := ⟨w.heap.size, 1, none⟩) (Nat.le_refl _) _

theorem of (k : Nat) (hk : k < 45) (w : World) : Calls Try.prog 5 #[.int .i64 (k : Int)] w fun e w' => ∃ A, e = .returned (.agg #[.string ((gl k).getD 0 ByteArray.empty), .slice A 14 14]) ∧ Kd.C Kd.string w' A 14 (parts (gl k)) ∧ Below w.heap.size w w' := by
  obtain ⟨s0, s1, s2, s3, s4, s5, s6, s7, s8, s9, s10, s11, s12, s13, s14, s15, hg⟩ := sixteen (gl k) (gl_len k hk)
  have hnew := fun w => new k hk w
  rw [hg] at hnew ⊢
  refine (of1 (k : Int) s0 s1 s2 s3 s4 s5 s6 s7 s8 s9 s10 s11 s12 s13 s14 s15 (Aside0.mk hnew) w).mono ?_
  rintro e w' ⟨b, rfl, hb, hB⟩
  exact ⟨_, rfl, row_C [s3, s1, s2, s4, s5, s6, s7, s9, s10, s11, s12, s13, s14, s15] (by simp) hb, hB⟩
end Go.Proofs.Ytpceflnbomegiaa.Sw
