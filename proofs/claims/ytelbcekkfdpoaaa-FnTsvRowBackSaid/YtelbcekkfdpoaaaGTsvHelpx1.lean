-- Written by gprint.py, a program of this session over the kit's printer, with contracts of its own for what the printer does not take. Not trusted: Lean checks it.
import Derived.Test.YtelbcekkfdpoaaaGTsvHelpx0
namespace Go.Proofs.Ytelbcekkfdpoaaa.GTsvHelp
open Go.RowKit Go.Proofs.Ytelbcekkfdpoaaa.Itr Go.Proofs.YtelbcekkfdpoaaaW.PrintWords Go.Proofs.YtelbcekkfdpoaaaW.PrintLast Go.Proofs.YtelbcekkfdpoaaaW.PrintMore
attribute [local go_sem] max2_int min2_int max_two min_two max_three min_three max_four min_four   -- for this text's walks alone
set_option linter.unusedVariables false
set_option linter.unusedSimpArgs false

-- NOT PRINTED: function 33 (strings_Builder_Len)

-- NOT PRINTED: function 58 (abi_NoEscape)

-- NOT PRINTED: function 47 (strings_Builder_copyCheck)

/-! ### utf8_appendRuneNonASCII: function 59 -/
def utf8_appendRuneNonASCII.f (l0 : List Int) (a1 : Int) : Option (List Int) := none
theorem utf8_appendRuneNonASCII.calls (A0 : Option Addr) (c0 : Nat) (l0 : List Int) (a1 : Int) (r : List Int) (w : World) (hr0 : Kd.C (Kd.int .u8) w A0 l0.length l0) (hc0 : l0.length ≤ c0) (h : utf8_appendRuneNonASCII.f l0 a1 = some r) :
    Calls Try.prog 59 #[.slice A0 l0.length c0, .int .i32 a1] w fun e w' => ∃ v0_ : Value, e = .returned (v0_) ∧ Kd.R (Kd.int .u8) 5 w' w.heap.size (fun _ => True) v0_ r ∧ Below w.heap.size w w' := by
  exact absurd h (by simp [utf8_appendRuneNonASCII.f])

/-! ### utf8_AppendRune: function 48 -/
def utf8_AppendRune.f (l0 : List Int) (a1 : Int) : Option (List Int) := none
theorem utf8_AppendRune.calls (A0 : Option Addr) (c0 : Nat) (l0 : List Int) (a1 : Int) (r : List Int) (w : World) (hr0 : Kd.C (Kd.int .u8) w A0 l0.length l0) (hc0 : l0.length ≤ c0) (h : utf8_AppendRune.f l0 a1 = some r) :
    Calls Try.prog 48 #[.slice A0 l0.length c0, .int .i32 a1] w fun e w' => ∃ v0_ : Value, e = .returned (v0_) ∧ Kd.R (Kd.int .u8) 5 w' w.heap.size (fun _ => True) v0_ r ∧ Below w.heap.size w w' := by
  exact absurd h (by simp [utf8_AppendRune.f])

-- NOT PRINTED: function 34 (strings_Builder_WriteRune)

/-- A state of type 86 at block g of W; what its slices lead to came in by w0. -/
def IsS86 (w0 W : World) (g : Nat) (f0 : Bool) (f1 : Bool) (f2 : Bool) (f3 : Bool) (f4 : Bool) (f5 : Bool) (f6 : Bool) (f7 : Bool) (f8 : Bool) (f9 : Bool) (f10 : Bool) (f11 : Int) (f12 : Int) (f13 : Int) : Prop := W.heap[g]? = some (.cells #[.bool f0, .bool f1, .bool f2, .bool f3, .bool f4, .bool f5, .bool f6, .bool f7, .bool f8, .bool f9, .bool f10, .int .i64 f11, .int .i64 f12, .int .i64 f13] 86 (0, 0)) ∧ w0.heap.size ≤ g
theorem IsS86.grown {w0 W : World} {g : Nat} {f0 : Bool} {f1 : Bool} {f2 : Bool} {f3 : Bool} {f4 : Bool} {f5 : Bool} {f6 : Bool} {f7 : Bool} {f8 : Bool} {f9 : Bool} {f10 : Bool} {f11 : Int} {f12 : Int} {f13 : Int} {W1 : World} {row : Option Nat} (h : IsS86 w0 W g f0 f1 f2 f3 f4 f5 f6 f7 f8 f9 f10 f11 f12 f13) (hw : W.grownBy W1 row) (hne : some g ≠ row) : IsS86 w0 W1 g f0 f1 f2 f3 f4 f5 f6 f7 f8 f9 f10 f11 f12 f13 := by
  obtain ⟨hb, hg⟩ := h
  exact ⟨blk_grown hb hw hne, hg⟩
theorem IsS86.own_neN {w0 W : World} {g : Nat} {f0 : Bool} {f1 : Bool} {f2 : Bool} {f3 : Bool} {f4 : Bool} {f5 : Bool} {f6 : Bool} {f7 : Bool} {f8 : Bool} {f9 : Bool} {f10 : Bool} {f11 : Int} {f12 : Int} {f13 : Int} {α : Type} {d : Kd α} {e : Nat} {base : Nat} {ok : Nat → Prop} {v : Value} {xs : List α} (h : IsS86 w0 W g f0 f1 f2 f3 f4 f5 f6 f7 f8 f9 f10 f11 f12 f13) (ho : Kd.N d e W base ok v xs) (ht : e ≠ 86) : some g ≠ v.ownBlock := by
  obtain ⟨hb, hg⟩ := h
  exact Kd.N_ne ho hb ht
theorem IsS86.fresh {w0 W : World} {g : Nat} {f0 : Bool} {f1 : Bool} {f2 : Bool} {f3 : Bool} {f4 : Bool} {f5 : Bool} {f6 : Bool} {f7 : Bool} {f8 : Bool} {f9 : Bool} {f10 : Bool} {f11 : Int} {f12 : Int} {f13 : Int} (h : IsS86 w0 W g f0 f1 f2 f3 f4 f5 f6 f7 f8 f9 f10 f11 f12 f13) : ∀ k, W.heap.size ≤ k → k ≠ g := by
  obtain ⟨hb, hg⟩ := h
  exact Kd.freshB hb
theorem IsS86.kept {w0 W : World} {g : Nat} {f0 : Bool} {f1 : Bool} {f2 : Bool} {f3 : Bool} {f4 : Bool} {f5 : Bool} {f6 : Bool} {f7 : Bool} {f8 : Bool} {f9 : Bool} {f10 : Bool} {f11 : Int} {f12 : Int} {f13 : Int} {W1 : World} {S : Nat → Prop} (h : IsS86 w0 W g f0 f1 f2 f3 f4 f5 f6 f7 f8 f9 f10 f11 f12 f13) (hk : Kept W W1 S) (hne : ¬ S g) : IsS86 w0 W1 g f0 f1 f2 f3 f4 f5 f6 f7 f8 f9 f10 f11 f12 f13 := by
  obtain ⟨hb, hg⟩ := h
  exact ⟨blk_kept hb hk hne, hg⟩
theorem IsS86.below {w0 W : World} {g : Nat} {f0 : Bool} {f1 : Bool} {f2 : Bool} {f3 : Bool} {f4 : Bool} {f5 : Bool} {f6 : Bool} {f7 : Bool} {f8 : Bool} {f9 : Bool} {f10 : Bool} {f11 : Int} {f12 : Int} {f13 : Int} {W1 : World} (h : IsS86 w0 W g f0 f1 f2 f3 f4 f5 f6 f7 f8 f9 f10 f11 f12 f13) (hw : Below W.heap.size W W1) : IsS86 w0 W1 g f0 f1 f2 f3 f4 f5 f6 f7 f8 f9 f10 f11 f12 f13 := h.grown (grown_of_below hw none) (by simp)
theorem IsS86.alloc {w0 W : World} {g : Nat} {f0 : Bool} {f1 : Bool} {f2 : Bool} {f3 : Bool} {f4 : Bool} {f5 : Bool} {f6 : Bool} {f7 : Bool} {f8 : Bool} {f9 : Bool} {f10 : Bool} {f11 : Int} {f12 : Int} {f13 : Int} (h : IsS86 w0 W g f0 f1 f2 f3 f4 f5 f6 f7 f8 f9 f10 f11 f12 f13) (o : Obj) : IsS86 w0 (W.alloc o) g f0 f1 f2 f3 f4 f5 f6 f7 f8 f9 f10 f11 f12 f13 := h.below (below_alloc (Below.refl _ _) o)
theorem IsS86.drewN {w0 W : World} {g : Nat} {f0 : Bool} {f1 : Bool} {f2 : Bool} {f3 : Bool} {f4 : Bool} {f5 : Bool} {f6 : Bool} {f7 : Bool} {f8 : Bool} {f9 : Bool} {f10 : Bool} {f11 : Int} {f12 : Int} {f13 : Int} (h : IsS86 w0 W g f0 f1 f2 f3 f4 f5 f6 f7 f8 f9 f10 f11 f12 f13) (m : Nat) : IsS86 w0 (W.drewN m) g f0 f1 f2 f3 f4 f5 f6 f7 f8 f9 f10 f11 f12 f13 := h
theorem IsS86.drew {w0 W : World} {g : Nat} {f0 : Bool} {f1 : Bool} {f2 : Bool} {f3 : Bool} {f4 : Bool} {f5 : Bool} {f6 : Bool} {f7 : Bool} {f8 : Bool} {f9 : Bool} {f10 : Bool} {f11 : Int} {f12 : Int} {f13 : Int} (h : IsS86 w0 W g f0 f1 f2 f3 f4 f5 f6 f7 f8 f9 f10 f11 f12 f13) : IsS86 w0 W.drew g f0 f1 f2 f3 f4 f5 f6 f7 f8 f9 f10 f11 f12 f13 := h
theorem IsS86.at_ {w0 W : World} {g : Nat} {f0 : Bool} {f1 : Bool} {f2 : Bool} {f3 : Bool} {f4 : Bool} {f5 : Bool} {f6 : Bool} {f7 : Bool} {f8 : Bool} {f9 : Bool} {f10 : Bool} {f11 : Int} {f12 : Int} {f13 : Int} {w' : World} {m : Nat} (hq : W.drewN m = w') (h : IsS86 w0 W g f0 f1 f2 f3 f4 f5 f6 f7 f8 f9 f10 f11 f12 f13) : IsS86 w0 w' g f0 f1 f2 f3 f4 f5 f6 f7 f8 f9 f10 f11 f12 f13 := by subst hq; exact IsS86.drewN h m
theorem IsS86.apart {w0 W : World} {g : Nat} {f0 : Bool} {f1 : Bool} {f2 : Bool} {f3 : Bool} {f4 : Bool} {f5 : Bool} {f6 : Bool} {f7 : Bool} {f8 : Bool} {f9 : Bool} {f10 : Bool} {f11 : Int} {f12 : Int} {f13 : Int} {α : Type} {d : Kd α} {e : Nat} {base : Nat} {ok : Nat → Prop} {v : Value} {xs : List α} (h : IsS86 w0 W g f0 f1 f2 f3 f4 f5 f6 f7 f8 f9 f10 f11 f12 f13) (ho : d.R e W base ok v xs) (ht : ∀ q, q ∈ e :: d.E → q ≠ 86) : d.R e W base (fun k => ok k ∧ k ≠ g) v xs := by
  obtain ⟨hb, hg⟩ := h
  exact Kd.R_types ho hb ht
theorem IsS86.own_ne {w0 W : World} {g : Nat} {f0 : Bool} {f1 : Bool} {f2 : Bool} {f3 : Bool} {f4 : Bool} {f5 : Bool} {f6 : Bool} {f7 : Bool} {f8 : Bool} {f9 : Bool} {f10 : Bool} {f11 : Int} {f12 : Int} {f13 : Int} {α : Type} {d : Kd α} {e : Nat} {base : Nat} {ok : Nat → Prop} {v : Value} {xs : List α} (h : IsS86 w0 W g f0 f1 f2 f3 f4 f5 f6 f7 f8 f9 f10 f11 f12 f13) (ho : d.R e W base ok v xs) (ht : e ≠ 86) : some g ≠ v.ownBlock := by
  obtain ⟨hb, hg⟩ := h
  exact Kd.R_ne ho hb ht
theorem IsS86.apartQ {w0 W : World} {g : Nat} {f0 : Bool} {f1 : Bool} {f2 : Bool} {f3 : Bool} {f4 : Bool} {f5 : Bool} {f6 : Bool} {f7 : Bool} {f8 : Bool} {f9 : Bool} {f10 : Bool} {f11 : Int} {f12 : Int} {f13 : Int} {α : Type} {d : Kd α} {e : Nat} {base : Nat} {ok : Nat → Prop} {v : Value} {xs : List α} (h : IsS86 w0 W g f0 f1 f2 f3 f4 f5 f6 f7 f8 f9 f10 f11 f12 f13) (ho : d.Q e W base ok v xs) (ht : ∀ q, q ∈ e :: d.E → q ≠ 86) : d.Q e W base (fun k => ok k ∧ k ≠ g) v xs := by
  obtain ⟨hb, hg⟩ := h
  exact Kd.Q_types ho hb ht
theorem IsS86.own_neQ {w0 W : World} {g : Nat} {f0 : Bool} {f1 : Bool} {f2 : Bool} {f3 : Bool} {f4 : Bool} {f5 : Bool} {f6 : Bool} {f7 : Bool} {f8 : Bool} {f9 : Bool} {f10 : Bool} {f11 : Int} {f12 : Int} {f13 : Int} {α : Type} {d : Kd α} {e : Nat} {base : Nat} {ok : Nat → Prop} {v : Value} {xs : List α} (h : IsS86 w0 W g f0 f1 f2 f3 f4 f5 f6 f7 f8 f9 f10 f11 f12 f13) (ho : d.Q e W base ok v xs) (ht : e ≠ 86) : some g ≠ v.ownBlock := by
  obtain ⟨hb, hg⟩ := h
  exact Kd.Q_ne ho hb ht
theorem IsS86.apartS {w0 W : World} {g : Nat} {f0 : Bool} {f1 : Bool} {f2 : Bool} {f3 : Bool} {f4 : Bool} {f5 : Bool} {f6 : Bool} {f7 : Bool} {f8 : Bool} {f9 : Bool} {f10 : Bool} {f11 : Int} {f12 : Int} {f13 : Int} {α : Type} {d : Kd α} {e : Nat} {base : Nat} {ok : Nat → Prop} {v : Value} {xs : List α} (h : IsS86 w0 W g f0 f1 f2 f3 f4 f5 f6 f7 f8 f9 f10 f11 f12 f13) (ho : d.S e W base ok v xs) (ht : ∀ q, q ∈ e :: d.E → q ≠ 86) : d.S e W base (fun k => ok k ∧ k ≠ g) v xs := by
  obtain ⟨hb, hg⟩ := h
  exact Kd.S_types ho hb ht
theorem IsS86.own_neS {w0 W : World} {g : Nat} {f0 : Bool} {f1 : Bool} {f2 : Bool} {f3 : Bool} {f4 : Bool} {f5 : Bool} {f6 : Bool} {f7 : Bool} {f8 : Bool} {f9 : Bool} {f10 : Bool} {f11 : Int} {f12 : Int} {f13 : Int} {α : Type} {d : Kd α} {e : Nat} {base : Nat} {ok : Nat → Prop} {v : Value} {xs : List α} (h : IsS86 w0 W g f0 f1 f2 f3 f4 f5 f6 f7 f8 f9 f10 f11 f12 f13) (ho : d.S e W base ok v xs) (ht : e ≠ 86) : some g ≠ v.ownBlock := by
  obtain ⟨hb, hg⟩ := h
  exact Kd.S_ne ho hb ht
theorem IsS86.lt {w0 W : World} {g : Nat} {f0 : Bool} {f1 : Bool} {f2 : Bool} {f3 : Bool} {f4 : Bool} {f5 : Bool} {f6 : Bool} {f7 : Bool} {f8 : Bool} {f9 : Bool} {f10 : Bool} {f11 : Int} {f12 : Int} {f13 : Int} (h : IsS86 w0 W g f0 f1 f2 f3 f4 f5 f6 f7 f8 f9 f10 f11 f12 f13) : g < W.heap.size := by
  obtain ⟨hb, hg⟩ := h
  exact blk_lt hb
theorem IsS86.ge {w0 W : World} {g : Nat} {f0 : Bool} {f1 : Bool} {f2 : Bool} {f3 : Bool} {f4 : Bool} {f5 : Bool} {f6 : Bool} {f7 : Bool} {f8 : Bool} {f9 : Bool} {f10 : Bool} {f11 : Int} {f12 : Int} {f13 : Int} (h : IsS86 w0 W g f0 f1 f2 f3 f4 f5 f6 f7 f8 f9 f10 f11 f12 f13) : w0.heap.size ≤ g := by
  obtain ⟨hb, hg⟩ := h
  exact hg
theorem IsS86.ne_blk {w0 W : World} {g : Nat} {f0 : Bool} {f1 : Bool} {f2 : Bool} {f3 : Bool} {f4 : Bool} {f5 : Bool} {f6 : Bool} {f7 : Bool} {f8 : Bool} {f9 : Bool} {f10 : Bool} {f11 : Int} {f12 : Int} {f13 : Int} {a : Nat} {cs : Array Value} {t : TypeId} {fr : Nat × Nat} (h : IsS86 w0 W g f0 f1 f2 f3 f4 f5 f6 f7 f8 f9 f10 f11 f12 f13) (hb2 : W.heap[a]? = some (.cells cs t fr)) (ht : t ≠ 86) : g ≠ a := by
  obtain ⟨hb, hg⟩ := h
  rintro rfl
  rw [hb] at hb2
  injection hb2 with hb2
  injection hb2 with _ ht2
  exact ht ht2.symm
theorem IsS86.far {w0 W : World} {g : Nat} {f0 : Bool} {f1 : Bool} {f2 : Bool} {f3 : Bool} {f4 : Bool} {f5 : Bool} {f6 : Bool} {f7 : Bool} {f8 : Bool} {f9 : Bool} {f10 : Bool} {f11 : Int} {f12 : Int} {f13 : Int} {p : Addr} (h : IsS86 w0 W g f0 f1 f2 f3 f4 f5 f6 f7 f8 f9 f10 f11 f12 f13) (hne : g ≠ p.block) (u : Value) : IsS86 w0 (W.setCell p u) g f0 f1 f2 f3 f4 f5 f6 f7 f8 f9 f10 f11 f12 f13 := by
  obtain ⟨hb, hg⟩ := h
  exact ⟨blk_far hb hne u, hg⟩
theorem cellS86_0 {W : World} {g : Nat} {f0 : Bool} {f1 : Bool} {f2 : Bool} {f3 : Bool} {f4 : Bool} {f5 : Bool} {f6 : Bool} {f7 : Bool} {f8 : Bool} {f9 : Bool} {f10 : Bool} {f11 : Int} {f12 : Int} {f13 : Int} (h : W.heap[g]? = some (.cells #[.bool f0, .bool f1, .bool f2, .bool f3, .bool f4, .bool f5, .bool f6, .bool f7, .bool f8, .bool f9, .bool f10, .int .i64 f11, .int .i64 f12, .int .i64 f13] 86 (0, 0))) : W.cell? ⟨g, 0, none⟩ = some (.bool f0) := (blk_cell h 0).trans rfl
theorem IsS86.set_0 {w0 W : World} {g : Nat} {f0 : Bool} {f1 : Bool} {f2 : Bool} {f3 : Bool} {f4 : Bool} {f5 : Bool} {f6 : Bool} {f7 : Bool} {f8 : Bool} {f9 : Bool} {f10 : Bool} {f11 : Int} {f12 : Int} {f13 : Int} (h : IsS86 w0 W g f0 f1 f2 f3 f4 f5 f6 f7 f8 f9 f10 f11 f12 f13) (x : Bool) : IsS86 w0 (W.setCell ⟨g, 0, none⟩ (.bool x)) g x f1 f2 f3 f4 f5 f6 f7 f8 f9 f10 f11 f12 f13 := by
  obtain ⟨hb, hg⟩ := h
  exact ⟨by simpa using blk_set hb 0 (.bool x), hg⟩
theorem cellS86_1 {W : World} {g : Nat} {f0 : Bool} {f1 : Bool} {f2 : Bool} {f3 : Bool} {f4 : Bool} {f5 : Bool} {f6 : Bool} {f7 : Bool} {f8 : Bool} {f9 : Bool} {f10 : Bool} {f11 : Int} {f12 : Int} {f13 : Int} (h : W.heap[g]? = some (.cells #[.bool f0, .bool f1, .bool f2, .bool f3, .bool f4, .bool f5, .bool f6, .bool f7, .bool f8, .bool f9, .bool f10, .int .i64 f11, .int .i64 f12, .int .i64 f13] 86 (0, 0))) : W.cell? ⟨g, 1, none⟩ = some (.bool f1) := (blk_cell h 1).trans rfl
theorem IsS86.set_1 {w0 W : World} {g : Nat} {f0 : Bool} {f1 : Bool} {f2 : Bool} {f3 : Bool} {f4 : Bool} {f5 : Bool} {f6 : Bool} {f7 : Bool} {f8 : Bool} {f9 : Bool} {f10 : Bool} {f11 : Int} {f12 : Int} {f13 : Int} (h : IsS86 w0 W g f0 f1 f2 f3 f4 f5 f6 f7 f8 f9 f10 f11 f12 f13) (x : Bool) : IsS86 w0 (W.setCell ⟨g, 1, none⟩ (.bool x)) g f0 x f2 f3 f4 f5 f6 f7 f8 f9 f10 f11 f12 f13 := by
  obtain ⟨hb, hg⟩ := h
  exact ⟨by simpa using blk_set hb 1 (.bool x), hg⟩
theorem cellS86_2 {W : World} {g : Nat} {f0 : Bool} {f1 : Bool} {f2 : Bool} {f3 : Bool} {f4 : Bool} {f5 : Bool} {f6 : Bool} {f7 : Bool} {f8 : Bool} {f9 : Bool} {f10 : Bool} {f11 : Int} {f12 : Int} {f13 : Int} (h : W.heap[g]? = some (.cells #[.bool f0, .bool f1, .bool f2, .bool f3, .bool f4, .bool f5, .bool f6, .bool f7, .bool f8, .bool f9, .bool f10, .int .i64 f11, .int .i64 f12, .int .i64 f13] 86 (0, 0))) : W.cell? ⟨g, 2, none⟩ = some (.bool f2) := (blk_cell h 2).trans rfl
theorem IsS86.set_2 {w0 W : World} {g : Nat} {f0 : Bool} {f1 : Bool} {f2 : Bool} {f3 : Bool} {f4 : Bool} {f5 : Bool} {f6 : Bool} {f7 : Bool} {f8 : Bool} {f9 : Bool} {f10 : Bool} {f11 : Int} {f12 : Int} {f13 : Int} (h : IsS86 w0 W g f0 f1 f2 f3 f4 f5 f6 f7 f8 f9 f10 f11 f12 f13) (x : Bool) : IsS86 w0 (W.setCell ⟨g, 2, none⟩ (.bool x)) g f0 f1 x f3 f4 f5 f6 f7 f8 f9 f10 f11 f12 f13 := by
  obtain ⟨hb, hg⟩ := h
  exact ⟨by simpa using blk_set hb 2 (.bool x), hg⟩
theorem cellS86_3 {W : World} {g : Nat} {f0 : Bool} {f1 : Bool} {f2 : Bool} {f3 : Bool} {f4 : Bool} {f5 : Bool} {f6 : Bool} {f7 : Bool} {f8 : Bool} {f9 : Bool} {f10 : Bool} {f11 : Int} {f12 : Int} {f13 : Int} (h : W.heap[g]? = some (.cells #[.bool f0, .bool f1, .bool f2, .bool f3, .bool f4, .bool f5, .bool f6, .bool f7, .bool f8, .bool f9, .bool f10, .int .i64 f11, .int .i64 f12, .int .i64 f13] 86 (0, 0))) : W.cell? ⟨g, 3, none⟩ = some (.bool f3) := (blk_cell h 3).trans rfl
theorem IsS86.set_3 {w0 W : World} {g : Nat} {f0 : Bool} {f1 : Bool} {f2 : Bool} {f3 : Bool} {f4 : Bool} {f5 : Bool} {f6 : Bool} {f7 : Bool} {f8 : Bool} {f9 : Bool} {f10 : Bool} {f11 : Int} {f12 : Int} {f13 : Int} (h : IsS86 w0 W g f0 f1 f2 f3 f4 f5 f6 f7 f8 f9 f10 f11 f12 f13) (x : Bool) : IsS86 w0 (W.setCell ⟨g, 3, none⟩ (.bool x)) g f0 f1 f2 x f4 f5 f6 f7 f8 f9 f10 f11 f12 f13 := by
  obtain ⟨hb, hg⟩ := h
  exact ⟨by simpa using blk_set hb 3 (.bool x), hg⟩
theorem cellS86_4 {W : World} {g : Nat} {f0 : Bool} {f1 : Bool} {f2 : Bool} {f3 : Bool} {f4 : Bool} {f5 : Bool} {f6 : Bool} {f7 : Bool} {f8 : Bool} {f9 : Bool} {f10 : Bool} {f11 : Int} {f12 : Int} {f13 : Int} (h : W.heap[g]? = some (.cells #[.bool f0, .bool f1, .bool f2, .bool f3, .bool f4, .bool f5, .bool f6, .bool f7, .bool f8, .bool f9, .bool f10, .int .i64 f11, .int .i64 f12, .int .i64 f13] 86 (0, 0))) : W.cell? ⟨g, 4, none⟩ = some (.bool f4) := (blk_cell h 4).trans rfl
theorem IsS86.set_4 {w0 W : World} {g : Nat} {f0 : Bool} {f1 : Bool} {f2 : Bool} {f3 : Bool} {f4 : Bool} {f5 : Bool} {f6 : Bool} {f7 : Bool} {f8 : Bool} {f9 : Bool} {f10 : Bool} {f11 : Int} {f12 : Int} {f13 : Int} (h : IsS86 w0 W g f0 f1 f2 f3 f4 f5 f6 f7 f8 f9 f10 f11 f12 f13) (x : Bool) : IsS86 w0 (W.setCell ⟨g, 4, none⟩ (.bool x)) g f0 f1 f2 f3 x f5 f6 f7 f8 f9 f10 f11 f12 f13 := by
  obtain ⟨hb, hg⟩ := h
  exact ⟨by simpa using blk_set hb 4 (.bool x), hg⟩
theorem cellS86_5 {W : World} {g : Nat} {f0 : Bool} {f1 : Bool} {f2 : Bool} {f3 : Bool} {f4 : Bool} {f5 : Bool} {f6 : Bool} {f7 : Bool} {f8 : Bool} {f9 : Bool} {f10 : Bool} {f11 : Int} {f12 : Int} {f13 : Int} (h : W.heap[g]? = some (.cells #[.bool f0, .bool f1, .bool f2, .bool f3, .bool f4, .bool f5, .bool f6, .bool f7, .bool f8, .bool f9, .bool f10, .int .i64 f11, .int .i64 f12, .int .i64 f13] 86 (0, 0))) : W.cell? ⟨g, 5, none⟩ = some (.bool f5) := (blk_cell h 5).trans rfl
theorem IsS86.set_5 {w0 W : World} {g : Nat} {f0 : Bool} {f1 : Bool} {f2 : Bool} {f3 : Bool} {f4 : Bool} {f5 : Bool} {f6 : Bool} {f7 : Bool} {f8 : Bool} {f9 : Bool} {f10 : Bool} {f11 : Int} {f12 : Int} {f13 : Int} (h : IsS86 w0 W g f0 f1 f2 f3 f4 f5 f6 f7 f8 f9 f10 f11 f12 f13) (x : Bool) : IsS86 w0 (W.setCell ⟨g, 5, none⟩ (.bool x)) g f0 f1 f2 f3 f4 x f6 f7 f8 f9 f10 f11 f12 f13 := by
  obtain ⟨hb, hg⟩ := h
  exact ⟨by simpa using blk_set hb 5 (.bool x), hg⟩
theorem cellS86_6 {W : World} {g : Nat} {f0 : Bool} {f1 : Bool} {f2 : Bool} {f3 : Bool} {f4 : Bool} {f5 : Bool} {f6 : Bool} {f7 : Bool} {f8 : Bool} {f9 : Bool} {f10 : Bool} {f11 : Int} {f12 : Int} {f13 : Int} (h : W.heap[g]? = some (.cells #[.bool f0, .bool f1, .bool f2, .bool f3, .bool f4, .bool f5, .bool f6, .bool f7, .bool f8, .bool f9, .bool f10, .int .i64 f11, .int .i64 f12, .int .i64 f13] 86 (0, 0))) : W.cell? ⟨g, 6, none⟩ = some (.bool f6) := (blk_cell h 6).trans rfl
theorem IsS86.set_6 {w0 W : World} {g : Nat} {f0 : Bool} {f1 : Bool} {f2 : Bool} {f3 : Bool} {f4 : Bool} {f5 : Bool} {f6 : Bool} {f7 : Bool} {f8 : Bool} {f9 : Bool} {f10 : Bool} {f11 : Int} {f12 : Int} {f13 : Int} (h : IsS86 w0 W g f0 f1 f2 f3 f4 f5 f6 f7 f8 f9 f10 f11 f12 f13) (x : Bool) : IsS86 w0 (W.setCell ⟨g, 6, none⟩ (.bool x)) g f0 f1 f2 f3 f4 f5 x f7 f8 f9 f10 f11 f12 f13 := by
  obtain ⟨hb, hg⟩ := h
  exact ⟨by simpa using blk_set hb 6 (.bool x), hg⟩
theorem cellS86_7 {W : World} {g : Nat} {f0 : Bool} {f1 : Bool} {f2 : Bool} {f3 : Bool} {f4 : Bool} {f5 : Bool} {f6 : Bool} {f7 : Bool} {f8 : Bool} {f9 : Bool} {f10 : Bool} {f11 : Int} {f12 : Int} {f13 : Int} (h : W.heap[g]? = some (.cells #[.bool f0, .bool f1, .bool f2, .bool f3, .bool f4, .bool f5, .bool f6, .bool f7, .bool f8, .bool f9, .bool f10, .int .i64 f11, .int .i64 f12, .int .i64 f13] 86 (0, 0))) : W.cell? ⟨g, 7, none⟩ = some (.bool f7) := (blk_cell h 7).trans rfl
theorem IsS86.set_7 {w0 W : World} {g : Nat} {f0 : Bool} {f1 : Bool} {f2 : Bool} {f3 : Bool} {f4 : Bool} {f5 : Bool} {f6 : Bool} {f7 : Bool} {f8 : Bool} {f9 : Bool} {f10 : Bool} {f11 : Int} {f12 : Int} {f13 : Int} (h : IsS86 w0 W g f0 f1 f2 f3 f4 f5 f6 f7 f8 f9 f10 f11 f12 f13) (x : Bool) : IsS86 w0 (W.setCell ⟨g, 7, none⟩ (.bool x)) g f0 f1 f2 f3 f4 f5 f6 x f8 f9 f10 f11 f12 f13 := by
  obtain ⟨hb, hg⟩ := h
  exact ⟨by simpa using blk_set hb 7 (.bool x), hg⟩
theorem cellS86_8 {W : World} {g : Nat} {f0 : Bool} {f1 : Bool} {f2 : Bool} {f3 : Bool} {f4 : Bool} {f5 : Bool} {f6 : Bool} {f7 : Bool} {f8 : Bool} {f9 : Bool} {f10 : Bool} {f11 : Int} {f12 : Int} {f13 : Int} (h : W.heap[g]? = some (.cells #[.bool f0, .bool f1, .bool f2, .bool f3, .bool f4, .bool f5, .bool f6, .bool f7, .bool f8, .bool f9, .bool f10, .int .i64 f11, .int .i64 f12, .int .i64 f13] 86 (0, 0))) : W.cell? ⟨g, 8, none⟩ = some (.bool f8) := (blk_cell h 8).trans rfl
theorem IsS86.set_8 {w0 W : World} {g : Nat} {f0 : Bool} {f1 : Bool} {f2 : Bool} {f3 : Bool} {f4 : Bool} {f5 : Bool} {f6 : Bool} {f7 : Bool} {f8 : Bool} {f9 : Bool} {f10 : Bool} {f11 : Int} {f12 : Int} {f13 : Int} (h : IsS86 w0 W g f0 f1 f2 f3 f4 f5 f6 f7 f8 f9 f10 f11 f12 f13) (x : Bool) : IsS86 w0 (W.setCell ⟨g, 8, none⟩ (.bool x)) g f0 f1 f2 f3 f4 f5 f6 f7 x f9 f10 f11 f12 f13 := by
  obtain ⟨hb, hg⟩ := h
  exact ⟨by simpa using blk_set hb 8 (.bool x), hg⟩
theorem cellS86_9 {W : World} {g : Nat} {f0 : Bool} {f1 : Bool} {f2 : Bool} {f3 : Bool} {f4 : Bool} {f5 : Bool} {f6 : Bool} {f7 : Bool} {f8 : Bool} {f9 : Bool} {f10 : Bool} {f11 : Int} {f12 : Int} {f13 : Int} (h : W.heap[g]? = some (.cells #[.bool f0, .bool f1, .bool f2, .bool f3, .bool f4, .bool f5, .bool f6, .bool f7, .bool f8, .bool f9, .bool f10, .int .i64 f11, .int .i64 f12, .int .i64 f13] 86 (0, 0))) : W.cell? ⟨g, 9, none⟩ = some (.bool f9) := (blk_cell h 9).trans rfl
theorem IsS86.set_9 {w0 W : World} {g : Nat} {f0 : Bool} {f1 : Bool} {f2 : Bool} {f3 : Bool} {f4 : Bool} {f5 : Bool} {f6 : Bool} {f7 : Bool} {f8 : Bool} {f9 : Bool} {f10 : Bool} {f11 : Int} {f12 : Int} {f13 : Int} (h : IsS86 w0 W g f0 f1 f2 f3 f4 f5 f6 f7 f8 f9 f10 f11 f12 f13) (x : Bool) : IsS86 w0 (W.setCell ⟨g, 9, none⟩ (.bool x)) g f0 f1 f2 f3 f4 f5 f6 f7 f8 x f10 f11 f12 f13 := by
  obtain ⟨hb, hg⟩ := h
  exact ⟨by simpa using blk_set hb 9 (.bool x), hg⟩
theorem cellS86_10 {W : World} {g : Nat} {f0 : Bool} {f1 : Bool} {f2 : Bool} {f3 : Bool} {f4 : Bool} {f5 : Bool} {f6 : Bool} {f7 : Bool} {f8 : Bool} {f9 : Bool} {f10 : Bool} {f11 : Int} {f12 : Int} {f13 : Int} (h : W.heap[g]? = some (.cells #[.bool f0, .bool f1, .bool f2, .bool f3, .bool f4, .bool f5, .bool f6, .bool f7, .bool f8, .bool f9, .bool f10, .int .i64 f11, .int .i64 f12, .int .i64 f13] 86 (0, 0))) : W.cell? ⟨g, 10, none⟩ = some (.bool f10) := (blk_cell h 10).trans rfl
theorem IsS86.set_10 {w0 W : World} {g : Nat} {f0 : Bool} {f1 : Bool} {f2 : Bool} {f3 : Bool} {f4 : Bool} {f5 : Bool} {f6 : Bool} {f7 : Bool} {f8 : Bool} {f9 : Bool} {f10 : Bool} {f11 : Int} {f12 : Int} {f13 : Int} (h : IsS86 w0 W g f0 f1 f2 f3 f4 f5 f6 f7 f8 f9 f10 f11 f12 f13) (x : Bool) : IsS86 w0 (W.setCell ⟨g, 10, none⟩ (.bool x)) g f0 f1 f2 f3 f4 f5 f6 f7 f8 f9 x f11 f12 f13 := by
  obtain ⟨hb, hg⟩ := h
  exact ⟨by simpa using blk_set hb 10 (.bool x), hg⟩
theorem cellS86_11 {W : World} {g : Nat} {f0 : Bool} {f1 : Bool} {f2 : Bool} {f3 : Bool} {f4 : Bool} {f5 : Bool} {f6 : Bool} {f7 : Bool} {f8 : Bool} {f9 : Bool} {f10 : Bool} {f11 : Int} {f12 : Int} {f13 : Int} (h : W.heap[g]? = some (.cells #[.bool f0, .bool f1, .bool f2, .bool f3, .bool f4, .bool f5, .bool f6, .bool f7, .bool f8, .bool f9, .bool f10, .int .i64 f11, .int .i64 f12, .int .i64 f13] 86 (0, 0))) : W.cell? ⟨g, 11, none⟩ = some (.int .i64 f11) := (blk_cell h 11).trans rfl
theorem IsS86.set_11 {w0 W : World} {g : Nat} {f0 : Bool} {f1 : Bool} {f2 : Bool} {f3 : Bool} {f4 : Bool} {f5 : Bool} {f6 : Bool} {f7 : Bool} {f8 : Bool} {f9 : Bool} {f10 : Bool} {f11 : Int} {f12 : Int} {f13 : Int} (h : IsS86 w0 W g f0 f1 f2 f3 f4 f5 f6 f7 f8 f9 f10 f11 f12 f13) (x : Int) : IsS86 w0 (W.setCell ⟨g, 11, none⟩ (.int .i64 x)) g f0 f1 f2 f3 f4 f5 f6 f7 f8 f9 f10 x f12 f13 := by
  obtain ⟨hb, hg⟩ := h
  exact ⟨by simpa using blk_set hb 11 (.int .i64 x), hg⟩
theorem cellS86_12 {W : World} {g : Nat} {f0 : Bool} {f1 : Bool} {f2 : Bool} {f3 : Bool} {f4 : Bool} {f5 : Bool} {f6 : Bool} {f7 : Bool} {f8 : Bool} {f9 : Bool} {f10 : Bool} {f11 : Int} {f12 : Int} {f13 : Int} (h : W.heap[g]? = some (.cells #[.bool f0, .bool f1, .bool f2, .bool f3, .bool f4, .bool f5, .bool f6, .bool f7, .bool f8, .bool f9, .bool f10, .int .i64 f11, .int .i64 f12, .int .i64 f13] 86 (0, 0))) : W.cell? ⟨g, 12, none⟩ = some (.int .i64 f12) := (blk_cell h 12).trans rfl
theorem IsS86.set_12 {w0 W : World} {g : Nat} {f0 : Bool} {f1 : Bool} {f2 : Bool} {f3 : Bool} {f4 : Bool} {f5 : Bool} {f6 : Bool} {f7 : Bool} {f8 : Bool} {f9 : Bool} {f10 : Bool} {f11 : Int} {f12 : Int} {f13 : Int} (h : IsS86 w0 W g f0 f1 f2 f3 f4 f5 f6 f7 f8 f9 f10 f11 f12 f13) (x : Int) : IsS86 w0 (W.setCell ⟨g, 12, none⟩ (.int .i64 x)) g f0 f1 f2 f3 f4 f5 f6 f7 f8 f9 f10 f11 x f13 := by
  obtain ⟨hb, hg⟩ := h
  exact ⟨by simpa using blk_set hb 12 (.int .i64 x), hg⟩
theorem cellS86_13 {W : World} {g : Nat} {f0 : Bool} {f1 : Bool} {f2 : Bool} {f3 : Bool} {f4 : Bool} {f5 : Bool} {f6 : Bool} {f7 : Bool} {f8 : Bool} {f9 : Bool} {f10 : Bool} {f11 : Int} {f12 : Int} {f13 : Int} (h : W.heap[g]? = some (.cells #[.bool f0, .bool f1, .bool f2, .bool f3, .bool f4, .bool f5, .bool f6, .bool f7, .bool f8, .bool f9, .bool f10, .int .i64 f11, .int .i64 f12, .int .i64 f13] 86 (0, 0))) : W.cell? ⟨g, 13, none⟩ = some (.int .i64 f13) := (blk_cell h 13).trans rfl
theorem IsS86.set_13 {w0 W : World} {g : Nat} {f0 : Bool} {f1 : Bool} {f2 : Bool} {f3 : Bool} {f4 : Bool} {f5 : Bool} {f6 : Bool} {f7 : Bool} {f8 : Bool} {f9 : Bool} {f10 : Bool} {f11 : Int} {f12 : Int} {f13 : Int} (h : IsS86 w0 W g f0 f1 f2 f3 f4 f5 f6 f7 f8 f9 f10 f11 f12 f13) (x : Int) : IsS86 w0 (W.setCell ⟨g, 13, none⟩ (.int .i64 x)) g f0 f1 f2 f3 f4 f5 f6 f7 f8 f9 f10 f11 f12 x := by
  obtain ⟨hb, hg⟩ := h
  exact ⟨by simpa using blk_set hb 13 (.int .i64 x), hg⟩
theorem IsS86.new (w0 W : World) (f0 : Bool) (f1 : Bool) (f2 : Bool) (f3 : Bool) (f4 : Bool) (f5 : Bool) (f6 : Bool) (f7 : Bool) (f8 : Bool) (f9 : Bool) (f10 : Bool) (f11 : Int) (f12 : Int) (f13 : Int) (hB : Below w0.heap.size w0 W) : IsS86 w0 (W.alloc (.cells #[.bool f0, .bool f1, .bool f2, .bool f3, .bool f4, .bool f5, .bool f6, .bool f7, .bool f8, .bool f9, .bool f10, .int .i64 f11, .int .i64 f12, .int .i64 f13] 86)) W.heap.size f0 f1 f2 f3 f4 f5 f6 f7 f8 f9 f10 f11 f12 f13 := ⟨by simpa using heap_alloc_new W _, hB.size⟩

/-! ### table_renderHint_isRegularRow: function 35 -/
def table_renderHint_isRegularRow.f (s0_0 : Bool) (s0_1 : Bool) (s0_2 : Bool) (s0_3 : Bool) (s0_4 : Bool) (s0_5 : Bool) (s0_6 : Bool) (s0_7 : Bool) (s0_8 : Bool) (s0_9 : Bool) (s0_10 : Bool) (s0_11 : Int) (s0_12 : Int) (s0_13 : Int) : Option (Bool × Bool × Bool × Bool × Bool × Bool × Bool × Bool × Bool × Bool × Bool × Bool × Int × Int × Int) := if s0_6 = true then (some (false, s0_0, s0_1, s0_2, s0_3, s0_4, s0_5, s0_6, s0_7, s0_8, s0_9, s0_10, s0_11, s0_12, s0_13)) else (some (!s0_5, s0_0, s0_1, s0_2, s0_3, s0_4, s0_5, s0_6, s0_7, s0_8, s0_9, s0_10, s0_11, s0_12, s0_13))
set_option maxHeartbeats 8000000 in
set_option maxRecDepth 100000 in
theorem table_renderHint_isRegularRow.calls (g : Nat) (s0_0 : Bool) (s0_1 : Bool) (s0_2 : Bool) (s0_3 : Bool) (s0_4 : Bool) (s0_5 : Bool) (s0_6 : Bool) (s0_7 : Bool) (s0_8 : Bool) (s0_9 : Bool) (s0_10 : Bool) (s0_11 : Int) (s0_12 : Int) (s0_13 : Int) (r1 : Bool) (r2 : Bool) (r3 : Bool) (r4 : Bool) (r5 : Bool) (r6 : Bool) (r7 : Bool) (r8 : Bool) (r9 : Bool) (r10 : Bool) (r11 : Bool) (r12 : Bool) (r13 : Int) (r14 : Int) (r15 : Int) (w0 w : World) (hI : IsS86 w0 w g s0_0 s0_1 s0_2 s0_3 s0_4 s0_5 s0_6 s0_7 s0_8 s0_9 s0_10 s0_11 s0_12 s0_13) (hB : Below w0.heap.size w0 w) (h : table_renderHint_isRegularRow.f s0_0 s0_1 s0_2 s0_3 s0_4 s0_5 s0_6 s0_7 s0_8 s0_9 s0_10 s0_11 s0_12 s0_13 = some (r1, r2, r3, r4, r5, r6, r7, r8, r9, r10, r11, r12, r13, r14, r15)) :
    Calls Try.prog 35 #[.pointer (some ⟨g, 0, none⟩)] w fun e w' => e = .returned (.bool r1) ∧ IsS86 w0 w' g r2 r3 r4 r5 r6 r7 r8 r9 r10 r11 r12 r13 r14 r15 ∧ Below w0.heap.size w0 w' ∧ KeepBut w w' g none := by
  have HI0 := Aside0.mk hI
  have HK := Aside0.mk (KeepBut.refl w g none)
  have HL := Aside0.mk hB.size
  clear hI
  have HW0 := Aside0.mk hB.size
  have HB := Aside0.mk hB
  clear hB
  have H : (if s0_6 = true then (some (false, s0_0, s0_1, s0_2, s0_3, s0_4, s0_5, s0_6, s0_7, s0_8, s0_9, s0_10, s0_11, s0_12, s0_13)) else (some (!s0_5, s0_0, s0_1, s0_2, s0_3, s0_4, s0_5, s0_6, s0_7, s0_8, s0_9, s0_10, s0_11, s0_12, s0_13))) = some (r1, r2, r3, r4, r5, r6, r7, r8, r9, r10, r11, r12, r13, r14, r15) := h
  clear h
  by_cases c2 : s0_6 = true
  · subst c2
    have H1 : (some (false, s0_0, s0_1, s0_2, s0_3, s0_4, s0_5, true, s0_7, s0_8, s0_9, s0_10, s0_11, s0_12, s0_13)) = some (r1, r2, r3, r4, r5, r6, r7, r8, r9, r10, r11, r12, r13, r14, r15) := by rw [if_pos rfl] at H; exact H
    clear H
    have H := H1
    clear H1
    simp only [Option.some.injEq, Prod.mk.injEq] at H
    obtain ⟨rfl, rfl, rfl, rfl, rfl, rfl, rfl, rfl, rfl, rfl, rfl, rfl, rfl, rfl, rfl⟩ := H
    obtain ⟨HGz3, hgz3⟩ := HI0.out
    have hcz3_0 := cellS86_0 HGz3
    have hcz3_1 := cellS86_1 HGz3
    have hcz3_2 := cellS86_2 HGz3
    have hcz3_3 := cellS86_3 HGz3
    have hcz3_4 := cellS86_4 HGz3
    have hcz3_5 := cellS86_5 HGz3
    have hcz3_6 := cellS86_6 HGz3
    have hcz3_7 := cellS86_7 HGz3
    have hcz3_8 := cellS86_8 HGz3
    have hcz3_9 := cellS86_9 HGz3
    have hcz3_10 := cellS86_10 HGz3
    have hcz3_11 := cellS86_11 HGz3
    have hcz3_12 := cellS86_12 HGz3
    have hcz3_13 := cellS86_13 HGz3
    have hfz3_0 := blk_frozen HGz3 0
    have hfz3_1 := blk_frozen HGz3 1
    have hfz3_2 := blk_frozen HGz3 2
    have hfz3_3 := blk_frozen HGz3 3
    have hfz3_4 := blk_frozen HGz3 4
    have hfz3_5 := blk_frozen HGz3 5
    have hfz3_6 := blk_frozen HGz3 6
    have hfz3_7 := blk_frozen HGz3 7
    have hfz3_8 := blk_frozen HGz3 8
    have hfz3_9 := blk_frozen HGz3 9
    have hfz3_10 := blk_frozen HGz3 10
    have hfz3_11 := blk_frozen HGz3 11
    have hfz3_12 := blk_frozen HGz3 12
    have hfz3_13 := blk_frozen HGz3 13
    clear HGz3 hgz3
    go_enter Try.func35, Try.ntmps35
    go_wp2
    go_ret
    exact ⟨by first | rfl | (simp [errW_none, errW_some] <;> rfl) | (simp [*, errW_none, errW_some] <;> rfl), by repeat (first | (with_reducible first | exact HI0.out | apply IsS86.alloc | apply IsS86.drewN | apply IsS86.drew | apply IsS86.set_0 | apply IsS86.set_1 | apply IsS86.set_2 | apply IsS86.set_3 | apply IsS86.set_4 | apply IsS86.set_5 | apply IsS86.set_6 | apply IsS86.set_7 | apply IsS86.set_8 | apply IsS86.set_9 | apply IsS86.set_10 | apply IsS86.set_11 | apply IsS86.set_12 | apply IsS86.set_13) | exact HI0.out), by repeat (first | (with_reducible first | exact HB.out | apply below_alloc | apply pw_below_drewN | apply below_drew1 | refine below_set ?_ (IsS86.ge HI0.out)) | exact HB.out), by repeat (first | (with_reducible first | exact HK.out | apply KeepBut.set_ | apply keep_drewN | apply keep_drew | apply keep_alloc) | exact HK.out)⟩
  · replace c2 := Bool.eq_false_iff.mpr c2
    subst c2
    have H1 : (some (!s0_5, s0_0, s0_1, s0_2, s0_3, s0_4, s0_5, false, s0_7, s0_8, s0_9, s0_10, s0_11, s0_12, s0_13)) = some (r1, r2, r3, r4, r5, r6, r7, r8, r9, r10, r11, r12, r13, r14, r15) := by rw [if_neg (show ¬ (false = true) by decide)] at H; exact H
    clear H
    have H := H1
    clear H1
    simp only [Option.some.injEq, Prod.mk.injEq] at H
    obtain ⟨rfl, rfl, rfl, rfl, rfl, rfl, rfl, rfl, rfl, rfl, rfl, rfl, rfl, rfl, rfl⟩ := H
    obtain ⟨HGz4, hgz4⟩ := HI0.out
    have hcz4_0 := cellS86_0 HGz4
    have hcz4_1 := cellS86_1 HGz4
    have hcz4_2 := cellS86_2 HGz4
    have hcz4_3 := cellS86_3 HGz4
    have hcz4_4 := cellS86_4 HGz4
    have hcz4_5 := cellS86_5 HGz4
    have hcz4_6 := cellS86_6 HGz4
    have hcz4_7 := cellS86_7 HGz4
    have hcz4_8 := cellS86_8 HGz4
    have hcz4_9 := cellS86_9 HGz4
    have hcz4_10 := cellS86_10 HGz4
    have hcz4_11 := cellS86_11 HGz4
    have hcz4_12 := cellS86_12 HGz4
    have hcz4_13 := cellS86_13 HGz4
    have hfz4_0 := blk_frozen HGz4 0
    have hfz4_1 := blk_frozen HGz4 1
    have hfz4_2 := blk_frozen HGz4 2
    have hfz4_3 := blk_frozen HGz4 3
    have hfz4_4 := blk_frozen HGz4 4
    have hfz4_5 := blk_frozen HGz4 5
    have hfz4_6 := blk_frozen HGz4 6
    have hfz4_7 := blk_frozen HGz4 7
    have hfz4_8 := blk_frozen HGz4 8
    have hfz4_9 := blk_frozen HGz4 9
    have hfz4_10 := blk_frozen HGz4 10
    have hfz4_11 := blk_frozen HGz4 11
    have hfz4_12 := blk_frozen HGz4 12
    have hfz4_13 := blk_frozen HGz4 13
    clear HGz4 hgz4
    go_enter Try.func35, Try.ntmps35
    go_wp2
    go_ret
    exact ⟨by first | rfl | (simp [errW_none, errW_some] <;> rfl) | (simp [*, errW_none, errW_some] <;> rfl), by repeat (first | (with_reducible first | exact HI0.out | apply IsS86.alloc | apply IsS86.drewN | apply IsS86.drew | apply IsS86.set_0 | apply IsS86.set_1 | apply IsS86.set_2 | apply IsS86.set_3 | apply IsS86.set_4 | apply IsS86.set_5 | apply IsS86.set_6 | apply IsS86.set_7 | apply IsS86.set_8 | apply IsS86.set_9 | apply IsS86.set_10 | apply IsS86.set_11 | apply IsS86.set_12 | apply IsS86.set_13) | exact HI0.out), by repeat (first | (with_reducible first | exact HB.out | apply below_alloc | apply pw_below_drewN | apply below_drew1 | refine below_set ?_ (IsS86.ge HI0.out)) | exact HB.out), by repeat (first | (with_reducible first | exact HK.out | apply KeepBut.set_ | apply keep_drewN | apply keep_drew | apply keep_alloc) | exact HK.out)⟩

-- NOT PRINTED: function 36 (strings_Builder_WriteString)

-- NOT PRINTED: function 60 (lightstrconv_FormatUint)

-- NOT PRINTED: function 49 (lightstrconv_FormatInt)

-- NOT PRINTED: function 37 (lightstrconv_Itoa)

/-! ### table_zzIndexAny: function 50 -/
mutual
def table_zzIndexAny.l0 : Nat → ByteArray → ByteArray → Int → Option (Int)
  | 0, _, _, _ => none
  | k + 1, x1, x104000, x104001 => if x104001 < (x104000.size : Int) then ((itr_more.f x104000 x104001).bind fun bt104 => ((itr_make.f x1).bind fun bt107 => (table_zzIndexAny.l1 k x1 bt104.1 bt104.2.1 x104000 bt104.2.2 bt107.1 bt107.2))) else ((itr_end.f x104000 x104001).bind fun t114 => (some (-1)))
def table_zzIndexAny.l1 : Nat → ByteArray → Int → Int → ByteArray → Int → ByteArray → Int → Option (Int)
  | 0, _, _, _, _, _, _, _ => none
  | k + 1, x1, x5, x6, x104000, x104001, x110000, x110001 => if x110001 < (x110000.size : Int) then ((itr_more.f x110000 x110001).bind fun bt110 => (if x6 = bt110.2.1 then (some x5) else (table_zzIndexAny.l1 k x1 x5 x6 x104000 x104001 x110000 bt110.2.2))) else ((itr_end.f x110000 x110001).bind fun t113 => (table_zzIndexAny.l0 k x1 x104000 x104001))
end
def table_zzIndexAny.f (k : Nat) (a0 : ByteArray) (a1 : ByteArray) : Option (Int) := (itr_make.f a0).bind fun bt101 => (table_zzIndexAny.l0 k a1 bt101.1 bt101.2)
theorem table_zzIndexAny.mono_l : ∀ k, (∀ y0 y1 y2, LeO (table_zzIndexAny.l0 k y0 y1 y2) (table_zzIndexAny.l0 (k + 1) y0 y1 y2)) ∧ (∀ y0 y1 y2 y3 y4 y5 y6, LeO (table_zzIndexAny.l1 k y0 y1 y2 y3 y4 y5 y6) (table_zzIndexAny.l1 (k + 1) y0 y1 y2 y3 y4 y5 y6))
  | 0 => ⟨fun _ _ _ r h => by simp [table_zzIndexAny.l0] at h, fun _ _ _ _ _ _ _ r h => by simp [table_zzIndexAny.l1] at h⟩
  | k + 1 => by
    obtain ⟨ih0, ih1⟩ := table_zzIndexAny.mono_l k
    refine ⟨?_, ?_⟩
    · intro y0 y1 y2
      unfold table_zzIndexAny.l0
      repeat' first
      | (with_reducible exact ih0 _ _ _)
      | (with_reducible exact ih1 _ _ _ _ _ _ _)
      | (with_reducible exact LeO.refl _)
      | (with_reducible exact LeO.none _)
      | (with_reducible refine LeO.ite ?_ ?_)
      | (with_reducible refine LeO.bind ?_ (fun _ => ?_))
      | exact ih0 _ _ _
      | exact ih1 _ _ _ _ _ _ _
      | exact LeO.none _
      | refine LeO.ite ?_ ?_
      | refine LeO.bind ?_ (fun _ => ?_)
    · intro y0 y1 y2 y3 y4 y5 y6
      unfold table_zzIndexAny.l1
      repeat' first
      | (with_reducible exact ih0 _ _ _)
      | (with_reducible exact ih1 _ _ _ _ _ _ _)
      | (with_reducible exact LeO.refl _)
      | (with_reducible exact LeO.none _)
      | (with_reducible refine LeO.ite ?_ ?_)
      | (with_reducible refine LeO.bind ?_ (fun _ => ?_))
      | exact ih0 _ _ _
      | exact ih1 _ _ _ _ _ _ _
      | exact LeO.none _
      | refine LeO.ite ?_ ?_
      | refine LeO.bind ?_ (fun _ => ?_)
theorem table_zzIndexAny.mono : ∀ a0 a1 k, LeO (table_zzIndexAny.f k a0 a1) (table_zzIndexAny.f (k + 1) a0 a1) := by
  intro a0 a1 k
  obtain ⟨ih0, ih1⟩ := table_zzIndexAny.mono_l k
  unfold table_zzIndexAny.f
  repeat' first
      | (with_reducible exact ih0 _ _ _)
      | (with_reducible exact ih1 _ _ _ _ _ _ _)
      | (with_reducible exact LeO.refl _)
      | (with_reducible exact LeO.none _)
      | (with_reducible refine LeO.ite ?_ ?_)
      | (with_reducible refine LeO.bind ?_ (fun _ => ?_))
      | exact ih0 _ _ _
      | exact ih1 _ _ _ _ _ _ _
      | exact LeO.none _
      | refine LeO.ite ?_ ?_
      | refine LeO.bind ?_ (fun _ => ?_)
set_option maxHeartbeats 8000000 in
set_option maxRecDepth 100000 in
theorem table_zzIndexAny.calls (k : Nat) (a0 : ByteArray) (a1 : ByteArray) (r : Int) (w : World) (h : table_zzIndexAny.f k a0 a1 = some r) :
    Calls Try.prog 50 #[.string a0, .string a1] w fun e w' => e = .returned (.int .i64 r) ∧ Below w.heap.size w w' := by
  have HB := Aside0.mk (Below.refl w.heap.size w)
  have H : ((itr_make.f a0).bind fun bt101 => (table_zzIndexAny.l0 k a1 bt101.1 bt101.2)) = some r := h
  clear h
  replace H := Option.bind_eq_some_iff.mp H
  obtain ⟨⟨t101, t102⟩, A30, H⟩ := H
  replace H : (table_zzIndexAny.l0 k a1 t101 t102) = some r := H
  have A3 := Aside0.mk A30
  clear A30
  have H' := Aside0.mk H
  clear H
  go_enter Try.func50, Try.ntmps50
  go_wp2_with (first | ((with_reducible refine gate_dst (N := 10) rfl ?_); refine rangeL_ (some 10) rfl rfl rfl Try.underlying9 a0 rfl ?_; (with_reducible refine (itr_make.calls a0 t101 t102 w _ ?side1 A3.out).mono ?_); (case side1 => repeat (first | (with_reducible first | exact HB.out | apply below_alloc | apply pw_below_drewN | apply below_drew1) | exact HB.out)); rintro e w4 ⟨g103, rfl, hi, hb, hb2, hge⟩; refine ⟨_, rfl, ?_⟩; have n0_ := Aside0.mk (hb); have n1_ := Aside0.mk (hi); clear HB; have HB := n0_; have HI103 := n1_; clear n0_ n1_; (try clear hb); (try clear hb2); (try clear hk); (try clear hi)))
  (try simp only [Act.put, List.setIfInBounds_toArray, List.set_cons_zero, List.set_cons_succ])
  go_loopg [] k (fun kq w' => ∃ (x104001_1 : Int), Aside0 (table_zzIndexAny.l0 kq a1 t101 x104001_1 = some r) ∧ Aside0 (kq ≤ k) ∧ Aside0 (IsS195 w w' g103 t101 x104001_1) ∧ Aside0 (Below w.heap.size w w'))
  case atStart => exact ⟨(t102), H', ⟨Nat.le_refl _⟩, ⟨by repeat (first | (with_reducible first | exact HI103.out | apply IsS195.alloc | apply IsS195.drewN | apply IsS195.drew | apply IsS195.set_1) | exact HI103.out)⟩, ⟨by repeat (first | (with_reducible first | exact HB.out | apply below_alloc | apply pw_below_drewN | apply below_drew1 | refine below_set ?_ (IsS195.ge HI103.out)) | exact HB.out)⟩⟩
  case round =>
    clear H'
    try clear p2
    obtain ⟨x104001_1, HA, HK1, HI103, HB⟩ := hrel
    cases gk with
    | zero => exact absurd HA.out (by simp [table_zzIndexAny.l0])
    | succ k1 =>
      have H := HA.out
      clear HA
      simp only [table_zzIndexAny.l0] at H
      by_cases c5 : x104001_1 < (t101.size : Int)
      · rw [if_pos c5] at H
        have c5b0 : decide (x104001_1 < (t101.size : Int)) = true := decide_eq_true c5
        clear c5
        replace H := Option.bind_eq_some_iff.mp H
        obtain ⟨⟨t104, t105, t106⟩, A60, H⟩ := H
        replace H : ((itr_make.f a1).bind fun bt107 => (table_zzIndexAny.l1 k1 a1 t104 t105 t101 t106 bt107.1 bt107.2)) = some r := H
        have A6 := Aside0.mk A60
        clear A60
        replace H := Option.bind_eq_some_iff.mp H
        obtain ⟨⟨t107, t108⟩, A70, H⟩ := H
        replace H : (table_zzIndexAny.l1 k1 a1 t104 t105 t101 t106 t107 t108) = some r := H
        have A7 := Aside0.mk A70
        clear A70
        have H' := Aside0.mk H
        clear H
        go_wp2_with (first | ((with_reducible refine gate_dst (N := 11) rfl ?_); refine nextL_ (some 11) rfl rfl rfl (.pointer (some ⟨g103, 0, none⟩)) rfl ?_; (with_reducible refine (itr_more.calls g103 t101 x104001_1 t104 t105 t106 w _ ?side1 ?side2 A6.out).mono ?_); (case side1 => repeat (first | (with_reducible first | exact HI103.out | apply IsS195.alloc | apply IsS195.drewN | apply IsS195.drew | apply IsS195.set_1) | exact HI103.out)); (case side2 => repeat (first | (with_reducible first | exact HB.out | apply below_alloc | apply pw_below_drewN | apply below_drew1 | refine below_set ?_ (IsS195.ge HI103.out)) | exact HB.out)); rintro e w8 ⟨rfl, hi, hb, hk⟩; refine ⟨_, rfl, ?_⟩; have n0_ := Aside0.mk (hb); have n1_ := Aside0.mk (hi); clear HB; clear HI103; have HB := n0_; have HI103 := n1_; clear n0_ n1_; (try clear hb); (try clear hb2); (try clear hk); (try clear hi)) | ((with_reducible refine gate_dst (N := 16) rfl ?_); refine rangeL_ (some 16) rfl rfl rfl Try.underlying9 a1 rfl ?_; (with_reducible refine (itr_make.calls a1 t107 t108 w _ ?side1 A7.out).mono ?_); (case side1 => repeat (first | (with_reducible first | exact HB.out | apply below_alloc | apply pw_below_drewN | apply below_drew1 | refine below_set ?_ (IsS195.ge HI103.out)) | exact HB.out)); rintro e w9 ⟨g109, rfl, hi, hb, hb2, hge⟩; refine ⟨_, rfl, ?_⟩; have n0_ := Aside0.mk (IsS195.below (by repeat (first | (with_reducible first | exact HI103.out | apply IsS195.alloc | apply IsS195.drewN | apply IsS195.drew | apply IsS195.set_1) | exact HI103.out)) hb2); have n1_ := Aside0.mk (hb); have n2_ := Aside0.mk (hi); have n3_ := Aside0.mk ((Nat.ne_of_lt (Nat.lt_of_lt_of_le (IsS195.lt (show IsS195 w _ g103 t101 t106 from by repeat (first | (with_reducible first | exact HI103.out | apply IsS195.alloc | apply IsS195.drewN | apply IsS195.drew | apply IsS195.set_1) | exact HI103.out))) hge) : g103 ≠ g109)); have n4_ := Aside0.mk ((Nat.ne_of_gt (Nat.lt_of_lt_of_le (IsS195.lt (show IsS195 w _ g103 t101 t106 from by repeat (first | (with_reducible first | exact HI103.out | apply IsS195.alloc | apply IsS195.drewN | apply IsS195.drew | apply IsS195.set_1) | exact HI103.out))) hge) : g109 ≠ g103)); clear HI103; clear HB; have HI103 := n0_; have HB := n1_; have HI109 := n2_; have NB103_109 := n3_; have NB109_103 := n4_; clear n0_ n1_ n2_ n3_ n4_; (try clear hb); (try clear hb2); (try clear hk); (try clear hi)))
        (try simp only [Act.put, List.setIfInBounds_toArray, List.set_cons_zero, List.set_cons_succ])
        go_loopg [] k1 (fun kq w' => ∃ (x110001_2 : Int), Aside0 (table_zzIndexAny.l1 kq a1 t104 t105 t101 t106 t107 x110001_2 = some r) ∧ Aside0 (kq ≤ k1) ∧ Aside0 (IsS195 w w' g103 t101 t106) ∧ Aside0 (IsS195 w w' g109 t107 x110001_2) ∧ Aside0 (Below w.heap.size w w'))
        case atStart => exact ⟨(t108), H', ⟨Nat.le_refl _⟩, ⟨by repeat (first | (with_reducible first | exact HI103.out | apply IsS195.alloc | apply IsS195.drewN | apply IsS195.drew | apply IsS195.set_1) | exact HI103.out)⟩, ⟨by repeat (first | (with_reducible first | exact HI109.out | apply IsS195.alloc | apply IsS195.drewN | apply IsS195.drew | apply IsS195.set_1) | exact HI109.out)⟩, ⟨by repeat (first | (with_reducible first | exact HB.out | apply below_alloc | apply pw_below_drewN | apply below_drew1 | refine below_set ?_ (IsS195.ge HI103.out) | refine below_set ?_ (IsS195.ge HI109.out)) | exact HB.out)⟩⟩
        case round =>
          clear H'
          try clear p2
          try clear c5
          try clear c5b0
          try clear p2
          obtain ⟨x110001_2, HA, HK2, HI103, HI109, HB⟩ := hrel
          cases gk with
          | zero => exact absurd HA.out (by simp [table_zzIndexAny.l1])
          | succ k2 =>
            have H := HA.out
            clear HA
            simp only [table_zzIndexAny.l1] at H
            by_cases c10 : x110001_2 < (t107.size : Int)
            · rw [if_pos c10] at H
              have c10b0 : decide (x110001_2 < (t107.size : Int)) = true := decide_eq_true c10
              clear c10
              replace H := Option.bind_eq_some_iff.mp H
              obtain ⟨⟨t110, t111, t112⟩, A110, H⟩ := H
              replace H : (if t105 = t111 then (some t104) else (table_zzIndexAny.l1 k2 a1 t104 t105 t101 t106 t107 t112)) = some r := H
              have A11 := Aside0.mk A110
              clear A110
              by_cases c12 : t105 = t111
              · rw [if_pos c12] at H
                have c12b0 : (t105 == t111) = true := beq_iff_eq.mpr c12
                have c12b1 : (t105 != t111) = false := bne_eq_false_iff_eq.mpr c12
                clear c12
                obtain rfl := Option.some.inj H
                go_wp2_with (first | ((with_reducible refine gate_dst (N := 17) rfl ?_); refine nextL_ (some 17) rfl rfl rfl (.pointer (some ⟨g109, 0, none⟩)) rfl ?_; (with_reducible refine (itr_more.calls g109 t107 x110001_2 t110 t111 t112 w _ ?side1 ?side2 A11.out).mono ?_); (case side1 => repeat (first | (with_reducible first | exact HI109.out | apply IsS195.alloc | apply IsS195.drewN | apply IsS195.drew | apply IsS195.set_1) | exact HI109.out)); (case side2 => repeat (first | (with_reducible first | exact HB.out | apply below_alloc | apply pw_below_drewN | apply below_drew1 | refine below_set ?_ (IsS195.ge HI103.out) | refine below_set ?_ (IsS195.ge HI109.out)) | exact HB.out)); rintro e w13 ⟨rfl, hi, hb, hk⟩; refine ⟨_, rfl, ?_⟩; have n0_ := Aside0.mk (IsS195.kept (show IsS195 w _ g103 t101 t106 from by repeat (first | (with_reducible first | exact HI103.out | apply IsS195.alloc | apply IsS195.drewN | apply IsS195.drew | apply IsS195.set_1) | exact HI103.out)) (kept_of_but hk) NB103_109.out); have n1_ := Aside0.mk (hb); have n2_ := Aside0.mk (hi); clear HI103; clear HB; clear HI109; have HI103 := n0_; have HB := n1_; have HI109 := n2_; clear n0_ n1_ n2_; (try clear hb); (try clear hb2); (try clear hk); (try clear hi)))
                go_ret
                exact ⟨by first | rfl | (simp [errW_none, errW_some] <;> rfl) | (simp [*, errW_none, errW_some] <;> rfl), by repeat (first | (with_reducible first | exact HB.out | apply below_alloc | apply pw_below_drewN | apply below_drew1 | refine below_set ?_ (IsS195.ge HI103.out) | refine below_set ?_ (IsS195.ge HI109.out)) | exact HB.out)⟩
              · rw [if_neg c12] at H
                have c12b0 : (t105 == t111) = false := beq_eq_false_iff_ne.mpr c12
                have c12b1 : (t105 != t111) = true := bne_iff_ne.mpr c12
                have H' := Aside0.mk H
                clear H
                go_wp2_with (first | ((with_reducible refine gate_dst (N := 17) rfl ?_); refine nextL_ (some 17) rfl rfl rfl (.pointer (some ⟨g109, 0, none⟩)) rfl ?_; (with_reducible refine (itr_more.calls g109 t107 x110001_2 t110 t111 t112 w _ ?side1 ?side2 A11.out).mono ?_); (case side1 => repeat (first | (with_reducible first | exact HI109.out | apply IsS195.alloc | apply IsS195.drewN | apply IsS195.drew | apply IsS195.set_1) | exact HI109.out)); (case side2 => repeat (first | (with_reducible first | exact HB.out | apply below_alloc | apply pw_below_drewN | apply below_drew1 | refine below_set ?_ (IsS195.ge HI103.out) | refine below_set ?_ (IsS195.ge HI109.out)) | exact HB.out)); rintro e w14 ⟨rfl, hi, hb, hk⟩; refine ⟨_, rfl, ?_⟩; have n0_ := Aside0.mk (IsS195.kept (show IsS195 w _ g103 t101 t106 from by repeat (first | (with_reducible first | exact HI103.out | apply IsS195.alloc | apply IsS195.drewN | apply IsS195.drew | apply IsS195.set_1) | exact HI103.out)) (kept_of_but hk) NB103_109.out); have n1_ := Aside0.mk (hb); have n2_ := Aside0.mk (hi); clear HI103; clear HB; clear HI109; have HI103 := n0_; have HB := n1_; have HI109 := n2_; clear n0_ n1_ n2_; (try clear hb); (try clear hb2); (try clear hk); (try clear hi)))
                go_roundg k2
                case measure => have := HK1.out; have := HK2.out; omega
                case rel => exact ⟨(t112), H', ⟨by have := HK1.out; have := HK2.out; omega⟩, ⟨by repeat (first | (with_reducible first | exact HI103.out | apply IsS195.alloc | apply IsS195.drewN | apply IsS195.drew | apply IsS195.set_1) | exact HI103.out)⟩, ⟨by repeat (first | (with_reducible first | exact HI109.out | apply IsS195.alloc | apply IsS195.drewN | apply IsS195.drew | apply IsS195.set_1) | exact HI109.out)⟩, ⟨by repeat (first | (with_reducible first | exact HB.out | apply below_alloc | apply pw_below_drewN | apply below_drew1 | refine below_set ?_ (IsS195.ge HI103.out) | refine below_set ?_ (IsS195.ge HI109.out)) | exact HB.out)⟩⟩
            · rw [if_neg c10] at H
              have c10b0 : decide (x110001_2 < (t107.size : Int)) = false := decide_eq_false c10
              clear c10
              replace H := Option.bind_eq_some_iff.mp H
              obtain ⟨t113, A150, H⟩ := H
              replace H : (table_zzIndexAny.l0 k2 a1 t101 t106) = some r := H
              have A15 := Aside0.mk A150
              clear A150
              have H' := Aside0.mk H
              clear H
              go_wp2_with (first | ((with_reducible refine gate_dst (N := 17) rfl ?_); refine nextL_ (some 17) rfl rfl rfl (.pointer (some ⟨g109, 0, none⟩)) rfl ?_; (with_reducible refine (itr_end.calls g109 t107 x110001_2 t113 w _ ?side1 ?side2 A15.out).mono ?_); (case side1 => repeat (first | (with_reducible first | exact HI109.out | apply IsS195.alloc | apply IsS195.drewN | apply IsS195.drew | apply IsS195.set_1) | exact HI109.out)); (case side2 => repeat (first | (with_reducible first | exact HB.out | apply below_alloc | apply pw_below_drewN | apply below_drew1 | refine below_set ?_ (IsS195.ge HI103.out) | refine below_set ?_ (IsS195.ge HI109.out)) | exact HB.out)); rintro e w16 ⟨rfl, hi, hb, hk⟩; refine ⟨_, rfl, ?_⟩; have n0_ := Aside0.mk (IsS195.kept (show IsS195 w _ g103 t101 t106 from by repeat (first | (with_reducible first | exact HI103.out | apply IsS195.alloc | apply IsS195.drewN | apply IsS195.drew | apply IsS195.set_1) | exact HI103.out)) (kept_of_but hk) NB103_109.out); have n1_ := Aside0.mk (hb); have n2_ := Aside0.mk (hi); clear HI103; clear HB; clear HI109; have HI103 := n0_; have HB := n1_; have HI109 := n2_; clear n0_ n1_ n2_; (try clear hb); (try clear hb2); (try clear hk); (try clear hi)))
              go_roundg k2
              case measure => have := HK1.out; have := HK2.out; omega
              case rel => exact ⟨(t106), H', ⟨by have := HK1.out; have := HK2.out; omega⟩, ⟨by repeat (first | (with_reducible first | exact HI103.out | apply IsS195.alloc | apply IsS195.drewN | apply IsS195.drew | apply IsS195.set_1) | exact HI103.out)⟩, ⟨by repeat (first | (with_reducible first | exact HB.out | apply below_alloc | apply pw_below_drewN | apply below_drew1 | refine below_set ?_ (IsS195.ge HI103.out) | refine below_set ?_ (IsS195.ge HI109.out)) | exact HB.out)⟩⟩
      · rw [if_neg c5] at H
        have c5b0 : decide (x104001_1 < (t101.size : Int)) = false := decide_eq_false c5
        clear c5
        replace H := Option.bind_eq_some_iff.mp H
        obtain ⟨t114, A170, H⟩ := H
        replace H : (some (-1)) = some r := H
        have A17 := Aside0.mk A170
        clear A170
        obtain rfl := Option.some.inj H
        go_wp2_with (first | ((with_reducible refine gate_dst (N := 11) rfl ?_); refine nextL_ (some 11) rfl rfl rfl (.pointer (some ⟨g103, 0, none⟩)) rfl ?_; (with_reducible refine (itr_end.calls g103 t101 x104001_1 t114 w _ ?side1 ?side2 A17.out).mono ?_); (case side1 => repeat (first | (with_reducible first | exact HI103.out | apply IsS195.alloc | apply IsS195.drewN | apply IsS195.drew | apply IsS195.set_1) | exact HI103.out)); (case side2 => repeat (first | (with_reducible first | exact HB.out | apply below_alloc | apply pw_below_drewN | apply below_drew1 | refine below_set ?_ (IsS195.ge HI103.out)) | exact HB.out)); rintro e w18 ⟨rfl, hi, hb, hk⟩; refine ⟨_, rfl, ?_⟩; have n0_ := Aside0.mk (hb); have n1_ := Aside0.mk (hi); clear HB; clear HI103; have HB := n0_; have HI103 := n1_; clear n0_ n1_; (try clear hb); (try clear hb2); (try clear hk); (try clear hi)))
        go_ret
        exact ⟨by first | rfl | (simp [errW_none, errW_some] <;> rfl) | (simp [*, errW_none, errW_some] <;> rfl), by repeat (first | (with_reducible first | exact HB.out | apply below_alloc | apply pw_below_drewN | apply below_drew1 | refine below_set ?_ (IsS195.ge HI103.out)) | exact HB.out)⟩

/-! ### table_zzContainsAny: function 38 -/
def table_zzContainsAny.f (k : Nat) (a0 : ByteArray) (a1 : ByteArray) : Option (Bool) := (table_zzIndexAny.f k a0 a1).bind fun t115 => (some (decide (t115 ≥ 0)))
theorem table_zzContainsAny.mono : ∀ a0 a1 k, LeO (table_zzContainsAny.f k a0 a1) (table_zzContainsAny.f (k + 1) a0 a1) := by
  intro a0 a1 k
  unfold table_zzContainsAny.f
  repeat' first
      | (with_reducible exact table_zzIndexAny.mono _ _ _)
      | (with_reducible exact LeO.refl _)
      | (with_reducible exact LeO.none _)
      | (with_reducible refine LeO.ite ?_ ?_)
      | (with_reducible refine LeO.bind ?_ (fun _ => ?_))
      | exact table_zzIndexAny.mono _ _ _
      | exact LeO.none _
      | refine LeO.ite ?_ ?_
      | refine LeO.bind ?_ (fun _ => ?_)
set_option maxHeartbeats 8000000 in
set_option maxRecDepth 100000 in
theorem table_zzContainsAny.calls (k : Nat) (a0 : ByteArray) (a1 : ByteArray) (r : Bool) (w : World) (h : table_zzContainsAny.f k a0 a1 = some r) :
    Calls Try.prog 38 #[.string a0, .string a1] w fun e w' => e = .returned (.bool r) ∧ Below w.heap.size w w' := by
  have HB := Aside0.mk (Below.refl w.heap.size w)
  have H : ((table_zzIndexAny.f k a0 a1).bind fun t115 => (some (decide (t115 ≥ 0)))) = some r := h
  clear h
  replace H := Option.bind_eq_some_iff.mp H
  obtain ⟨t115, A30, H⟩ := H
  replace H : (some (decide (t115 ≥ 0))) = some r := H
  have A3 := Aside0.mk A30
  clear A30
  obtain rfl := Option.some.inj H
  go_enter Try.func38, Try.ntmps38
  go_wp2_with (first | ((with_reducible refine gate_callee (f := 50) rfl ?_); refine goesL_ (some 7) rfl rfl Try.func50 (by kernel_rfl) rfl #[.string a0, .string a1] rfl (by (try simp only [List.map_toArray, List.map_cons, List.map_nil]); first | done | rfl | (simp only [List.length_drop, List.length_take]; rfl)) ?_; (with_reducible refine (table_zzIndexAny.calls k a0 a1 t115 _ A3.out).mono ?_); rintro e w4 ⟨rfl, hb⟩; refine ⟨_, rfl, ?_⟩; have n0_ := Aside0.mk (below_step (by repeat (first | (with_reducible first | exact HB.out | apply below_alloc | apply pw_below_drewN | apply below_drew1) | exact HB.out)) hb); clear HB; have HB := n0_; clear n0_; (try clear hb); (try clear hb2); (try clear hk); (try clear hi)))
  go_ret
  exact ⟨by first | rfl | (simp [errW_none, errW_some] <;> rfl) | (simp [*, errW_none, errW_some] <;> rfl), by repeat (first | (with_reducible first | exact HB.out | apply below_alloc | apply pw_below_drewN | apply below_drew1) | exact HB.out)⟩

/-! ### table_zzIndex: function 51 -/
def table_zzIndex.l0 : Nat → ByteArray → ByteArray → Int → Option (Int)
  | 0, _, _, _ => none
  | k + 1, x0, x1, x5 => if (wrap64 (x5 + (x1.size : Int))) ≤ (x0.size : Int) then (if 0 ≤ x5 then (if x5 ≤ (wrap64 (x5 + (x1.size : Int))) then (if (x0.extract (x5 : Int).toNat ((wrap64 (x5 + (x1.size : Int))) : Int).toNat).toList = x1.toList then (some x5) else (table_zzIndex.l0 k x0 x1 (wrap64 (x5 + 1)))) else (none)) else (none)) else (some (-1))
def table_zzIndex.f (k : Nat) (a0 : ByteArray) (a1 : ByteArray) : Option (Int) := table_zzIndex.l0 k a0 a1 0
theorem table_zzIndex.mono_l : ∀ k, (∀ y0 y1 y2, LeO (table_zzIndex.l0 k y0 y1 y2) (table_zzIndex.l0 (k + 1) y0 y1 y2))
  | 0 => fun _ _ _ r h => by simp [table_zzIndex.l0] at h
  | k + 1 => by
    have ih0 := table_zzIndex.mono_l k
    · intro y0 y1 y2
      unfold table_zzIndex.l0
      repeat' first
      | (with_reducible exact ih0 _ _ _)
      | (with_reducible exact LeO.refl _)
      | (with_reducible exact LeO.none _)
      | (with_reducible refine LeO.ite ?_ ?_)
      | (with_reducible refine LeO.bind ?_ (fun _ => ?_))
      | exact ih0 _ _ _
      | exact LeO.none _
      | refine LeO.ite ?_ ?_
      | refine LeO.bind ?_ (fun _ => ?_)
theorem table_zzIndex.mono : ∀ a0 a1 k, LeO (table_zzIndex.f k a0 a1) (table_zzIndex.f (k + 1) a0 a1) := by
  intro a0 a1 k
  have ih0 := table_zzIndex.mono_l k
  unfold table_zzIndex.f
  repeat' first
      | (with_reducible exact ih0 _ _ _)
      | (with_reducible exact LeO.refl _)
      | (with_reducible exact LeO.none _)
      | (with_reducible refine LeO.ite ?_ ?_)
      | (with_reducible refine LeO.bind ?_ (fun _ => ?_))
      | exact ih0 _ _ _
      | exact LeO.none _
      | refine LeO.ite ?_ ?_
      | refine LeO.bind ?_ (fun _ => ?_)
set_option maxHeartbeats 8000000 in
set_option maxRecDepth 100000 in
theorem table_zzIndex.calls (k : Nat) (a0 : ByteArray) (a1 : ByteArray) (r : Int) (w : World) (h : table_zzIndex.f k a0 a1 = some r) :
    Calls Try.prog 51 #[.string a0, .string a1] w fun e w' => e = .returned (.int .i64 r) ∧ Drawn0 w w' := by
  have H : (table_zzIndex.l0 k a0 a1 0) = some r := h
  clear h
  have H' := Aside0.mk H
  clear H
  go_enter Try.func51, Try.ntmps51
  go_wp2
  (try simp only [Act.put, List.setIfInBounds_toArray, List.set_cons_zero, List.set_cons_succ])
  go_loopg [5] k (fun kq v5 w' => ∃ (x5_1 : Int), v5 = .int .i64 x5_1 ∧ Aside0 (table_zzIndex.l0 kq a0 a1 x5_1 = some r) ∧ Aside0 (kq ≤ k) ∧ Drawn0 w w')
  case atStart => exact ⟨(0), (by first | rfl | (simp; done) | (simp [*]; done)), H', ⟨Nat.le_refl _⟩, by repeat (first | exact Drawn0.refl _ | apply Drawn0.step)⟩
  case round =>
    clear H'
    try clear p2
    obtain ⟨x5_1, rfl, HA, HK1, ⟨m1, rfl⟩⟩ := hrel
    cases gk with
    | zero => exact absurd HA.out (by simp [table_zzIndex.l0])
    | succ k1 =>
      have H := HA.out
      clear HA
      simp only [table_zzIndex.l0] at H
      by_cases c3 : (wrap64 (x5_1 + (a1.size : Int))) ≤ (a0.size : Int)
      · rw [if_pos c3] at H
        have c3b0 : decide ((wrap64 (x5_1 + (a1.size : Int))) ≤ (a0.size : Int)) = true := decide_eq_true c3
        clear c3
        by_cases c4 : 0 ≤ x5_1
        · rw [if_pos c4] at H
          have c4b0 := eq_true c4
          have c4b1 : decide (0 ≤ x5_1) = true := decide_eq_true c4
          clear c4
          by_cases c5 : x5_1 ≤ (wrap64 (x5_1 + (a1.size : Int)))
          · rw [if_pos c5] at H
            have c5b0 := eq_true c5
            have c5b1 : decide (x5_1 ≤ (wrap64 (x5_1 + (a1.size : Int)))) = true := decide_eq_true c5
            have c6b0 := eq_true (of_decide_eq_true (by first | (with_reducible assumption) | assumption) : (wrap64 (x5_1 + (a1.size : Int))) ≤ (a0.size : Int))
            by_cases c7 : (a0.extract (x5_1 : Int).toNat ((wrap64 (x5_1 + (a1.size : Int))) : Int).toNat).toList = a1.toList
            · rw [if_pos c7] at H
              have c7b0 : ((a0.extract (x5_1 : Int).toNat ((wrap64 (x5_1 + (a1.size : Int))) : Int).toNat).toList == a1.toList) = true := beq_iff_eq.mpr c7
              have c7b1 : ((a0.extract (x5_1 : Int).toNat ((wrap64 (x5_1 + (a1.size : Int))) : Int).toNat).toList != a1.toList) = false := bne_eq_false_iff_eq.mpr c7
              clear c7
              obtain rfl := Option.some.inj H
              go_wp2
              go_ret
              exact ⟨by first | rfl | (simp; done) | (simp [*]; done), by repeat (first | exact Drawn0.refl _ | apply Drawn0.step)⟩
            · rw [if_neg c7] at H
              have c7b0 : ((a0.extract (x5_1 : Int).toNat ((wrap64 (x5_1 + (a1.size : Int))) : Int).toNat).toList == a1.toList) = false := beq_eq_false_iff_ne.mpr c7
              have c7b1 : ((a0.extract (x5_1 : Int).toNat ((wrap64 (x5_1 + (a1.size : Int))) : Int).toNat).toList != a1.toList) = true := bne_iff_ne.mpr c7
              have H' := Aside0.mk H
              clear H
              go_wp2
              go_roundg k1
              case measure => have := HK1.out; omega
              case rel => exact ⟨(wrap64 (x5_1 + 1)), (by first | rfl | (simp; done) | (simp [*]; done)), H', ⟨by have := HK1.out; omega⟩, by repeat (first | exact Drawn0.refl _ | apply Drawn0.step)⟩
          · rw [if_neg c5] at H
            exact absurd H (by simp)
        · rw [if_neg c4] at H
          exact absurd H (by simp)
      · rw [if_neg c3] at H
        have c3b0 : decide ((wrap64 (x5_1 + (a1.size : Int))) ≤ (a0.size : Int)) = false := decide_eq_false c3
        clear c3
        obtain rfl := Option.some.inj H
        go_wp2
        go_ret
        exact ⟨by first | rfl | (simp; done) | (simp [*]; done), by repeat (first | exact Drawn0.refl _ | apply Drawn0.step)⟩

/-! ### table_zzContains: function 39 -/
def table_zzContains.f (k : Nat) (a0 : ByteArray) (a1 : ByteArray) : Option (Bool) := (table_zzIndex.f k a0 a1).bind fun t116 => (some (decide (t116 ≥ 0)))
theorem table_zzContains.mono : ∀ a0 a1 k, LeO (table_zzContains.f k a0 a1) (table_zzContains.f (k + 1) a0 a1) := by
  intro a0 a1 k
  unfold table_zzContains.f
  repeat' first
      | (with_reducible exact table_zzIndex.mono _ _ _)
      | (with_reducible exact LeO.refl _)
      | (with_reducible exact LeO.none _)
      | (with_reducible refine LeO.ite ?_ ?_)
      | (with_reducible refine LeO.bind ?_ (fun _ => ?_))
      | exact table_zzIndex.mono _ _ _
      | exact LeO.none _
      | refine LeO.ite ?_ ?_
      | refine LeO.bind ?_ (fun _ => ?_)
set_option maxHeartbeats 8000000 in
set_option maxRecDepth 100000 in
theorem table_zzContains.calls (k : Nat) (a0 : ByteArray) (a1 : ByteArray) (r : Bool) (w : World) (h : table_zzContains.f k a0 a1 = some r) :
    Calls Try.prog 39 #[.string a0, .string a1] w fun e w' => e = .returned (.bool r) ∧ Drawn0 w w' := by
  have H : ((table_zzIndex.f k a0 a1).bind fun t116 => (some (decide (t116 ≥ 0)))) = some r := h
  clear h
  replace H := Option.bind_eq_some_iff.mp H
  obtain ⟨t116, A30, H⟩ := H
  replace H : (some (decide (t116 ≥ 0))) = some r := H
  have A3 := Aside0.mk A30
  clear A30
  obtain rfl := Option.some.inj H
  go_enter Try.func39, Try.ntmps39
  go_wp2_with (first | ((with_reducible refine gate_callee (f := 51) rfl ?_); refine goesL_ (some 7) rfl rfl Try.func51 (by kernel_rfl) rfl #[.string a0, .string a1] rfl (by (try simp only [List.map_toArray, List.map_cons, List.map_nil]); first | done | rfl | (simp only [List.length_drop, List.length_take]; rfl)) ?_; (with_reducible refine (table_zzIndex.calls k a0 a1 t116 _ A3.out).mono ?_); rintro e w' ⟨rfl, ⟨nd, rfl⟩⟩; refine ⟨_, rfl, ?_⟩))
  go_ret
  exact ⟨by first | rfl | (simp; done) | (simp [*]; done), by repeat (first | exact Drawn0.refl _ | apply Drawn0.step)⟩

end Go.Proofs.Ytelbcekkfdpoaaa.GTsvHelp
