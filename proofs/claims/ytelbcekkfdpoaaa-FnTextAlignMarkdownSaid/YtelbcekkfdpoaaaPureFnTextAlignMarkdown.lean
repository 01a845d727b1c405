/- The separator of Markdown has as many dashes as asked for, three at least, a colon at each side to which a text is aligned, and else a blank: asked with no length or with one from 0 to 2000. -/
import Derived.Test.YtelbcekkfdpoaaaGFnTextAlignMarkdownx2
import Derived.Test.YtelbcekkfdpoaaaSmall
import Derived.OpenShut
namespace Go.Proofs.Ytelbcekkfdpoaaa.Pure
open Go.RowKit Go.Proofs.Ytelbcekkfdpoaaa.GFnTextAlignMarkdown Go.Proofs.YtelbcekkfdpoaaaW.PrintWords Go.Proofs.YtelbcekkfdpoaaaW.PrintLast Go.Proofs.YtelbcekkfdpoaaaW.PrintMore Go.Proofs.Ytelbcekkfdpoaaa.Small Go.Proofs.Ytelbcekkfdpoaaa.Itr

/-- TxTimes: so many copies. -/
theorem times_l (s : ByteArray) (n : Nat) (hn : s.size * n ≤ 1000000) (hn1 : n ≤ 1000000) : ∀ d i : Nat, i + d = n → Ev (fun k => spec_TxTimes.l0 k s (nb (Lib.repeatL s.data.toList i)) (n : Int) (i : Int)) (str (Lib.repeatL s.data.toList n)) := by
  intro d
  induction d with
  | zero =>
    intro i hi
    obtain rfl : i = n := by omega
    refine Ev.shift ?_
    simp only [spec_TxTimes.l0, if_neg (show ¬ (i : Int) < (i : Int) by omega), strOfNums_nb]
    exact Ev.now _
  | succ d ih =>
    intro i hi
    refine Ev.shift ?_
    have hl : (nb (Lib.repeatL s.data.toList i)).length + s.size < 140737488355328 := by
      rw [nb_length, Lib.repeatL_length, size_data, ← Nat.succ_mul]
      have : i.succ * s.size ≤ n * s.size := Nat.mul_le_mul_right _ (by omega)
      rw [Nat.mul_comm n] at this
      omega
    simp only [spec_TxTimes.l0, if_pos (show (i : Int) < (n : Int) by omega), if_pos hl, bytesOf_nb, ← nb_append, ← repeatL_snoc, wrap_succ i (by omega)]
    exact ih (i + 1) (by omega)
theorem times (s : ByteArray) (n : Nat) (hn : s.size * n ≤ 1000000) (hn1 : n ≤ 1000000) : Ev (fun k => spec_TxTimes.f k s (n : Int)) (str (Lib.repeatL s.data.toList n)) := by
  have hm : mx (n : Int) 0 = (n : Int) := by unfold mx; rw [if_neg (by omega)]
  have he : (s.size : Int) * (n : Int) = ((s.size * n : Nat) : Int) := by simp
  simp only [spec_TxTimes.f, hm, he, wrap_in (show -9223372036854775808 ≤ ((s.size * n : Nat) : Int) by omega) (show ((s.size * n : Nat) : Int) ≤ 9223372036854775807 by omega), if_pos (show 0 ≤ ((s.size * n : Nat) : Int) by omega), Int.toNat_natCast, if_pos (show s.size * n ≤ 281474976710656 by omega)]
  have h := times_l s n hn hn1 n 0 (by omega)
  simpa [nb, Lib.repeatL] using h

theorem rep (s : ByteArray) (n : Nat) (hn : s.size * n ≤ 1000000) (hn1 : n ≤ 1000000) : strings_Repeat.f s (n : Int) = some (str (Lib.repeatL s.data.toList n)) := by
  unfold strings_Repeat.f
  rw [if_pos ⟨by omega, by omega, by simp; omega⟩]
  rfl

theorem prop_j1 (a : Int) (n : Nat) (hn : n ≤ 2000) (b e : ByteArray) (hb : b.size = 1) (_he : e.size = 1) (hcase : (a = 1 ∧ b = ⟨#[58]⟩ ∧ e = ⟨#[32]⟩) ∨ (a = 2 ∧ b = ⟨#[58]⟩ ∧ e = ⟨#[58]⟩) ∨ (a = 4 ∧ b = ⟨#[32]⟩ ∧ e = ⟨#[58]⟩) ∨ (a = 0 ∧ b = ⟨#[32]⟩ ∧ e = ⟨#[32]⟩)) :
    Ev (fun k => text_Align_MarkdownProperty.j1 k a (n : Int)) (b ++ str (Lib.repeatL [45] n) ++ e) := by
  refine Ev.shift ?_
  have hsz : (str (Lib.repeatL [45] n)).size = n := by rw [str_size, Lib.repeatL_length]; simp
  have hr := rep (⟨#[45]⟩ : ByteArray) n (by show 1 * n ≤ _; omega) (by omega)
  have hr' : strings_Repeat.f (⟨#[45]⟩ : ByteArray) (n : Int) = some (str (Lib.repeatL [45] n)) := hr
  simp only [text_Align_MarkdownProperty.j1, hr', Option.bind_some, ByteArray.size_append, hsz, if_pos (show 1 + n ≤ 9223372036854775807 by omega)]
  rcases hcase with ⟨rfl, rfl, rfl⟩ | ⟨rfl, rfl, rfl⟩ | ⟨rfl, rfl, rfl⟩ | ⟨rfl, rfl, rfl⟩
  all_goals simp only [hb, if_pos (show 1 + n + 1 ≤ 9223372036854775807 by omega)]
  all_goals exact Ev.now _

/-- The length that is asked for. -/
def want (l : List Int) : Nat := if l.length = 1 then (max 3 (rd l 0)).toNat else 3
theorem want_le (l : List Int) (h : l.length = 1 → rd l 0 ≤ 2000) : want l ≤ 2000 := by
  unfold want
  split
  · rename_i e; have := h e; omega
  · omega

theorem prop (a : Int) (l : List Int) (h1 : l.length ≤ 1) (h : l.length = 1 → rd l 0 ≤ 2000) (b e : ByteArray) (hb : b.size = 1) (he : e.size = 1) (hcase : (a = 1 ∧ b = ⟨#[58]⟩ ∧ e = ⟨#[32]⟩) ∨ (a = 2 ∧ b = ⟨#[58]⟩ ∧ e = ⟨#[58]⟩) ∨ (a = 4 ∧ b = ⟨#[32]⟩ ∧ e = ⟨#[58]⟩) ∨ (a = 0 ∧ b = ⟨#[32]⟩ ∧ e = ⟨#[32]⟩)) :
    Ev (fun k => impl_TextAlignMarkdown.f k a l) (b ++ str (Lib.repeatL [45] (want l)) ++ e) := by
  unfold impl_TextAlignMarkdown.f
  refine Ev.bind ?_ (Ev.now _)
  have hj := prop_j1 a (want l) (want_le l h) b e hb he hcase
  unfold text_Align_MarkdownProperty.f
  by_cases c : l.length = 1
  · simp only [if_pos (show (l.length : Int) > 0 by omega)]
    refine Ev.shift ?_
    by_cases c2 : rd l 0 > 3
    · have e2 : ((want l : Nat) : Int) = rd l 0 := by unfold want; rw [if_pos c]; omega
      rw [e2] at hj
      simp only [text_Align_MarkdownProperty.j0, decide_eq_true c2, if_true, if_pos (show 0 < (l.length : Int) by omega)]
      exact hj
    · have e2 : ((want l : Nat) : Int) = 3 := by unfold want; rw [if_pos c]; omega
      rw [e2] at hj
      simp only [text_Align_MarkdownProperty.j0, decide_eq_false c2, Bool.false_eq_true, if_false]
      exact hj
  · have e2 : ((want l : Nat) : Int) = 3 := by unfold want; rw [if_neg c]; rfl
    rw [e2] at hj
    simp only [if_neg (show ¬ (l.length : Int) > 0 by omega)]
    refine Ev.shift ?_
    simp only [text_Align_MarkdownProperty.j0, Bool.false_eq_true, if_false]
    exact hj

theorem law_j1 (a : Int) (l : List Int) (h0 : 0 ≤ a) (h1 : l.length ≤ 1) (h : l.length = 1 → rd l 0 ≤ 2000) :
    Ev (fun k => laws_FnTextAlignMarkdown.j1 k a l (want l : Int)) true := by
  have hw := want_le l h
  have ht := times (⟨#[45]⟩ : ByteArray) (want l) (by show 1 * _ ≤ _; omega) (by omega)
  have ht' : Ev (fun k => spec_TxTimes.f k (⟨#[45]⟩ : ByteArray) (want l : Int)) (str (Lib.repeatL [45] (want l))) := ht
  have hsz : (str (Lib.repeatL [45] (want l))).size = want l := by rw [str_size, Lib.repeatL_length]; simp
  refine Ev.shift ?_
  simp only [laws_FnTextAlignMarkdown.j1]
  refine Ev.bind ht' ?_
  have b1 : (⟨#[58]⟩ : ByteArray).size = 1 := rfl
  have b2 : (⟨#[32]⟩ : ByteArray).size = 1 := rfl
  simp only [ByteArray.size_append, hsz, b1, b2, if_pos (show 1 + want l ≤ 9223372036854775807 by omega), if_pos (show 1 + want l + 1 ≤ 9223372036854775807 by omega)]
  have em : Int.tmod a 4 = a % 4 := Int.tmod_eq_emod_of_nonneg h0
  rw [em]
  have hc : a % 4 = 0 ∨ a % 4 = 1 ∨ a % 4 = 2 ∨ a % 4 = 3 := by omega
  rcases hc with e | e | e | e <;> rw [e]
  · simp only [if_true]
    refine Ev.bind (prop 0 l h1 h ⟨#[32]⟩ ⟨#[32]⟩ rfl rfl (.inr (.inr (.inr ⟨rfl, rfl, rfl⟩)))) ?_
    simp only [beq_self_eq_true]; exact Ev.now _
  · simp only [if_neg (show ¬ (1 : Int) = 0 by omega), if_true]
    refine Ev.bind (prop 1 l h1 h ⟨#[58]⟩ ⟨#[32]⟩ rfl rfl (.inl ⟨rfl, rfl, rfl⟩)) ?_
    simp only [beq_self_eq_true]; exact Ev.now _
  · simp only [if_neg (show ¬ (2 : Int) = 0 by omega), if_neg (show ¬ (2 : Int) = 1 by omega), if_true]
    refine Ev.bind (prop 2 l h1 h ⟨#[58]⟩ ⟨#[58]⟩ rfl rfl (.inr (.inl ⟨rfl, rfl, rfl⟩))) ?_
    simp only [beq_self_eq_true]; exact Ev.now _
  · simp only [if_neg (show ¬ (3 : Int) = 0 by omega), if_neg (show ¬ (3 : Int) = 1 by omega), if_neg (show ¬ (3 : Int) = 2 by omega)]
    refine Ev.bind (prop 4 l h1 h ⟨#[32]⟩ ⟨#[58]⟩ rfl rfl (.inr (.inr (.inl ⟨rfl, rfl, rfl⟩)))) ?_
    simp only [beq_self_eq_true]; exact Ev.now _

theorem law_j0 (a : Int) (l : List Int) (h0 : 0 ≤ a) (b : Bool) (h1 : b = false → l.length ≤ 1 ∧ (l.length = 1 → rd l 0 ≤ 2000)) : Ev (fun k => laws_FnTextAlignMarkdown.j0 k a l b) true := by
  refine Ev.shift ?_
  cases b with
  | true => simp only [laws_FnTextAlignMarkdown.j0, if_true]; exact Ev.now _
  | false =>
    obtain ⟨hl, h⟩ := h1 rfl
    have hj := law_j1 a l h0 hl h
    simp only [laws_FnTextAlignMarkdown.j0, Bool.false_eq_true, if_false]
    by_cases c : l.length = 1
    · have e2 : ((want l : Nat) : Int) = mx 3 (rd l 0) := by unfold want mx; rw [if_pos c]; split <;> omega
      rw [e2] at hj
      simp only [if_pos (show (l.length : Int) = 1 by omega), if_pos (show 0 < (l.length : Int) by omega)]
      exact hj
    · have e2 : ((want l : Nat) : Int) = 3 := by unfold want; rw [if_neg c]; rfl
      rw [e2] at hj
      simp only [if_neg (show ¬ (l.length : Int) = 1 by omega)]
      exact hj

theorem FnTextAlignMarkdown : laws_FnTextAlignMarkdown.Pure := by
  intro a l w0 _ _ _
  have hb : 0 ≤ a ∧ a ≤ 255 := by simpa using Go.bounds_u8 w0
  refine Ev.rounds (g := fun k => laws_FnTextAlignMarkdown.f k a l) ?_
  unfold laws_FnTextAlignMarkdown.f
  by_cases c : (l.length : Int) > 2147483647
  · simp only [if_pos c]; exact Ev.now _
  · simp only [if_neg c]
    by_cases c1 : (l.length : Int) > 1
    · simp only [if_pos c1]; exact law_j0 a l hb.1 true (by simp)
    · simp only [if_neg c1]
      by_cases c2 : (l.length : Int) = 1
      · simp only [if_pos c2, if_pos (show 0 < (l.length : Int) by omega)]
        by_cases c3 : rd l 0 < 0
        · simp only [if_pos c3]; exact law_j0 a l hb.1 true (by simp)
        · simp only [if_neg c3]
          refine law_j0 a l hb.1 _ ?_
          intro e
          have : ¬ rd l 0 > 2000 := by simpa using e
          exact ⟨by omega, fun _ => by omega⟩
      · simp only [if_neg c2]
        exact law_j0 a l hb.1 false (fun _ => ⟨by omega, fun e => by omega⟩)

end Go.Proofs.Ytelbcekkfdpoaaa.Pure
