/- An alignment is made of so many, and has another one where it is set, as tablewriter's MakeAlign, Set and Copy do it; asked of at most 60 calls, each a Set at a place that is there or a Copy, and of texts and lists of at most 2^31 - 1. -/
-- ownproof
import Derived.Test.YtcjnoadamfdgeaaOpnFnAlignment
import Derived.Test.YtcjnoadamfdgeaaSmall
namespace Go.Proofs.Ytcjnoadamfdgeaa.Pure
open Go.RowKit Go.Proofs.Ytcjnoadamfdgeaa.GFnAlignment Go.Proofs.Ytcjnoadamfdgeaa.Opn Go.Proofs.Ytcjnoadamfdgeaa.OpnFnAlignment Go.Proofs.YtcjnoadamfdgeaaW.PrintWords Go.Proofs.YtcjnoadamfdgeaaW.PrintLast Go.Proofs.Ytcjnoadamfdgeaa.Small

/-! ### zzFits: what they tell -/
theorem fits4_l (l : List ByteArray) (hl : l.length ≤ 2147483647) : ∀ d i : Nat, i + d = l.length → ∃ b, Ev (fun k => laws_zzFits4.l0 k l (l.length : Int) (i : Int)) b := by
  intro d
  induction d with
  | zero =>
    intro i hi
    refine ⟨true, Ev.shift ?_⟩
    simp only [laws_zzFits4.l0, if_neg (show ¬ (i : Int) < (l.length : Int) by omega)]
    exact Ev.now _
  | succ d ih =>
    intro i hi
    by_cases c : ((rdOf ByteArray.empty l (i : Int)).size : Int) > 2147483647
    · refine ⟨false, Ev.shift ?_⟩
      simp only [laws_zzFits4.l0, if_pos (show (i : Int) < (l.length : Int) by omega), if_pos (show 0 ≤ (i : Int) by omega), if_pos c]
      exact Ev.now _
    · obtain ⟨b, hb⟩ := ih (i + 1) (by omega)
      refine ⟨b, Ev.shift ?_⟩
      simp only [laws_zzFits4.l0, if_pos (show (i : Int) < (l.length : Int) by omega), if_pos (show 0 ≤ (i : Int) by omega), if_neg c, wrap_succ i (by omega)]
      exact hb
theorem fits4 (l : List ByteArray) : ∃ b, Ev (fun k => laws_zzFits4.f k l) b ∧ (b = true → l.length ≤ 2147483647) := by
  by_cases c : (l.length : Int) > 2147483647
  · refine ⟨false, ?_, by simp⟩
    simp only [laws_zzFits4.f, if_pos c]
    exact Ev.now _
  · obtain ⟨b, hb⟩ := fits4_l l (by omega) l.length 0 (by omega)
    refine ⟨b, ?_, fun _ => by omega⟩
    simp only [laws_zzFits4.f, if_neg c]
    exact hb
theorem fits25 (x : S30) : ∃ b, Ev (fun k => laws_zzFits25.f k x.f0 x.f1 x.f2) b ∧ (b = true → x.f2.length ≤ 2147483647) := by
  obtain ⟨b, hb, h⟩ := fits4 x.f2
  refine ⟨b, ?_, h⟩
  unfold laws_zzFits25.f
  refine Ev.bind hb ?_
  cases b <;> exact Ev.now _
theorem rd_T (l : List S30) (i : Nat) : rd_T30 l (i : Int) = l.getD i z30 := by simp [rd_T30]
theorem fits24_l (l : List S30) (hl : l.length ≤ 2147483647) : ∀ d i : Nat, i + d = l.length → ∃ b, Ev (fun k => laws_zzFits24.l0 k l (l.length : Int) (i : Int)) b ∧ (b = true → ∀ j, i ≤ j → j < l.length → (l.getD j z30).f2.length ≤ 2147483647) := by
  intro d
  induction d with
  | zero =>
    intro i hi
    refine ⟨true, Ev.shift ?_, fun _ j _ _ => by omega⟩
    simp only [laws_zzFits24.l0, if_neg (show ¬ (i : Int) < (l.length : Int) by omega)]
    exact Ev.now _
  | succ d ih =>
    intro i hi
    obtain ⟨b, hb, h1⟩ := fits25 (l.getD i z30)
    cases b with
    | false =>
      refine ⟨false, Ev.shift ?_, by simp⟩
      simp only [laws_zzFits24.l0, if_pos (show (i : Int) < (l.length : Int) by omega), if_pos (show 0 ≤ (i : Int) by omega), rd_T]
      exact Ev.bind hb (Ev.now _)
    | true =>
      obtain ⟨b, hb2, h2⟩ := ih (i + 1) (by omega)
      refine ⟨b, Ev.shift ?_, fun e j hj hjl => ?_⟩
      · simp only [laws_zzFits24.l0, if_pos (show (i : Int) < (l.length : Int) by omega), if_pos (show 0 ≤ (i : Int) by omega), rd_T, wrap_succ i (by omega)]
        exact Ev.bind hb (by simpa using hb2)
      · rcases Nat.lt_or_ge i j with hij | hij
        · exact h2 e j (by omega) hjl
        · obtain rfl : i = j := by omega
          exact h1 rfl
theorem fits24 (l : List S30) : ∃ b, Ev (fun k => laws_zzFits24.f k l) b ∧ (b = true → l.length ≤ 2147483647 ∧ ∀ j, j < l.length → (l.getD j z30).f2.length ≤ 2147483647) := by
  by_cases c : (l.length : Int) > 2147483647
  · refine ⟨false, ?_, by simp⟩
    simp only [laws_zzFits24.f, if_pos c]
    exact Ev.now _
  · obtain ⟨b, hb, h⟩ := fits24_l l (by omega) l.length 0 (by omega)
    refine ⟨b, ?_, fun e => ⟨by omega, fun j hj => h e j (by omega) hj⟩⟩
    simp only [laws_zzFits24.f, if_neg c]
    exact hb

/-! ### what the calls do, told plainly -/
def opOk (n : Nat) (o : S30) : Prop := (o.f0 = 1 ∧ 0 ≤ o.f1 ∧ o.f1 < (n : Int) ∧ 0 < o.f2.length) ∨ o.f0 = 2
def done (w : List ByteArray) (o : S30) : List ByteArray := if o.f0 = 1 then w.set o.f1.toNat (o.f2.getD 0 ByteArray.empty) else w
theorem done_length (w : List ByteArray) (o : S30) : (done w o).length = w.length := by unfold done; split <;> simp
theorem fold_length (l : List S30) : ∀ w : List ByteArray, (l.foldl done w).length = w.length := by
  induction l with
  | nil => intro w; rfl
  | cons o l ih => intro w; rw [List.foldl_cons, ih, done_length]

/-! ### MakeAlign -/
theorem make_l (n : Nat) (s : ByteArray) (hn : n < 20) : ∀ d i : Nat, i + d = n → Ev (fun k => tw_MakeAlign.l0 k (n : Int) s (List.replicate i s ++ List.replicate d (⟨#[]⟩ : ByteArray)) (i : Int)) (List.replicate n s) := by
  intro d
  induction d with
  | zero =>
    intro i hi
    refine Ev.shift ?_
    simp only [tw_MakeAlign.l0, if_neg (show ¬ (i : Int) < (n : Int) by omega)]
    obtain rfl : i = n := by omega
    simpa using Ev.now _
  | succ d ih =>
    intro i hi
    refine Ev.shift ?_
    have e : (List.replicate i s ++ List.replicate (d + 1) (⟨#[]⟩ : ByteArray)).set (i : Int).toNat s = List.replicate (i + 1) s ++ List.replicate d (⟨#[]⟩ : ByteArray) := by
      rw [List.replicate_succ' (n := i), List.append_assoc]
      simp [List.replicate_succ]
    have hlt : (i : Int) < ((List.replicate i s ++ List.replicate (d + 1) (⟨#[]⟩ : ByteArray)).length : Int) := by simp; omega
    simp only [tw_MakeAlign.l0, if_pos (show (i : Int) < (n : Int) by omega), if_pos (show 0 ≤ (i : Int) by omega), if_pos hlt, e, wrap_succ i (by omega)]
    exact ih (i + 1) (by omega)
theorem make (n : Nat) (s : ByteArray) (hn : n < 20) : Ev (fun k => tw_MakeAlign.f k (n : Int) s) (List.replicate n s) := by
  have h := make_l n s hn n 0 (by omega)
  simp only [tw_MakeAlign.f, if_pos (show 0 ≤ (n : Int) by omega), Int.toNat_natCast, if_pos (show n ≤ 17592186044416 by omega)]
  simpa using h

/-! ### TwAlignment -/
theorem copy_l (l : List S30) (w : List ByteArray) (c i : Int) (f0 f1 : Int) (f2 : List ByteArray) (hl : f2.length ≤ 2147483647) {r : List ByteArray}
    (hend : Ev (fun k => impl_TwAlignment.l1 k w f2 l c i f2 (f2.length : Int) (f2.length : Int) f0 f1 f2) r) : ∀ d j : Nat, j + d = f2.length → Ev (fun k => impl_TwAlignment.l1 k w (f2.take j) l c i f2 (f2.length : Int) (j : Int) f0 f1 f2) r := by
  intro d
  induction d with
  | zero =>
    intro j hj
    obtain rfl : j = f2.length := by omega
    simpa using hend
  | succ d ih =>
    intro j hj
    refine Ev.shift ?_
    have e : f2.take j ++ [rdOf ByteArray.empty f2 (j : Int)] = f2.take (j + 1) := by rw [rdOf_nat, getD_at _ _ _ (by omega), take_succ_at _ _ (by omega)]
    have hlt : (f2.take j).length < 8796093022208 := by rw [List.length_take]; omega
    simp only [impl_TwAlignment.l1, if_pos (show (j : Int) < (f2.length : Int) by omega), if_pos (show 0 ≤ (j : Int) by omega), if_pos hlt, e, wrap_succ j (by omega)]
    exact ih (j + 1) (by omega)
theorem out_l (w : List ByteArray) (hw : w.length < 20) : ∀ d j : Nat, j + d = w.length → Ev (fun k => impl_TwAlignment.l2 k (w.take j) w (w.length : Int) (j : Int)) w := by
  intro d
  induction d with
  | zero =>
    intro j hj
    refine Ev.shift ?_
    simp only [impl_TwAlignment.l2, if_neg (show ¬ (j : Int) < (w.length : Int) by omega)]
    obtain rfl : j = w.length := by omega
    simpa using Ev.now _
  | succ d ih =>
    intro j hj
    refine Ev.shift ?_
    have e : w.take j ++ [rdOf ByteArray.empty w (j : Int)] = w.take (j + 1) := by rw [rdOf_nat, getD_at _ _ _ (by omega), take_succ_at _ _ (by omega)]
    have hlt : (w.take j).length < 8796093022208 := by rw [List.length_take]; omega
    simp only [impl_TwAlignment.l2, if_pos (show (j : Int) < (w.length : Int) by omega), if_pos (show 0 ≤ (j : Int) by omega), if_pos hlt, e, wrap_succ j (by omega)]
    exact ih (j + 1) (by omega)
theorem ops_l (l : List S30) (n : Nat) (hn : n < 20) (hl : l.length ≤ 60) (hf : ∀ j, j < l.length → (l.getD j z30).f2.length ≤ 2147483647) (hok : ∀ j, j < l.length → opOk n (l.getD j z30)) :
    ∀ d i : Nat, i + d = l.length → ∀ w : List ByteArray, w.length = n → Ev (fun k => impl_TwAlignment.l0 k w l (l.length : Int) (i : Int)) ((l.drop i).foldl done w) := by
  intro d
  induction d with
  | zero =>
    intro i hi w hw
    refine Ev.shift ?_
    simp only [impl_TwAlignment.l0, if_neg (show ¬ (i : Int) < (l.length : Int) by omega)]
    rw [List.drop_eq_nil_of_le (by omega)]
    simpa using out_l w (by omega) w.length 0 (by omega)
  | succ d ih =>
    intro i hi w hw
    have hil : i < l.length := by omega
    have h2 := ih (i + 1) (by omega) (done w (l.getD i z30)) (by rw [done_length, hw])
    rw [List.drop_eq_getElem_cons hil, List.foldl_cons, ← getD_at z30 l i hil]
    refine Ev.shift ?_
    simp only [impl_TwAlignment.l0, if_pos (show (i : Int) < (l.length : Int) by omega), if_pos (show 0 ≤ (i : Int) by omega), rd_T]
    have hf' := hf i hil
    have hok' := hok i hil
    generalize l.getD i z30 = o at h2 hf' hok' ⊢
    refine copy_l l w _ _ _ _ o.f2 hf' ?_ o.f2.length 0 (by omega)
    refine Ev.shift ?_
    have hlt : o.f2.length < 8796093022208 := by omega
    rcases hok' with ⟨e, p0, p1, p2⟩ | e
    · simp only [impl_TwAlignment.l1, e, if_neg (show ¬ (o.f2.length : Int) < (o.f2.length : Int) by omega), if_neg (show ¬ (1 : Int) = 0 by omega), if_true, decide_eq_true (show (o.f2.length : Int) > 0 by omega)]
      refine Ev.shift ?_
      simp only [impl_TwAlignment.j2, if_true, if_pos (show 0 < (o.f2.length : Int) by omega), tw_Alignment_Set.f, if_pos (show o.f1 ≥ 0 by omega), if_pos (show o.f1 < (w.length : Int) by omega), Option.bind_some, wrap_succ i (by omega)]
      have hd : done w o = w.set o.f1.toNat (o.f2.getD 0 ByteArray.empty) := by simp only [done, e, if_true]
      rw [hd] at h2 ⊢
      exact h2
    · simp only [impl_TwAlignment.l1, e, if_neg (show ¬ (o.f2.length : Int) < (o.f2.length : Int) by omega), if_neg (show ¬ (2 : Int) = 0 by omega), if_neg (show ¬ (2 : Int) = 1 by omega)]
      refine Ev.shift ?_
      simp only [impl_TwAlignment.j2, Bool.false_eq_true, if_false, if_true, tw_Alignment_Copy.f, if_pos (show w.length ≤ 17592186044416 by omega), Option.bind_some, wrap_succ i (by omega)]
      have hd : done w o = w := by simp only [done, e, if_neg (show ¬ (2 : Int) = 1 by omega)]
      rw [hd] at h2 ⊢
      exact h2
theorem align (l : List S30) (n : Nat) (s : ByteArray) (hn : n < 20) (hl : l.length ≤ 60) (hf : ∀ j, j < l.length → (l.getD j z30).f2.length ≤ 2147483647) (hok : ∀ j, j < l.length → opOk n (l.getD j z30)) :
    Ev (fun k => impl_TwAlignment.f k (n : Int) s l) (l.foldl done (List.replicate n s)) := by
  unfold impl_TwAlignment.f
  refine Ev.bind (make n s hn) ?_
  simpa using ops_l l n hn hl hf hok l.length 0 (by omega) (List.replicate n s) (by simp)

/-! ### TwTexts -/
theorem same_l (w : List ByteArray) (hw : w.length < 20) : ∀ d j : Nat, j + d = w.length → Ev (fun k => spec_TwTexts.l0 k w w (j : Int)) true := by
  intro d
  induction d with
  | zero =>
    intro j hj
    refine Ev.shift ?_
    simp only [spec_TwTexts.l0, if_neg (show ¬ (j : Int) < (w.length : Int) by omega)]
    exact Ev.now _
  | succ d ih =>
    intro j hj
    refine Ev.shift ?_
    simp only [spec_TwTexts.l0, if_pos (show (j : Int) < (w.length : Int) by omega), if_pos (show 0 ≤ (j : Int) by omega), if_true, wrap_succ j (by omega)]
    exact ih (j + 1) (by omega)
theorem same (w : List ByteArray) (hw : w.length < 20) : Ev (fun k => spec_TwTexts.f k w w) true := by
  simp only [spec_TwTexts.f, if_true]
  exact same_l w hw w.length 0 (by omega)

/-! ### the law -/
theorem law_end (l : List S30) (n : Nat) (s : ByteArray) (hn : n < 20) (hl : l.length ≤ 60) (hf : ∀ j, j < l.length → (l.getD j z30).f2.length ≤ 2147483647) :
    ∀ d i : Nat, i + d = l.length → (∀ j, j < i → opOk n (l.getD j z30)) → Ev (fun k => laws_FnAlignment.l1 k s l (n : Int) ((l.take i).foldl done (List.replicate n s)) (i : Int)) true := by
  intro d
  induction d with
  | zero =>
    intro i hi hok
    obtain rfl : i = l.length := by omega
    refine Ev.shift ?_
    simp only [laws_FnAlignment.l1, if_neg (show ¬ (l.length : Int) < (l.length : Int) by omega), List.take_length]
    refine Ev.bind (align l n s hn hl hf hok) ?_
    exact Ev.bind (same _ (by rw [fold_length]; simpa using hn)) (Ev.now _)
  | succ d ih =>
    intro i hi hok
    have hil : i < l.length := by omega
    have hW : ((l.take i).foldl done (List.replicate n s)).length = n := by rw [fold_length]; simp
    have h2 := ih (i + 1) (by omega)
    rw [take_succ_at l i hil, List.foldl_append, List.foldl_cons, List.foldl_nil, ← getD_at z30 l i hil] at h2
    have hok2 : opOk n (l.getD i z30) → ∀ j, j < i + 1 → opOk n (l.getD j z30) := fun h j hj => by
      rcases Nat.lt_or_ge j i with hj' | hj'
      · exact hok j hj'
      · obtain rfl : j = i := by omega
        exact h
    replace h2 := fun h => h2 (hok2 h)
    clear hok2 ih hok
    refine Ev.shift ?_
    simp only [laws_FnAlignment.l1, if_pos (show (i : Int) < (l.length : Int) by omega), if_pos (show 0 ≤ (i : Int) by omega), rd_T, wrap_succ i (by omega), hW]
    generalize l.getD i z30 = o at h2 ⊢
    generalize (l.take i).foldl done (List.replicate n s) = W at h2 hW ⊢
    by_cases c1 : o.f0 = 1
    · simp only [c1, if_true]
      by_cases c2 : o.f1 < 0
      · simp only [if_pos c2]; exact Ev.now _
      · simp only [if_neg c2]
        by_cases c3 : o.f1 ≥ (n : Int)
        · simp only [if_pos c3]; exact Ev.now _
        · simp only [if_neg c3]
          by_cases c4 : (o.f2.length : Int) = 0
          · simp only [if_pos c4]; exact Ev.now _
          · simp only [if_neg c4, Option.bind_some, List.length_nil, Nat.zero_add, List.nil_append, hW, if_pos (show n < 8796093022208 by omega), if_pos (show 0 < (o.f2.length : Int) by omega), if_pos (show 0 ≤ o.f1 by omega), if_pos (show o.f1 < (n : Int) by omega)]
            have h3 := h2 (.inl ⟨c1, by omega, by omega, by omega⟩)
            simp only [done, c1, if_true] at h3
            exact h3
    · simp only [if_neg c1]
      by_cases c2 : o.f0 = 2
      · simp only [if_pos c2]
        have h3 := h2 (.inr c2)
        simp only [done, if_neg c1] at h3
        exact h3
      · simp only [if_neg c2]; exact Ev.now _
theorem law_make (l : List S30) (n : Nat) (s : ByteArray) (hn : n < 20) (hl : l.length ≤ 60) (hf : ∀ j, j < l.length → (l.getD j z30).f2.length ≤ 2147483647) :
    ∀ d i : Nat, i + d = n → Ev (fun k => laws_FnAlignment.l0 k s l (n : Int) (List.replicate i s) (n : Int) (i : Int)) true := by
  intro d
  induction d with
  | zero =>
    intro i hi
    obtain rfl : i = n := by omega
    refine Ev.shift ?_
    simp only [laws_FnAlignment.l0, if_neg (show ¬ (i : Int) < (i : Int) by omega)]
    simpa using law_end l i s hn hl hf l.length 0 (by omega) (fun j hj => by omega)
  | succ d ih =>
    intro i hi
    refine Ev.shift ?_
    simp only [laws_FnAlignment.l0, if_pos (show (i : Int) < (n : Int) by omega), wrap_succ i (by omega), List.length_replicate, if_pos (show i < 8796093022208 by omega), ← List.replicate_succ']
    exact ih (i + 1) (by omega)

theorem FnAlignment : OpnFnAlignment.Pure := by
  intro a0 s l w0 _ _ _
  have hb : 0 ≤ a0 ∧ a0 ≤ 255 := by simpa using Go.bounds_u8 w0
  have hj : ∀ b, (b = false → l.length ≤ 2147483647 ∧ ∀ j, j < l.length → (l.getD j z30).f2.length ≤ 2147483647) → Ev (fun k => laws_FnAlignment.j0 k a0 s l b) true := by
    intro b hbt
    refine Ev.shift ?_
    cases b with
    | true => simp only [laws_FnAlignment.j0, if_true]; exact Ev.now _
    | false =>
      obtain ⟨_, hf⟩ := hbt rfl
      simp only [laws_FnAlignment.j0, Bool.false_eq_true, if_false]
      by_cases c : (l.length : Int) > 60
      · simp only [if_pos c]; exact Ev.now _
      · simp only [if_neg c]
        obtain ⟨n, hn, e⟩ : ∃ n : Nat, n < 20 ∧ Int.tmod (wrap64 a0) 20 = (n : Int) := by
          rw [wrap_in (by omega) (by omega)]
          exact ⟨(Int.tmod a0 20).toNat, by rw [Int.tmod_eq_emod_of_nonneg (by omega)]; omega, by rw [Int.tmod_eq_emod_of_nonneg (by omega)]; omega⟩
        rw [e]
        exact law_make l n s hn (by omega) hf n 0 (by omega)
  refine Ev.rounds (g := fun k => laws_FnAlignment.f k a0 s l) ?_
  unfold laws_FnAlignment.f
  by_cases c : (s.size : Int) > 2147483647
  · simp only [if_pos c]
    exact hj true (by simp)
  · simp only [if_neg c]
    obtain ⟨b, hb2, h⟩ := fits24 l
    refine Ev.bind hb2 (hj _ ?_)
    intro e
    exact h (by simpa using e)

end Go.Proofs.Ytcjnoadamfdgeaa.Pure
