/- impl.rising computes the sorted numbers. -/
import Derived.Test.YtokdamfalhcnnaaSkA
import Derived.Test.YtokdamfalhcnnaaGMpBodyx4
namespace Go.Proofs.Ytokdamfalhcnnaa.Ri
open Go Go.RowKit Go.Proofs.YtokdamfalhcnnaaW.PrintWords Go.Proofs.YtokdamfalhcnnaaW.PrintLast Go.Proofs.YtokdamfalhcnnaaW.PrintMore GMpBody Small Sl

def Asc (l : List Int) : Prop := l.Pairwise fun a b => a ≤ b
/-- a number put among sorted ones -/
def insS : List Int → Int → List Int
  | [], x => [x]
  | a :: t, x => if a ≤ x then a :: insS t x else x :: a :: t
theorem insS_len (l : List Int) (x : Int) : (insS l x).length = l.length + 1 := by
  induction l with
  | nil => rfl
  | cons a t ih => unfold insS; split <;> simp [ih]
theorem insS_perm (l : List Int) (x : Int) : (insS l x).Perm (x :: l) := by
  induction l with
  | nil => exact List.Perm.refl _
  | cons a t ih =>
    unfold insS
    split
    · exact (List.Perm.cons a ih).trans (List.Perm.swap x a t)
    · exact List.Perm.refl _
theorem insS_asc {l : List Int} (h : Asc l) (x : Int) : Asc (insS l x) := by
  induction l with
  | nil => simp [insS, Asc]
  | cons a t ih =>
    have h' := List.pairwise_cons.1 h
    unfold insS
    split
    · rename_i hax
      refine List.pairwise_cons.2 ⟨fun e he => ?_, ih h'.2⟩
      rcases List.mem_cons.1 ((insS_perm t x).mem_iff.1 he) with rfl | he
      · exact hax
      · exact h'.1 e he
    · rename_i hax
      refine List.pairwise_cons.2 ⟨fun e he => ?_, h⟩
      rcases List.mem_cons.1 he with rfl | he
      · omega
      · have := h'.1 e he; omega
theorem insS_gt {l : List Int} {a x : Int} (h : x < a) : insS (l ++ [a]) x = insS l x ++ [a] := by
  induction l with
  | nil =>
    show (if a ≤ x then _ else _) = _
    rw [if_neg (by omega)]; rfl
  | cons c t ih =>
    show (if c ≤ x then c :: insS (t ++ [a]) x else x :: c :: (t ++ [a])) = (if c ≤ x then c :: insS t x else x :: c :: t) ++ [a]
    split
    · rw [ih]; rfl
    · rfl
theorem insS_le {l : List Int} {x : Int} (h : ∀ e ∈ l, e ≤ x) : insS l x = l ++ [x] := by
  induction l with
  | nil => rfl
  | cons c t ih =>
    show (if c ≤ x then c :: insS t x else x :: c :: t) = _
    rw [if_pos (h c (by simp)), ih (fun e he => h e (by simp [he]))]; rfl
theorem l1_ev (l : List Int) (j : Int) (x : Int) (r : List Int) : ∀ (n : Nat) (xs ys : List Int), xs.length = n → n < 1000000 → Asc xs → Ev (fun k => impl_rising.l0 k (insS xs x ++ ys) l (l.length : Int) (wrap64 (j + 1))) r → Ev (fun k => impl_rising.l1 k (xs ++ x :: ys) (n : Int) l (l.length : Int) j) r
  | 0, xs, ys, hn, _, _, h => by
    obtain rfl := List.length_eq_zero_iff.1 hn
    apply Ev.shift
    simp only [impl_rising.l1]
    simp only [if_neg (show ¬ ((0 : Nat) : Int) > 0 by omega)]
    exact h
  | n + 1, xs, ys, hn, hlt, hs, h => by
    rcases List.eq_nil_or_concat xs with rfl | ⟨xs', a, rfl⟩
    · simp at hn
    rw [List.concat_eq_append] at *
    have hn' : xs'.length = n := by simpa using hn
    have hw : wrap64 (((n + 1 : Nat) : Int) - 1) = (n : Int) := by rw [wrap_in (by omega) (by omega)]; omega
    have e0 : xs' ++ [a] ++ x :: ys = xs' ++ a :: x :: ys := by simp
    have hlen : (xs' ++ a :: x :: ys).length = n + 2 + ys.length := by simp [hn']; omega
    have r0 : rd (xs' ++ a :: x :: ys) (n : Int) = a := by rw [rd_nat, ← hn']; simp
    have r1 : rd (xs' ++ a :: x :: ys) ((n + 1 : Nat) : Int) = x := by rw [rd_nat, ← hn']; simp [List.getD_eq_getElem?_getD, List.getElem?_append_right]
    apply Ev.shift
    simp only [impl_rising.l1]
    rw [e0]
    simp only [hw, hlen, r0, r1, if_pos (show ((n + 1 : Nat) : Int) > 0 by omega), if_pos (show 0 ≤ (n : Int) by omega), if_pos (show (n : Int) < ((n + 2 + ys.length : Nat) : Int) by omega), if_pos (show 0 ≤ ((n + 1 : Nat) : Int) by omega), if_pos (show ((n + 1 : Nat) : Int) < ((n + 2 + ys.length : Nat) : Int) by omega), Int.toNat_natCast]
    by_cases hgt : a > x
    · simp only [if_pos hgt]
      have es : ((xs' ++ a :: x :: ys).set n x).set (n + 1) a = xs' ++ x :: a :: ys := by
        rw [← hn']
        simp [List.set_append_right]
      rw [es]
      refine l1_ev l j x r n xs' (a :: ys) hn' (by omega) (List.pairwise_append.1 hs).1 ?_
      have e1 : insS xs' x ++ a :: ys = insS (xs' ++ [a]) x ++ ys := by rw [insS_gt hgt]; simp
      rw [e1]
      exact h
    · simp only [if_neg hgt]
      have e1 : insS (xs' ++ [a]) x = xs' ++ [a] ++ [x] := insS_le (fun e he => by
        rcases List.mem_append.1 he with he | he
        · have := (List.pairwise_append.1 hs).2.2 e he a (by simp); omega
        · obtain rfl := List.mem_singleton.1 he; omega)
      rw [e1] at h
      simpa using h
theorem l0_ev (l : List Int) (hl : l.length ≤ 100000) : ∀ (n j : Nat) (xs : List Int), n + j = l.length → xs.length = j → Asc xs → Ev (fun k => impl_rising.l0 k xs l (l.length : Int) (j : Int)) ((l.drop j).foldl insS xs)
  | 0, j, xs, h, _, _ => by
    apply Ev.shift
    simp only [impl_rising.l0]
    simp only [if_neg (show ¬ (j : Int) < (l.length : Int) by omega)]
    rw [List.drop_eq_nil_of_le (by omega)]
    exact Ev.now _
  | n + 1, j, xs, h, hx, hs => by
    have hj : j < l.length := by omega
    apply Ev.shift
    simp only [impl_rising.l0]
    simp only [if_pos (show (j : Int) < (l.length : Int) by omega), if_pos (show 0 ≤ (j : Int) by omega), rd_nat, getD_at _ _ _ hj, if_pos (show xs.length < 17592186044416 by omega), Option.bind_some]
    have hln : (xs ++ [l[j]]).length = j + 1 := by simp [hx]
    have hw : wrap64 (((j + 1 : Nat) : Int) - 1) = (xs.length : Int) := by rw [wrap_in (by omega) (by omega), hx]; omega
    simp only [hln, hw]
    rw [List.drop_eq_getElem_cons hj, List.foldl_cons]
    refine l1_ev l (j : Int) l[j] _ xs.length xs [] rfl (by omega) hs ?_
    simp only [List.append_nil, wrap_succ j (by omega)]
    exact l0_ev l hl n (j + 1) (insS xs l[j]) (by omega) (by rw [insS_len, hx]) (insS_asc hs _)
theorem fold_perm (l : List Int) : ∀ xs : List Int, (l.foldl insS xs).Perm (l ++ xs) := by
  induction l with
  | nil => intro xs; exact List.Perm.refl _
  | cons a t ih =>
    intro xs
    rw [List.foldl_cons]
    exact (ih _).trans ((List.Perm.append_left t (insS_perm xs a)).trans List.perm_middle)
theorem fold_asc (l : List Int) : ∀ xs : List Int, Asc xs → Asc (l.foldl insS xs) := by
  induction l with
  | nil => intro xs h; exact h
  | cons a t ih => intro xs h; rw [List.foldl_cons]; exact ih _ (insS_asc h a)
theorem fold_is (l : List Int) : l.foldl insS [] = l.mergeSort leI :=
  List.Perm.eq_of_pairwise (le := fun x y => x ≤ y) (fun a b _ _ h1 h2 => by omega) (fold_asc l [] List.Pairwise.nil) (leI_sorted l) (by
    have := fold_perm l []
    rw [List.append_nil] at this
    exact this.trans (List.mergeSort_perm l leI).symm)
theorem rising_f (l : List Int) (hl : l.length ≤ 100000) : ∃ k, impl_rising.f k l = some (l.mergeSort leI) := by
  obtain ⟨k, hk⟩ := l0_ev l hl l.length 0 [] (by omega) rfl List.Pairwise.nil
  refine ⟨k, ?_⟩
  have := hk k (Nat.le_refl _)
  rw [List.drop_zero, fold_is] at this
  exact this
end Go.Proofs.Ytokdamfalhcnnaa.Ri
