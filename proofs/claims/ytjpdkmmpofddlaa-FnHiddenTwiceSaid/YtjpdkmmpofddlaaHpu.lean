/- What the walks of HiddenOf compute, and what the helpers of the law tell: in plain Lean. -/
import Derived.Test.YtjpdkmmpofddlaaHzz
namespace Go.Proofs.Ytjpdkmmpofddlaa.Hpu
open Go Go.RowKit Go.Proofs.YtjpdkmmpofddlaaW.PrintWords Go.Proofs.YtjpdkmmpofddlaaW.PrintMore Go.Proofs.YtjpdkmmpofddlaaW.PrintLast Go.Proofs.Ytjpdkmmpofddlaa.Cfg Go.Proofs.Ytjpdkmmpofddlaa.Hid Go.Proofs.Ytjpdkmmpofddlaa.Hzz Go.Proofs.Ytjpdkmmpofddlaa.Small Go.Proofs.Ytjpdkmmpofddlaa.GHidBody

/-- how many of the first i columns are left -/
def cnt (a : List Bool) : Nat → Nat
  | 0 => 0
  | i + 1 => cnt a i + (if a.getD i false = true then 0 else 1)
/-- is column i hidden by the one or by the other? -/
def tg (a b : List Bool) (i : Nat) : Bool := if a.getD i false = true then true else b.getD (cnt a i) false
def togTo (a b : List Bool) : Nat → List Bool
  | 0 => []
  | i + 1 => togTo a b i ++ [tg a b i]
def tog (a b : List Bool) : List Bool := togTo a b (a.length + b.length)
theorem togTo_len (a b : List Bool) : ∀ i, (togTo a b i).length = i
  | 0 => rfl
  | i + 1 => by simp [togTo, togTo_len a b i]
theorem togTo_get (a b : List Bool) : ∀ n i, i < n → (togTo a b n).getD i false = tg a b i
  | 0, _, h => absurd h (by omega)
  | n + 1, i, h => by
    simp only [togTo, List.getD_eq_getElem?_getD]
    by_cases hi : i < n
    · rw [List.getElem?_append_left (by rw [togTo_len]; exact hi), ← List.getD_eq_getElem?_getD]
      exact togTo_get a b n i hi
    · obtain rfl : i = n := by omega
      rw [List.getElem?_append_right (by rw [togTo_len]; exact Nat.le_refl _), togTo_len]
      simp
theorem getD_far (l : List Bool) (i : Nat) (h : l.length ≤ i) : l.getD i false = false := by
  rw [List.getD_eq_getElem?_getD, List.getElem?_eq_none h]; rfl
theorem cnt_ge (a : List Bool) : ∀ i, i ≤ cnt a i + a.length
  | 0 => Nat.zero_le _
  | i + 1 => by
    have := cnt_ge a i
    simp only [cnt]
    by_cases h : a.getD i false = true
    · have hi : i < a.length := by
        rcases Nat.lt_or_ge i a.length with h1 | h1
        · exact h1
        · rw [getD_far a i h1] at h; cases h
      rw [if_pos h]
      omega
    · rw [if_neg h]; omega
theorem cnt_le (a : List Bool) : ∀ i, cnt a i ≤ i
  | 0 => Nat.le_refl _
  | i + 1 => by
    have := cnt_le a i
    simp only [cnt]
    split <;> omega
theorem tog_get (a b : List Bool) (i : Nat) : (tog a b).getD i false = tg a b i := by
  by_cases h : i < a.length + b.length
  · exact togTo_get a b _ i h
  · rw [getD_far _ _ (by unfold tog; rw [togTo_len]; omega)]
    unfold tg
    have := cnt_ge a i
    rw [getD_far a i (by omega), if_neg (by decide), getD_far b _ (by omega)]

/-! ### hiding twice -/
theorem keepTo_cf (hs : List Bool) (r : List ByteArray) (j : Nat) : keepTo (cf hs) r (j + 1) = keepTo (cf hs) r j ++ (if hs.getD j false = true then [] else [r.getD j ByteArray.empty]) := by
  simp only [keepTo, hid_cf]
theorem keepTo_cnt (a : List Bool) (r : List ByteArray) : ∀ j, (keepTo (cf a) r j).length = cnt a j
  | 0 => rfl
  | j + 1 => by
    rw [keepTo_cf, List.length_append, keepTo_cnt a r j]
    simp only [cnt]
    split <;> rfl
theorem keepTo_pre (c : List Cf) (l m : List ByteArray) : ∀ j, j ≤ l.length → keepTo c (l ++ m) j = keepTo c l j
  | 0, _ => rfl
  | j + 1, h => by
    have e : (l ++ m).getD j ByteArray.empty = l.getD j ByteArray.empty := by
      simp only [List.getD_eq_getElem?_getD]
      rw [List.getElem?_append_left (by omega)]
    simp only [keepTo, keepTo_pre c l m j (by omega), e]
theorem twiceTo (a b : List Bool) (r : List ByteArray) : ∀ n, keepTo (cf b) (keepTo (cf a) r n) (cnt a n) = keepTo (cf (tog a b)) r n
  | 0 => rfl
  | n + 1 => by
    rw [keepTo_cf (tog a b), ← twiceTo a b r n, tog_get, keepTo_cf a]
    have hc := keepTo_cnt a r n
    unfold tg
    simp only [cnt]
    by_cases h : a.getD n false = true
    · simp only [if_pos h, List.append_nil, Nat.add_zero, if_true]
    · simp only [if_neg h]
      rw [keepTo_cf, keepTo_pre _ _ _ _ (by rw [hc]; exact Nat.le_refl _)]
      have e : (keepTo (cf a) r n ++ [r.getD n ByteArray.empty]).getD (cnt a n) ByteArray.empty = r.getD n ByteArray.empty := by
        rw [List.getD_eq_getElem?_getD, List.getElem?_append_right (by omega), hc]
        simp
      rw [e]
theorem twice (a b : List Bool) (r : List ByteArray) : keep (cf b) (keep (cf a) r) = keep (cf (tog a b)) r := by
  unfold keep
  rw [keepTo_cnt, twiceTo]
theorem rowsTo_get (c : List Cf) (rows : List (List ByteArray)) : ∀ n i, i < n → (rowsTo c rows n).getD i [] = keep c (rows.getD i [])
  | 0, _, h => absurd h (by omega)
  | n + 1, i, h => by
    simp only [rowsTo, List.getD_eq_getElem?_getD]
    by_cases hi : i < n
    · rw [List.getElem?_append_left (by rw [rowsTo_len]; exact hi), ← List.getD_eq_getElem?_getD, rowsTo_get c rows n i hi, List.getD_eq_getElem?_getD]
    · obtain rfl : i = n := by omega
      rw [List.getElem?_append_right (by rw [rowsTo_len]; exact Nat.le_refl _), rowsTo_len]
      simp
theorem rows_twice (a b : List Bool) (rows : List (List ByteArray)) (m : Nat) : ∀ n, n ≤ m → rowsTo (cf b) (rowsTo (cf a) rows m) n = rowsTo (cf (tog a b)) rows n
  | 0, _ => rfl
  | n + 1, h => by
    simp only [rowsTo]
    rw [rows_twice a b rows m n (by omega), rowsTo_get _ _ _ _ (by omega), twice]
theorem max_twice (a b : List Bool) (rows : List (List ByteArray)) (m : Nat) : ∀ n, n ≤ m → maxTo (cf b) (rowsTo (cf a) rows m) 0 n = maxTo (cf (tog a b)) rows 0 n
  | 0, _ => rfl
  | n + 1, h => by
    simp only [maxTo]
    rw [max_twice a b rows m n (by omega), rowsTo_get _ _ _ _ (by omega), twice]
theorem keep_le (c : List Cf) (r : List ByteArray) : (keep c r).length ≤ r.length := keepTo_len c r r.length
theorem tot_le (c : List Cf) (rows : List (List ByteArray)) (m : Nat) : ∀ n, n ≤ m → tot (rowsTo c rows m) n ≤ tot rows n
  | 0, _ => Nat.le_refl _
  | n + 1, h => by
    have := tot_le c rows m n (by omega)
    have h2 := keep_le c (rows.getD n [])
    simp only [tot]
    rw [rowsTo_get _ _ _ _ (by omega)]
    omega
theorem mem_rowsTo (c : List Cf) (rows : List (List ByteArray)) (hl : ∀ r ∈ rows, r.length ≤ 2147483647) : ∀ n, n ≤ rows.length → ∀ r ∈ rowsTo c rows n, r.length ≤ 2147483647
  | 0, _, r, h => by cases h
  | n + 1, hn, r, h => by
    simp only [rowsTo, List.mem_append, List.mem_singleton] at h
    rcases h with h | rfl
    · exact mem_rowsTo c rows hl n (by omega) r h
    · refine Nat.le_trans (keep_le _ _) ?_
      rw [getD_at _ _ _ (by omega)]
      exact hl _ (List.getElem_mem _)
theorem tot_small (rows : List (List ByteArray)) (hl : ∀ r ∈ rows, r.length ≤ 2147483647) : ∀ n, n ≤ rows.length → tot rows n ≤ n * 2147483647
  | 0, _ => by simp [tot]
  | n + 1, h => by
    have := tot_small rows hl n (by omega)
    have h2 : (rows.getD n []).length ≤ 2147483647 := by rw [getD_at _ _ _ (by omega)]; exact hl _ (List.getElem_mem _)
    simp only [tot]
    omega

/-! ### the law's helpers -/
theorem fits4_l (l : List ByteArray) (hl : l.length ≤ 2147483647) : ∀ d i : Nat, i + d = l.length → ∃ b, Ev (fun k => laws_zzFits4.l0 k l (l.length : Int) (i : Int)) b := by
  intro d
  induction d with
  | zero =>
    intro i hi
    refine ⟨true, Ev.shift ?_⟩
    simp only [laws_zzFits4.l0, if_neg (show ¬ (i : Int) < (l.length : Int) by omega)]
    exact Ev.now _
  | succ d ih =>
    intro i hi
    by_cases c : ((rdOf ByteArray.empty l (i : Int)).size : Int) > 2147483647
    · refine ⟨false, Ev.shift ?_⟩
      simp only [laws_zzFits4.l0, if_pos (show (i : Int) < (l.length : Int) by omega), if_pos (show 0 ≤ (i : Int) by omega), if_pos c]
      exact Ev.now _
    · obtain ⟨b, hb⟩ := ih (i + 1) (by omega)
      refine ⟨b, Ev.shift ?_⟩
      simp only [laws_zzFits4.l0, if_pos (show (i : Int) < (l.length : Int) by omega), if_pos (show 0 ≤ (i : Int) by omega), if_neg c, wrap_succ i (by omega)]
      exact hb
theorem fits4 (l : List ByteArray) : ∃ b, Ev (fun k => laws_zzFits4.f k l) b ∧ (b = true → l.length ≤ 2147483647) := by
  by_cases c : (l.length : Int) > 2147483647
  · refine ⟨false, ?_, by simp⟩
    simp only [laws_zzFits4.f, if_pos c]
    exact Ev.now _
  · obtain ⟨b, hb⟩ := fits4_l l (by omega) l.length 0 (by omega)
    refine ⟨b, ?_, fun _ => by omega⟩
    simp only [laws_zzFits4.f, if_neg c]
    exact hb
theorem rd_L (l : List (List ByteArray)) (i : Nat) : rd_L1 l (i : Int) = l.getD i [] := by simp [rd_L1]
theorem fits19_l (l : List (List ByteArray)) (hl : l.length ≤ 2147483647) : ∀ d i : Nat, i + d = l.length → ∃ b, Ev (fun k => laws_zzFits19.l0 k l (l.length : Int) (i : Int)) b ∧ (b = true → ∀ j, i ≤ j → j < l.length → (l.getD j []).length ≤ 2147483647) := by
  intro d
  induction d with
  | zero =>
    intro i hi
    refine ⟨true, Ev.shift ?_, fun _ j _ _ => by omega⟩
    simp only [laws_zzFits19.l0, if_neg (show ¬ (i : Int) < (l.length : Int) by omega)]
    exact Ev.now _
  | succ d ih =>
    intro i hi
    obtain ⟨b, hb, h1⟩ := fits4 (l.getD i [])
    cases b with
    | false =>
      refine ⟨false, Ev.shift ?_, by simp⟩
      simp only [laws_zzFits19.l0, if_pos (show (i : Int) < (l.length : Int) by omega), if_pos (show 0 ≤ (i : Int) by omega), rd_L]
      exact Ev.bind hb (Ev.now _)
    | true =>
      obtain ⟨b, hb2, h2⟩ := ih (i + 1) (by omega)
      refine ⟨b, Ev.shift ?_, fun hbt j hj hjl => ?_⟩
      · simp only [laws_zzFits19.l0, if_pos (show (i : Int) < (l.length : Int) by omega), if_pos (show 0 ≤ (i : Int) by omega), rd_L, wrap_succ i (by omega)]
        exact Ev.bind hb hb2
      · rcases Nat.eq_or_lt_of_le hj with rfl | hj'
        · exact h1 rfl
        · exact h2 hbt j hj' hjl
theorem fits19 (l : List (List ByteArray)) : ∃ b k, laws_zzFits19.f k l = some b ∧ (b = true → l.length ≤ 2147483647 ∧ ∀ r ∈ l, r.length ≤ 2147483647) := by
  by_cases c : (l.length : Int) > 2147483647
  · exact ⟨false, 0, by simp only [laws_zzFits19.f, if_pos c], by simp⟩
  · obtain ⟨b, ⟨K, hK⟩, h⟩ := fits19_l l (by omega) l.length 0 (by omega)
    refine ⟨b, K, ?_, fun hb => ⟨by omega, fun r hr => ?_⟩⟩
    · simp only [laws_zzFits19.f, if_neg c]
      exact hK K (Nat.le_refl _)
    · obtain ⟨j, hj, rfl⟩ := List.mem_iff_getElem.1 hr
      have := h hb j (Nat.zero_le _) hj
      rwa [getD_at _ _ _ hj] at this

theorem together_l (a b : List Bool) (ha : a.length ≤ 60) (hb : b.length ≤ 60) : ∀ d i : Nat, i + d = a.length + b.length → ∃ k, spec_Together.l0 k a b (togTo a b i) (cnt a i : Int) (i : Int) = some (tog a b) := by
  have hw : wrap64 ((a.length : Int) + (b.length : Int)) = ((a.length + b.length : Nat) : Int) := by unfold wrap64; omega
  intro d
  induction d with
  | zero =>
    intro i hi
    refine ⟨1, ?_⟩
    simp only [spec_Together.l0, hw]
    rw [if_neg (by omega)]
    unfold tog
    rw [show i = a.length + b.length by omega]
  | succ d ih =>
    intro i hi
    obtain ⟨k, hk⟩ := ih (i + 1) (by omega)
    refine ⟨k + 1, ?_⟩
    have hci := cnt_le a i
    have hl := togTo_len a b i
    have l1 : (togTo a b i).length < 140737488355328 := by omega
    have w1 : wrap64 ((i : Int) + 1) = ((i + 1 : Nat) : Int) := wrap_succ i (by omega)
    have w2 : wrap64 ((cnt a i : Int) + 1) = ((cnt a i + 1 : Nat) : Int) := wrap_succ _ (by omega)
    simp only [spec_Together.l0, hw, w1, w2, rdOf_nat, if_pos l1]
    rw [if_pos (by omega)]
    have c0 : (0 : Int) ≤ (i : Int) := by omega
    have c1 : (0 : Int) ≤ (cnt a i : Int) := by omega
    simp only [if_pos c0, if_pos c1]
    have e1 : togTo a b (i + 1) = togTo a b i ++ [tg a b i] := rfl
    have e2 : cnt a (i + 1) = cnt a i + (if a.getD i false = true then 0 else 1) := rfl
    have f1 : b.getD (cnt a i) false = if (cnt a i : Int) < (b.length : Int) then b.getD (cnt a i) false else false := by
      split
      · rfl
      · exact getD_far b _ (by omega)
    by_cases hia : (i : Int) < (a.length : Int)
    · simp only [if_pos hia]
      by_cases h : a.getD i false = true
      · rw [if_pos h]
        rw [e1, e2, if_pos h] at hk
        rw [show tg a b i = true by unfold tg; rw [if_pos h]] at hk
        exact hk
      · rw [if_neg h]
        rw [e1, e2, if_neg h] at hk
        have ht : tg a b i = b.getD (cnt a i) false := by unfold tg; rw [if_neg h]
        rw [ht] at hk
        by_cases hc : (cnt a i : Int) < (b.length : Int)
        · rw [if_pos hc]; exact hk
        · rw [if_neg hc]; rw [f1, if_neg hc] at hk; exact hk
    · simp only [if_neg hia]
      have h : ¬ a.getD i false = true := by rw [getD_far a i (by omega)]; decide
      rw [e1, e2, if_neg h] at hk
      have ht : tg a b i = b.getD (cnt a i) false := by unfold tg; rw [if_neg h]
      rw [ht] at hk
      by_cases hc : (cnt a i : Int) < (b.length : Int)
      · rw [if_pos hc]; exact hk
      · rw [if_neg hc]; rw [f1, if_neg hc] at hk; exact hk
theorem together (a b : List Bool) (ha : a.length ≤ 60) (hb : b.length ≤ 60) : ∃ k, spec_Together.f k a b = some (tog a b) := together_l a b ha hb (a.length + b.length) 0 (by omega)

theorem same_l (l : List (List ByteArray)) (hl : l.length ≤ 2147483647) (hr : ∀ r ∈ l, r.length ≤ 2147483647) (i : Nat) (hi : i < l.length) (IH : ∃ k, spec_SameGrid.l0 k l l ((i + 1 : Nat) : Int) = some true) : ∀ d j : Nat, j + d = (l.getD i []).length → ∃ k, spec_SameGrid.l1 k l l (i : Int) (j : Int) = some true := by
  have hri : (l.getD i []).length ≤ 2147483647 := by rw [getD_at _ _ _ hi]; exact hr _ (List.getElem_mem _)
  intro d
  induction d with
  | zero =>
    intro j hj
    obtain ⟨k, hk⟩ := IH
    refine ⟨k + 1, ?_⟩
    simp only [spec_SameGrid.l1, rd_L, wrap_succ i (by omega)]
    rw [if_pos (by omega), if_pos (by omega), if_neg (by omega)]
    exact hk
  | succ d ih =>
    intro j hj
    obtain ⟨k, hk⟩ := ih (j + 1) (by omega)
    refine ⟨k + 1, ?_⟩
    have a1 : (j : Int) < ((l.getD i []).length : Int) := by omega
    have a2 : (i : Int) < (l.length : Int) := by omega
    simp only [spec_SameGrid.l1, rd_L, wrap_succ j (by omega)]
    rw [if_pos (by omega), if_pos a2, if_pos a1, if_pos (by omega), if_pos a2, if_pos a1, if_pos trivial]
    exact hk
theorem same_o (l : List (List ByteArray)) (hl : l.length ≤ 2147483647) (hr : ∀ r ∈ l, r.length ≤ 2147483647) : ∀ d i : Nat, i + d = l.length → ∃ k, spec_SameGrid.l0 k l l (i : Int) = some true := by
  intro d
  induction d with
  | zero =>
    intro i hi
    refine ⟨1, ?_⟩
    simp only [spec_SameGrid.l0]
    rw [if_neg (by omega)]
  | succ d ih =>
    intro i hi
    obtain ⟨k, hk⟩ := same_l l hl hr i (by omega) (ih (i + 1) (by omega)) (l.getD i []).length 0 (by omega)
    refine ⟨k + 1, ?_⟩
    have a2 : (i : Int) < (l.length : Int) := by omega
    simp only [spec_SameGrid.l0, rd_L]
    rw [if_pos a2, if_pos (by omega), if_pos a2, if_pos trivial]
    exact hk
theorem same (l : List (List ByteArray)) (hl : l.length ≤ 2147483647) (hr : ∀ r ∈ l, r.length ≤ 2147483647) : ∃ k, spec_SameGrid.f k l l = some true := by
  obtain ⟨k, hk⟩ := same_o l hl hr l.length 0 (by omega)
  exact ⟨k, by unfold spec_SameGrid.f; rw [if_pos rfl]; exact hk⟩
end Go.Proofs.Ytjpdkmmpofddlaa.Hpu
