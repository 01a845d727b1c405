/- A reset behind a text without resets, found and taken out, in plain Lean. -/
import Derived.Test.YtenclpkeffhjaaaDoorEsq
namespace Go.Proofs.YtenclpkeffhjaaaDoor.Esr
open Go Go.RowKit Go.Lib Go.Proofs.YtenclpkeffhjaaaDoor.GEsBody Go.Proofs.YtenclpkeffhjaaaDoorW.PrintWords Go.Proofs.YtenclpkeffhjaaaDoorW.PrintLast Go.Proofs.YtenclpkeffhjaaaDoorW.PrintMore Go.Proofs.YtenclpkeffhjaaaDoor.Small Go.Proofs.YtenclpkeffhjaaaDoor.Esp Go.Proofs.YtenclpkeffhjaaaDoor.Esq

/-- no reset stands in these octets, and they are not many -/
def Tame (s : List UInt8) : Prop := s.length ≤ 100000 ∧ ∀ i, i + 4 ≤ s.length → (s.drop i).take 4 ≠ R
instance (s : List UInt8) : Decidable (Tame s) :=
  decidable_of_iff (s.length ≤ 100000 ∧ ∀ i, i < s.length → i + 4 ≤ s.length → (s.drop i).take 4 ≠ R) ⟨fun h => ⟨h.1, fun i hi => h.2 i (by omega) hi⟩, fun h => ⟨h.1, fun i _ hi => h.2 i hi⟩⟩
theorem tame_suffix (s : List UInt8) (h : Tame s) : hasSuffix s R = false := by
  cases hs : hasSuffix s R with
  | false => rfl
  | true =>
    obtain ⟨r, rfl⟩ := List.isSuffixOf_iff_suffix.1 hs
    exact absurd (by rw [List.drop_left]; rfl) (h.2 r.length (by simp))
/-- ahead of the one behind, no reset begins -/
theorem tame_ahead (s : List UInt8) (h : Tame s) (i : Nat) (hi : i < s.length) : ((s ++ R).drop i).take 4 ≠ R := by
  intro he
  by_cases h4 : i + 4 ≤ s.length
  · refine h.2 i h4 ?_
    rw [List.drop_append_of_le_length (by omega), List.take_append_of_le_length (by rw [List.length_drop]; omega)] at he
    exact he
  · have hR : R.length = 4 := rfl
    have : (((s ++ R).drop i).take 4).getD (s.length - i) 0 = R.getD (s.length - i) 0 := by rw [he]
    rw [List.getD_eq_getElem?_getD, List.getElem?_take_of_lt (by omega), List.getElem?_drop, ← List.getD_eq_getElem?_getD, gr _ _ _ (by omega), show i + (s.length - i) - s.length = 0 by omega] at this
    rcases (by omega : s.length - i = 1 ∨ s.length - i = 2 ∨ s.length - i = 3) with e | e | e <;> rw [e] at this <;> revert this <;> decide
theorem index_at (s t : List UInt8) (p : Nat) (hs : s.length ≤ 1000000) (ht : t.length ≤ 1000000) (hp : p + t.length ≤ s.length) (h : ∀ i, i < p → (s.drop i).take t.length ≠ t) (hat : (s.drop p).take t.length = t) :
    ∀ d i : Nat, i + d = p → Ev (fun k => text_zzIndex.l0 k (str s) (str t) (i : Int)) (p : Int) := by
  have key : ∀ i : Nat, i + t.length ≤ s.length → (((str s).extract ((i : Int)).toNat ((i : Int) + (t.length : Int)).toNat).toList = (str t).toList ↔ (s.drop i).take t.length = t) := by
    intro i hi
    rw [extract_str, Small.toList_data, Small.toList_data, str_data, str_data]
    have e : ((i : Int) + (t.length : Int)).toNat - ((i : Int)).toNat = t.length := by omega
    rw [Int.toNat_natCast]
    rw [Int.toNat_natCast] at e
    first
      | rw [e]
      | rw [List.take_drop, show i + t.length = ((i : Int) + (t.length : Int)).toNat by omega]
  intro d
  induction d with
  | zero =>
    intro i hi
    obtain rfl : i = p := by omega
    refine Ev.shift ?_
    simp only [text_zzIndex.l0, str_size, wrap_in (show -9223372036854775808 ≤ (i : Int) + (t.length : Int) by omega) (by omega), if_pos (show (i : Int) + (t.length : Int) ≤ (s.length : Int) by omega), if_pos (show 0 ≤ (i : Int) by omega), if_pos (show (i : Int) ≤ (i : Int) + (t.length : Int) by omega), if_pos ((key i hp).2 hat)]
    exact Ev.now _
  | succ d ih =>
    intro i hi
    refine Ev.shift ?_
    simp only [text_zzIndex.l0, str_size, wrap_in (show -9223372036854775808 ≤ (i : Int) + (t.length : Int) by omega) (by omega), if_pos (show (i : Int) + (t.length : Int) ≤ (s.length : Int) by omega), if_pos (show 0 ≤ (i : Int) by omega), if_pos (show (i : Int) ≤ (i : Int) + (t.length : Int) by omega), if_neg (fun hh => h i (by omega) ((key i (by omega)).1 hh)), wrap_succ i (by omega)]
    exact ih (i + 1) (by omega)
theorem reset_at (s : List UInt8) (h : Tame s) : Ev (fun k => text_zzIndex.l0 k (str (s ++ R)) (str R) (0 : Int)) (s.length : Int) := by
  have hR : R.length = 4 := rfl
  exact index_at (s ++ R) R s.length (by rw [List.length_append]; have := h.1; omega) (by omega) (by rw [List.length_append]; omega) (fun i hi => by rw [hR]; exact tame_ahead s h i hi) (by rw [List.drop_left]; rfl) s.length 0 (by omega)
theorem contains_reset (s : List UInt8) (h : Tame s) : ∃ k, text_zzContains.f k (str (s ++ R)) (str R) = some true := by
  have : Ev (fun k => text_zzContains.f k (str (s ++ R)) (str R)) true := by
    unfold text_zzContains.f
    refine Ev.bind (reset_at s h) ?_
    simp only [decide_eq_true (show (s.length : Int) ≥ 0 by omega)]
    exact Ev.now _
  obtain ⟨K, hK⟩ := this
  exact ⟨K, hK K (Nat.le_refl _)⟩
theorem take_reset (s : List UInt8) (h : Tame s) : ∃ k, text_zzReplaceAll.f k (str (s ++ R)) (str R) (str []) = some (str s) := by
  have hl := h.1
  have hR : R.length = 4 := rfl
  have e1 : (str (s ++ R)).extract 0 (s.length : Int).toNat = str s := by
    rw [extract_str]
    simp
  have e2 : (str (s ++ R)).extract ((s.length : Int) + 4).toNat (s.length + 4) = str [] := by
    rw [extract_str, show ((s.length : Int) + 4).toNat = s.length + 4 by omega]
    congr 1
    apply List.eq_nil_of_length_eq_zero
    simp
  have hb : ∀ x : List UInt8, bytesOf (str x) = nb x := fun x => by rw [bytesOf_nb, str_data]
  have : Ev (fun k => text_zzReplaceAll.f k (str (s ++ R)) (str R) (str [])) (str s) := by
    unfold text_zzReplaceAll.f
    have hz : ¬ ((str R).size : Int) = 0 := by rw [str_size]; decide
    simp only [if_neg hz]
    refine Ev.shift ?_
    simp only [text_zzReplaceAll.l1]
    refine Ev.bind (reset_at s h) ?_
    simp only [if_neg (show ¬ (s.length : Int) < 0 by omega), if_pos (show 0 ≤ (s.length : Int) by omega), str_size, List.length_append, hR, if_pos (show (s.length : Int) ≤ ((s.length + 4 : Nat) : Int) by omega), e1, List.length_nil, if_pos (show 0 + s.length < 140737488355328 by omega), List.nil_append, Option.bind_some, hb]
    have hnb : (nb s).length = s.length := by simp [nb]
    have w1 : wrap64 ((s.length : Int) + ((4 : Nat) : Int)) = (s.length : Int) + 4 := wrap_in (by omega) (by omega)
    simp only [hnb, w1, if_pos (show s.length + 0 < 140737488355328 by omega), if_pos (show 0 ≤ (s.length : Int) + 4 by omega), if_pos (show (s.length : Int) + 4 ≤ ((s.length + 4 : Nat) : Int) by omega), e2]
    refine Ev.shift ?_
    simp only [text_zzReplaceAll.l1]
    refine Ev.bind (index_none [] R (by simp) (by omega) (fun i hi => by simp at hi) 1 0 (by simp)) ?_
    have e3 : nb s ++ nb [] = nb s := by simp [nb]
    simp only [if_pos (show (-1 : Int) < 0 by omega), str_size, List.length_nil, hb, e3, hnb, if_pos (show s.length + 0 < 140737488355328 by omega)]
    have e4 : strOfNums (nb s) = str s := by rw [strOfNums_nb]
    simp only [e4]
    exact Ev.now _
  obtain ⟨K, hK⟩ := this
  exact ⟨K, hK K (Nat.le_refl _)⟩
end Go.Proofs.YtenclpkeffhjaaaDoor.Esr
