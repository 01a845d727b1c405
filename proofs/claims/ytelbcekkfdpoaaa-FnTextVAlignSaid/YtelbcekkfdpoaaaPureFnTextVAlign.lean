/- Lines, no more than asked for, come with empty lines behind, around or ahead of them; asked of at most 300 lines. -/
-- ownproof
import Derived.Test.YtelbcekkfdpoaaaOpnFnTextVAlign
import Derived.Test.YtelbcekkfdpoaaaSmall
import Derived.OpenShut
namespace Go.Proofs.Ytelbcekkfdpoaaa.Pure
open Go.RowKit Go.Proofs.Ytelbcekkfdpoaaa.GFnTextVAlign Go.Proofs.Ytelbcekkfdpoaaa.Opn Go.Proofs.Ytelbcekkfdpoaaa.OpnFnTextVAlign Go.Proofs.YtelbcekkfdpoaaaW.PrintWords Go.Proofs.YtelbcekkfdpoaaaW.PrintLast Go.Proofs.YtelbcekkfdpoaaaW.PrintMore Go.Proofs.Ytelbcekkfdpoaaa.Small Go.Proofs.Ytelbcekkfdpoaaa.Itr

theorem va_fits4_l (l : List ByteArray) (hl : l.length ≤ 2147483647) : ∀ d i : Nat, i + d = l.length → ∃ b, Ev (fun k => laws_zzFits4.l0 k l (l.length : Int) (i : Int)) b := by
  intro d
  induction d with
  | zero =>
    intro i hi
    refine ⟨true, Ev.shift ?_⟩
    simp only [laws_zzFits4.l0, if_neg (show ¬ (i : Int) < (l.length : Int) by omega)]
    exact Ev.now _
  | succ d ih =>
    intro i hi
    by_cases c : ((rdOf ByteArray.empty l (i : Int)).size : Int) > 2147483647
    · refine ⟨false, Ev.shift ?_⟩
      simp only [laws_zzFits4.l0, if_pos (show (i : Int) < (l.length : Int) by omega), if_pos (show 0 ≤ (i : Int) by omega), if_pos c]
      exact Ev.now _
    · obtain ⟨b, hb⟩ := ih (i + 1) (by omega)
      refine ⟨b, Ev.shift ?_⟩
      simp only [laws_zzFits4.l0, if_pos (show (i : Int) < (l.length : Int) by omega), if_pos (show 0 ≤ (i : Int) by omega), if_neg c, wrap_succ i (by omega)]
      exact hb
theorem va_fits4 (l : List ByteArray) : ∃ b, Ev (fun k => laws_zzFits4.f k l) b := by
  by_cases c : (l.length : Int) > 2147483647
  · refine ⟨false, ?_⟩
    simp only [laws_zzFits4.f, if_pos c]
    exact Ev.now _
  · obtain ⟨b, hb⟩ := va_fits4_l l (by omega) l.length 0 (by omega)
    refine ⟨b, ?_⟩
    simp only [laws_zzFits4.f, if_neg c]
    exact hb

/-- No line. -/
def E : ByteArray := ⟨#[]⟩
theorem empty_n (n : Nat) (h : n ≤ 1000) : laws_txEmpty.f (n : Int) = some (List.replicate n E) := by
  have hm : mx (n : Int) 0 = (n : Int) := by unfold mx; rw [if_neg (by omega)]
  simp only [laws_txEmpty.f, hm, if_pos (show 0 ≤ (n : Int) by omega), Int.toNat_natCast, if_pos (show n ≤ 17592186044416 by omega)]
  rfl

/-! ### the same texts -/
theorem va_same_l (w : List ByteArray) (hw : w.length < 1000) : ∀ d j : Nat, j + d = w.length → Ev (fun k => spec_TxSameTexts.l0 k w w (w.length : Int) (j : Int)) true := by
  intro d
  induction d with
  | zero =>
    intro j hj
    refine Ev.shift ?_
    simp only [spec_TxSameTexts.l0, if_neg (show ¬ (j : Int) < (w.length : Int) by omega)]
    exact Ev.now _
  | succ d ih =>
    intro j hj
    refine Ev.shift ?_
    simp only [spec_TxSameTexts.l0, if_pos (show (j : Int) < (w.length : Int) by omega), if_pos (show 0 ≤ (j : Int) by omega), if_true, wrap_succ j (by omega)]
    exact ih (j + 1) (by omega)
theorem va_same (w : List ByteArray) (hw : w.length < 1000) : Ev (fun k => spec_TxSameTexts.f k w w) true := by
  simp only [spec_TxSameTexts.f, if_true]
  exact va_same_l w hw w.length 0 (by omega)

/-! ### so many line feeds, split at line feeds -/
theorem index_some (n : Nat) (hn : n ≤ 1000) : Ev (fun k => text_zzIndex.f k (str (List.replicate (n + 1) 10)) ⟨#[10]⟩) 0 := by
  unfold text_zzIndex.f
  refine Ev.shift ?_
  have h1 : ((⟨#[10]⟩ : ByteArray).size : Int) = 1 := rfl
  have h2 : ((str (List.replicate (n + 1) 10)).size : Int) = n + 1 := by rw [str_size]; simp
  have e : ((str (List.replicate (n + 1) 10)).extract (0 : Int).toNat (wrap64 (0 + 1)).toNat).toList = (⟨#[10]⟩ : ByteArray).toList := by
    rw [wrap_in (by omega) (by omega), extract_str, toList_str, toList_data]
    simp [List.replicate_succ]
  simp only [text_zzIndex.l0, h1, h2]
  rw [wrap_in (by omega) (by omega)] at e ⊢
  simp only [if_pos (show (0 : Int) + 1 ≤ (n : Int) + 1 by omega), if_pos (show (0 : Int) ≤ 0 by omega), if_pos (show (0 : Int) ≤ 0 + 1 by omega), if_pos e]
  exact Ev.now _
theorem index_none : Ev (fun k => text_zzIndex.f k (str []) ⟨#[10]⟩) (-1) := by
  unfold text_zzIndex.f
  refine Ev.shift ?_
  have h1 : ((⟨#[10]⟩ : ByteArray).size : Int) = 1 := rfl
  have h2 : ((str []).size : Int) = 0 := rfl
  simp only [text_zzIndex.l0, h1, h2]
  rw [wrap_in (by omega) (by omega)]
  simp only [if_neg (show ¬ (0 : Int) + 1 ≤ 0 by omega)]
  exact Ev.now _
theorem split_l : ∀ n : Nat, n ≤ 1000 → ∀ out : List ByteArray, out.length ≤ 2000 - n → Ev (fun k => text_zzSplit.l1 k (str (List.replicate n 10)) ⟨#[10]⟩ out) (out ++ List.replicate (n + 1) E) := by
  intro n
  induction n with
  | zero =>
    intro _ out ho
    refine Ev.shift ?_
    simp only [text_zzSplit.l1]
    refine Ev.bind index_none ?_
    simp only [if_pos (show (-1 : Int) < 0 by omega), if_pos (show out.length < 8796093022208 by omega)]
    exact Ev.now _
  | succ n ih =>
    intro hn out ho
    refine Ev.shift ?_
    simp only [text_zzSplit.l1]
    refine Ev.bind (index_some n (by omega)) ?_
    have h1 : ((⟨#[10]⟩ : ByteArray).size : Int) = 1 := rfl
    have h3 : (str (List.replicate (n + 1) 10)).size = n + 1 := by rw [str_size]; simp
    have e1 : (str (List.replicate (n + 1) 10)).extract 0 (0 : Int).toNat = E := by rw [extract_str]; rfl
    have e2 : (str (List.replicate (n + 1) 10)).extract (wrap64 (0 + 1)).toNat (n + 1) = str (List.replicate n 10) := by
      rw [wrap_in (by omega) (by omega), extract_str]
      congr 1
      simp [List.replicate_succ, List.take_of_length_le]
    simp only [h1, h3, e1, e2]
    rw [wrap_in (by omega) (by omega)]
    simp only [if_neg (show ¬ (0 : Int) < 0 by omega), if_pos (show (0 : Int) ≤ 0 by omega), if_pos (show (0 : Int) ≤ ((n + 1 : Nat) : Int) by omega), if_pos (show out.length < 8796093022208 by omega), if_pos (show 0 ≤ (0 : Int) + 1 by omega), if_pos (show (0 : Int) + 1 ≤ ((n + 1 : Nat) : Int) by omega)]
    have h := ih (by omega) (out ++ [E]) (by simp; omega)
    rw [List.append_assoc] at h
    exact h
theorem split (n : Nat) (hn : n ≤ 1000) : Ev (fun k => text_zzSplit.f k (str (List.replicate n 10)) ⟨#[10]⟩) (List.replicate (n + 1) E) := by
  have h1 : ((⟨#[10]⟩ : ByteArray).size : Int) = 1 := rfl
  simp only [text_zzSplit.f, h1, if_neg (show ¬ (1 : Int) = 0 by omega)]
  exact split_l n hn [] (by simp)

/-! ### the lines laid over empty ones -/
theorem set_mid (A B : List ByteArray) (x y : ByteArray) (k : Nat) (h : A.length = k) : (A ++ y :: B).set k x = A ++ x :: B := by subst h; simp
theorem lay_l (l : List ByteArray) (p q : Nat) (hp : p ≤ 1000) (hl : l.length ≤ 1000) : ∀ d i : Nat, i + d = l.length →
    Ev (fun k => text_VAlign_Apply.l0 k (p : Int) (List.replicate p E ++ l.take i ++ List.replicate (d + q) E) l (l.length : Int) (i : Int)) (List.replicate p E ++ l ++ List.replicate q E) := by
  intro d
  induction d with
  | zero =>
    intro i hi
    refine Ev.shift ?_
    simp only [text_VAlign_Apply.l0, if_neg (show ¬ (i : Int) < (l.length : Int) by omega)]
    obtain rfl : i = l.length := by omega
    simpa using Ev.now _
  | succ d ih =>
    intro i hi
    refine Ev.shift ?_
    have hw : wrap64 ((i : Int) + (p : Int)) = ((i + p : Nat) : Int) := by rw [wrap_in (by omega) (by omega)]; omega
    have hlen : (List.replicate p E ++ l.take i ++ List.replicate (d + 1 + q) E).length = p + i + (d + 1 + q) := by simp; omega
    have e : (List.replicate p E ++ l.take i ++ List.replicate (d + 1 + q) E).set (i + p) (rdOf ByteArray.empty l (i : Int)) = List.replicate p E ++ l.take (i + 1) ++ List.replicate (d + q) E := by
      rw [rdOf_nat, getD_at _ _ _ (by omega), take_succ_at _ _ (by omega), show d + 1 + q = (d + q) + 1 by omega, List.replicate_succ, set_mid _ _ _ _ _ (by simp; omega)]
      simp only [List.append_assoc, List.cons_append, List.nil_append]
    simp only [text_VAlign_Apply.l0, if_pos (show (i : Int) < (l.length : Int) by omega), if_pos (show 0 ≤ (i : Int) by omega), hw, hlen, Int.toNat_natCast, if_pos (show 0 ≤ ((i + p : Nat) : Int) by omega), if_pos (show ((i + p : Nat) : Int) < ((p + i + (d + 1 + q) : Nat) : Int) by omega), e, wrap_succ i (by omega)]
    exact ih (i + 1) (by omega)

/-- How many empty lines come ahead. -/
def ahead (a : Int) (m : Nat) : Nat := if a = 2 then m / 2 else if a = 3 then m else 0
theorem ahead_le (a : Int) (m : Nat) : ahead a m ≤ m := by
  unfold ahead
  split
  · omega
  · split <;> omega

theorem apply_j1 (l : List ByteArray) (n p : Nat) (hn : n ≤ 300) (h1 : 1 ≤ n) (hp : p + l.length ≤ n) : Ev (fun k => text_VAlign_Apply.j1 k l (n : Int) (p : Int)) (List.replicate p E ++ l ++ List.replicate (n - l.length - p) E) := by
  refine Ev.shift ?_
  have hw : wrap64 ((n : Int) - 1) = ((n - 1 : Nat) : Int) := by rw [wrap_in (by omega) (by omega)]; omega
  have hr : strings_Repeat.f (⟨#[10]⟩ : ByteArray) ((n - 1 : Nat) : Int) = some (str (List.replicate (n - 1) 10)) := by
    unfold strings_Repeat.f
    rw [if_pos ⟨by omega, by omega, by rw [Int.toNat_natCast]; show 1 * _ ≤ _; omega⟩, Int.toNat_natCast]
    show some (str (Lib.repeatL [10] (n - 1))) = _
    rw [repeatL_one]
  simp only [text_VAlign_Apply.j1, hw, hr, Option.bind_some]
  refine Ev.bind (split (n - 1) (by omega)) ?_
  have h := lay_l l p (n - l.length - p) (by omega) (by omega) l.length 0 (by omega)
  have e : List.replicate p E ++ List.take 0 l ++ List.replicate (l.length + (n - l.length - p)) E = List.replicate (n - 1 + 1) E := by
    rw [List.take_zero, List.append_nil, List.replicate_append_replicate]
    congr 1
    omega
  rw [e] at h
  exact h
theorem apply_any (a : Int) (l : List ByteArray) (n : Nat) (hn : n ≤ 300) (hl : l.length ≤ n) :
    Ev (fun k => impl_TextVAlign.f k a l (n : Int)) (List.replicate (ahead a (n - l.length)) E ++ l ++ List.replicate (n - l.length - ahead a (n - l.length)) E) := by
  unfold impl_TextVAlign.f
  simp only [Option.bind_some, List.length_nil, Nat.zero_add, List.nil_append, if_pos (show l.length < 8796093022208 by omega)]
  refine Ev.bind ?_ (Ev.now _)
  unfold text_VAlign_Apply.f
  by_cases c : l.length = n
  · have h0 : n - l.length = 0 := by omega
    have h1 : ahead a 0 = 0 := by have := ahead_le a 0; omega
    simp only [if_pos (show (l.length : Int) = (n : Int) by omega), h0, h1]
    simpa using Ev.now _
  · simp only [if_neg (show ¬ (l.length : Int) = (n : Int) by omega), if_neg (show ¬ (l.length : Int) > (n : Int) by omega)]
    refine Ev.shift ?_
    have hw : wrap64 ((n : Int) - (l.length : Int)) = ((n - l.length : Nat) : Int) := by rw [wrap_in (by omega) (by omega)]; omega
    have hd : wrap64 (Int.tdiv ((n - l.length : Nat) : Int) 2) = (((n - l.length) / 2 : Nat) : Int) := by
      rw [Int.tdiv_eq_ediv_of_nonneg (by omega), wrap_in (by omega) (by omega)]; omega
    simp only [text_VAlign_Apply.j0, if_neg (show ¬ (n : Int) < 1 by omega), hw, hd]
    have hle := ahead_le a (n - l.length)
    have h := apply_j1 l n (ahead a (n - l.length)) hn (by omega) (by omega)
    by_cases c2 : a = 2
    · simp only [if_pos c2]
      simp only [ahead, if_pos c2] at h ⊢
      exact h
    · simp only [if_neg c2]
      by_cases c3 : a = 3
      · simp only [if_pos c3]
        simp only [ahead, if_neg c2, if_pos c3] at h ⊢
        exact h
      · simp only [if_neg c3]
        simp only [ahead, if_neg c2, if_neg c3] at h ⊢
        exact h

theorem va_j0 (a : Int) (l : List ByteArray) (n : Int) (b : Bool) (ha : 0 ≤ a) (h : b = false → (l.length : Int) ≤ n ∧ n ≤ 300) : Ev (fun k => laws_FnTextVAlign.j0 k a l n b) true := by
  refine Ev.shift ?_
  cases b with
  | true => simp only [laws_FnTextVAlign.j0, if_true]; exact Ev.now _
  | false =>
    obtain ⟨h1, h2⟩ := h rfl
    obtain ⟨m, rfl⟩ := Int.eq_ofNat_of_zero_le (show 0 ≤ n by omega)
    have hl : l.length ≤ m := by omega
    have hw : wrap64 ((m : Int) - (l.length : Int)) = ((m - l.length : Nat) : Int) := by rw [wrap_in (by omega) (by omega)]; omega
    have hd : wrap64 (Int.tdiv ((m - l.length : Nat) : Int) 2) = (((m - l.length) / 2 : Nat) : Int) := by
      rw [Int.tdiv_eq_ediv_of_nonneg (by omega), wrap_in (by omega) (by omega)]; omega
    have hr : wrap64 (((m - l.length : Nat) : Int) - (((m - l.length) / 2 : Nat) : Int)) = ((m - l.length - (m - l.length) / 2 : Nat) : Int) := by rw [wrap_in (by omega) (by omega)]; omega
    simp only [laws_FnTextVAlign.j0, Bool.false_eq_true, if_false, Option.bind_some, List.length_nil, Nat.zero_add, List.nil_append, if_pos (show l.length < 8796093022208 by omega), hw, hd, hr, empty_n _ (show m - l.length ≤ 1000 by omega), empty_n _ (show (m - l.length) / 2 ≤ 1000 by omega), empty_n _ (show m - l.length - (m - l.length) / 2 ≤ 1000 by omega), List.length_replicate, List.length_append]
    simp only [if_pos (show l.length + (m - l.length) < 8796093022208 by omega), if_pos (show m - l.length + l.length < 8796093022208 by omega), if_pos (show (m - l.length) / 2 + l.length < 8796093022208 by omega), if_pos (show (m - l.length) / 2 + l.length + (m - l.length - (m - l.length) / 2) < 8796093022208 by omega), if_pos (show m - l.length - (m - l.length) / 2 + l.length < 8796093022208 by omega), if_pos (show m - l.length - (m - l.length) / 2 + l.length + (m - l.length) / 2 < 8796093022208 by omega)]
    have em : Int.tmod a 4 = a % 4 := Int.tmod_eq_emod_of_nonneg ha
    rw [em]
    have hc : a % 4 = 0 ∨ a % 4 = 1 ∨ a % 4 = 2 ∨ a % 4 = 3 := by omega
    have hA := fun z => apply_any z l m (by omega) hl
    have z0 : List.replicate (ahead 0 (m - l.length)) E ++ l ++ List.replicate (m - l.length - ahead 0 (m - l.length)) E = l ++ List.replicate (m - l.length) E := by simp [ahead]
    have z1 : List.replicate (ahead 1 (m - l.length)) E ++ l ++ List.replicate (m - l.length - ahead 1 (m - l.length)) E = l ++ List.replicate (m - l.length) E := by simp [ahead]
    have z3 : List.replicate (ahead 3 (m - l.length)) E ++ l ++ List.replicate (m - l.length - ahead 3 (m - l.length)) E = List.replicate (m - l.length) E ++ l := by simp [ahead]
    have z2 : List.replicate (ahead 2 (m - l.length)) E ++ l ++ List.replicate (m - l.length - ahead 2 (m - l.length)) E = List.replicate ((m - l.length) / 2) E ++ l ++ List.replicate (m - l.length - (m - l.length) / 2) E := by simp [ahead]
    have A0 := hA 0; rw [z0] at A0
    have A1 := hA 1; rw [z1] at A1
    have A2 := hA 2; rw [z2] at A2
    have A3 := hA 3; rw [z3] at A3
    rcases hc with e | e | e | e <;> rw [e]
    · simp only [if_true]
      exact Ev.bind A0 (Ev.bind (va_same _ (by simp; omega)) (Ev.now _))
    · simp only [if_neg (show ¬ (1 : Int) = 0 by omega), if_true]
      exact Ev.bind A1 (Ev.bind (va_same _ (by simp; omega)) (Ev.now _))
    · simp only [if_neg (show ¬ (2 : Int) = 0 by omega), if_neg (show ¬ (2 : Int) = 1 by omega), if_true]
      exact Ev.bind A3 (Ev.bind (va_same _ (by simp; omega)) (Ev.now _))
    · simp only [if_neg (show ¬ (3 : Int) = 0 by omega), if_neg (show ¬ (3 : Int) = 1 by omega), if_neg (show ¬ (3 : Int) = 2 by omega)]
      refine Ev.bind A2 (Ev.bind (va_same _ (by simp; omega)) ?_)
      simp only [if_true]
      exact Ev.now _

theorem FnTextVAlign : OpnFnTextVAlign.Pure := by
  intro a l n w0 _ _ w2
  have hb : 0 ≤ a ∧ a ≤ 255 := by simpa using Go.bounds_u8 w0
  refine Ev.rounds (g := fun k => laws_FnTextVAlign.f k a l n) ?_
  unfold laws_FnTextVAlign.f
  obtain ⟨b, hf⟩ := va_fits4 l
  refine Ev.bind hf ?_
  cases b with
  | false => simp only [Bool.false_eq_true, if_false]; exact Ev.now _
  | true =>
    simp only [if_true]
    by_cases c : (l.length : Int) > n
    · simp only [if_pos c]; exact va_j0 a l n true hb.1 (by simp)
    · simp only [if_neg c]
      refine va_j0 a l n _ hb.1 ?_
      intro e
      have : ¬ n > 300 := by simpa using e
      exact ⟨by omega, by omega⟩

end Go.Proofs.Ytelbcekkfdpoaaa.Pure
