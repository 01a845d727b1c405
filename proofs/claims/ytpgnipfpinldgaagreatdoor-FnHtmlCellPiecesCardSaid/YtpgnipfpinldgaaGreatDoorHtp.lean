/- Texts in HTML, in plain Lean: what is written for each octet, and line ends replaced. -/
import Derived.Test.YtpgnipfpinldgaaGreatDoorGHtBodyx
import Derived.Test.YtpgnipfpinldgaaGreatDoorSmall
namespace Go.Proofs.YtpgnipfpinldgaaGreatDoor.Htp
open Go Go.RowKit Go.Proofs.YtpgnipfpinldgaaGreatDoor.GHtBody Go.Proofs.YtpgnipfpinldgaaGreatDoorW.PrintWords Go.Proofs.YtpgnipfpinldgaaGreatDoorW.PrintLast Go.Proofs.YtpgnipfpinldgaaGreatDoorW.PrintMore Go.Proofs.YtpgnipfpinldgaaGreatDoor.Small

def escB (b : UInt8) : List UInt8 :=
  if b = 60 then [38, 108, 116, 59] else if b = 62 then [38, 103, 116, 59] else if b = 38 then [38, 97, 109, 112, 59] else if b = 39 then [38, 35, 51, 57, 59] else if b = 34 then [38, 35, 51, 52, 59] else [b]
def escL (s : List UInt8) : List UInt8 := s.flatMap escB
theorem escB_len (b : UInt8) : (escB b).length ≤ 5 := by
  unfold escB
  repeat' split
  all_goals simp
theorem escL_len (s : List UInt8) : (escL s).length ≤ 5 * s.length := by
  induction s with
  | nil => simp [escL]
  | cons b s ih =>
    have := escB_len b
    have e : escL (b :: s) = escB b ++ escL s := rfl
    rw [e, List.length_append, List.length_cons]; omega
theorem escL_append (a b : List UInt8) : escL (a ++ b) = escL a ++ escL b := by unfold escL; rw [List.flatMap_append]
theorem escL_snoc (s : List UInt8) (i : Nat) (h : i < s.length) : escL (s.take (i + 1)) = escL (s.take i) ++ escB s[i] := by
  rw [take_succ_at s i h, escL_append]
  congr 1
  simp [escL]
theorem bt_str (s : List UInt8) (i : Nat) (h : i < s.length) : bt (str s) (i : Int) = (s[i].toNat : Int) := by
  unfold bt
  rw [dif_pos (by rw [str_size]; simpa using h)]
  have e : (i : Int).toNat = i := Int.toNat_natCast i
  congr 2
theorem byte_ne {b c : UInt8} (h : b ≠ c) : ¬ ((b.toNat : Int) = (c.toNat : Int)) := fun hh => h (UInt8.toNat_inj.1 (by omega))
theorem esc_l (s : List UInt8) (hs : s.length ≤ 100000) : ∀ d i : Nat, i + d = s.length → Ev (fun k => table_zzEscape.l0 k (str s) (nb (escL (s.take i))) (i : Int)) (str (escL s)) := by
  intro d
  induction d with
  | zero =>
    intro i hi
    refine Ev.shift ?_
    have e : s.take i = s := List.take_of_length_le (by omega)
    simp only [table_zzEscape.l0, str_size, if_neg (show ¬ (i : Int) < (s.length : Int) by omega), e, strOfNums_nb]
    exact Ev.now _
  | succ d ih =>
    intro i hi
    have hil : i < s.length := by omega
    have hn := ih (i + 1) (by omega)
    rw [escL_snoc s i hil, nb_append] at hn
    have hlen : (nb (escL (s.take i))).length ≤ 500000 := by
      rw [nb_length]
      have := escL_len (s.take i)
      rw [List.length_take] at this; omega
    refine Ev.shift ?_
    simp only [table_zzEscape.l0, str_size, if_pos (show (i : Int) < (s.length : Int) by omega), if_pos (show 0 ≤ (i : Int) by omega), bt_str s i hil, wrap_succ i (by omega)]
    revert hn
    generalize s[i] = b
    intro hn
    by_cases h60 : b = 60
    · subst h60
      simp only [if_pos (show (((60 : UInt8).toNat : Nat) : Int) = 60 from rfl), if_pos (show (nb (escL (s.take i))).length + 4 < 140737488355328 by omega)]
      exact hn
    · simp only [if_neg (show ¬ ((b.toNat : Int) = 60) from byte_ne h60)]
      by_cases h62 : b = 62
      · subst h62
        simp only [if_pos (show (((62 : UInt8).toNat : Nat) : Int) = 62 from rfl), if_pos (show (nb (escL (s.take i))).length + 4 < 140737488355328 by omega)]
        exact hn
      · simp only [if_neg (show ¬ ((b.toNat : Int) = 62) from byte_ne h62)]
        by_cases h38 : b = 38
        · subst h38
          simp only [if_pos (show (((38 : UInt8).toNat : Nat) : Int) = 38 from rfl), if_pos (show (nb (escL (s.take i))).length + 5 < 140737488355328 by omega)]
          exact hn
        · simp only [if_neg (show ¬ ((b.toNat : Int) = 38) from byte_ne h38)]
          by_cases h39 : b = 39
          · subst h39
            simp only [if_pos (show (((39 : UInt8).toNat : Nat) : Int) = 39 from rfl), if_pos (show (nb (escL (s.take i))).length + 5 < 140737488355328 by omega)]
            exact hn
          · simp only [if_neg (show ¬ ((b.toNat : Int) = 39) from byte_ne h39)]
            by_cases h34 : b = 34
            · subst h34
              simp only [if_pos (show (((34 : UInt8).toNat : Nat) : Int) = 34 from rfl), if_pos (show (nb (escL (s.take i))).length + 5 < 140737488355328 by omega)]
              exact hn
            · simp only [if_neg (show ¬ ((b.toNat : Int) = 34) from byte_ne h34), if_pos (show (nb (escL (s.take i))).length < 140737488355328 by omega)]
              have e : escB b = [b] := by unfold escB; rw [if_neg h60, if_neg h62, if_neg h38, if_neg h39, if_neg h34]
              rw [e] at hn
              exact hn
theorem esc (s : List UInt8) (hs : s.length ≤ 100000) : ∃ k, table_zzEscape.f k (str s) = some (str (escL s)) := by
  have : Ev (fun k => table_zzEscape.f k (str s)) (str (escL s)) := by
    have := esc_l s hs s.length 0 (by omega)
    simp only [table_zzEscape.f]
    exact this
  obtain ⟨K, hK⟩ := this
  exact ⟨K, hK K (Nat.le_refl _)⟩

/-! ### line ends replaced -/
def rep (q s : List UInt8) : List UInt8 := s.flatMap fun b => if b = 10 then q else [b]
theorem rep_append (q a b : List UInt8) : rep q (a ++ b) = rep q a ++ rep q b := by unfold rep; rw [List.flatMap_append]
theorem rep_none (q s : List UInt8) (h : ∀ b ∈ s, b ≠ 10) : rep q s = s := by
  induction s with
  | nil => rfl
  | cons b s ih =>
    have e : rep q (b :: s) = (if b = 10 then q else [b]) ++ rep q s := rfl
    rw [e, if_neg (h b (by simp)), ih (fun c hc => h c (by simp [hc]))]; rfl
theorem rep_len (q s : List UInt8) : (rep q s).length ≤ (q.length + 1) * s.length := by
  induction s with
  | nil => simp [rep]
  | cons b s ih =>
    have e : rep q (b :: s) = (if b = 10 then q else [b]) ++ rep q s := rfl
    have h1 : (if b = 10 then q else [b]).length ≤ q.length + 1 := by split <;> simp
    rw [e, List.length_append, List.length_cons, Nat.mul_add, Nat.mul_one]; omega
/-- what is written for a text -/
def htm (e : Bool) (q s : List UInt8) : List UInt8 := if q = [10] then (if e = true then escL s else s) else rep q (if e = true then escL s else s)
theorem htm_append (e : Bool) (q a b : List UInt8) : htm e q (a ++ b) = htm e q a ++ htm e q b := by
  unfold htm
  cases e <;> split <;> simp [escL_append, rep_append]
theorem index_none (s t : List UInt8) (hs : s.length ≤ 1000000) (ht : t.length ≤ 1000000) (h : ∀ i, i + t.length ≤ s.length → (s.drop i).take t.length ≠ t) : ∀ d i : Nat, i + d = s.length + 1 → Ev (fun k => table_zzIndex.l0 k (str s) (str t) (i : Int)) (-1) := by
  intro d
  induction d with
  | zero =>
    intro i hi
    refine Ev.shift ?_
    simp only [table_zzIndex.l0, str_size, wrap_in (show -9223372036854775808 ≤ (i : Int) + (t.length : Int) by omega) (by omega), if_neg (show ¬ (i : Int) + (t.length : Int) ≤ (s.length : Int) by omega)]
    exact Ev.now _
  | succ d ih =>
    intro i hi
    refine Ev.shift ?_
    by_cases h1 : (i : Int) + (t.length : Int) ≤ (s.length : Int)
    · have h2 : ¬ ((str s).extract ((i : Int)).toNat ((i : Int) + (t.length : Int)).toNat).toList = (str t).toList := by
        rw [extract_str, toList_data, toList_data, str_data, str_data]
        have e : ((i : Int) + (t.length : Int)).toNat - ((i : Int)).toNat = t.length := by omega
        rw [Int.toNat_natCast]
        rw [Int.toNat_natCast] at e
        intro hh
        refine h i (by omega) ?_
        first
          | (rw [e] at hh; exact hh)
          | (rw [List.take_drop, show i + t.length = ((i : Int) + (t.length : Int)).toNat by omega]; exact hh)
      simp only [table_zzIndex.l0, str_size, wrap_in (show -9223372036854775808 ≤ (i : Int) + (t.length : Int) by omega) (by omega), if_pos h1, if_pos (show 0 ≤ (i : Int) by omega), if_pos (show (i : Int) ≤ (i : Int) + (t.length : Int) by omega), if_neg h2, wrap_succ i (by omega)]
      exact ih (i + 1) (by omega)
    · simp only [table_zzIndex.l0, str_size, wrap_in (show -9223372036854775808 ≤ (i : Int) + (t.length : Int) by omega) (by omega), if_neg h1]
      exact Ev.now _
theorem index_at (s t : List UInt8) (p : Nat) (hs : s.length ≤ 1000000) (ht : t.length ≤ 1000000) (hp : p + t.length ≤ s.length) (h : ∀ i, i < p → (s.drop i).take t.length ≠ t) (hat : (s.drop p).take t.length = t) :
    ∀ d i : Nat, i + d = p → Ev (fun k => table_zzIndex.l0 k (str s) (str t) (i : Int)) (p : Int) := by
  have key : ∀ i : Nat, i + t.length ≤ s.length → (((str s).extract ((i : Int)).toNat ((i : Int) + (t.length : Int)).toNat).toList = (str t).toList ↔ (s.drop i).take t.length = t) := by
    intro i hi
    rw [extract_str, Small.toList_data, Small.toList_data, str_data, str_data]
    have e : ((i : Int) + (t.length : Int)).toNat - ((i : Int)).toNat = t.length := by omega
    rw [Int.toNat_natCast]
    rw [Int.toNat_natCast] at e
    first
      | rw [e]
      | rw [List.take_drop, show i + t.length = ((i : Int) + (t.length : Int)).toNat by omega]
  intro d
  induction d with
  | zero =>
    intro i hi
    obtain rfl : i = p := by omega
    refine Ev.shift ?_
    simp only [table_zzIndex.l0, str_size, wrap_in (show -9223372036854775808 ≤ (i : Int) + (t.length : Int) by omega) (by omega), if_pos (show (i : Int) + (t.length : Int) ≤ (s.length : Int) by omega), if_pos (show 0 ≤ (i : Int) by omega), if_pos (show (i : Int) ≤ (i : Int) + (t.length : Int) by omega), if_pos ((key i hp).2 hat)]
    exact Ev.now _
  | succ d ih =>
    intro i hi
    refine Ev.shift ?_
    simp only [table_zzIndex.l0, str_size, wrap_in (show -9223372036854775808 ≤ (i : Int) + (t.length : Int) by omega) (by omega), if_pos (show (i : Int) + (t.length : Int) ≤ (s.length : Int) by omega), if_pos (show 0 ≤ (i : Int) by omega), if_pos (show (i : Int) ≤ (i : Int) + (t.length : Int) by omega), if_neg (fun hh => h i (by omega) ((key i (by omega)).1 hh)), wrap_succ i (by omega)]
    exact ih (i + 1) (by omega)
/-- a text without the octet, or one up to its first -/
theorem first_of (s : List UInt8) : (∀ b ∈ s, b ≠ 10) ∨ ∃ a r, s = a ++ 10 :: r ∧ ∀ b ∈ a, b ≠ 10 := by
  induction s with
  | nil => exact Or.inl (by simp)
  | cons b s ih =>
    by_cases hb : b = 10
    · exact Or.inr ⟨[], s, by rw [hb]; rfl, by simp⟩
    · rcases ih with h | ⟨a, r, rfl, h⟩
      · refine Or.inl fun c hc => ?_
        rcases List.mem_cons.1 hc with rfl | hc
        · exact hb
        · exact h c hc
      · refine Or.inr ⟨b :: a, r, rfl, fun c hc => ?_⟩
        rcases List.mem_cons.1 hc with rfl | hc
        · exact hb
        · exact h c hc
theorem take1 (s : List UInt8) (i : Nat) (h : i < s.length) : (s.drop i).take 1 = [s[i]] := by
  rw [List.drop_eq_getElem_cons h]; rfl
theorem replace_l (q : List UInt8) : ∀ n : Nat, ∀ s : List UInt8, s.length = n → ∀ out : List UInt8, out.length + (q.length + 1) * s.length ≤ 1000000 →
    Ev (fun k => table_zzReplaceAll.l1 k (str s) (str [10]) (str q) (nb out)) (str (out ++ rep q s)) := by
  intro n
  induction n using Nat.strongRecOn with
  | ind n ih =>
    intro s hs out hb
    have hsl : s.length ≤ (q.length + 1) * s.length := Nat.le_mul_of_pos_left _ (by omega)
    have hb1 : bytesOf (str s) = nb s := by rw [bytesOf_nb, str_data]
    rcases first_of s with h | ⟨a, r, rfl, ha⟩
    · rw [rep_none q s h]
      refine Ev.shift ?_
      simp only [table_zzReplaceAll.l1]
      refine Ev.bind (index_none s [10] (by omega) (by simp) (fun i hi hh => ?_) (s.length + 1) 0 (by omega)) ?_
      · have hi' : i < s.length := by rw [List.length_singleton] at hi; omega
        rw [List.length_singleton, take1 s i hi'] at hh
        exact h s[i] (List.getElem_mem _) (by simpa using hh)
      · simp only [if_pos (show (-1 : Int) < 0 by omega), str_size, nb_length, if_pos (show out.length + s.length < 140737488355328 by omega), hb1]
        rw [← nb_append, strOfNums_nb]
        exact Ev.now _
    · have hal : (a ++ 10 :: r).length = a.length + 1 + r.length := by simp only [List.length_append, List.length_cons]; omega
      have e0 : rep q (a ++ 10 :: r) = a ++ q ++ rep q r := by
        rw [rep_append, rep_none q a ha]
        have e : rep q (10 :: r) = q ++ rep q r := rfl
        rw [e, List.append_assoc]
      have e1 : (str (a ++ 10 :: r)).extract 0 (a.length : Int).toNat = str a := by
        rw [extract_str]; simp
      have e2 : (str (a ++ 10 :: r)).extract ((a.length : Int) + 1).toNat (a.length + 1 + r.length) = str r := by
        rw [extract_str, show ((a.length : Int) + 1).toNat = a.length + 1 by omega]
        congr 1
        rw [show a ++ 10 :: r = (a ++ [10]) ++ r by simp, List.drop_left' (by simp), List.take_of_length_le (by omega)]
      have hn : (q.length + 1) * (a.length + 1 + r.length) = (q.length + 1) * a.length + (q.length + 1) + (q.length + 1) * r.length := by rw [Nat.mul_add, Nat.mul_add, Nat.mul_one]
      have hA : a.length ≤ (q.length + 1) * a.length := Nat.le_mul_of_pos_left _ (by omega)
      rw [hal] at hb hsl
      have hR := ih r.length (by omega) r rfl (out ++ a ++ q) (by simp only [List.length_append]; omega)
      rw [e0, show out ++ (a ++ q ++ rep q r) = out ++ a ++ q ++ rep q r by simp only [List.append_assoc]]
      have hidx : Ev (fun k => table_zzIndex.f k (str (a ++ 10 :: r)) (str [10])) (a.length : Int) := by
        have := index_at (a ++ 10 :: r) [10] a.length (by omega) (by simp) (by simp only [List.length_singleton]; omega) (fun i hi hh => by
          rw [List.length_singleton, take1 _ i (by omega)] at hh
          have h1 : (a ++ 10 :: r)[i]'(by omega) = a[i] := List.getElem_append_left hi
          rw [h1] at hh
          exact ha a[i] (List.getElem_mem _) (by simpa using hh)) (by rw [List.drop_left]; rfl) a.length 0 (by omega)
        simp only [table_zzIndex.f]
        exact this
      have hba : bytesOf (str a) = nb a := by rw [bytesOf_nb, str_data]
      have hbq : bytesOf (str q) = nb q := by rw [bytesOf_nb, str_data]
      have w1 : wrap64 ((a.length : Int) + ((1 : Nat) : Int)) = (a.length : Int) + 1 := wrap_in (by omega) (by omega)
      have hone : ([10] : List UInt8).length = 1 := rfl
      refine Ev.shift ?_
      simp only [table_zzReplaceAll.l1]
      refine Ev.bind hidx ?_
      simp only [if_neg (show ¬ (a.length : Int) < 0 by omega), if_pos (show 0 ≤ (a.length : Int) by omega), str_size, hal, hone, if_pos (show (a.length : Int) ≤ ((a.length + 1 + r.length : Nat) : Int) by omega), e1, nb_length,
        if_pos (show out.length + a.length < 140737488355328 by omega), Option.bind_some, hba, hbq, List.length_append, if_pos (show out.length + a.length + q.length < 140737488355328 by omega), w1, if_pos (show 0 ≤ (a.length : Int) + 1 by omega), if_pos (show (a.length : Int) + 1 ≤ ((a.length + 1 + r.length : Nat) : Int) by omega), e2]
      rw [nb_append, nb_append] at hR
      exact hR
theorem replace (s q : List UInt8) (hs : s.length ≤ 4000) (hq : q.length ≤ 20) : ∃ k, table_zzReplaceAll.f k (str s) ⟨#[10]⟩ (str q) = some (str (rep q s)) := by
  have h1 : (q.length + 1) * s.length ≤ 21 * 4000 := Nat.mul_le_mul (by omega) hs
  have : Ev (fun k => table_zzReplaceAll.f k (str s) (str [10]) (str q)) (str (rep q s)) := by
    have h := replace_l q s.length s rfl [] (by simp only [List.length_nil]; omega)
    have hz : ¬ ((str [10]).size : Int) = 0 := by decide
    simp only [table_zzReplaceAll.f, if_neg hz]
    exact h
  obtain ⟨K, hK⟩ := this
  exact ⟨K, hK K (Nat.le_refl _)⟩
end Go.Proofs.YtpgnipfpinldgaaGreatDoor.Htp
