/- What the searching and replacing functions of a row in TSV tell. -/
import Derived.Test.YtelbcekkfdpoaaaGTsvHelpx
import Derived.Test.YtelbcekkfdpoaaaSmall
import Derived.Test.YtelbcekkfdpoaaaDec
import Derived.OpenShut
namespace Go.Proofs.Ytelbcekkfdpoaaa.TsvH
open Go.RowKit Go.Proofs.Ytelbcekkfdpoaaa.GTsvHelp Go.Proofs.YtelbcekkfdpoaaaW.PrintWords Go.Proofs.YtelbcekkfdpoaaaW.PrintLast Go.Proofs.YtelbcekkfdpoaaaW.PrintMore Go.Proofs.Ytelbcekkfdpoaaa.Small Go.Proofs.Ytelbcekkfdpoaaa.Itr Go.Proofs.Ytelbcekkfdpoaaa.Dec

/-! ### a text among a text -/
theorem index_any (s t : ByteArray) (hs : s.size ≤ 1000000) (ht : t.size ≤ 1000000) : ∀ d i : Nat, i + d = s.size + 1 → ∃ r : Int, Ev (fun k => table_zzIndex.l0 k s t (i : Int)) r := by
  intro d
  induction d with
  | zero =>
    intro i hi
    refine ⟨-1, Ev.shift ?_⟩
    simp only [table_zzIndex.l0, wrap_in (show -9223372036854775808 ≤ (i : Int) + (t.size : Int) by omega) (by omega), if_neg (show ¬ (i : Int) + (t.size : Int) ≤ (s.size : Int) by omega)]
    exact Ev.now _
  | succ d ih =>
    intro i hi
    by_cases h1 : (i : Int) + (t.size : Int) ≤ (s.size : Int)
    · by_cases h2 : (s.extract ((i : Int)).toNat ((i : Int) + (t.size : Int)).toNat).toList = t.toList
      · refine ⟨(i : Int), Ev.shift ?_⟩
        simp only [table_zzIndex.l0, wrap_in (show -9223372036854775808 ≤ (i : Int) + (t.size : Int) by omega) (by omega), if_pos h1, if_pos (show 0 ≤ (i : Int) by omega), if_pos (show (i : Int) ≤ (i : Int) + (t.size : Int) by omega), if_pos h2]
        exact Ev.now _
      · obtain ⟨r, hr⟩ := ih (i + 1) (by omega)
        refine ⟨r, Ev.shift ?_⟩
        simp only [table_zzIndex.l0, wrap_in (show -9223372036854775808 ≤ (i : Int) + (t.size : Int) by omega) (by omega), if_pos h1, if_pos (show 0 ≤ (i : Int) by omega), if_pos (show (i : Int) ≤ (i : Int) + (t.size : Int) by omega), if_neg h2, wrap_succ i (by omega)]
        exact hr
    · refine ⟨-1, Ev.shift ?_⟩
      simp only [table_zzIndex.l0, wrap_in (show -9223372036854775808 ≤ (i : Int) + (t.size : Int) by omega) (by omega), if_neg h1]
      exact Ev.now _
theorem contains_any (s t : ByteArray) (hs : s.size ≤ 1000000) (ht : t.size ≤ 1000000) : ∃ b : Bool, Ev (fun k => table_zzContains.f k s t) b := by
  obtain ⟨r, hr⟩ := index_any s t hs ht (s.size + 1) 0 (by omega)
  exact ⟨_, Ev.bind hr (Ev.now _)⟩

theorem one_extract (l : List UInt8) (i : Nat) (hi : i < l.length) : ((str l).extract i (i + 1)).toList = [l[i]] := by
  rw [extract_str, toList_str, List.drop_eq_getElem_cons hi, Nat.add_sub_cancel_left]; rfl

/-- the first place of an octet -/
theorem index_at (c : UInt8) (b : List UInt8) (a : List UInt8) (hc : c ∉ a) (hl : (a ++ c :: b).length ≤ 1000000) : ∀ d i : Nat, i + d = a.length → Ev (fun k => table_zzIndex.l0 k (str (a ++ c :: b)) ⟨#[c]⟩ (i : Int)) (a.length : Int) := by
  have hsz : ((⟨#[c]⟩ : ByteArray).size : Int) = 1 := rfl
  have hlen : (a ++ c :: b).length = a.length + b.length + 1 := by simp; omega
  intro d
  induction d with
  | zero =>
    intro i hi
    obtain rfl : i = a.length := by omega
    refine Ev.shift ?_
    have e := one_extract (a ++ c :: b) a.length (by omega)
    simp only [table_zzIndex.l0, hsz, str_size, wrap_succ a.length (by omega), if_pos (show ((a.length + 1 : Nat) : Int) ≤ ((a ++ c :: b).length : Int) by omega), if_pos (show 0 ≤ (a.length : Int) by omega), if_pos (show (a.length : Int) ≤ ((a.length + 1 : Nat) : Int) by omega), Int.toNat_natCast, e]
    have q : [(a ++ c :: b)[a.length]'(by omega)] = (⟨#[c]⟩ : ByteArray).toList := by rw [toList_data]; simp
    simp only [if_pos q]
    exact Ev.now _
  | succ d ih =>
    intro i hi
    refine Ev.shift ?_
    have e := one_extract (a ++ c :: b) i (by omega)
    simp only [table_zzIndex.l0, hsz, str_size, wrap_succ i (by omega), if_pos (show ((i + 1 : Nat) : Int) ≤ ((a ++ c :: b).length : Int) by omega), if_pos (show 0 ≤ (i : Int) by omega), if_pos (show (i : Int) ≤ ((i + 1 : Nat) : Int) by omega), Int.toNat_natCast, e]
    have q : ¬ [(a ++ c :: b)[i]'(by omega)] = (⟨#[c]⟩ : ByteArray).toList := by
      rw [toList_data, List.getElem_append_left (by omega)]
      intro h
      have h' : a[i]'(by omega) = c := by simpa using h
      exact hc (h' ▸ List.getElem_mem _)
    simp only [if_neg q]
    exact ih (i + 1) (by omega)
theorem index_not (c : UInt8) (a : List UInt8) (hc : c ∉ a) (hl : a.length ≤ 1000000) : ∀ d i : Nat, i + d = a.length → Ev (fun k => table_zzIndex.l0 k (str a) ⟨#[c]⟩ (i : Int)) (-1) := by
  have hsz : ((⟨#[c]⟩ : ByteArray).size : Int) = 1 := rfl
  intro d
  induction d with
  | zero =>
    intro i hi
    refine Ev.shift ?_
    simp only [table_zzIndex.l0, hsz, str_size, wrap_succ i (by omega), if_neg (show ¬ ((i + 1 : Nat) : Int) ≤ (a.length : Int) by omega)]
    exact Ev.now _
  | succ d ih =>
    intro i hi
    refine Ev.shift ?_
    have e := one_extract a i (by omega)
    simp only [table_zzIndex.l0, hsz, str_size, wrap_succ i (by omega), if_pos (show ((i + 1 : Nat) : Int) ≤ (a.length : Int) by omega), if_pos (show 0 ≤ (i : Int) by omega), if_pos (show (i : Int) ≤ ((i + 1 : Nat) : Int) by omega), Int.toNat_natCast, e]
    have q : ¬ [a[i]'(by omega)] = (⟨#[c]⟩ : ByteArray).toList := by
      rw [toList_data]
      intro h
      have h' : a[i]'(by omega) = c := by simpa using h
      exact hc (h' ▸ List.getElem_mem _)
    simp only [if_neg q]
    exact ih (i + 1) (by omega)

/-! ### each quote twice -/
def twice (l : List UInt8) : List UInt8 := l.flatMap fun b => if b = 34 then [34, 34] else [b]
theorem twice_not : ∀ l : List UInt8, (34 : UInt8) ∉ l → twice l = l
  | [], _ => rfl
  | b :: l, h => by
    have h1 : b ≠ 34 := fun e => h (by simp [e])
    have := twice_not l (fun e => h (by simp [e]))
    unfold twice at this ⊢
    rw [List.flatMap_cons, if_neg h1, this]; rfl
theorem twice_append (a b : List UInt8) : twice (a ++ b) = twice a ++ twice b := by simp [twice]
theorem twice_length : ∀ l : List UInt8, (twice l).length ≤ 2 * l.length
  | [] => by simp [twice]
  | b :: l => by
    have := twice_length l
    unfold twice at this ⊢
    rw [List.flatMap_cons, List.length_append, List.length_cons]
    have h2 : (if b = 34 then [34, 34] else [b] : List UInt8).length ≤ 2 := by split <;> simp
    omega

theorem split_quote (l : List UInt8) : (34 : UInt8) ∉ l ∨ ∃ a b, l = a ++ 34 :: b ∧ (34 : UInt8) ∉ a := by
  by_cases h : (34 : UInt8) ∈ l
  · exact .inr (by obtain ⟨a, b, h1, h2⟩ := List.append_of_mem h |> fun _ => List.eq_append_cons_of_mem h; exact ⟨a, b, h1, h2⟩)
  · exact .inl h

theorem replace_l : ∀ n : Nat, ∀ l out : List UInt8, l.length ≤ n → l.length ≤ 500000 → out.length + 2 * l.length ≤ 1000000 →
    Ev (fun k => table_zzReplaceAll.l1 k (str l) ⟨#[34]⟩ ⟨#[34, 34]⟩ (nb out)) (str (out ++ twice l)) := by
  intro n
  induction n with
  | zero =>
    intro l out hn h1 h2
    obtain rfl : l = [] := List.eq_nil_of_length_eq_zero (by omega)
    refine Ev.shift ?_
    simp only [table_zzReplaceAll.l1]
    refine Ev.bind (index_not 34 [] (by simp) (by simp) 0 0 rfl) ?_
    simp only [if_pos (show (-1 : Int) < 0 by omega), nb_length, str_size]
    rw [if_pos (show out.length + ([] : List UInt8).length < 140737488355328 by simp at h2 ⊢; omega), bytesOf_nb, str_data, ← nb_append, strOfNums_nb]
    exact Ev.now _
  | succ n ih =>
    intro l out hn h1 h2
    refine Ev.shift ?_
    simp only [table_zzReplaceAll.l1]
    rcases split_quote l with h | ⟨a, b, rfl, ha⟩
    · refine Ev.bind (index_not 34 l h (by omega) l.length 0 (by omega)) ?_
      simp only [if_pos (show (-1 : Int) < 0 by omega), nb_length, str_size]
      rw [if_pos (show out.length + l.length < 140737488355328 by omega), bytesOf_nb, str_data, ← nb_append, strOfNums_nb, twice_not l h]
      exact Ev.now _
    · refine Ev.bind (index_at 34 b a ha (by omega) a.length 0 (by omega)) ?_
      have hlen : (a ++ 34 :: b).length = a.length + b.length + 1 := by simp; omega
      rw [hlen] at hn h1 h2
      have hsz : ((⟨#[34]⟩ : ByteArray).size : Int) = 1 := rfl
      have hsz2 : (⟨#[34, 34]⟩ : ByteArray).size = 2 := rfl
      have e1 : (str (a ++ 34 :: b)).extract 0 ((a.length : Int)).toNat = str a := by
        rw [extract_str, Int.toNat_natCast]; simp
      have e2 : (str (a ++ 34 :: b)).extract (((a.length + 1 : Nat) : Int)).toNat (str (a ++ 34 :: b)).size = str b := by
        rw [extract_str, Int.toNat_natCast, str_size, hlen]
        congr 1
        rw [List.drop_append, show a.length + 1 - a.length = 1 by omega]
        simp [List.drop_of_length_le]
      have e3 : bytesOf (⟨#[34, 34]⟩ : ByteArray) = nb [34, 34] := rfl
      simp only [hsz, wrap_succ a.length (by omega), e1, e2, e3]
      simp only [if_neg (show ¬ (a.length : Int) < 0 by omega), if_pos (show 0 ≤ (a.length : Int) by omega), str_size, hlen, if_pos (show (a.length : Int) ≤ ((a.length + b.length + 1 : Nat) : Int) by omega), nb_length, if_pos (show out.length + a.length < 140737488355328 by omega), Option.bind_some, bytesOf_nb, str_data, ← nb_append, List.length_append, hsz2,
        if_pos (show out.length + a.length + 2 < 140737488355328 by omega), if_pos (show 0 ≤ ((a.length + 1 : Nat) : Int) by omega), if_pos (show ((a.length + 1 : Nat) : Int) ≤ ((a.length + b.length + 1 : Nat) : Int) by omega)]
      have := ih b (out ++ a ++ [34, 34]) (by omega) (by omega) (by simp; omega)
      have ht : out ++ twice (a ++ 34 :: b) = out ++ a ++ [34, 34] ++ twice b := by
        rw [twice_append, twice_not a ha]
        show out ++ (a ++ ([34, 34] ++ twice b)) = _
        simp
      rw [ht]
      exact this
theorem replace (l : List UInt8) (h : l.length ≤ 500000) : Ev (fun k => table_zzReplaceAll.f k (str l) ⟨#[34]⟩ ⟨#[34, 34]⟩) (str (twice l)) := by
  unfold table_zzReplaceAll.f
  have hsz : ((⟨#[34]⟩ : ByteArray).size : Int) = 1 := rfl
  simp only [hsz, if_neg (show ¬ (1 : Int) = 0 by omega)]
  exact replace_l l.length l [] (Nat.le_refl _) h (by simp; omega)

/-! ### one of the tab, the line feed and the quote -/
abbrev CH : ByteArray := ⟨#[9, 10, 34]⟩
theorem ch0 : itr_more.f CH 0 = some (0, 9, 1) := by kernel_rfl
theorem ch1 : itr_more.f CH 1 = some (1, 10, 2) := by kernel_rfl
theorem ch2 : itr_more.f CH 2 = some (2, 34, 3) := by kernel_rfl
theorem ch3 : itr_end.f CH 3 = some 3 := by kernel_rfl
theorem chs : (CH.size : Int) = 3 := rfl

theorem any_l1 (s : ByteArray) (i c p : Int) (r : Int) (h : (c = 9 ∨ c = 10 ∨ c = 34) ∧ r = i ∨ ¬ (c = 9 ∨ c = 10 ∨ c = 34) ∧ Ev (fun k => table_zzIndexAny.l0 k CH s p) r) :
    Ev (fun k => table_zzIndexAny.l1 k CH i c s p CH 0) r := by
  have hx := chs
  refine Ev.shift ?_
  simp only [table_zzIndexAny.l1, hx, if_pos (show (0 : Int) < 3 by omega), ch0, Option.bind_some]
  by_cases h9 : c = 9
  · obtain rfl : r = i := h.elim (fun h => h.2) (fun h => absurd (Or.inl h9) h.1)
    simp only [if_pos h9]; exact Ev.now _
  simp only [if_neg h9]
  refine Ev.shift ?_
  simp only [table_zzIndexAny.l1, hx, if_pos (show (1 : Int) < 3 by omega), ch1, Option.bind_some]
  by_cases h10 : c = 10
  · obtain rfl : r = i := h.elim (fun h => h.2) (fun h => absurd (Or.inr (Or.inl h10)) h.1)
    simp only [if_pos h10]; exact Ev.now _
  simp only [if_neg h10]
  refine Ev.shift ?_
  simp only [table_zzIndexAny.l1, hx, if_pos (show (2 : Int) < 3 by omega), ch2, Option.bind_some]
  by_cases h34 : c = 34
  · obtain rfl : r = i := h.elim (fun h => h.2) (fun h => absurd (Or.inr (Or.inr h34)) h.1)
    simp only [if_pos h34]; exact Ev.now _
  simp only [if_neg h34]
  refine Ev.shift ?_
  simp only [table_zzIndexAny.l1, hx, if_neg (show ¬ (3 : Int) < 3 by omega), ch3, Option.bind_some]
  rcases h with h | h
  · exact absurd h.1 (by omega)
  · exact h.2

theorem more_at (s : ByteArray) (p : Nat) (hp : p < s.size) : itr_more.f s (p : Int) = some ((p : Int), ((Utf8.decode s p).1 : Int), ((p + (Utf8.decode s p).2 : Nat) : Int)) := by
  unfold itr_more.f runeAt runeLen
  rw [if_pos (by omega), if_pos (by omega)]
  simp
theorem end_at (s : ByteArray) : itr_end.f s (s.size : Int) = some (s.size : Int) := by
  unfold itr_end.f
  rw [if_pos (by omega), if_neg (by omega)]

def odd (b : Nat) : Prop := b = 9 ∨ b = 10 ∨ b = 34
theorem any_l0 (s : ByteArray) : ∀ d p : Nat, p + d = s.size → ∃ r : Int, Ev (fun k => table_zzIndexAny.l0 k CH s (p : Int)) r ∧ (r < 0 → ∀ j, p ≤ j → j < s.size → ¬ odd (at_ s j)) := by
  intro d
  induction d using Nat.strongRecOn with
  | ind d ih =>
    intro p hp
    rcases Nat.eq_zero_or_pos d with rfl | hd
    · obtain rfl : p = s.size := by omega
      refine ⟨-1, Ev.shift ?_, fun _ j h1 h2 => by omega⟩
      simp only [table_zzIndexAny.l0, if_neg (show ¬ (s.size : Int) < (s.size : Int) by omega), end_at, Option.bind_some]
      exact Ev.now _
    · obtain ⟨h1, h2, hc⟩ := dec s p (by omega)
      obtain ⟨r, hr, hn⟩ := ih (s.size - (p + (Utf8.decode s p).2)) (by omega) (p + (Utf8.decode s p).2) (by omega)
      by_cases ho : (((Utf8.decode s p).1 : Int) = 9 ∨ ((Utf8.decode s p).1 : Int) = 10 ∨ ((Utf8.decode s p).1 : Int) = 34)
      · refine ⟨(p : Int), Ev.shift ?_, fun h => by omega⟩
        simp only [table_zzIndexAny.l0, if_pos (show (p : Int) < (s.size : Int) by omega), more_at s p (by omega), Option.bind_some, itr_make.f]
        exact any_l1 s _ _ _ _ (.inl ⟨ho, rfl⟩)
      · refine ⟨r, Ev.shift ?_, fun hneg j hj1 hj2 => ?_⟩
        · simp only [table_zzIndexAny.l0, if_pos (show (p : Int) < (s.size : Int) by omega), more_at s p (by omega), Option.bind_some, itr_make.f]
          exact any_l1 s _ _ _ _ (.inr ⟨ho, hr⟩)
        · by_cases hlt : j < p + (Utf8.decode s p).2
          · unfold odd
            rcases hc with ⟨ha, he⟩ | ⟨_, _, ha⟩
            · rw [he] at hlt ho
              obtain rfl : j = p := by have : j < p + 1 := hlt; omega
              have : ¬ (((at_ s j : Nat) : Int) = 9 ∨ ((at_ s j : Nat) : Int) = 10 ∨ ((at_ s j : Nat) : Int) = 34) := ho
              omega
            · have := ha j hj1 hlt; omega
          · exact hn hneg j (by omega) hj2
theorem any (s : ByteArray) : ∃ b : Bool, Ev (fun k => table_zzContainsAny.f k s CH) b ∧ (b = false → ∀ j, j < s.size → ¬ odd (at_ s j)) := by
  obtain ⟨r, hr, hn⟩ := any_l0 s s.size 0 (by omega)
  refine ⟨decide (r ≥ 0), ?_, fun h j hj => hn (by simpa using h) j (by omega) hj⟩
  unfold table_zzContainsAny.f table_zzIndexAny.f
  simp only [itr_make.f, Option.bind_some]
  exact Ev.bind hr (Ev.now _)

/-- a cell, as it is written: in quotes, each quote twice, or as it is -/
theorem cell (l : List UInt8) (hl : l.length ≤ 100000) : ∃ q : Bool, (q = false → ∀ b ∈ l, b ≠ 9 ∧ b ≠ 10 ∧ b ≠ 34) ∧ ∃ a b : Bool, (a || b) = q ∧ (∃ k, table_zzContainsAny.f k (str l) CH = some a) ∧ (∃ k, table_zzContains.f k (str l) ⟨#[32, 32, 32, 32]⟩ = some b) ∧ (∃ k, table_zzReplaceAll.f k (str l) ⟨#[34]⟩ ⟨#[34, 34]⟩ = some (str (twice l))) := by
  obtain ⟨a, ha, hn⟩ := any (str l)
  obtain ⟨b, hb⟩ := contains_any (str l) ⟨#[32, 32, 32, 32]⟩ (by rw [str_size]; omega) (by show 4 ≤ 1000000; omega)
  refine ⟨a || b, fun h x hx => ?_, a, b, rfl, ha.rounds, hb.rounds, (replace l (by omega)).rounds⟩
  obtain ⟨j, hj, rfl⟩ := List.mem_iff_getElem.1 hx
  have := hn (by cases a <;> simp_all) j (by rw [str_size]; exact hj)
  unfold odd at_ at this
  rw [str_data, List.getD_eq_getElem?_getD, List.getElem?_eq_getElem hj] at this
  simp only [Option.getD_some] at this
  exact ⟨fun e => this (by rw [e]; exact .inl rfl), fun e => this (by rw [e]; exact .inr (.inl rfl)), fun e => this (by rw [e]; exact .inr (.inr rfl))⟩
end Go.Proofs.Ytelbcekkfdpoaaa.TsvH
