/- What the helpers of the law of printing in colors tell, in plain Lean. -/
import Derived.Test.YtenclpkeffhjaaaDoorGEsBodyx
import Derived.Test.YtenclpkeffhjaaaDoorSmall
import Derived.Test.YtenclpkeffhjaaaDoorDec
import Derived.Test.YtenclpkeffhjaaaDoorEs
namespace Go.Proofs.YtenclpkeffhjaaaDoor.Esp
open Go Go.RowKit Go.Proofs.YtenclpkeffhjaaaDoor.GEsBody Go.Proofs.YtenclpkeffhjaaaDoorW.PrintWords Go.Proofs.YtenclpkeffhjaaaDoorW.PrintLast Go.Proofs.YtenclpkeffhjaaaDoorW.PrintMore Go.Proofs.YtenclpkeffhjaaaDoor.Small Go.Proofs.YtenclpkeffhjaaaDoor.Itr Go.Proofs.YtenclpkeffhjaaaDoor.Dec

theorem more_at (s : ByteArray) (p : Nat) (hp : p < s.size) : itr_more.f s (p : Int) = some ((p : Int), ((Utf8.decode s p).1 : Int), ((p + (Utf8.decode s p).2 : Nat) : Int)) := by
  unfold itr_more.f runeAt runeLen
  rw [if_pos (by omega), if_pos (by omega)]
  simp
theorem end_at (s : ByteArray) : itr_end.f s (s.size : Int) = some (s.size : Int) := by
  unfold itr_end.f
  rw [if_pos (by omega), if_neg (by omega)]
theorem boxed (r : Int) : ∃ b, spec_TxBoxed.f r = some b ∧ (b = true → 128 ≤ r) := by
  unfold spec_TxBoxed.f
  split
  · exact ⟨_, rfl, fun _ => by omega⟩
  · exact ⟨_, rfl, fun h => by cases h⟩
theorem wide (r : Int) : ∃ b, spec_TxWide.f r = some b ∧ (b = true → 128 ≤ r) := by
  by_cases h : 12353 ≤ r
  · unfold spec_TxWide.f
    repeat' split
    all_goals exact ⟨_, rfl, fun _ => by omega⟩
  · unfold spec_TxWide.f
    repeat rw [if_neg (by omega)]
    exact ⟨_, rfl, fun h => by cases h⟩
theorem known (r : Int) : ∃ b, spec_TxKnown.f r = some b ∧ (b = true → r ≠ 27) := by
  obtain ⟨b1, h1, g1⟩ := boxed r
  obtain ⟨b2, h2, g2⟩ := wide r
  unfold spec_TxKnown.f
  simp only [h1, h2, Option.bind_some]
  by_cases a : r ≥ 32
  · rw [if_pos a]
    by_cases b : r ≤ 126
    · rw [if_pos b]; exact ⟨_, rfl, fun _ => by omega⟩
    · rw [if_neg b]
      split
      · exact ⟨_, rfl, fun _ => by omega⟩
      · exact ⟨_, rfl, fun _ => by omega⟩
  · rw [if_neg a]
    split
    · rename_i h
      exact ⟨_, rfl, fun _ => by have := g1 h; omega⟩
    · exact ⟨_, rfl, fun h => by have := g2 h; omega⟩
theorem simple_l (s : ByteArray) : ∀ d p : Nat, p + d = s.size → ∃ b, Ev (fun k => spec_TxSimple.l0 k false s (p : Int)) b ∧ (b = true → ∀ j, p ≤ j → j < s.size → at_ s j ≠ 27) := by
  intro d
  induction d using Nat.strongRecOn with
  | ind d ih =>
    intro p hp
    rcases Nat.eq_zero_or_pos d with rfl | hd
    · obtain rfl : p = s.size := by omega
      refine ⟨true, Ev.shift ?_, fun _ j h1 h2 => by omega⟩
      simp only [spec_TxSimple.l0, if_neg (show ¬ (s.size : Int) < (s.size : Int) by omega), end_at, Option.bind_some]
      exact Ev.now _
    · obtain ⟨h1, h2, hc⟩ := dec s p (by omega)
      obtain ⟨b, hb, hn⟩ := ih (s.size - (p + (Utf8.decode s p).2)) (by omega) (p + (Utf8.decode s p).2) (by omega)
      obtain ⟨kb, hk, hk27⟩ := known ((Utf8.decode s p).1 : Int)
      cases kb with
      | false =>
        refine ⟨false, Ev.shift ?_, fun h => by cases h⟩
        simp only [spec_TxSimple.l0, if_pos (show (p : Int) < (s.size : Int) by omega), more_at s p (by omega), Option.bind_some, hk, if_neg (show ¬ (false = true) by decide)]
        exact Ev.now _
      | true =>
        refine ⟨b, Ev.shift ?_, fun hbt j hj1 hj2 => ?_⟩
        · simp only [spec_TxSimple.l0, if_pos (show (p : Int) < (s.size : Int) by omega), more_at s p (by omega), Option.bind_some, hk, if_true]
          exact hb
        · by_cases hlt : j < p + (Utf8.decode s p).2
          · rcases hc with ⟨ha, he⟩ | ⟨_, _, ha⟩
            · rw [he] at hlt
              obtain rfl : j = p := by have : j < p + 1 := hlt; omega
              have := hk27 rfl
              rw [he] at this
              have h3 : ((at_ s j : Nat) : Int) ≠ 27 := this
              omega
            · have := ha j hj1 hlt; omega
          · exact hn hbt j (by omega) hj2
/-- no escape sign stands in it -/
def Clean (l : List UInt8) : Prop := ∀ b ∈ l, b ≠ 27
theorem simple (s : ByteArray) : ∃ b, Ev (fun k => spec_TxSimple.f k s false) b ∧ (b = true → Clean s.data.toList) := by
  obtain ⟨b, hb, h⟩ := simple_l s s.size 0 (by omega)
  refine ⟨b, ?_, fun hbt x hx he => ?_⟩
  · unfold spec_TxSimple.f
    simp only [itr_make.f, Option.bind_some]
    exact hb
  · obtain ⟨j, hj, hjx⟩ := List.mem_iff_getElem.1 hx
    have := h hbt j (Nat.zero_le _) hj
    unfold at_ at this
    rw [getD_at _ _ _ hj, hjx, he] at this
    exact this rfl

/-- the texts, together -/
def cat (l : List ByteArray) : List UInt8 := l.flatMap fun x => x.data.toList
theorem texts_l (l : List ByteArray) (hl : l.length ≤ 2147483647) : ∀ d i : Nat, i + d = l.length → ∀ acc : List UInt8, acc.length ≤ 300 * i → ∃ r b, Ev (fun k => laws_txTexts.l0 k l (str acc) l (l.length : Int) (i : Int)) (r, b) ∧
    (b = true → r = str (acc ++ cat (l.drop i)) ∧ Clean (cat (l.drop i)) ∧ (cat (l.drop i)).length ≤ 300 * d ∧ acc ++ cat (l.drop i) ≠ [] ∧ l.length ≤ 20) := by
  intro d
  induction d with
  | zero =>
    intro i hi acc ha
    have e : l.drop i = [] := List.drop_of_length_le (by omega)
    by_cases h : acc = []
    · refine ⟨str acc, false, Ev.shift ?_, fun h => by cases h⟩
      simp only [laws_txTexts.l0, if_neg (show ¬ (i : Int) < (l.length : Int) by omega)]
      rw [if_pos (by rw [toList_data, str_data]; exact h)]
      exact Ev.now _
    · refine ⟨str acc, decide ((l.length : Int) ≤ 20), Ev.shift ?_, fun hb => ?_⟩
      · simp only [laws_txTexts.l0, if_neg (show ¬ (i : Int) < (l.length : Int) by omega)]
        rw [if_neg (by rw [toList_data, str_data]; exact h)]
        exact Ev.now _
      · rw [e]
        exact ⟨by simp [cat], by intro b hb; simp [cat] at hb, by simp [cat], by simpa [cat] using h, by simp at hb; omega⟩
  | succ d ih =>
    intro i hi acc ha
    have hil : i < l.length := by omega
    have e : l.drop i = l[i] :: l.drop (i + 1) := List.drop_eq_getElem_cons hil
    by_cases hbig : ((l[i].size : Nat) : Int) > 300
    · refine ⟨⟨#[]⟩, false, Ev.shift ?_, fun h => by cases h⟩
      simp only [laws_txTexts.l0, rdOf_nat, getD_at _ _ _ hil, if_pos (show (i : Int) < (l.length : Int) by omega), if_pos (show 0 ≤ (i : Int) by omega), if_pos hbig]
      exact Ev.now _
    · obtain ⟨b, hb, hcl⟩ := simple l[i]
      cases b with
      | false =>
        refine ⟨⟨#[]⟩, false, Ev.shift ?_, fun h => by cases h⟩
        simp only [laws_txTexts.l0, rdOf_nat, getD_at _ _ _ hil, if_pos (show (i : Int) < (l.length : Int) by omega), if_pos (show 0 ≤ (i : Int) by omega), if_neg hbig]
        exact Ev.bind hb (Ev.now _)
      | true =>
        have hsz : l[i].data.toList.length = l[i].size := size_data _
        obtain ⟨r, b2, hr, hrt⟩ := ih (i + 1) (by omega) (acc ++ l[i].data.toList) (by rw [List.length_append]; omega)
        refine ⟨r, b2, Ev.shift ?_, fun h => ?_⟩
        · simp only [laws_txTexts.l0, rdOf_nat, getD_at _ _ _ hil, if_pos (show (i : Int) < (l.length : Int) by omega), if_pos (show 0 ≤ (i : Int) by omega), if_neg hbig, wrap_succ i (by omega)]
          refine Ev.bind hb ?_
          have e2 : str acc ++ l[i] = str (acc ++ l[i].data.toList) := by rw [str_append, str_of]
          have hq : acc.length + l[i].size ≤ 9223372036854775807 := by omega
          simp only [if_true, str_size, if_pos hq, e2]
          exact hr
        · obtain ⟨g1, g2, g3, g4, g5⟩ := hrt h
          have e3 : cat (l.drop i) = l[i].data.toList ++ cat (l.drop (i + 1)) := by rw [e]; simp only [cat, List.flatMap_cons]
          rw [e3, ← List.append_assoc]
          refine ⟨g1, fun x hx => ?_, ?_, g4, g5⟩
          · rcases List.mem_append.1 hx with hx | hx
            · exact hcl rfl x hx
            · exact g2 x hx
          · rw [List.length_append]; omega
theorem texts (l : List ByteArray) (hl : l.length ≤ 2147483647) : ∃ r b k, laws_txTexts.f k l = some (r, b) ∧ (b = true → r = str (cat l) ∧ Clean (cat l) ∧ (cat l).length ≤ 6000 ∧ cat l ≠ [] ∧ l.length ≤ 20) := by
  obtain ⟨r, b, ⟨K, hK⟩, h⟩ := texts_l l hl l.length 0 (by omega) [] (by simp)
  refine ⟨r, b, K, hK K (Nat.le_refl _), fun hb => ?_⟩
  obtain ⟨h1, h2, h3, h4, h5⟩ := h hb
  simp only [List.drop_zero, List.nil_append] at h1 h2 h3 h4
  exact ⟨h1, h2, by omega, h4, h5⟩

/-! ### a text among a text: where it does not stand -/
theorem index_none (s t : List UInt8) (hs : s.length ≤ 1000000) (ht : t.length ≤ 1000000) (h : ∀ i, i + t.length ≤ s.length → (s.drop i).take t.length ≠ t) : ∀ d i : Nat, i + d = s.length + 1 → Ev (fun k => text_zzIndex.l0 k (str s) (str t) (i : Int)) (-1) := by
  intro d
  induction d with
  | zero =>
    intro i hi
    refine Ev.shift ?_
    simp only [text_zzIndex.l0, str_size, wrap_in (show -9223372036854775808 ≤ (i : Int) + (t.length : Int) by omega) (by omega), if_neg (show ¬ (i : Int) + (t.length : Int) ≤ (s.length : Int) by omega)]
    exact Ev.now _
  | succ d ih =>
    intro i hi
    refine Ev.shift ?_
    by_cases h1 : (i : Int) + (t.length : Int) ≤ (s.length : Int)
    · have h2 : ¬ ((str s).extract ((i : Int)).toNat ((i : Int) + (t.length : Int)).toNat).toList = (str t).toList := by
        rw [extract_str, toList_data, toList_data, str_data, str_data]
        have e : ((i : Int) + (t.length : Int)).toNat - ((i : Int)).toNat = t.length := by omega
        rw [Int.toNat_natCast]
        rw [Int.toNat_natCast] at e
        intro hh
        refine h i (by omega) ?_
        first
          | (rw [e] at hh; exact hh)
          | (rw [List.take_drop, show i + t.length = ((i : Int) + (t.length : Int)).toNat by omega]; exact hh)
      simp only [text_zzIndex.l0, str_size, wrap_in (show -9223372036854775808 ≤ (i : Int) + (t.length : Int) by omega) (by omega), if_pos h1, if_pos (show 0 ≤ (i : Int) by omega), if_pos (show (i : Int) ≤ (i : Int) + (t.length : Int) by omega), if_neg h2, wrap_succ i (by omega)]
      exact ih (i + 1) (by omega)
    · simp only [text_zzIndex.l0, str_size, wrap_in (show -9223372036854775808 ≤ (i : Int) + (t.length : Int) by omega) (by omega), if_neg h1]
      exact Ev.now _
theorem replace_none (s t u : List UInt8) (hs : s.length ≤ 1000000) (ht : t.length ≤ 1000000) (h0 : t ≠ []) (h : ∀ i, i + t.length ≤ s.length → (s.drop i).take t.length ≠ t) : ∃ k, text_zzReplaceAll.f k (str s) (str t) (str u) = some (str s) := by
  have : Ev (fun k => text_zzReplaceAll.f k (str s) (str t) (str u)) (str s) := by
    unfold text_zzReplaceAll.f
    have hz : ¬ ((str t).size : Int) = 0 := by
      rw [str_size]
      have := List.length_pos_iff.2 h0
      omega
    simp only [if_neg hz]
    refine Ev.shift ?_
    simp only [text_zzReplaceAll.l1]
    refine Ev.bind (index_none s t hs ht h (s.length + 1) 0 (by omega)) ?_
    simp only [if_pos (show (-1 : Int) < 0 by omega), str_size, List.length_nil, List.nil_append]
    have e : strOfNums (bytesOf (str s)) = str s := by
      have h1 : bytesOf (str s) = nb s := by rw [bytesOf_nb, str_data]
      rw [h1, strOfNums_nb]
    simp only [e]
    simp only [if_pos (show 0 + s.length < 140737488355328 by omega)]
    exact Ev.now _
  obtain ⟨K, hK⟩ := this
  exact ⟨K, hK K (Nat.le_refl _)⟩
theorem contains_none (s t : List UInt8) (hs : s.length ≤ 1000000) (ht : t.length ≤ 1000000) (h : ∀ i, i + t.length ≤ s.length → (s.drop i).take t.length ≠ t) : ∃ k, text_zzContains.f k (str s) (str t) = some false := by
  have : Ev (fun k => text_zzContains.f k (str s) (str t)) false := by
    unfold text_zzContains.f
    refine Ev.bind (index_none s t hs ht h (s.length + 1) 0 (by omega)) ?_
    exact Ev.now _
  obtain ⟨K, hK⟩ := this
  exact ⟨K, hK K (Nat.le_refl _)⟩
end Go.Proofs.YtenclpkeffhjaaaDoor.Esp
