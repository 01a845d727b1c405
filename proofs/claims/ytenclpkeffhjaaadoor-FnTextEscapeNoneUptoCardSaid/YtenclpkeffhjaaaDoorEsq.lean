/- What printing in colors comes to, in plain Lean. -/
import Derived.Test.YtenclpkeffhjaaaDoorEsw
namespace Go.Proofs.YtenclpkeffhjaaaDoor.Esq
open Go Go.RowKit Go.Lib Go.Proofs.YtenclpkeffhjaaaDoor.GEsBody Go.Proofs.YtenclpkeffhjaaaDoorW.PrintWords Go.Proofs.YtenclpkeffhjaaaDoorW.PrintLast Go.Proofs.YtenclpkeffhjaaaDoorW.PrintMore Go.Proofs.YtenclpkeffhjaaaDoor.Small Go.Proofs.YtenclpkeffhjaaaDoor.Esp Go.Proofs.YtenclpkeffhjaaaDoor.Es

theorem dig_clean : ∀ u : Nat, Esp.Clean (decDigits u) := by
  intro u
  induction u using Nat.strongRecOn with
  | ind u ih =>
    have hd : UInt8.ofNat (48 + u % 10) ≠ 27 := by
      intro h
      have h2 := congrArg UInt8.toNat h
      rw [UInt8.toNat_ofNat'] at h2
      have : (27 : UInt8).toNat = 27 := rfl
      omega
    rcases Nat.eq_zero_or_pos (u / 10) with h | h
    · rw [(Fu.step_dec u).2 h]
      intro b hb
      rw [List.mem_singleton.1 hb]; exact hd
    · rw [(Fu.step_dec u).1 h]
      intro b hb
      rcases List.mem_append.1 hb with hb | hb
      · exact ih (u / 10) (by omega) b hb
      · rw [List.mem_singleton.1 hb]; exact hd
theorem body_clean (l : List Int) : ∀ j, Esp.Clean (bodyTo l j)
  | 0 => fun b hb => by cases hb
  | j + 1 => fun b hb => by
    simp only [bodyTo, List.mem_append] at hb
    rcases hb with (hb | hb) | hb
    · exact body_clean l j b hb
    · split at hb
      · cases hb
      · rw [List.mem_singleton.1 hb]; decide
    · exact dig_clean _ b hb
/-- a sequence's octets -/
def sq (l : List Int) : List UInt8 := [27, 91] ++ bodyTo l l.length ++ [109]
theorem seq_sq (l : List Int) (h : l ≠ []) : seq l = str (sq l) := by unfold seq sq; rw [if_neg h]
theorem sq_tail (l : List Int) : Esp.Clean (sq l).tail := by
  intro b hb
  have e : (sq l).tail = [91] ++ bodyTo l l.length ++ [109] := rfl
  rw [e, List.mem_append, List.mem_append] at hb
  rcases hb with (hb | hb) | hb
  · rw [List.mem_singleton.1 hb]; decide
  · exact body_clean l _ b hb
  · rw [List.mem_singleton.1 hb]; decide
theorem sq_len (l : List Int) (hl : ∀ c ∈ l, 0 ≤ c ∧ c < 1000) (h : l.length ≤ 60) : (sq l).length ≤ 250 := by
  have := body_len l hl l.length (Nat.le_refl _)
  simp only [sq, List.length_append, List.length_cons, List.length_nil]
  omega
abbrev R : List UInt8 := [27, 91, 48, 109]

theorem no_prefix (s : List UInt8) (hc : Esp.Clean s) : hasPrefix s [27, 91] = false := by
  cases h : hasPrefix s [27, 91] with
  | false => rfl
  | true =>
    obtain ⟨r, hr⟩ := List.isPrefixOf_iff_prefix.1 h
    exact absurd rfl (hc 27 (by rw [← hr]; simp))
theorem no_reset (s : List UInt8) (hc : Esp.Clean s) : ∀ i, i + R.length ≤ s.length → (s.drop i).take R.length ≠ R := by
  intro i hi h
  have hm : (27 : UInt8) ∈ (s.drop i).take R.length := by rw [h]; simp
  exact hc 27 (List.mem_of_mem_drop (List.mem_of_mem_take hm)) rfl
theorem gl (a b : List UInt8) (i : Nat) (h : i < a.length) : (a ++ b).getD i 0 = a.getD i 0 := by
  simp only [List.getD_eq_getElem?_getD, List.getElem?_append_left h]
theorem gr (a b : List UInt8) (i : Nat) (h : a.length ≤ i) : (a ++ b).getD i 0 = b.getD (i - a.length) 0 := by
  simp only [List.getD_eq_getElem?_getD, List.getElem?_append_right h]
theorem getD_clean (s : List UInt8) (hc : Esp.Clean s) (i : Nat) (hi : i < s.length) : s.getD i 0 ≠ 27 := by
  rw [Small.getD_at 0 s i hi]; exact hc _ (List.getElem_mem _)
theorem no_suffix (q s : List UInt8) (hq : ∃ u, q = u ++ [109]) (hc : Esp.Clean s) (hs : s ≠ []) : hasSuffix (q ++ s) R = false := by
  cases h : hasSuffix (q ++ s) R with
  | false => rfl
  | true =>
    exfalso
    obtain ⟨u, rfl⟩ := hq
    obtain ⟨r, hr⟩ := List.isSuffixOf_iff_suffix.1 h
    have hpos : 0 < s.length := List.length_pos_iff.2 hs
    have hlen : r.length + 4 = u.length + 1 + s.length := by
      have := congrArg List.length hr
      simp only [List.length_append, List.length_cons, List.length_nil] at this
      omega
    by_cases h4 : 4 ≤ s.length
    · have : (r ++ R).getD r.length 0 = (u ++ [109] ++ s).getD r.length 0 := by rw [hr]
      rw [gr _ _ _ (Nat.le_refl _), gr _ _ _ (by simp; omega)] at this
      simp only [Nat.sub_self] at this
      exact getD_clean s hc _ (by simp; omega) this.symm
    · have hk : r.length ≤ u.length ∧ u.length - r.length = 3 - s.length := by omega
      have : (r ++ R).getD u.length 0 = (u ++ [109] ++ s).getD u.length 0 := by rw [hr]
      rw [gr _ _ _ hk.1, hk.2, gl _ _ _ (by simp), gr _ _ _ (Nat.le_refl _), Nat.sub_self] at this
      rcases (by omega : s.length = 1 ∨ s.length = 2 ∨ s.length = 3) with e | e | e <;> rw [e] at this <;> revert this <;> decide
theorem no_both (q s : List UInt8) (hq : q ≠ []) (h0 : q.getD 0 0 = 27) (ht : Esp.Clean q.tail) (hc : Esp.Clean s) (hs : s ≠ []) : ∀ i, i + (q ++ R).length ≤ (q ++ s ++ R).length → ((q ++ s ++ R).drop i).take (q ++ R).length ≠ q ++ R := by
  intro i hi h
  have hpos : 0 < s.length := List.length_pos_iff.2 hs
  have hqp : 0 < q.length := List.length_pos_iff.2 hq
  have hi2 : i ≤ s.length := by simp only [List.length_append] at hi; omega
  have at_ : ∀ k, k < (q ++ R).length → (q ++ s ++ R).getD (i + k) 0 = (q ++ R).getD k 0 := by
    intro k hk
    rw [← h]
    simp only [List.getD_eq_getElem?_getD, List.getElem?_take_of_lt hk, List.getElem?_drop]
  have hR : R.length = 4 := rfl
  rcases Nat.eq_zero_or_pos i with rfl | hip
  · have := at_ q.length (by simp only [List.length_append]; omega)
    rw [Nat.zero_add, List.append_assoc, gr _ _ _ (Nat.le_refl _), gr _ _ _ (Nat.le_refl _), Nat.sub_self, gl _ _ _ hpos] at this
    exact getD_clean s hc 0 hpos this
  · have := at_ 0 (by simp only [List.length_append]; omega)
    rw [Nat.add_zero, gl _ _ _ hqp, h0] at this
    by_cases hlt : i < (q ++ s).length
    · rw [gl _ _ _ hlt] at this
      by_cases hlq : i < q.length
      · rw [gl _ _ _ hlq] at this
        refine ht 27 ?_ rfl
        rw [Small.getD_at 0 q i hlq] at this
        rw [← this]
        cases q with
        | nil => exact absurd rfl hq
        | cons a r =>
          obtain ⟨j, rfl⟩ : ∃ j, i = j + 1 := ⟨i - 1, by omega⟩
          simp only [List.tail_cons, List.getElem_cons_succ]
          exact List.getElem_mem _
      · rw [gr _ _ _ (by omega)] at this
        exact getD_clean s hc _ (by simp only [List.length_append] at hlt; omega) this
    · simp only [List.length_append] at hlt; omega
end Go.Proofs.YtenclpkeffhjaaaDoor.Esq
