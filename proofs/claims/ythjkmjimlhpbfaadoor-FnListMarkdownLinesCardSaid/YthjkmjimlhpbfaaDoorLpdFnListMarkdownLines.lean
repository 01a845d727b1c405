/- The lines of a text as the set's reference tells them, in plain Lean. -/
import Derived.Test.YthjkmjimlhpbfaaDoorLpcFnListMarkdownLines
namespace Go.Proofs.YthjkmjimlhpbfaaDoor.LpdFnListMarkdownLines
open Go Go.RowKit Go.Lib Go.Proofs.YthjkmjimlhpbfaaDoor.GFnListMarkdownLines Go.Proofs.YthjkmjimlhpbfaaDoorW.PrintWords Go.Proofs.YthjkmjimlhpbfaaDoorW.PrintLast Go.Proofs.YthjkmjimlhpbfaaDoorW.PrintMore Go.Proofs.YthjkmjimlhpbfaaDoor.Small Go.Proofs.YthjkmjimlhpbfaaDoor.Itr Go.Proofs.YthjkmjimlhpbfaaDoor.Dec Go.Proofs.YthjkmjimlhpbfaaDoor.Va Go.Proofs.YthjkmjimlhpbfaaDoor.Lpl Go.Proofs.YthjkmjimlhpbfaaDoor.Lrn Go.Proofs.YthjkmjimlhpbfaaDoor.Lof Go.Proofs.YthjkmjimlhpbfaaDoor.LpcFnListMarkdownLines

theorem byte_of (n : Nat) : (n : Int).toNat.toUInt8 = UInt8.ofNat n := by simp
theorem enc_eq (n : Nat) : (Utf8.encode (n : Int)).data.toList = encodeRune (n : Int) := by
  unfold Utf8.encode encodeRune
  by_cases hv : Utf8.valid (n : Int) = true
  · have hv2 : n < 55296 ∨ (57344 ≤ n ∧ n ≤ 1114111) := by
      unfold Utf8.valid at hv
      simp at hv
      omega
    simp only [if_pos hv, Int.toNat_natCast]
    by_cases c1 : n < 128
    · rw [if_pos c1, encodeRuneZ_one (by omega) (by omega)]
      simp
    · by_cases c2 : n < 2048
      · rw [if_neg c1, if_pos c2, encodeRuneZ_two (by omega) (by omega)]
        have e1 : (192 + (n : Int) / 64) = ((192 + n / 64 : Nat) : Int) := by omega
        have e2 : (128 + (n : Int) % 64) = ((128 + n % 64 : Nat) : Int) := by omega
        simp only [List.map_cons, List.map_nil, e1, e2, byte_of]
      · by_cases c3 : n < 65536
        · rw [if_neg c1, if_neg c2, if_pos c3, encodeRuneZ_three (by omega)]
          have e1 : (224 + (n : Int) / 4096) = ((224 + n / 4096 : Nat) : Int) := by omega
          have e2 : (128 + (n : Int) / 64 % 64) = ((128 + n / 64 % 64 : Nat) : Int) := by omega
          have e3 : (128 + (n : Int) % 64) = ((128 + n % 64 : Nat) : Int) := by omega
          simp only [List.map_cons, List.map_nil, e1, e2, e3, byte_of]
        · rw [if_neg c1, if_neg c2, if_neg c3, encodeRuneZ_four (by omega) (by omega)]
          have e1 : (240 + (n : Int) / 262144) = ((240 + n / 262144 : Nat) : Int) := by omega
          have e2 : (128 + (n : Int) / 4096 % 64) = ((128 + n / 4096 % 64 : Nat) : Int) := by omega
          have e3 : (128 + (n : Int) / 64 % 64) = ((128 + n / 64 % 64 : Nat) : Int) := by omega
          have e4 : (128 + (n : Int) % 64) = ((128 + n % 64 : Nat) : Int) := by omega
          simp only [List.map_cons, List.map_nil, e1, e2, e3, e4, byte_of]
  · have hv2 : ¬ (n < 55296 ∨ (57344 ≤ n ∧ n ≤ 1114111)) := by
      unfold Utf8.valid at hv
      simp at hv
      omega
    simp only [if_neg hv]
    have e : encodeRuneZ (n : Int) = [239, 191, 189] := by
      unfold encodeRuneZ
      rw [if_neg (by omega), if_neg (by omega), if_neg (by omega), if_neg (by omega)]
    rw [e]
    decide
theorem lines_l (s : ByteArray) (hs : s.size ≤ 1000000000) : ∀ d p : Nat, p + d = s.size → Va (s.data.toList.drop p) → ∀ (pre : List (List UInt8)) (cur : List UInt8), pre.length ≤ p → cur.length ≤ p →
    Ev (fun k => spec_TxLines.l0 k ((pre ++ [cur]).map str) s (p : Int)) ((pre ++ glue cur (splitL (s.data.toList.drop p))).map str) := by
  intro d
  induction d using Nat.strongRecOn with
  | ind d ih =>
    intro p hp hva pre cur hpl hcl
    rcases Nat.eq_zero_or_pos d with rfl | hd
    · obtain rfl : p = s.size := by omega
      refine Ev.shift ?_
      rw [List.drop_of_length_le (by rw [size_data]; exact Nat.le_refl _)]
      simp only [spec_TxLines.l0, if_neg (show ¬ (s.size : Int) < (s.size : Int) by omega), end_at, Option.bind_some, splitL, glue, List.append_nil]
      exact Ev.now _
    · obtain ⟨h1, h2, hc⟩ := dec s p (by omega)
      obtain ⟨g1, g2, g3, g4⟩ := step_one s p (by omega) hva
      have ih' := ih (s.size - (p + (Utf8.decode s p).2)) (by omega) (p + (Utf8.decode s p).2) (by omega) g2
      obtain ⟨len, hlen⟩ : ∃ len, len = (Utf8.decode s p).2 := ⟨_, rfl⟩
      obtain ⟨ru, hru⟩ : ∃ ru, ru = (Utf8.decode s p).1 := ⟨_, rfl⟩
      have hm := more_at s p (by omega)
      rw [← hlen] at h1 h2 hc g2 g3 g4 ih' hm
      rw [← hru] at hc g1 g4 hm
      have hll : (pre ++ [cur]).length = pre.length + 1 := by simp
      have hml : ((pre ++ [cur]).map str).length = pre.length + 1 := by simp
      refine Ev.shift ?_
      rw [g3]
      by_cases h10 : (ru : Int) = 10
      · have hx : (s.data.toList.drop p).take len = [10] := by
          rw [← g4, h10]; decide
        rw [hx]
        simp only [spec_TxLines.l0, if_pos (show (p : Int) < (s.size : Int) by omega), hm, Option.bind_some, if_pos h10, hml, if_pos (show pre.length + 1 < 8796093022208 by omega)]
        have := ih' (pre ++ [cur]) [] (by simp; omega) (by simp)
        rw [glue_nil] at this
        have e : ((pre ++ [cur]).map str) ++ [(⟨#[]⟩ : ByteArray)] = ((pre ++ [cur] ++ [[]]).map str) := by simp [str]
        rw [e]
        have e2 : glue cur (splitL ([10] ++ s.data.toList.drop (p + len))) = cur :: splitL (s.data.toList.drop (p + len)) := by
          show glue cur (splitL (10 :: _)) = _
          rw [splitL_end]; simp [glue]
        rw [e2]
        simpa [List.append_assoc] using this
      · have hno : ∀ b ∈ (s.data.toList.drop p).take len, b ≠ 10 := by
          intro b hb e
          subst e
          obtain ⟨i, hi, hbi⟩ := List.mem_iff_getElem.1 hb
          rw [List.length_take, List.length_drop, size_data] at hi
          have hat : (((s.data.toList.drop p).take len)[i]).toNat = at_ s (p + i) := by
            unfold at_
            rw [List.getElem_take, List.getElem_drop, List.getD_eq_getElem?_getD, List.getElem?_eq_getElem]
            rfl
          rw [hbi] at hat
          rcases hc with ⟨c1, c2⟩ | ⟨_, _, c3⟩
          · have e1 : ru = at_ s p := by rw [hru, c2]
            have e2 : len = 1 := by rw [hlen, c2]
            obtain rfl : i = 0 := by omega
            rw [Nat.add_zero] at hat
            apply h10
            rw [e1, ← hat]; rfl
          · have := c3 (p + i) (by omega) (by omega)
            rw [← hat] at this
            exact absurd this (by decide)
        have hw : wrap64 (((pre.length + 1 : Nat) : Int) - 1) = (pre.length : Int) := by rw [wrap_in (by omega) (by omega)]; omega
        have hrd : rdOf ByteArray.empty ((pre ++ [cur]).map str) (pre.length : Int) = str cur := by
          rw [rdOf_nat, getD_at _ _ _ (by simp)]
          simp
        have hen : (Utf8.encode (ru : Int)) = str ((s.data.toList.drop p).take len) := ba_ext (by rw [enc_eq, g4]; rfl)
        have hel : ((s.data.toList.drop p).take len).length ≤ len := by rw [List.length_take]; omega
        simp only [spec_TxLines.l0, if_pos (show (p : Int) < (s.size : Int) by omega), hm, Option.bind_some, if_neg h10, hml, hw, if_pos (show (0 : Int) ≤ (pre.length : Int) by omega), if_pos (show (pre.length : Int) < ((pre.length + 1 : Nat) : Int) by omega), hrd, hen, str_size, if_pos (show cur.length + ((s.data.toList.drop p).take len).length ≤ 9223372036854775807 by omega), Int.toNat_natCast]
        have e : ((pre ++ [cur]).map str).set pre.length (str cur ++ str ((s.data.toList.drop p).take len)) = (pre ++ [cur ++ (s.data.toList.drop p).take len]).map str := by
          rw [← str_append]
          simp
        rw [e, splitL_no _ _ hno, glue_glue _ _ _ (splitL_ne _)]
        exact ih' pre (cur ++ (s.data.toList.drop p).take len) (by omega) (by rw [List.length_append]; omega)
theorem lines (T : List UInt8) (hs : T.length ≤ 1000000000) (hv : Va T) : Ev (fun k => spec_TxLines.f k (str T)) ((splitL T).map str) := by
  have := lines_l (str T) hs T.length 0 (by simp [str_size]) (by rw [List.drop_zero]; exact hv) [] [] (by simp) (by simp)
  rw [List.drop_zero, str_data] at this
  rw [List.nil_append, List.nil_append, glue_nil] at this
  simp only [spec_TxLines.f, itr_make.f, Option.bind_some]
  exact this
theorem same_l (l : List ByteArray) (hl : l.length ≤ 1000000) : ∀ d i : Nat, i + d = l.length → Ev (fun k => spec_TxSameTexts.l0 k l l (l.length : Int) (i : Int)) true := by
  intro d
  induction d with
  | zero =>
    intro i hi
    refine Ev.shift ?_
    simp only [spec_TxSameTexts.l0, if_neg (show ¬ (i : Int) < (l.length : Int) by omega)]
    exact Ev.now _
  | succ d ih =>
    intro i hi
    refine Ev.shift ?_
    simp only [spec_TxSameTexts.l0, if_pos (show (i : Int) < (l.length : Int) by omega), if_pos (show (0 : Int) ≤ (i : Int) by omega), if_true, wrap_succ i (by omega)]
    exact ih (i + 1) (by omega)
theorem same (l : List ByteArray) (hl : l.length ≤ 1000000) : Ev (fun k => spec_TxSameTexts.f k l l) true := by
  simp only [spec_TxSameTexts.f, if_true]
  exact same_l l hl l.length 0 (by omega)
end Go.Proofs.YthjkmjimlhpbfaaDoor.LpdFnListMarkdownLines
