/- Sequences of colors: the walks of impl.TextColorsSeq, of the reference's TxSequence, and of the law. -/
import Derived.Test.YtenclpkeffhjaaaDoorEs
import Derived.Lib.AppendIntMem
namespace Go.Proofs.YtenclpkeffhjaaaDoor.Sq
open Go Go.RowKit Go.Proofs.YtenclpkeffhjaaaDoorW.PrintWords Go.Proofs.YtenclpkeffhjaaaDoorW.PrintLast Go.Proofs.YtenclpkeffhjaaaDoor.Small Go.Proofs.YtenclpkeffhjaaaDoor.GScBody Go.Proofs.YtenclpkeffhjaaaDoor.Es

theorem colors_copy (l : List Int) (hl : l.length ≤ 60) : ∀ d i : Nat, i + d = l.length → ∃ k, impl_colorsOf.l0 k (l.take i) l (l.length : Int) (i : Int) = some l := by
  intro d
  induction d with
  | zero =>
    intro i h
    refine ⟨1, ?_⟩
    simp only [impl_colorsOf.l0]
    rw [if_neg (by omega), List.take_of_length_le (by omega)]
  | succ d ih =>
    intro i h
    obtain ⟨k, hk⟩ := ih (i + 1) (by omega)
    refine ⟨k + 1, ?_⟩
    simp only [impl_colorsOf.l0]
    have e : l.take i ++ [rd l (i : Int)] = l.take (i + 1) := by
      rw [take_succ_at l i (by omega), rd_nat, getD_at _ _ _ (by omega : i < l.length)]
    rw [if_pos (by omega), if_pos (by omega), if_pos (by omega), if_pos (by rw [List.length_take]; omega), e, wrap_succ i (by omega)]
    exact hk

set_option linter.all false in
set_option maxRecDepth 100000 in
set_option maxHeartbeats 1000000 in
theorem tcs (A0 : Option Addr) (c0 n : Nat) (l : List Int) (w : World) (hn : n = l.length) (hr0 : Kd.C (Kd.int .i64) w A0 n l) (hc0 : n ≤ c0) (hb : n ≤ 60) (hl : ∀ c ∈ l, 0 ≤ c ∧ c < 1000) :
    Calls Tryd.prog 12 #[.slice A0 n c0] w fun e w' => e = .returned (.string (seq l)) ∧ Below w.heap.size w w' := by
  subst hn
  obtain ⟨k, hk⟩ := colors_copy l hb l.length 0 (by omega)
  have HK := Aside0.mk hk; have HL := Aside0.mk hl; have HC := Aside0.mk hr0
  clear hk hl hr0
  obtain ⟨J, hJ⟩ : ∃ J, J = seq l := ⟨_, rfl⟩
  rw [← hJ]
  have HJ := Aside0.mk hJ
  clear hJ
  go_enter Tryd.func12, Tryd.ntmps12
  go_wp2_with (first
    | (go_at_call 20; refine (impl_colorsOf.calls k A0 c0 l l w HC.out hc0 HK.out).mono ?_
       rintro e w1 ⟨v, rfl, hR, hb1⟩
       obtain ⟨A, c, rfl, hcl, hC⟩ := Kd.R_reads hR)
    | (go_at_call 21; refine (esc A c l.length l w1 rfl hC hcl hb HL.out).mono ?_
       rintro e w2 ⟨rfl, hb2⟩
       rw [← HJ.out]))
  go_ret
  exact ⟨rfl, hb1.trans (hb2.mono hb1.size)⟩

theorem itoa_call (c : Int) (h0 : 0 ≤ c) (h1 : c < 1000) (w : World) (hT : Tb w) : Calls Tryd.prog 22 #[.int .i64 c] w fun e w' => e = .returned (.string (code c)) ∧ Below w.heap.size w w' := by
  refine (Tryd.strconv_Itoa c (by omega) (by omega) w hT).mono ?_
  rintro e w' ⟨rfl, k, os, rfl⟩
  refine ⟨?_, Lib.below_grow _ _ (Nat.le_refl _) _ _⟩
  unfold Lib.itoa
  rw [if_neg (by omega)]
  rfl

set_option linter.all false in
set_option maxRecDepth 100000 in
set_option maxHeartbeats 1000000 in
theorem sq (A0 : Option Addr) (c0 n : Nat) (l : List Int) (w : World) (hT : Tb w) (hn : n = l.length) (hr0 : Kd.C (Kd.int .i64) w A0 n l) (hb : n ≤ 60) (hl : ∀ c ∈ l, 0 ≤ c ∧ c < 1000) :
    Calls Tryd.prog 13 #[.slice A0 n c0] w fun e w' => e = .returned (.string (seq l)) ∧ Below w.heap.size w w' := by
  have HC := Aside0.mk hr0; have HN := Aside0.mk hn; have HL := Aside0.mk hl
  rcases Nat.eq_zero_or_pos n with h0 | h0
  · have hl0 : l = [] := List.eq_nil_of_length_eq_zero (by omega)
    have hs : seq l = ⟨#[]⟩ := by rw [hl0]; rfl
    rw [hs]
    subst h0
    clear hr0 hn hl HC HN HL hl0 hs
    go_enter Tryd.func13, Tryd.ntmps13
    go_wp2_with (fail)
    go_ret
    exact ⟨rfl, Below.refl _ _⟩
  · have hz : ((n : Int) == 0) = false := by simp; omega
    have hlist : l ≠ [] := fun h => by rw [h] at hn; simp at hn; omega
    have HS : Aside0 (seq l = str ([27, 91] ++ bodyTo l l.length ++ [109])) := ⟨by unfold seq; rw [if_neg hlist]⟩
    have HT := Aside0.mk hT
    clear hr0 hn hl hlist hT
    go_enter Tryd.func13, Tryd.ntmps13
    go_wp2_with (fail)
    go_loopw [3, 11] (fun v i wr => ∃ (j : Nat) (s : ByteArray), j ≤ n ∧ i = .int .i64 j ∧ v = .string s ∧ Aside0 (s = str ([27, 91] ++ bodyTo l j)) ∧ Below w.heap.size w wr) (fun _ i _ => n - (RowKit.intOf i).toNat)
    case atStart => exact ⟨0, _, by omega, rfl, rfl, ⟨rfl⟩, Below.refl _ _⟩
    case round =>
      obtain ⟨j, s, hj, rfl, rfl, hs, HB⟩ := hrel
      have hbl := body_len l HL.out j (by have := HN.out; omega)
      have hss : s.size ≤ 242 := by rw [hs.out, str_size]; simp only [List.length_append, List.length_cons, List.length_nil]; omega
      by_cases hlt : j < n
      · have hd : decide ((j : Int) < (n : Int)) = true := by simp; omega
        obtain ⟨ad, rfl, hcell⟩ := Kd.at_int (Kd.C_below HC.out HB) (j : Int) (by omega) (by omega)
        rw [rd_nat, Int.toNat_natCast] at hcell
        obtain ⟨c, hc⟩ : ∃ c, c = l.getD j 0 := ⟨_, rfl⟩
        rw [← hc] at hcell
        have hcr : 0 ≤ c ∧ c < 1000 := by
          have := HN.out
          rw [hc, getD_at _ _ _ (by omega)]; exact HL.out _ (List.getElem_mem _)
        have hcs : (code c).size ≤ 3 := by unfold code; rw [str_size]; exact dig_len c hcr.1 hcr.2
        have hnext : str ([27, 91] ++ bodyTo l (j + 1)) = (if j = 0 then s else s ++ ⟨#[59]⟩) ++ code c := by
          rw [hs.out]
          simp only [bodyTo]
          rw [← hc]
          by_cases h : j = 0
          · rw [if_pos h, if_pos h, List.append_nil, ← List.append_assoc, str_append]; rfl
          · rw [if_neg h, if_neg h, ← List.append_assoc, ← List.append_assoc, str_append, str_append]; rfl
        have HX := Aside0.mk hnext
        obtain ⟨K, hK⟩ : ∃ K, K = code c := ⟨_, rfl⟩
        rw [← hK] at hcs
        have HKC := Aside0.mk hK
        clear hc hnext hbl hK
        rcases Nat.eq_zero_or_pos j with hj0 | hj0
        · have hg : decide ((j : Int) > 0) = false := by simp; omega
          have hgn : ¬ 0 < j := by omega
          have hgd : decide (0 < j) = false := by simp; omega
          have HJ0 := Aside0.mk hj0
          clear hj0
          go_wp2_with (first
            | (go_at_call 22; refine (itoa_call c hcr.1 hcr.2 _ (HT.out.below HB)).mono ?_; rintro e w1 ⟨rfl, hb1⟩; rw [← HKC.out]; replace HB := HB.trans (hb1.mono HB.size); clear hb1))
          go_roundw
          case rel => exact ⟨j + 1, _, hlt, rfl, rfl, ⟨by rw [HX.out, if_pos HJ0.out, ← HKC.out]⟩, HB⟩
          case measure => simp [RowKit.intOf]; omega
        · have hg : decide ((j : Int) > 0) = true := by simp; omega
          have HJ0 : Aside0 (¬ j = 0) := ⟨by omega⟩
          have h59 : (⟨#[59]⟩ : ByteArray).size = 1 := rfl
          go_wp2_with (first
            | (go_at_call 22; refine (itoa_call c hcr.1 hcr.2 _ (HT.out.below HB)).mono ?_; rintro e w1 ⟨rfl, hb1⟩; rw [← HKC.out]; replace HB := HB.trans (hb1.mono HB.size); clear hb1))
          go_roundw
          case rel => exact ⟨j + 1, _, hlt, rfl, rfl, ⟨by rw [HX.out, if_neg HJ0.out, ← HKC.out]⟩, HB⟩
          case measure => simp [RowKit.intOf]; omega
      · have hd : decide ((j : Int) < (n : Int)) = false := by simp; omega
        obtain rfl : j = n := by omega
        have HSS := Aside0.mk hs.out
        clear hs hbl
        go_wp2_with (fail)
        go_ret
        refine ⟨?_, HB⟩
        rw [HS.out, HSS.out, HN.out]
        rfl
end Go.Proofs.YtenclpkeffhjaaaDoor.Sq
