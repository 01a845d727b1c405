/- The walk of the law of printing in colors. -/
import Derived.Test.YtenclpkeffhjaaaDoorClp
import Derived.Lib.AtoiErrMem
namespace Go.Proofs.YtenclpkeffhjaaaDoor.Clw
open Go Go.RowKit Go.Proofs.YtenclpkeffhjaaaDoor.GEsBody Go.Proofs.YtenclpkeffhjaaaDoorW.PrintWords Go.Proofs.YtenclpkeffhjaaaDoorW.PrintLast Go.Proofs.YtenclpkeffhjaaaDoorW.PrintMore Go.Proofs.YtenclpkeffhjaaaDoor.Small Go.Proofs.YtenclpkeffhjaaaDoor.Esp Go.Proofs.YtenclpkeffhjaaaDoor.Es Go.Proofs.YtenclpkeffhjaaaDoor.Esq Go.Proofs.YtenclpkeffhjaaaDoor.Clp

theorem fits_l (l : List ByteArray) (hl : l.length ≤ 2147483647) : ∀ d i : Nat, i + d = l.length → ∃ b, Ev (fun k => laws_zzFits4.l0 k l (l.length : Int) (i : Int)) b := by
  intro d
  induction d with
  | zero =>
    intro i hi
    refine ⟨true, Ev.shift ?_⟩
    simp only [laws_zzFits4.l0, if_neg (show ¬ (i : Int) < (l.length : Int) by omega)]
    exact Ev.now _
  | succ d ih =>
    intro i hi
    obtain ⟨b, hb⟩ := ih (i + 1) (by omega)
    by_cases hbig : ((rdOf ByteArray.empty l (i : Int)).size : Int) > 2147483647
    · refine ⟨false, Ev.shift ?_⟩
      simp only [laws_zzFits4.l0, if_pos (show (i : Int) < (l.length : Int) by omega), if_pos (show 0 ≤ (i : Int) by omega), if_pos hbig]
      exact Ev.now _
    · refine ⟨b, Ev.shift ?_⟩
      simp only [laws_zzFits4.l0, if_pos (show (i : Int) < (l.length : Int) by omega), if_pos (show 0 ≤ (i : Int) by omega), if_neg hbig, wrap_succ i (by omega)]
      exact hb
theorem fits (l : List ByteArray) : ∃ b k, laws_zzFits4.f k l = some b ∧ (b = true → l.length ≤ 2147483647) := by
  by_cases h : (l.length : Int) > 2147483647
  · exact ⟨false, 0, by unfold laws_zzFits4.f; rw [if_pos h], fun h => by cases h⟩
  · obtain ⟨b, K, hK⟩ := fits_l l (by omega) l.length 0 (by omega)
    exact ⟨b, K, by unfold laws_zzFits4.f; rw [if_neg h]; exact hK K (Nat.le_refl _), fun _ => by omega⟩

set_option linter.all false in
set_option maxRecDepth 100000 in
set_option maxHeartbeats 1000000 in
theorem law_any (A0 A1 : Option Addr) (c0 c1 n m : Nat) (l : List Int) (xs : List ByteArray) (w : World) (hT : Tb w) (hn : n = l.length) (hr0 : Kd.C (Kd.int .i64) w A0 n l) (hc0 : n ≤ c0)
    (hm : m = xs.length) (hr1 : Kd.C Kd.string w A1 m xs) (hc1 : m ≤ c1):
    Calls Tryd.prog 5 #[.slice A0 n c0, .slice A1 m c1] w fun e w' => e = .returned (.bool true) ∧ Below w.heap.size w w' := by
  obtain ⟨bf, kf, hf, hft⟩ := fits xs
  have hin : cat xs ≠ [] → ∀ x, A1 = some x → x.block < w.heap.size := fun hne x hx => by
    subst hm
    have hpos : 0 < xs.length := List.length_pos_iff.2 (fun h => hne (by rw [h]; rfl))
    obtain ⟨ad, rfl, hcell⟩ := Kd.at_string hr1 0 (by omega) (by omega)
    injection hx with hx
    subst hx
    exact Nat.lt_of_le_of_lt (Nat.le_of_eq (by unfold Addr.add; split <;> rfl)) (Lib.lt_of_cell hcell)
  have HFC : ∀ w1, Below w.heap.size w w1 → Calls Tryd.prog 14 #[.slice A1 m c1] w1 fun e w' => e = .returned (.bool bf) ∧ Below w1.heap.size w1 w' := fun w1 h => by
    subst hm
    exact (laws_zzFits4.calls kf A1 c1 xs bf w1 (Kd.C_below hr1 h) hc1 hf).mono (fun _ _ h => ⟨h.1, h.2.below⟩)
  have HC := Aside0.mk hr0; have HN := Aside0.mk hn; have HT := Aside0.mk hT; have HF := Aside0.mk HFC
  by_cases g1 : (n : Int) > 2147483647
  · have q1 : decide ((n : Int) > 2147483647) = true := decide_eq_true g1
    clear hr0 hr1 hn hT hm hin hf hft HFC
    go_enter Tryd.func5, Tryd.ntmps5
    go_wp2_with (fail)
    go_ret
    exact ⟨rfl, Below.refl _ _⟩
  · have q1 : decide ((n : Int) > 2147483647) = false := decide_eq_false g1
    cases bf with
    | false =>
      clear hr0 hr1 hn hT hm hin hf hft HFC
      go_enter Tryd.func5, Tryd.ntmps5
      go_wp2_with (first
        | (go_at_call 14; refine (HF.out _ (Below.refl _ _)).mono ?_; rintro e w1 ⟨rfl, hb1⟩))
      go_ret
      exact ⟨rfl, hb1⟩
    | true =>
      have hmm := hft rfl
      obtain ⟨r, b, kt, ht, htt⟩ := texts xs hmm
      have HTT := Aside0.mk htt
      have HX : ∀ w1, Below w.heap.size w w1 → Calls Tryd.prog 15 #[.slice A1 m c1] w1 fun e w' => e = .returned (.tuple #[.string r, .bool b]) ∧ Below w1.heap.size w1 w' := fun w1 h => by
        subst hm
        exact laws_txTexts.calls kt A1 c1 xs r b w1 (Kd.C_below hr1 h) hc1 ht
      have HP : ∀ w1, Below w.heap.size w w1 → n ≤ 10 → b = true → (∀ c ∈ l, 0 ≤ c ∧ c < 1000) → Calls Tryd.prog 16 #[.slice A0 n c0, .slice A1 m c1] w1 fun e w' => e = .returned (.string (out l (cat xs))) ∧ Below w1.heap.size w1 w' := fun w1 h h10 hb hl => by
        obtain ⟨_, g2, g3, g4, _⟩ := htt hb
        exact tcp A0 A1 c0 c1 n m l xs w1 hn (Kd.C_below hr0 h) hc0 (by omega) hl hm (Kd.C_below hr1 h) hc1 (by omega) g2 g4 g3 (fun x hx => Nat.lt_of_lt_of_le (hin g4 x hx) h.size)
      have HXA := Aside0.mk HX; have HPA := Aside0.mk HP
      clear HX HP
      clear hr0 hr1 hn hT hm hin hf hft HFC hmm ht htt
      have hnn : n ≤ 2147483647 := by omega
      go_enter Tryd.func5, Tryd.ntmps5
      go_wp2_with (first
        | (go_at_call 14; refine (HF.out _ (Below.refl _ _)).mono ?_; rintro e w1 ⟨rfl, hb1⟩)
        | (go_at_call 15; refine (HXA.out _ hb1).mono ?_; rintro e w2 ⟨rfl, hb2⟩; replace hb1 := hb1.trans (hb2.mono hb1.size); clear hb2))
      clear HXA HF
      go_loopw [6, 24] (fun v i wr => ∃ (ok : Bool) (j : Nat), v = .bool ok ∧ j ≤ n ∧ i = .int .i64 j ∧ Aside0 (ok = true → b = true ∧ ∀ c ∈ l.take j, 0 ≤ c ∧ c < 1000) ∧ Below w.heap.size w wr) (fun _ i _ => n - (RowKit.intOf i).toNat)
      case atStart => exact ⟨_, 0, rfl, by omega, rfl, ⟨fun h => ⟨h, by simp⟩⟩, hb1⟩
      case round =>
        clear hb1
        obtain ⟨ok, j, rfl, hj, rfl, HA, HB⟩ := hrel
        by_cases hlt : j < n
        · have hd : decide ((j : Int) < (n : Int)) = true := by simp; omega
          obtain ⟨ad, rfl, hcell⟩ := Kd.at_int (Kd.C_below HC.out HB) (j : Int) (by omega) (by omega)
          rw [rd_nat, Int.toNat_natCast] at hcell
          obtain ⟨c, hc⟩ : ∃ c, c = l.getD j 0 := ⟨_, rfl⟩
          rw [← hc] at hcell
          obtain ⟨bc, hbc, hbt⟩ := attr c
          have HBB := Aside0.mk hbc
          have hall : ok = true → bc = true → b = true ∧ ∀ x ∈ l.take (j + 1), 0 ≤ x ∧ x < 1000 := fun h0 h => by
            have := HN.out
            refine ⟨(HA.out h0).1, fun x hx => ?_⟩
            rw [take_succ_at l j (by omega), List.mem_append, List.mem_singleton] at hx
            rcases hx with hx | rfl
            · exact (HA.out h0).2 x hx
            · have h2 := hbt h
              rw [hc, Small.getD_at _ _ _ (by omega : j < l.length)] at h2
              omega
          have HALL := Aside0.mk hall
          clear hc hbc hbt hall HA
          cases ok with
          | false =>
            go_wp2_with (fail)
            go_roundw
            case rel => exact ⟨false, j + 1, rfl, hlt, rfl, ⟨fun h => by cases h⟩, HB⟩
            case measure => simp [RowKit.intOf]; omega
          | true =>
            go_wp2_with (first
              | (go_at_call 11; refine (GScBody.spec_TxAttribute.calls c bc _ HBB.out).mono ?_; rintro e w3 ⟨rfl, hd1⟩; replace HB := HB.trans (hd1.below.mono HB.size); clear hd1))
            go_roundw
            case rel => exact ⟨bc, j + 1, rfl, hlt, rfl, ⟨fun h => HALL.out (by first | rfl | trivial) h⟩, HB⟩
            case measure => simp [RowKit.intOf]; omega
        · have hd : decide ((j : Int) < (n : Int)) = false := by simp; omega
          obtain rfl : j = n := by omega
          cases ok with
          | false =>
            clear HA
            go_wp2_with (fail)
            go_ret
            exact ⟨rfl, HB⟩
          | true =>
            obtain ⟨rfl, hl⟩ := HA.out rfl
            have hl : ∀ c ∈ l, 0 ≤ c ∧ c < 1000 := by have := hl; rw [HN.out, List.take_length] at this; exact this
            have HL := Aside0.mk hl
            obtain rfl := (HTT.out rfl).1
            clear HA hl
            by_cases g2 : (j : Int) > 10
            · have q2 : decide ((j : Int) > 10) = true := decide_eq_true g2
              go_wp2_with (fail)
              go_ret
              exact ⟨rfl, HB⟩
            · have q2 : decide ((j : Int) > 10) = false := decide_eq_false g2
              have h10 : j ≤ 10 := by omega
              clear g2
              rcases Nat.eq_zero_or_pos j with h0 | h0
              · have q3 : decide ((j : Int) > 0) = false := by simp; omega
                have ho : Aside0 (out l (cat xs) = str (cat xs)) := ⟨by unfold out; rw [if_pos (List.eq_nil_of_length_eq_zero (by have := HN.out; omega))]⟩
                have hgn : ¬ 0 < j := by omega
                have hgd : decide (0 < j) = false := by simp; omega
                have H0 := Aside0.mk h0
                clear h0
                go_wp2_with (first
                  | (go_at_call 16; refine (HPA.out _ HB h10 (by first | rfl | trivial) HL.out).mono ?_; rintro e w4 ⟨rfl, hb4⟩; rw [ho.out]; replace HB := HB.trans (hb4.mono HB.size); clear hb4))
                go_ret
                exact ⟨by simp, HB⟩
              · have q3 : decide ((j : Int) > 0) = true := by simp; omega
                have ho : Aside0 (out l (cat xs) = seq l ++ str (cat xs) ++ ⟨#[27, 91, 48, 109]⟩) := ⟨by unfold out; rw [if_neg (fun h => by have := HN.out; rw [h] at this; simp at this; omega)]⟩
                have hz1 : Aside0 ((cat xs).length ≤ 6000) := ⟨(HTT.out rfl).2.2.1⟩
                have hz2 : (seq l).size ≤ 250 := by
                  rw [seq_sq l (fun h => by have := HN.out; rw [h] at this; simp at this; omega), str_size]
                  exact sq_len l HL.out (by have := HN.out; omega)
                have hz3 : (str (cat xs)).size ≤ 6000 := by rw [str_size]; exact hz1.out
                have hz4 : (⟨#[27, 91, 48, 109]⟩ : ByteArray).size = 4 := rfl
                have hz5 : (seq l ++ str (cat xs)).size ≤ 6250 := by rw [ByteArray.size_append]; omega
                have h60 : j ≤ 60 := by omega
                go_wp2_with (first
                  | (go_at_call 13; refine (Sq.sq A0 c0 j l _ (HT.out.below HB) HN.out (Kd.C_below HC.out HB) h60 HL.out).mono ?_; rintro e w5 ⟨rfl, hb5⟩; replace HB := HB.trans (hb5.mono HB.size); clear hb5)
                  | (go_at_call 16; refine (HPA.out _ HB h10 (by first | rfl | trivial) HL.out).mono ?_; rintro e w4 ⟨rfl, hb4⟩; rw [ho.out]; replace HB := HB.trans (hb4.mono HB.size); clear hb4))
                go_ret
                exact ⟨by simp, HB⟩
end Go.Proofs.YtenclpkeffhjaaaDoor.Clw
