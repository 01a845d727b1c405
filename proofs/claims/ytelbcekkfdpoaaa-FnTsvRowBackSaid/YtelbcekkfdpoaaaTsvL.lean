/- The walk of FnTsvRowBack. -/
import Derived.Test.YtelbcekkfdpoaaaTsvP
import Derived.Test.YtelbcekkfdpoaaaWApart
namespace Go.Proofs.Ytelbcekkfdpoaaa.TsvL
open Go.RowKit Go.Lib Go.Proofs.Ytelbcekkfdpoaaa.Blt Go.Proofs.Ytelbcekkfdpoaaa.GTsvBody Go.Proofs.Ytelbcekkfdpoaaa.Small Go.Proofs.YtelbcekkfdpoaaaW.PrintWords

theorem single_C {w : World} {b c0 : Nat} {A0 : Option Addr} {l0 : List ByteArray} (hb : w.heap[b]? = some (.cells #[.slice A0 l0.length c0] 22 (0, 0))) (hC : Kd.C Kd.string w A0 l0.length l0) (hc : l0.length ≤ c0) :
    Kd.C (Kd.slice 9 Kd.string) w (some ⟨b, 0, none⟩) ([l0] : List (List ByteArray)).length [l0] := by
  refine ⟨rfl, by simp, fun _ => ⟨_, rfl, fun j p hj => ?_⟩⟩
  obtain rfl : j = 0 := by have := (List.getElem?_eq_some_iff.1 hj).1; simp at this; omega
  simp at hj
  subst hj
  refine ⟨[.slice A0 l0.length c0], rfl, ⟨A0, c0, rfl, hc, hC⟩, fun i u hi => ?_⟩
  obtain rfl : i = 0 := by have := (List.getElem?_eq_some_iff.1 hi).1; simp at this; omega
  simp at hi
  subst hi
  show w.cell? ⟨b, 0, none⟩ = _
  rw [Lib.cell_of_heap hb]; rfl

set_option maxRecDepth 100000 in
set_option maxHeartbeats 400000 in
theorem law_any (A0 : Option Addr) (c0 : Nat) (l0 : List ByteArray) (w : World) (hr0 : Kd.C Kd.string w A0 l0.length l0) (hc0 : l0.length ≤ c0) :
    Calls Try.prog 3 #[.slice A0 l0.length c0] w fun e w' => e = .returned (.bool true) ∧ Below w.heap.size w w' := by
  obtain ⟨b1, hb1, hf1⟩ := TsvP.fits l0
  obtain ⟨k1, hk1⟩ := hb1.rounds
  have K1 := Aside0.mk hk1; have HR := Aside0.mk hr0; have HC := Aside0.mk hc0
  clear hb1 hk1 hr0 hc0
  cases b1 with
  | false =>
    clear hf1
    go_enter Try.func3, Try.ntmps3
    go_wp2_with (first
      | (go_at_call 7; refine (laws_zzFits4.calls k1 A0 c0 l0 _ _ HR.out HC.out K1.out).mono ?_; rintro e w1 ⟨rfl, hb1⟩))
    go_ret
    exact ⟨rfl, hb1.below⟩
  | true =>
    obtain ⟨hn, hs⟩ := hf1 rfl
    obtain ⟨b2, hb2, hf2⟩ := TsvP.texts l0 hn hs
    obtain ⟨k2, hk2⟩ := hb2.rounds
    have K2 := Aside0.mk hk2
    clear hb2 hk2 hf1 hs
    cases b2 with
    | false =>
      clear hf2
      go_enter Try.func3, Try.ntmps3
      go_wp2_with (first
        | (go_at_call 7; refine (laws_zzFits4.calls k1 A0 c0 l0 _ _ HR.out HC.out K1.out).mono ?_; rintro e w1 ⟨rfl, hb1⟩; have H1 := hb1.below)
        | (go_at_call 8; refine (laws_texts.calls k2 A0 c0 l0 _ _ _ (Kd.C_below HR.out H1) HC.out K2.out).mono ?_; rintro e w2 ⟨rfl, hb2⟩; have H2 := H1.trans (hb2.below.mono H1.size)))
      go_ret
      exact ⟨rfl, H2⟩
    | true =>
      obtain ⟨h1, h2⟩ := hf2 rfl
      clear hf2
      by_cases hne : l0 = []
      · subst hne
        clear h1 h2
        go_enter Try.func3, Try.ntmps3
        go_wp2_with (first
          | (go_at_call 7; refine (laws_zzFits4.calls k1 A0 c0 [] _ _ HR.out HC.out K1.out).mono ?_; rintro e w1 ⟨rfl, hb1⟩; have H1 := hb1.below)
          | (go_at_call 8; refine (laws_texts.calls k2 A0 c0 [] _ _ _ (Kd.C_below HR.out H1) HC.out K2.out).mono ?_; rintro e w2 ⟨rfl, hb2⟩; have H2 := H1.trans (hb2.below.mono H1.size)))
        go_ret
        exact ⟨rfl, H2⟩
      · have hpos : 0 < l0.length := List.length_pos_iff.2 hne
        have hz : ((l0.length : Int) == 0) = false := by simp; omega
        obtain ⟨k3, hk3⟩ := (TsvP.rows l0 hne h2 h1).rounds
        obtain ⟨k4, hk4⟩ := (TsvP.same l0 (by omega)).rounds
        have hf : impl_TsvRow.f l0 (l0.length : Int) false 0 = some (str (TsvW.part l0 l0.length)) := by
          simp only [impl_TsvRow.f, table_ZzTsvRow.f]
          simp only [h1, and_self, and_true, if_pos h2, Option.bind_some]
        have K3 := Aside0.mk hk3; have K4 := Aside0.mk hk4; have KF := Aside0.mk hf
        clear hk3 hk4 hf h1 h2 hpos
        obtain ⟨N, hN⟩ : ∃ N, N = l0.length := ⟨_, rfl⟩
        go_enter Try.func3, Try.ntmps3
        go_wp2_with (first
          | (go_at_call 7; refine (laws_zzFits4.calls k1 A0 c0 l0 _ _ HR.out HC.out K1.out).mono ?_; rintro e w1 ⟨rfl, hb1⟩; have H1 := hb1.below)
          | (go_at_call 8; refine (laws_texts.calls k2 A0 c0 l0 _ _ _ (Kd.C_below HR.out H1) HC.out K2.out).mono ?_; rintro e w2 ⟨rfl, hb2⟩; have H2 := H1.trans (hb2.below.mono H1.size))
          | (go_at_call 10; refine (impl_TsvRow.calls A0 c0 l0 _ _ _ _ _ (Kd.C_below HR.out H2) HC.out KF.out).mono ?_; rintro e w3 ⟨rfl, hb3⟩; have H3 := H2.trans (hb3.mono H2.size))
          | (go_at_call 9; refine (spec_Rows.calls k3 _ _ _ _ _ K3.out).mono ?_; rintro e w4 ⟨v4, rfl, hv4, hb4⟩; have H4 := H3.trans (hb4.mono H3.size); obtain ⟨A4, c4, rfl, hc4, hr4⟩ := Kd.S_reads hv4)
          | (go_at_call 11
             have h5 : Below w.heap.size w (w4.alloc (.cells #[.slice A0 l0.length c0] 22)) := H4.alloc H4.size _
             refine (spec_SameGrid.calls k4 A4 c4 [l0] _ 1 [l0] _ _ (Kd.C_alloc hr4 _) hc4 (single_C (get_alloc_self _ _) (Kd.C_below HR.out h5) HC.out) (Nat.le_refl _) K4.out).mono ?_; rintro e w5 ⟨rfl, hb5⟩; have H5 := h5.trans (hb5.below.mono h5.size)))
        go_ret
        exact ⟨rfl, H5⟩
end Go.Proofs.Ytelbcekkfdpoaaa.TsvL
