/- The walk of the law: the sequence of some colors is of all of them, in order. -/
import Derived.Test.YtenclpkeffhjaaaDoorSq
namespace Go.Proofs.YtenclpkeffhjaaaDoor.Lw
open Go Go.RowKit Go.Proofs.YtenclpkeffhjaaaDoorW.PrintWords Go.Proofs.YtenclpkeffhjaaaDoorW.PrintLast Go.Proofs.YtenclpkeffhjaaaDoor.Small Go.Proofs.YtenclpkeffhjaaaDoor.GScBody Go.Proofs.YtenclpkeffhjaaaDoor.Es Go.Proofs.YtenclpkeffhjaaaDoor.Sq

set_option linter.all false in
set_option maxRecDepth 100000 in
set_option maxHeartbeats 1000000 in
theorem law_any (A0 : Option Addr) (c0 n : Nat) (l : List Int) (w : World) (hT : Tb w) (hn : n = l.length) (hr0 : Kd.C (Kd.int .i64) w A0 n l) (hc0 : n ≤ c0) :
    Calls Tryd.prog 4 #[.slice A0 n c0] w fun e w' => e = .returned (.bool true) ∧ Below w.heap.size w w' := by
  have HC := Aside0.mk hr0; have HN := Aside0.mk hn; have HT := Aside0.mk hT
  clear hr0 hn hT
  by_cases g1 : (n : Int) > 2147483647
  · have q1 : decide ((n : Int) > 2147483647) = true := decide_eq_true g1
    go_enter Tryd.func4, Tryd.ntmps4
    go_wp2_with (fail)
    go_ret
    exact ⟨rfl, Below.refl _ _⟩
  · have q1 : decide ((n : Int) > 2147483647) = false := decide_eq_false g1
    go_enter Tryd.func4, Tryd.ntmps4
    go_wp2_with (fail)
    go_loopw [10] (fun i wr => ∃ j : Nat, j ≤ n ∧ i = .int .i64 j ∧ Aside0 (∀ c ∈ l.take j, 0 ≤ c ∧ c < 1000) ∧ Below w.heap.size w wr) (fun i _ => n - (RowKit.intOf i).toNat)
    case atStart => exact ⟨0, by omega, rfl, ⟨by simp⟩, Below.refl _ _⟩
    case round =>
      obtain ⟨j, hj, rfl, HA, HB⟩ := hrel
      by_cases hlt : j < n
      · have hd : decide ((j : Int) < (n : Int)) = true := by simp; omega
        obtain ⟨ad, rfl, hcell⟩ := Kd.at_int (Kd.C_below HC.out HB) (j : Int) (by omega) (by omega)
        rw [rd_nat, Int.toNat_natCast] at hcell
        obtain ⟨c, hc⟩ : ∃ c, c = l.getD j 0 := ⟨_, rfl⟩
        rw [← hc] at hcell
        obtain ⟨b, hb, hbt⟩ := attr c
        have HBB := Aside0.mk hb
        have hall : b = true → ∀ x ∈ l.take (j + 1), 0 ≤ x ∧ x < 1000 := fun h x hx => by
          have := HN.out
          rw [take_succ_at l j (by omega), List.mem_append, List.mem_singleton] at hx
          rcases hx with hx | rfl
          · exact HA.out x hx
          · have h2 := hbt h
            rw [hc, getD_at _ _ _ (by omega : j < l.length)] at h2
            omega
        have HALL := Aside0.mk hall
        clear hc hb hbt hall
        cases b with
        | false =>
          go_wp2_with (first
            | (go_at_call 11; refine (spec_TxAttribute.calls c false _ HBB.out).mono ?_; rintro e w1 ⟨rfl, hd1⟩; replace HB := HB.trans (hd1.below.mono HB.size); clear hd1))
          go_ret
          exact ⟨rfl, HB⟩
        | true =>
          go_wp2_with (first
            | (go_at_call 11; refine (spec_TxAttribute.calls c true _ HBB.out).mono ?_; rintro e w1 ⟨rfl, hd1⟩; replace HB := HB.trans (hd1.below.mono HB.size); clear hd1))
          go_roundw
          case rel => exact ⟨j + 1, hlt, rfl, ⟨by first | exact HALL.out rfl | exact HALL.out trivial⟩, HB⟩
          case measure => simp [RowKit.intOf]; omega
      · have hd : decide ((j : Int) < (n : Int)) = false := by simp; omega
        obtain rfl : j = n := by omega
        have HL : Aside0 (∀ c ∈ l, 0 ≤ c ∧ c < 1000) := ⟨by have := HA.out; rw [HN.out, List.take_length] at this; exact this⟩
        clear HA
        by_cases g2 : (j : Int) > 30
        · have q2 : decide ((j : Int) > 30) = true := decide_eq_true g2
          go_wp2_with (fail)
          go_ret
          exact ⟨rfl, HB⟩
        · have q2 : decide ((j : Int) > 30) = false := decide_eq_false g2
          have h60 : j ≤ 60 := by omega
          clear g2
          go_wp2_with (first
            | (go_at_call 12; refine (tcs A0 c0 j l _ HN.out (Kd.C_below HC.out HB) hc0 h60 HL.out).mono ?_; rintro e w1 ⟨rfl, hb1⟩; replace HB := HB.trans (hb1.mono HB.size); clear hb1)
            | (go_at_call 13; refine (sq A0 c0 j l _ (HT.out.below HB) HN.out (Kd.C_below HC.out HB) h60 HL.out).mono ?_; rintro e w2 ⟨rfl, hb2⟩; replace HB := HB.trans (hb2.mono HB.size); clear hb2))
          go_ret
          exact ⟨by simp, HB⟩
end Go.Proofs.YtenclpkeffhjaaaDoor.Lw
