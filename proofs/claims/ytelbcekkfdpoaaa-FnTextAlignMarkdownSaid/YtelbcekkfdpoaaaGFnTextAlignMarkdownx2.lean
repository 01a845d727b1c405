-- Written by gprint.py, a program of this session over the kit's printer, with contracts of its own for what the printer does not take. Not trusted: Lean checks it.
import Derived.Test.YtelbcekkfdpoaaaGFnTextAlignMarkdownx0
import Derived.Test.YtelbcekkfdpoaaaGFnTextAlignMarkdownx1
namespace Go.Proofs.Ytelbcekkfdpoaaa.GFnTextAlignMarkdown
open Go.RowKit Go.Proofs.Ytelbcekkfdpoaaa.Itr Go.Proofs.YtelbcekkfdpoaaaW.PrintWords Go.Proofs.YtelbcekkfdpoaaaW.PrintLast Go.Proofs.YtelbcekkfdpoaaaW.PrintMore
attribute [local go_sem] max2_int min2_int max_two min_two max_three min_three max_four min_four   -- for this text's walks alone
set_option linter.unusedVariables false
set_option linter.unusedSimpArgs false

/-! ### laws_FnTextAlignMarkdown: function 4 -/
mutual
def laws_FnTextAlignMarkdown.j0 : Nat → Int → List Int → Bool → Option (Bool)
  | 0, _, _, _ => none
  | k + 1, x0, x1, x29 => if x29 = true then (some true) else (if (x1.length : Int) = 1 then (if 0 < (x1.length : Int) then (laws_FnTextAlignMarkdown.j1 k x0 x1 (mx 3 (rd x1 0))) else (none)) else (laws_FnTextAlignMarkdown.j1 k x0 x1 3))
def laws_FnTextAlignMarkdown.j1 : Nat → Int → List Int → Int → Option (Bool)
  | 0, _, _, _ => none
  | k + 1, x0, x1, x5 => (spec_TxTimes.f k (⟨#[45]⟩ : ByteArray) x5).bind fun t117 => (if (Int.tmod x0 4) = 0 then ((impl_TextAlignMarkdown.f k 0 x1).bind fun t118 => (if 1 + t117.size ≤ 9223372036854775807 then (if ((⟨#[32]⟩ : ByteArray) ++ t117).size + 1 ≤ 9223372036854775807 then (some (t118.toList == (((⟨#[32]⟩ : ByteArray) ++ t117) ++ (⟨#[32]⟩ : ByteArray)).toList)) else (none)) else (none))) else (if (Int.tmod x0 4) = 1 then ((impl_TextAlignMarkdown.f k 1 x1).bind fun t119 => (if 1 + t117.size ≤ 9223372036854775807 then (if ((⟨#[58]⟩ : ByteArray) ++ t117).size + 1 ≤ 9223372036854775807 then (some (t119.toList == (((⟨#[58]⟩ : ByteArray) ++ t117) ++ (⟨#[32]⟩ : ByteArray)).toList)) else (none)) else (none))) else (if (Int.tmod x0 4) = 2 then ((impl_TextAlignMarkdown.f k 2 x1).bind fun t120 => (if 1 + t117.size ≤ 9223372036854775807 then (if ((⟨#[58]⟩ : ByteArray) ++ t117).size + 1 ≤ 9223372036854775807 then (some (t120.toList == (((⟨#[58]⟩ : ByteArray) ++ t117) ++ (⟨#[58]⟩ : ByteArray)).toList)) else (none)) else (none))) else ((impl_TextAlignMarkdown.f k 4 x1).bind fun t121 => (if 1 + t117.size ≤ 9223372036854775807 then (if ((⟨#[32]⟩ : ByteArray) ++ t117).size + 1 ≤ 9223372036854775807 then (some (t121.toList == (((⟨#[32]⟩ : ByteArray) ++ t117) ++ (⟨#[58]⟩ : ByteArray)).toList)) else (none)) else (none))))))
end
def laws_FnTextAlignMarkdown.f (k : Nat) (a0 : Int) (l1 : List Int) : Option (Bool) := if (l1.length : Int) > 2147483647 then (some true) else (if (l1.length : Int) > 1 then (laws_FnTextAlignMarkdown.j0 k a0 l1 true) else (if (l1.length : Int) = 1 then (if 0 < (l1.length : Int) then (if (rd l1 0) < 0 then (laws_FnTextAlignMarkdown.j0 k a0 l1 true) else (laws_FnTextAlignMarkdown.j0 k a0 l1 (decide ((rd l1 0) > 2000)))) else (none)) else (laws_FnTextAlignMarkdown.j0 k a0 l1 false)))
theorem laws_FnTextAlignMarkdown.mono_l : ∀ k, (∀ y0 y1 y2, LeO (laws_FnTextAlignMarkdown.j0 k y0 y1 y2) (laws_FnTextAlignMarkdown.j0 (k + 1) y0 y1 y2)) ∧ (∀ y0 y1 y2, LeO (laws_FnTextAlignMarkdown.j1 k y0 y1 y2) (laws_FnTextAlignMarkdown.j1 (k + 1) y0 y1 y2))
  | 0 => ⟨fun _ _ _ r h => by simp [laws_FnTextAlignMarkdown.j0] at h, fun _ _ _ r h => by simp [laws_FnTextAlignMarkdown.j1] at h⟩
  | k + 1 => by
    obtain ⟨ih0, ih1⟩ := laws_FnTextAlignMarkdown.mono_l k
    refine ⟨?_, ?_⟩
    · intro y0 y1 y2
      unfold laws_FnTextAlignMarkdown.j0
      repeat' first
      | (with_reducible exact ih0 _ _ _)
      | (with_reducible exact ih1 _ _ _)
      | (with_reducible exact impl_TextAlignMarkdown.mono _ _ _)
      | (with_reducible exact spec_TxTimes.mono _ _ _)
      | (with_reducible exact LeO.refl _)
      | (with_reducible exact LeO.none _)
      | (with_reducible refine LeO.ite ?_ ?_)
      | (with_reducible refine LeO.bind ?_ (fun _ => ?_))
      | exact ih0 _ _ _
      | exact ih1 _ _ _
      | exact impl_TextAlignMarkdown.mono _ _ _
      | exact spec_TxTimes.mono _ _ _
      | exact LeO.none _
      | refine LeO.ite ?_ ?_
      | refine LeO.bind ?_ (fun _ => ?_)
    · intro y0 y1 y2
      unfold laws_FnTextAlignMarkdown.j1
      repeat' first
      | (with_reducible exact ih0 _ _ _)
      | (with_reducible exact ih1 _ _ _)
      | (with_reducible exact impl_TextAlignMarkdown.mono _ _ _)
      | (with_reducible exact spec_TxTimes.mono _ _ _)
      | (with_reducible exact LeO.refl _)
      | (with_reducible exact LeO.none _)
      | (with_reducible refine LeO.ite ?_ ?_)
      | (with_reducible refine LeO.bind ?_ (fun _ => ?_))
      | exact ih0 _ _ _
      | exact ih1 _ _ _
      | exact impl_TextAlignMarkdown.mono _ _ _
      | exact spec_TxTimes.mono _ _ _
      | exact LeO.none _
      | refine LeO.ite ?_ ?_
      | refine LeO.bind ?_ (fun _ => ?_)
theorem laws_FnTextAlignMarkdown.mono : ∀ a0 a1 k, LeO (laws_FnTextAlignMarkdown.f k a0 a1) (laws_FnTextAlignMarkdown.f (k + 1) a0 a1) := by
  intro a0 a1 k
  obtain ⟨ih0, ih1⟩ := laws_FnTextAlignMarkdown.mono_l k
  unfold laws_FnTextAlignMarkdown.f
  repeat' first
      | (with_reducible exact ih0 _ _ _)
      | (with_reducible exact ih1 _ _ _)
      | (with_reducible exact impl_TextAlignMarkdown.mono _ _ _)
      | (with_reducible exact spec_TxTimes.mono _ _ _)
      | (with_reducible exact LeO.refl _)
      | (with_reducible exact LeO.none _)
      | (with_reducible refine LeO.ite ?_ ?_)
      | (with_reducible refine LeO.bind ?_ (fun _ => ?_))
      | exact ih0 _ _ _
      | exact ih1 _ _ _
      | exact impl_TextAlignMarkdown.mono _ _ _
      | exact spec_TxTimes.mono _ _ _
      | exact LeO.none _
      | refine LeO.ite ?_ ?_
      | refine LeO.bind ?_ (fun _ => ?_)
set_option maxHeartbeats 8000000 in
set_option maxRecDepth 100000 in
theorem laws_FnTextAlignMarkdown.calls (k : Nat) (a0 : Int) (A1 : Option Addr) (c1 : Nat) (l1 : List Int) (r : Bool) (w : World) (hr1 : Kd.C (Kd.int .i64) w A1 l1.length l1) (hc1 : l1.length ≤ c1) (h : laws_FnTextAlignMarkdown.f k a0 l1 = some r) :
    Calls Try.prog 4 #[.int .u8 a0, .slice A1 l1.length c1] w fun e w' => e = .returned (.bool r) ∧ Below w.heap.size w w' := by
  have HR1 := Aside0.mk hr1
  have HC1 := Aside0.mk hc1
  clear hr1 hc1
  have HB := Aside0.mk (Below.refl w.heap.size w)
  have H : (if (l1.length : Int) > 2147483647 then (some true) else (if (l1.length : Int) > 1 then (laws_FnTextAlignMarkdown.j0 k a0 l1 true) else (if (l1.length : Int) = 1 then (if 0 < (l1.length : Int) then (if (rd l1 0) < 0 then (laws_FnTextAlignMarkdown.j0 k a0 l1 true) else (laws_FnTextAlignMarkdown.j0 k a0 l1 (decide ((rd l1 0) > 2000)))) else (none)) else (laws_FnTextAlignMarkdown.j0 k a0 l1 false)))) = some r := h
  clear h
  by_cases c3 : (l1.length : Int) > 2147483647
  · rw [if_pos c3] at H
    have c3b0 : decide (2147483647 < (l1.length : Int)) = true := decide_eq_true c3
    have c3b1 : decide (2147483647 < l1.length) = true := decide_eq_true (by omega)
    clear c3
    obtain rfl := Option.some.inj H
    go_enter Try.func4, Try.ntmps4
    go_wp2
    go_ret
    exact ⟨by first | rfl | (simp [errW_none, errW_some] <;> rfl) | (simp [*, errW_none, errW_some] <;> rfl), by repeat (first | (with_reducible first | exact HB.out | apply below_alloc | apply pw_below_drewN | apply below_drew1) | exact HB.out)⟩
  · rw [if_neg c3] at H
    have c3b0 : decide (2147483647 < (l1.length : Int)) = false := decide_eq_false c3
    have c3b1 : decide (2147483647 < l1.length) = false := decide_eq_false (by omega)
    clear c3
    have HC4 := Aside0.mk H
    clear H
    go_enter Try.func4, Try.ntmps4
    go_upto_region 3 with (fail)
    go_cut [29] (fun v29 wc => ∃ (kq : Nat) (x29_3 : Bool), v29 = .bool x29_3 ∧ Aside0 (laws_FnTextAlignMarkdown.j0 kq a0 l1 x29_3 = some r) ∧ Aside0 (kq ≤ k) ∧ Aside0 (Below w.heap.size w wc))
    case first =>
      have H := HC4.out
      clear HC4
      by_cases c5 : (l1.length : Int) > 1
      · rw [if_pos c5] at H
        have c5b0 : decide (1 < (l1.length : Int)) = true := decide_eq_true c5
        have c5b1 : decide (1 < l1.length) = true := decide_eq_true (by omega)
        clear c5
        (first | rw [c5b0] | (simp only [i64_w, i32_w]; rw [c5b0]) | skip)
        have H' := Aside0.mk H
        clear H
        go_wp2
        go_meet
        case rel => exact ⟨_, (true), (by first | rfl | (simp; done) | (simp [*]; done)), H', ⟨by first | omega | exact Nat.le_refl _⟩, ⟨by repeat (first | (with_reducible first | exact HB.out | apply below_alloc | apply pw_below_drewN | apply below_drew1) | exact HB.out)⟩⟩
      · rw [if_neg c5] at H
        have c5b0 : decide (1 < (l1.length : Int)) = false := decide_eq_false c5
        have c5b1 : decide (1 < l1.length) = false := decide_eq_false (by omega)
        clear c5
        (first | rw [c5b0] | (simp only [i64_w, i32_w]; rw [c5b0]) | skip)
        by_cases c6 : (l1.length : Int) = 1
        · rw [if_pos c6] at H
          have c6b0 : ((l1.length : Int) == 1) = true := beq_iff_eq.mpr c6
          have c6b1 : ((l1.length : Int) != 1) = false := bne_eq_false_iff_eq.mpr c6
          clear c6
          by_cases c7 : 0 < (l1.length : Int)
          · rw [if_pos c7] at H
            have c7b0 : decide (0 < (l1.length : Int)) = true := decide_eq_true c7
            have c7b1 : decide (0 < l1.length) = true := decide_eq_true (by omega)
            clear c7
            by_cases c8 : (rd l1 0) < 0
            · rw [if_pos c8] at H
              have c8b0 : decide ((rd l1 0) < 0) = true := decide_eq_true c8
              clear c8
              have H' := Aside0.mk H
              clear H
              have p114 : 0 ≤ (0 : Int) := (by omega)
              have q114 : 0 < (l1.length : Int) := of_decide_eq_true (by first | (with_reducible assumption) | assumption)
              obtain ⟨ad114, e114, hx114_0⟩ := Kd.at_int HR1.out 0 p114 q114
              cases e114
              have qi114 : (0 < l1.length) = True := eq_true (by omega)
              (try rw [show ((0 : Int)).toNat = 0 from rfl] at hx114_0)
              (try rw [Addr.add_zero'] at hx114_0)
              replace hx114_0 := (HB.out.cell (World.block_lt_of_cell? w _ hx114_0)).trans hx114_0
              replace p114 := eq_true p114
              replace q114 := eq_true q114
              go_wp2
              go_meet
              case rel => exact ⟨_, (true), (by first | rfl | (simp; done) | (simp [*]; done)), H', ⟨by first | omega | exact Nat.le_refl _⟩, ⟨by repeat (first | (with_reducible first | exact HB.out | apply below_alloc | apply pw_below_drewN | apply below_drew1) | exact HB.out)⟩⟩
            · rw [if_neg c8] at H
              have c8b0 : decide ((rd l1 0) < 0) = false := decide_eq_false c8
              clear c8
              have H' := Aside0.mk H
              clear H
              have p114 : 0 ≤ (0 : Int) := (by omega)
              have q114 : 0 < (l1.length : Int) := of_decide_eq_true (by first | (with_reducible assumption) | assumption)
              obtain ⟨ad114, e114, hx114_0⟩ := Kd.at_int HR1.out 0 p114 q114
              cases e114
              have qi114 : (0 < l1.length) = True := eq_true (by omega)
              (try rw [show ((0 : Int)).toNat = 0 from rfl] at hx114_0)
              (try rw [Addr.add_zero'] at hx114_0)
              replace hx114_0 := (HB.out.cell (World.block_lt_of_cell? w _ hx114_0)).trans hx114_0
              replace p114 := eq_true p114
              replace q114 := eq_true q114
              have p115 : 0 ≤ (0 : Int) := (by omega)
              have q115 : 0 < (l1.length : Int) := of_decide_eq_true (by first | (with_reducible assumption) | assumption)
              obtain ⟨ad115, e115, hx115_0⟩ := Kd.at_int HR1.out 0 p115 q115
              obtain rfl : ad114 = ad115 := (by injection e115)
              have qi115 : (0 < l1.length) = True := eq_true (by omega)
              (try rw [show ((0 : Int)).toNat = 0 from rfl] at hx115_0)
              (try rw [Addr.add_zero'] at hx115_0)
              replace hx115_0 := (HB.out.cell (World.block_lt_of_cell? w _ hx115_0)).trans hx115_0
              replace p115 := eq_true p115
              replace q115 := eq_true q115
              go_wp2
              go_meet
              case rel => exact ⟨_, (decide ((rd l1 0) > 2000)), (by first | rfl | (simp; done) | (simp [*]; done)), H', ⟨by first | omega | exact Nat.le_refl _⟩, ⟨by repeat (first | (with_reducible first | exact HB.out | apply below_alloc | apply pw_below_drewN | apply below_drew1) | exact HB.out)⟩⟩
          · rw [if_neg c7] at H
            exact absurd H (by simp)
        · rw [if_neg c6] at H
          have c6b0 : ((l1.length : Int) == 1) = false := beq_eq_false_iff_ne.mpr c6
          have c6b1 : ((l1.length : Int) != 1) = true := bne_iff_ne.mpr c6
          have H' := Aside0.mk H
          clear H
          go_wp2
          go_meet
          case rel => exact ⟨_, (false), (by first | rfl | (simp; done) | (simp [*]; done)), H', ⟨by first | omega | exact Nat.le_refl _⟩, ⟨by repeat (first | (with_reducible first | exact HB.out | apply below_alloc | apply pw_below_drewN | apply below_drew1) | exact HB.out)⟩⟩
    case rest =>
      clear HC4
      try clear c1
      try clear p1
      try clear q1
      try clear hx1
      try clear qi1
      try clear p2
      try clear c3
      try clear c3b0
      try clear c3b1
      try clear c4
      try clear c5
      try clear c5b0
      try clear c5b1
      try clear c6
      try clear c6b0
      try clear c6b1
      try clear c7
      try clear c7b0
      try clear c7b1
      try clear c8
      try clear c8b0
      try clear hx114_0
      try clear hx115_0
      try clear p114
      try clear p115
      try clear q114
      try clear q115
      obtain ⟨kq, x29_3, rfl, HA, HJ3, HB⟩ := hcut
      cases kq with
      | zero => exact absurd HA.out (by simp [laws_FnTextAlignMarkdown.j0])
      | succ kj3 =>
        have H := HA.out
        clear HA
        simp only [laws_FnTextAlignMarkdown.j0] at H
        by_cases c9 : x29_3 = true
        · subst c9
          have H1 : (some true) = some r := by rw [if_pos rfl] at H; exact H
          clear H
          have H := H1
          clear H1
          obtain rfl := Option.some.inj H
          go_wp2
          go_ret
          exact ⟨by first | rfl | (simp [errW_none, errW_some] <;> rfl) | (simp [*, errW_none, errW_some] <;> rfl), by repeat (first | (with_reducible first | exact HB.out | apply below_alloc | apply pw_below_drewN | apply below_drew1) | exact HB.out)⟩
        · replace c9 := Bool.eq_false_iff.mpr c9
          subst c9
          have H1 : (if (l1.length : Int) = 1 then (if 0 < (l1.length : Int) then (laws_FnTextAlignMarkdown.j1 kj3 a0 l1 (mx 3 (rd l1 0))) else (none)) else (laws_FnTextAlignMarkdown.j1 kj3 a0 l1 3)) = some r := by rw [if_neg (show ¬ (false = true) by decide)] at H; exact H
          clear H
          have H := H1
          clear H1
          have HC10 := Aside0.mk H
          clear H
          go_upto_if 32 with (fail)
          go_cut [5] (fun v5 wc => ∃ (kq : Nat) (x5_9 : Int), v5 = .int .i64 x5_9 ∧ Aside0 (laws_FnTextAlignMarkdown.j1 kq a0 l1 x5_9 = some r) ∧ Aside0 (kq ≤ kj3) ∧ Aside0 (Below w.heap.size w wc))
          case first =>
            have H := HC10.out
            clear HC10
            by_cases c11 : (l1.length : Int) = 1
            · rw [if_pos c11] at H
              have c11b0 : ((l1.length : Int) == 1) = true := beq_iff_eq.mpr c11
              have c11b1 : ((l1.length : Int) != 1) = false := bne_eq_false_iff_eq.mpr c11
              clear c11
              (first | rw [c11b0] | (simp only [i64_w, i32_w]; rw [c11b0]) | skip)
              by_cases c12 : 0 < (l1.length : Int)
              · rw [if_pos c12] at H
                have c12b0 : decide (0 < (l1.length : Int)) = true := decide_eq_true c12
                have c12b1 : decide (0 < l1.length) = true := decide_eq_true (by omega)
                clear c12
                obtain ⟨ji13, hji13⟩ : ∃ j_ : Int, (mx 3 (rd l1 0)) = j_ := ⟨_, rfl⟩
                replace H : (laws_FnTextAlignMarkdown.j1 kj3 a0 l1 ji13) = some r := by first | (rw [hji13] at H; exact H) | (simp only [hji13] at H ⊢; exact H)
                have hji13_ : (if 3 < (rd l1 0) then (rd l1 0) else 3) = ji13 := hji13
                have H' := Aside0.mk H
                clear H
                have p116 : 0 ≤ (0 : Int) := (by omega)
                have q116 : 0 < (l1.length : Int) := of_decide_eq_true (by first | (with_reducible assumption) | assumption)
                obtain ⟨ad116, e116, hx116_0⟩ := Kd.at_int HR1.out 0 p116 q116
                cases e116
                have qi116 : (0 < l1.length) = True := eq_true (by omega)
                (try rw [show ((0 : Int)).toNat = 0 from rfl] at hx116_0)
                (try rw [Addr.add_zero'] at hx116_0)
                replace hx116_0 := (HB.out.cell (World.block_lt_of_cell? w _ hx116_0)).trans hx116_0
                replace p116 := eq_true p116
                replace q116 := eq_true q116
                go_wp2
                go_meet
                case rel => exact ⟨_, (ji13), (by first | rfl | (simp; done) | (simp only [← hji13] <;> (first | rfl | simp)) | (simp [*]; done)), H', ⟨by have := HJ3.out; first | omega | exact Nat.le_refl _⟩, ⟨by repeat (first | (with_reducible first | exact HB.out | apply below_alloc | apply pw_below_drewN | apply below_drew1) | exact HB.out)⟩⟩
              · rw [if_neg c12] at H
                exact absurd H (by simp)
            · rw [if_neg c11] at H
              have c11b0 : ((l1.length : Int) == 1) = false := beq_eq_false_iff_ne.mpr c11
              have c11b1 : ((l1.length : Int) != 1) = true := bne_iff_ne.mpr c11
              (first | rw [c11b0] | (simp only [i64_w, i32_w]; rw [c11b0]) | skip)
              have H' := Aside0.mk H
              clear H
              go_wp2
              go_meet
              case rel => exact ⟨_, (3), (by first | rfl | (simp; done) | (simp [*]; done)), H', ⟨by have := HJ3.out; first | omega | exact Nat.le_refl _⟩, ⟨by repeat (first | (with_reducible first | exact HB.out | apply below_alloc | apply pw_below_drewN | apply below_drew1) | exact HB.out)⟩⟩
          case rest =>
            clear HC10
            try clear c1
            try clear p1
            try clear q1
            try clear hx1
            try clear qi1
            try clear p2
            try clear c3
            try clear c3b0
            try clear c3b1
            try clear c4
            try clear c5
            try clear c5b0
            try clear c5b1
            try clear c6
            try clear c6b0
            try clear c6b1
            try clear c7
            try clear c7b0
            try clear c7b1
            try clear c8
            try clear c8b0
            try clear c9
            try clear c11
            try clear c11b0
            try clear c11b1
            try clear p11
            try clear q11
            try clear hx11
            try clear qi11
            try clear c12
            try clear c12b0
            try clear c12b1
            try clear hx114_0
            try clear hx115_0
            try clear hx116_0
            try clear p1
            try clear p114
            try clear p115
            try clear p116
            try clear p2
            try clear q1
            try clear q114
            try clear q115
            try clear q116
            obtain ⟨kq, x5_9, rfl, HA, HJ9, HB⟩ := hcut
            cases kq with
            | zero => exact absurd HA.out (by simp [laws_FnTextAlignMarkdown.j1])
            | succ kj9 =>
              have H := HA.out
              clear HA
              simp only [laws_FnTextAlignMarkdown.j1] at H
              replace H := Option.bind_eq_some_iff.mp H
              obtain ⟨t117, A140, H⟩ := H
              replace H : (if (Int.tmod a0 4) = 0 then ((impl_TextAlignMarkdown.f kj9 0 l1).bind fun t118 => (if 1 + t117.size ≤ 9223372036854775807 then (if ((⟨#[32]⟩ : ByteArray) ++ t117).size + 1 ≤ 9223372036854775807 then (some (t118.toList == (((⟨#[32]⟩ : ByteArray) ++ t117) ++ (⟨#[32]⟩ : ByteArray)).toList)) else (none)) else (none))) else (if (Int.tmod a0 4) = 1 then ((impl_TextAlignMarkdown.f kj9 1 l1).bind fun t119 => (if 1 + t117.size ≤ 9223372036854775807 then (if ((⟨#[58]⟩ : ByteArray) ++ t117).size + 1 ≤ 9223372036854775807 then (some (t119.toList == (((⟨#[58]⟩ : ByteArray) ++ t117) ++ (⟨#[32]⟩ : ByteArray)).toList)) else (none)) else (none))) else (if (Int.tmod a0 4) = 2 then ((impl_TextAlignMarkdown.f kj9 2 l1).bind fun t120 => (if 1 + t117.size ≤ 9223372036854775807 then (if ((⟨#[58]⟩ : ByteArray) ++ t117).size + 1 ≤ 9223372036854775807 then (some (t120.toList == (((⟨#[58]⟩ : ByteArray) ++ t117) ++ (⟨#[58]⟩ : ByteArray)).toList)) else (none)) else (none))) else ((impl_TextAlignMarkdown.f kj9 4 l1).bind fun t121 => (if 1 + t117.size ≤ 9223372036854775807 then (if ((⟨#[32]⟩ : ByteArray) ++ t117).size + 1 ≤ 9223372036854775807 then (some (t121.toList == (((⟨#[32]⟩ : ByteArray) ++ t117) ++ (⟨#[58]⟩ : ByteArray)).toList)) else (none)) else (none)))))) = some r := H
              have A14 := Aside0.mk A140
              clear A140
              by_cases c15 : (Int.tmod a0 4) = 0
              · rw [if_pos c15] at H
                have c15b0 : ((Int.tmod a0 4) == 0) = true := beq_iff_eq.mpr c15
                have c15b1 : ((Int.tmod a0 4) != 0) = false := bne_eq_false_iff_eq.mpr c15
                clear c15
                replace H := Option.bind_eq_some_iff.mp H
                obtain ⟨t118, A160, H⟩ := H
                replace H : (if 1 + t117.size ≤ 9223372036854775807 then (if ((⟨#[32]⟩ : ByteArray) ++ t117).size + 1 ≤ 9223372036854775807 then (some (t118.toList == (((⟨#[32]⟩ : ByteArray) ++ t117) ++ (⟨#[32]⟩ : ByteArray)).toList)) else (none)) else (none)) = some r := H
                have A16 := Aside0.mk A160
                clear A160
                by_cases c17 : 1 + t117.size ≤ 9223372036854775807
                · rw [if_pos c17] at H
                  have c17b0 := eq_true c17
                  have c17b1 : decide (1 + t117.size ≤ 9223372036854775807) = true := decide_eq_true c17
                  try have c17b2 : (9223372036854775807 < 1 + t117.size) = False := eq_false (Nat.not_lt.2 c17)
                  by_cases c18 : ((⟨#[32]⟩ : ByteArray) ++ t117).size + 1 ≤ 9223372036854775807
                  · rw [if_pos c18] at H
                    have c18b0 := eq_true c18
                    have c18b1 : decide (((⟨#[32]⟩ : ByteArray) ++ t117).size + 1 ≤ 9223372036854775807) = true := decide_eq_true c18
                    have c18l : (9223372036854775807 < ((⟨#[32]⟩ : ByteArray) ++ t117).size + 1) = False := eq_false (Nat.not_lt.2 c18)
                    try simp only [ByteArray.size_append, bytes_size_mk, List.size_toArray, List.length_cons, List.length_nil, Nat.zero_add, Nat.reduceAdd] at c18l
                    try have c18b2 : (9223372036854775807 < ((⟨#[32]⟩ : ByteArray) ++ t117).size + 1) = False := eq_false (Nat.not_lt.2 c18)
                    obtain rfl := Option.some.inj H
                    go_wp2_with (first | ((with_reducible refine gate_callee (f := 12) rfl ?_); refine goesL_ (some 39) rfl rfl Try.func12 (by kernel_rfl) rfl #[.string (⟨#[45]⟩ : ByteArray), .int .i64 x5_9] rfl (by (try simp only [List.map_toArray, List.map_cons, List.map_nil]); first | done | rfl | (simp only [List.length_drop, List.length_take]; rfl)) ?_; (with_reducible refine (spec_TxTimes.calls kj9 (⟨#[45]⟩ : ByteArray) x5_9 t117 _ A14.out).mono ?_); rintro e w19 ⟨rfl, hb⟩; refine ⟨_, rfl, ?_⟩; have n0_ := Aside0.mk (below_step (by repeat (first | (with_reducible first | exact HB.out | apply below_alloc | apply pw_below_drewN | apply below_drew1) | exact HB.out)) hb); clear HB; have HB := n0_; clear n0_; (try clear hb); (try clear hb2); (try clear hk); (try clear hi)) | ((with_reducible refine gate_callee (f := 13) rfl ?_); refine goesL_ (some 45) rfl rfl Try.func13 (by kernel_rfl) rfl #[.int .i64 0, .slice A1 l1.length c1] rfl (by (try simp only [List.map_toArray, List.map_cons, List.map_nil]); first | done | rfl | (simp only [List.length_drop, List.length_take]; rfl)) ?_; (with_reducible refine (impl_TextAlignMarkdown.calls kj9 0 _ _ l1 t118 _ ?side1 ?side2 A16.out).mono ?_); (case side1 => repeat (first | exact (Kd.C_below HR1.out HB.out) | (with_reducible refine Kd.C_alloc ?_ _) | (with_reducible refine Kd.C_drewN ?_ _) | (with_reducible refine Kd.C_drew ?_))); (case side2 => exact HC1.out); rintro e w20 ⟨rfl, hb⟩; refine ⟨_, rfl, ?_⟩; have n0_ := Aside0.mk (below_step (by repeat (first | (with_reducible first | exact HB.out | apply below_alloc | apply pw_below_drewN | apply below_drew1) | exact HB.out)) hb); clear HB; have HB := n0_; clear n0_; (try clear hb); (try clear hb2); (try clear hk); (try clear hi)))
                    go_ret
                    exact ⟨by first | rfl | (simp [errW_none, errW_some] <;> rfl) | (simp [*, errW_none, errW_some] <;> rfl), by repeat (first | (with_reducible first | exact HB.out | apply below_alloc | apply pw_below_drewN | apply below_drew1) | exact HB.out)⟩
                  · rw [if_neg c18] at H
                    exact absurd H (by simp)
                · rw [if_neg c17] at H
                  exact absurd H (by simp)
              · rw [if_neg c15] at H
                have c15b0 : ((Int.tmod a0 4) == 0) = false := beq_eq_false_iff_ne.mpr c15
                have c15b1 : ((Int.tmod a0 4) != 0) = true := bne_iff_ne.mpr c15
                by_cases c21 : (Int.tmod a0 4) = 1
                · rw [if_pos c21] at H
                  have c21b0 : ((Int.tmod a0 4) == 1) = true := beq_iff_eq.mpr c21
                  have c21b1 : ((Int.tmod a0 4) != 1) = false := bne_eq_false_iff_eq.mpr c21
                  clear c21
                  replace H := Option.bind_eq_some_iff.mp H
                  obtain ⟨t119, A220, H⟩ := H
                  replace H : (if 1 + t117.size ≤ 9223372036854775807 then (if ((⟨#[58]⟩ : ByteArray) ++ t117).size + 1 ≤ 9223372036854775807 then (some (t119.toList == (((⟨#[58]⟩ : ByteArray) ++ t117) ++ (⟨#[32]⟩ : ByteArray)).toList)) else (none)) else (none)) = some r := H
                  have A22 := Aside0.mk A220
                  clear A220
                  by_cases c23 : 1 + t117.size ≤ 9223372036854775807
                  · rw [if_pos c23] at H
                    have c23b0 := eq_true c23
                    have c23b1 : decide (1 + t117.size ≤ 9223372036854775807) = true := decide_eq_true c23
                    try have c23b2 : (9223372036854775807 < 1 + t117.size) = False := eq_false (Nat.not_lt.2 c23)
                    by_cases c24 : ((⟨#[58]⟩ : ByteArray) ++ t117).size + 1 ≤ 9223372036854775807
                    · rw [if_pos c24] at H
                      have c24b0 := eq_true c24
                      have c24b1 : decide (((⟨#[58]⟩ : ByteArray) ++ t117).size + 1 ≤ 9223372036854775807) = true := decide_eq_true c24
                      have c24l : (9223372036854775807 < ((⟨#[58]⟩ : ByteArray) ++ t117).size + 1) = False := eq_false (Nat.not_lt.2 c24)
                      try simp only [ByteArray.size_append, bytes_size_mk, List.size_toArray, List.length_cons, List.length_nil, Nat.zero_add, Nat.reduceAdd] at c24l
                      try have c24b2 : (9223372036854775807 < ((⟨#[58]⟩ : ByteArray) ++ t117).size + 1) = False := eq_false (Nat.not_lt.2 c24)
                      obtain rfl := Option.some.inj H
                      go_wp2_with (first | ((with_reducible refine gate_callee (f := 12) rfl ?_); refine goesL_ (some 39) rfl rfl Try.func12 (by kernel_rfl) rfl #[.string (⟨#[45]⟩ : ByteArray), .int .i64 x5_9] rfl (by (try simp only [List.map_toArray, List.map_cons, List.map_nil]); first | done | rfl | (simp only [List.length_drop, List.length_take]; rfl)) ?_; (with_reducible refine (spec_TxTimes.calls kj9 (⟨#[45]⟩ : ByteArray) x5_9 t117 _ A14.out).mono ?_); rintro e w25 ⟨rfl, hb⟩; refine ⟨_, rfl, ?_⟩; have n0_ := Aside0.mk (below_step (by repeat (first | (with_reducible first | exact HB.out | apply below_alloc | apply pw_below_drewN | apply below_drew1) | exact HB.out)) hb); clear HB; have HB := n0_; clear n0_; (try clear hb); (try clear hb2); (try clear hk); (try clear hi)) | ((with_reducible refine gate_callee (f := 13) rfl ?_); refine goesL_ (some 53) rfl rfl Try.func13 (by kernel_rfl) rfl #[.int .i64 1, .slice A1 l1.length c1] rfl (by (try simp only [List.map_toArray, List.map_cons, List.map_nil]); first | done | rfl | (simp only [List.length_drop, List.length_take]; rfl)) ?_; (with_reducible refine (impl_TextAlignMarkdown.calls kj9 1 _ _ l1 t119 _ ?side1 ?side2 A22.out).mono ?_); (case side1 => repeat (first | exact (Kd.C_below HR1.out HB.out) | (with_reducible refine Kd.C_alloc ?_ _) | (with_reducible refine Kd.C_drewN ?_ _) | (with_reducible refine Kd.C_drew ?_))); (case side2 => exact HC1.out); rintro e w26 ⟨rfl, hb⟩; refine ⟨_, rfl, ?_⟩; have n0_ := Aside0.mk (below_step (by repeat (first | (with_reducible first | exact HB.out | apply below_alloc | apply pw_below_drewN | apply below_drew1) | exact HB.out)) hb); clear HB; have HB := n0_; clear n0_; (try clear hb); (try clear hb2); (try clear hk); (try clear hi)))
                      go_ret
                      exact ⟨by first | rfl | (simp [errW_none, errW_some] <;> rfl) | (simp [*, errW_none, errW_some] <;> rfl), by repeat (first | (with_reducible first | exact HB.out | apply below_alloc | apply pw_below_drewN | apply below_drew1) | exact HB.out)⟩
                    · rw [if_neg c24] at H
                      exact absurd H (by simp)
                  · rw [if_neg c23] at H
                    exact absurd H (by simp)
                · rw [if_neg c21] at H
                  have c21b0 : ((Int.tmod a0 4) == 1) = false := beq_eq_false_iff_ne.mpr c21
                  have c21b1 : ((Int.tmod a0 4) != 1) = true := bne_iff_ne.mpr c21
                  by_cases c27 : (Int.tmod a0 4) = 2
                  · rw [if_pos c27] at H
                    have c27b0 : ((Int.tmod a0 4) == 2) = true := beq_iff_eq.mpr c27
                    have c27b1 : ((Int.tmod a0 4) != 2) = false := bne_eq_false_iff_eq.mpr c27
                    clear c27
                    replace H := Option.bind_eq_some_iff.mp H
                    obtain ⟨t120, A280, H⟩ := H
                    replace H : (if 1 + t117.size ≤ 9223372036854775807 then (if ((⟨#[58]⟩ : ByteArray) ++ t117).size + 1 ≤ 9223372036854775807 then (some (t120.toList == (((⟨#[58]⟩ : ByteArray) ++ t117) ++ (⟨#[58]⟩ : ByteArray)).toList)) else (none)) else (none)) = some r := H
                    have A28 := Aside0.mk A280
                    clear A280
                    by_cases c29 : 1 + t117.size ≤ 9223372036854775807
                    · rw [if_pos c29] at H
                      have c29b0 := eq_true c29
                      have c29b1 : decide (1 + t117.size ≤ 9223372036854775807) = true := decide_eq_true c29
                      try have c29b2 : (9223372036854775807 < 1 + t117.size) = False := eq_false (Nat.not_lt.2 c29)
                      by_cases c30 : ((⟨#[58]⟩ : ByteArray) ++ t117).size + 1 ≤ 9223372036854775807
                      · rw [if_pos c30] at H
                        have c30b0 := eq_true c30
                        have c30b1 : decide (((⟨#[58]⟩ : ByteArray) ++ t117).size + 1 ≤ 9223372036854775807) = true := decide_eq_true c30
                        have c30l : (9223372036854775807 < ((⟨#[58]⟩ : ByteArray) ++ t117).size + 1) = False := eq_false (Nat.not_lt.2 c30)
                        try simp only [ByteArray.size_append, bytes_size_mk, List.size_toArray, List.length_cons, List.length_nil, Nat.zero_add, Nat.reduceAdd] at c30l
                        try have c30b2 : (9223372036854775807 < ((⟨#[58]⟩ : ByteArray) ++ t117).size + 1) = False := eq_false (Nat.not_lt.2 c30)
                        obtain rfl := Option.some.inj H
                        go_wp2_with (first | ((with_reducible refine gate_callee (f := 12) rfl ?_); refine goesL_ (some 39) rfl rfl Try.func12 (by kernel_rfl) rfl #[.string (⟨#[45]⟩ : ByteArray), .int .i64 x5_9] rfl (by (try simp only [List.map_toArray, List.map_cons, List.map_nil]); first | done | rfl | (simp only [List.length_drop, List.length_take]; rfl)) ?_; (with_reducible refine (spec_TxTimes.calls kj9 (⟨#[45]⟩ : ByteArray) x5_9 t117 _ A14.out).mono ?_); rintro e w31 ⟨rfl, hb⟩; refine ⟨_, rfl, ?_⟩; have n0_ := Aside0.mk (below_step (by repeat (first | (with_reducible first | exact HB.out | apply below_alloc | apply pw_below_drewN | apply below_drew1) | exact HB.out)) hb); clear HB; have HB := n0_; clear n0_; (try clear hb); (try clear hb2); (try clear hk); (try clear hi)) | ((with_reducible refine gate_callee (f := 13) rfl ?_); refine goesL_ (some 61) rfl rfl Try.func13 (by kernel_rfl) rfl #[.int .i64 2, .slice A1 l1.length c1] rfl (by (try simp only [List.map_toArray, List.map_cons, List.map_nil]); first | done | rfl | (simp only [List.length_drop, List.length_take]; rfl)) ?_; (with_reducible refine (impl_TextAlignMarkdown.calls kj9 2 _ _ l1 t120 _ ?side1 ?side2 A28.out).mono ?_); (case side1 => repeat (first | exact (Kd.C_below HR1.out HB.out) | (with_reducible refine Kd.C_alloc ?_ _) | (with_reducible refine Kd.C_drewN ?_ _) | (with_reducible refine Kd.C_drew ?_))); (case side2 => exact HC1.out); rintro e w32 ⟨rfl, hb⟩; refine ⟨_, rfl, ?_⟩; have n0_ := Aside0.mk (below_step (by repeat (first | (with_reducible first | exact HB.out | apply below_alloc | apply pw_below_drewN | apply below_drew1) | exact HB.out)) hb); clear HB; have HB := n0_; clear n0_; (try clear hb); (try clear hb2); (try clear hk); (try clear hi)))
                        go_ret
                        exact ⟨by first | rfl | (simp [errW_none, errW_some] <;> rfl) | (simp [*, errW_none, errW_some] <;> rfl), by repeat (first | (with_reducible first | exact HB.out | apply below_alloc | apply pw_below_drewN | apply below_drew1) | exact HB.out)⟩
                      · rw [if_neg c30] at H
                        exact absurd H (by simp)
                    · rw [if_neg c29] at H
                      exact absurd H (by simp)
                  · rw [if_neg c27] at H
                    have c27b0 : ((Int.tmod a0 4) == 2) = false := beq_eq_false_iff_ne.mpr c27
                    have c27b1 : ((Int.tmod a0 4) != 2) = true := bne_iff_ne.mpr c27
                    replace H := Option.bind_eq_some_iff.mp H
                    obtain ⟨t121, A330, H⟩ := H
                    replace H : (if 1 + t117.size ≤ 9223372036854775807 then (if ((⟨#[32]⟩ : ByteArray) ++ t117).size + 1 ≤ 9223372036854775807 then (some (t121.toList == (((⟨#[32]⟩ : ByteArray) ++ t117) ++ (⟨#[58]⟩ : ByteArray)).toList)) else (none)) else (none)) = some r := H
                    have A33 := Aside0.mk A330
                    clear A330
                    by_cases c34 : 1 + t117.size ≤ 9223372036854775807
                    · rw [if_pos c34] at H
                      have c34b0 := eq_true c34
                      have c34b1 : decide (1 + t117.size ≤ 9223372036854775807) = true := decide_eq_true c34
                      try have c34b2 : (9223372036854775807 < 1 + t117.size) = False := eq_false (Nat.not_lt.2 c34)
                      by_cases c35 : ((⟨#[32]⟩ : ByteArray) ++ t117).size + 1 ≤ 9223372036854775807
                      · rw [if_pos c35] at H
                        have c35b0 := eq_true c35
                        have c35b1 : decide (((⟨#[32]⟩ : ByteArray) ++ t117).size + 1 ≤ 9223372036854775807) = true := decide_eq_true c35
                        have c35l : (9223372036854775807 < ((⟨#[32]⟩ : ByteArray) ++ t117).size + 1) = False := eq_false (Nat.not_lt.2 c35)
                        try simp only [ByteArray.size_append, bytes_size_mk, List.size_toArray, List.length_cons, List.length_nil, Nat.zero_add, Nat.reduceAdd] at c35l
                        try have c35b2 : (9223372036854775807 < ((⟨#[32]⟩ : ByteArray) ++ t117).size + 1) = False := eq_false (Nat.not_lt.2 c35)
                        obtain rfl := Option.some.inj H
                        go_wp2_with (first | ((with_reducible refine gate_callee (f := 12) rfl ?_); refine goesL_ (some 39) rfl rfl Try.func12 (by kernel_rfl) rfl #[.string (⟨#[45]⟩ : ByteArray), .int .i64 x5_9] rfl (by (try simp only [List.map_toArray, List.map_cons, List.map_nil]); first | done | rfl | (simp only [List.length_drop, List.length_take]; rfl)) ?_; (with_reducible refine (spec_TxTimes.calls kj9 (⟨#[45]⟩ : ByteArray) x5_9 t117 _ A14.out).mono ?_); rintro e w36 ⟨rfl, hb⟩; refine ⟨_, rfl, ?_⟩; have n0_ := Aside0.mk (below_step (by repeat (first | (with_reducible first | exact HB.out | apply below_alloc | apply pw_below_drewN | apply below_drew1) | exact HB.out)) hb); clear HB; have HB := n0_; clear n0_; (try clear hb); (try clear hb2); (try clear hk); (try clear hi)) | ((with_reducible refine gate_callee (f := 13) rfl ?_); refine goesL_ (some 67) rfl rfl Try.func13 (by kernel_rfl) rfl #[.int .i64 4, .slice A1 l1.length c1] rfl (by (try simp only [List.map_toArray, List.map_cons, List.map_nil]); first | done | rfl | (simp only [List.length_drop, List.length_take]; rfl)) ?_; (with_reducible refine (impl_TextAlignMarkdown.calls kj9 4 _ _ l1 t121 _ ?side1 ?side2 A33.out).mono ?_); (case side1 => repeat (first | exact (Kd.C_below HR1.out HB.out) | (with_reducible refine Kd.C_alloc ?_ _) | (with_reducible refine Kd.C_drewN ?_ _) | (with_reducible refine Kd.C_drew ?_))); (case side2 => exact HC1.out); rintro e w37 ⟨rfl, hb⟩; refine ⟨_, rfl, ?_⟩; have n0_ := Aside0.mk (below_step (by repeat (first | (with_reducible first | exact HB.out | apply below_alloc | apply pw_below_drewN | apply below_drew1) | exact HB.out)) hb); clear HB; have HB := n0_; clear n0_; (try clear hb); (try clear hb2); (try clear hk); (try clear hi)))
                        go_ret
                        exact ⟨by first | rfl | (simp [errW_none, errW_some] <;> rfl) | (simp [*, errW_none, errW_some] <;> rfl), by repeat (first | (with_reducible first | exact HB.out | apply below_alloc | apply pw_below_drewN | apply below_drew1) | exact HB.out)⟩
                      · rw [if_neg c35] at H
                        exact absurd H (by simp)
                    · rw [if_neg c34] at H
                      exact absurd H (by simp)

/-- THE ONE PURE STATEMENT of laws_FnTextAlignMarkdown: yours. -/
def laws_FnTextAlignMarkdown.Pure : Prop := ∀ (a0 : Int) (l1 : List Int), (Lit.int .u8 a0).wf = true → l1.length ≤ maxLen → l1.length * 8 ≤ 140737488351232 → (∀ x ∈ l1, (Lit.int .i64 x).wf = true) → ∃ k, laws_FnTextAlignMarkdown.f k a0 l1 = some true
theorem laws_FnTextAlignMarkdown.walk (P : laws_FnTextAlignMarkdown.Pure) (a0 : Int) (a1 : Option Addr) (len1 cap1 : Nat) (z1 : List Int) (w : World) (w0 : (Lit.int .u8 a0).wf = true) (w1 : (a1 = none ∧ len1 = 0 ∧ cap1 = 0 ∧ z1 = []) ∨ ∃ x, a1 = some x ∧ len1 ≤ cap1 ∧ cap1 ≤ maxLen ∧ z1.length = cap1 ∧ (∀ i, i < z1.length → w.cell? (x.add i) = some (.int .i64 (z1.getD i 0))) ∧ ∀ n ∈ z1, (Lit.int .i64 n).wf = true) (y1 : len1 * 8 ≤ 140737488351232) :
    Calls Try.prog 4 #[.int .u8 a0, .slice a1 len1 cap1] w fun e w' => e = .returned (.bool true) ∧ Below w.heap.size w w' := by
  obtain ⟨l1, rfl, hr1, hm1, hw1, hc1⟩ := ReadsInt.ofRowC w1
  obtain ⟨k, h⟩ := P a0 l1 w0 hm1 y1 hw1
  refine (laws_FnTextAlignMarkdown.calls k a0 _ _ l1 true w (Kd.C_of_reads (d := (0 : Int)) (h1 := fun _ => rfl) hr1) hc1 h).mono ?_
  rintro e w' ⟨rfl, hd⟩
  exact ⟨rfl, hd⟩

end Go.Proofs.Ytelbcekkfdpoaaa.GFnTextAlignMarkdown
