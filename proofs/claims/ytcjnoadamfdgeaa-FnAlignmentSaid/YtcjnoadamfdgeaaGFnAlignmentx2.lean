-- Written by gprint.py, a program of this session over the kit's printer, with contracts of its own for what the printer does not take. Not trusted: Lean checks it.
import Derived.Test.YtcjnoadamfdgeaaGFnAlignmentx0
import Derived.Test.YtcjnoadamfdgeaaGFnAlignmentx1
namespace Go.Proofs.Ytcjnoadamfdgeaa.GFnAlignment
open Go.RowKit Go.Proofs.YtcjnoadamfdgeaaW.PrintWords Go.Proofs.YtcjnoadamfdgeaaW.PrintLast Go.Proofs.YtcjnoadamfdgeaaW.PrintMore
attribute [local go_sem] max2_int min2_int max_two min_two max_three min_three max_four min_four   -- for this text's walks alone
set_option linter.unusedVariables false
set_option linter.unusedSimpArgs false

/-! ### impl_TwAlignment: function 13 -/
mutual
def impl_TwAlignment.l0 : Nat → List ByteArray → List (S30) → Int → Int → Option (List ByteArray)
  | 0, _, _, _, _ => none
  | k + 1, x7, x19, x20, x21 => if x21 < x20 then (if 0 ≤ x21 then (if x21 < (x19.length : Int) then (impl_TwAlignment.l1 k x7 ([] : List ByteArray) x19 x20 x21 ((rd_T30 x19 x21).f2) (((rd_T30 x19 x21).f2).length : Int) 0 ((rd_T30 x19 x21).f0) ((rd_T30 x19 x21).f1) ((rd_T30 x19 x21).f2)) else (none)) else (none)) else (impl_TwAlignment.l2 k (([] : List ByteArray)) x7 (x7.length : Int) 0)
def impl_TwAlignment.l1 : Nat → List ByteArray → List ByteArray → List (S30) → Int → Int → List ByteArray → Int → Int → Int → Int → List ByteArray → Option (List ByteArray)
  | 0, _, _, _, _, _, _, _, _, _, _, _ => none
  | k + 1, x7, x10, x19, x20, x21, x26, x27, x28, x119000, x119001, x119002 => if x28 < x27 then (if 0 ≤ x28 then (if x28 < (x26.length : Int) then (if x10.length < 8796093022208 then (impl_TwAlignment.l1 k x7 (x10 ++ [rdOf ByteArray.empty x26 x28]) x19 x20 x21 x26 x27 (wrap64 (x28 + 1)) x119000 x119001 x119002) else (none)) else (none)) else (none)) else (if x119000 = 0 then ((tw_Alignment_Add.f x7 x10).bind fun t123 => (impl_TwAlignment.l0 k t123 x19 x20 (wrap64 (x21 + 1)))) else (if x119000 = 1 then (impl_TwAlignment.j2 k x7 x10 x19 x20 x21 (decide ((x10.length : Int) > 0)) x119000 x119001 x119002) else (impl_TwAlignment.j2 k x7 x10 x19 x20 x21 false x119000 x119001 x119002)))
def impl_TwAlignment.j2 : Nat → List ByteArray → List ByteArray → List (S30) → Int → Int → Bool → Int → Int → List ByteArray → Option (List ByteArray)
  | 0, _, _, _, _, _, _, _, _, _ => none
  | k + 1, x7, x10, x19, x20, x21, x44, x119000, x119001, x119002 => if x44 = true then (if 0 < (x10.length : Int) then ((tw_Alignment_Set.f x7 x119001 (rdOf ByteArray.empty x10 0)).bind fun t127 => (impl_TwAlignment.l0 k t127 x19 x20 (wrap64 (x21 + 1)))) else (none)) else (if x119000 = 2 then ((tw_Alignment_Copy.f x7).bind fun t130 => (impl_TwAlignment.l0 k t130 x19 x20 (wrap64 (x21 + 1)))) else (impl_TwAlignment.l0 k x7 x19 x20 (wrap64 (x21 + 1))))
def impl_TwAlignment.l2 : Nat → List ByteArray → List ByteArray → Int → Int → Option (List ByteArray)
  | 0, _, _, _, _ => none
  | k + 1, x13, x68, x69, x70 => if x70 < x69 then (if 0 ≤ x70 then (if x70 < (x68.length : Int) then (if x13.length < 8796093022208 then (impl_TwAlignment.l2 k (x13 ++ [rdOf ByteArray.empty x68 x70]) x68 x69 (wrap64 (x70 + 1))) else (none)) else (none)) else (none)) else (some x13)
end
def impl_TwAlignment.f (k : Nat) (a0 : Int) (a1 : ByteArray) (l2 : List (S30)) : Option (List ByteArray) := (tw_MakeAlign.f k a0 a1).bind fun t114 => (impl_TwAlignment.l0 k t114 l2 (l2.length : Int) 0)
theorem impl_TwAlignment.mono_l : ∀ k, (∀ y0 y1 y2 y3, LeO (impl_TwAlignment.l0 k y0 y1 y2 y3) (impl_TwAlignment.l0 (k + 1) y0 y1 y2 y3)) ∧ (∀ y0 y1 y2 y3 y4 y5 y6 y7 y8 y9 y10, LeO (impl_TwAlignment.l1 k y0 y1 y2 y3 y4 y5 y6 y7 y8 y9 y10) (impl_TwAlignment.l1 (k + 1) y0 y1 y2 y3 y4 y5 y6 y7 y8 y9 y10)) ∧ (∀ y0 y1 y2 y3 y4 y5 y6 y7 y8, LeO (impl_TwAlignment.j2 k y0 y1 y2 y3 y4 y5 y6 y7 y8) (impl_TwAlignment.j2 (k + 1) y0 y1 y2 y3 y4 y5 y6 y7 y8)) ∧ (∀ y0 y1 y2 y3, LeO (impl_TwAlignment.l2 k y0 y1 y2 y3) (impl_TwAlignment.l2 (k + 1) y0 y1 y2 y3))
  | 0 => ⟨fun _ _ _ _ r h => by simp [impl_TwAlignment.l0] at h, fun _ _ _ _ _ _ _ _ _ _ _ r h => by simp [impl_TwAlignment.l1] at h, fun _ _ _ _ _ _ _ _ _ r h => by simp [impl_TwAlignment.j2] at h, fun _ _ _ _ r h => by simp [impl_TwAlignment.l2] at h⟩
  | k + 1 => by
    obtain ⟨ih0, ih1, ih2, ih3⟩ := impl_TwAlignment.mono_l k
    refine ⟨?_, ?_, ?_, ?_⟩
    · intro y0 y1 y2 y3
      unfold impl_TwAlignment.l0
      repeat' first
      | (with_reducible exact ih0 _ _ _ _)
      | (with_reducible exact ih1 _ _ _ _ _ _ _ _ _ _ _)
      | (with_reducible exact ih2 _ _ _ _ _ _ _ _ _)
      | (with_reducible exact ih3 _ _ _ _)
      | (with_reducible exact tw_MakeAlign.mono _ _ _)
      | (with_reducible exact LeO.refl _)
      | (with_reducible exact LeO.none _)
      | (with_reducible refine LeO.ite ?_ ?_)
      | (with_reducible refine LeO.bind ?_ (fun _ => ?_))
      | exact ih0 _ _ _ _
      | exact ih1 _ _ _ _ _ _ _ _ _ _ _
      | exact ih2 _ _ _ _ _ _ _ _ _
      | exact ih3 _ _ _ _
      | exact tw_MakeAlign.mono _ _ _
      | exact LeO.none _
      | refine LeO.ite ?_ ?_
      | refine LeO.bind ?_ (fun _ => ?_)
    · intro y0 y1 y2 y3 y4 y5 y6 y7 y8 y9 y10
      unfold impl_TwAlignment.l1
      repeat' first
      | (with_reducible exact ih0 _ _ _ _)
      | (with_reducible exact ih1 _ _ _ _ _ _ _ _ _ _ _)
      | (with_reducible exact ih2 _ _ _ _ _ _ _ _ _)
      | (with_reducible exact ih3 _ _ _ _)
      | (with_reducible exact tw_MakeAlign.mono _ _ _)
      | (with_reducible exact LeO.refl _)
      | (with_reducible exact LeO.none _)
      | (with_reducible refine LeO.ite ?_ ?_)
      | (with_reducible refine LeO.bind ?_ (fun _ => ?_))
      | exact ih0 _ _ _ _
      | exact ih1 _ _ _ _ _ _ _ _ _ _ _
      | exact ih2 _ _ _ _ _ _ _ _ _
      | exact ih3 _ _ _ _
      | exact tw_MakeAlign.mono _ _ _
      | exact LeO.none _
      | refine LeO.ite ?_ ?_
      | refine LeO.bind ?_ (fun _ => ?_)
    · intro y0 y1 y2 y3 y4 y5 y6 y7 y8
      unfold impl_TwAlignment.j2
      repeat' first
      | (with_reducible exact ih0 _ _ _ _)
      | (with_reducible exact ih1 _ _ _ _ _ _ _ _ _ _ _)
      | (with_reducible exact ih2 _ _ _ _ _ _ _ _ _)
      | (with_reducible exact ih3 _ _ _ _)
      | (with_reducible exact tw_MakeAlign.mono _ _ _)
      | (with_reducible exact LeO.refl _)
      | (with_reducible exact LeO.none _)
      | (with_reducible refine LeO.ite ?_ ?_)
      | (with_reducible refine LeO.bind ?_ (fun _ => ?_))
      | exact ih0 _ _ _ _
      | exact ih1 _ _ _ _ _ _ _ _ _ _ _
      | exact ih2 _ _ _ _ _ _ _ _ _
      | exact ih3 _ _ _ _
      | exact tw_MakeAlign.mono _ _ _
      | exact LeO.none _
      | refine LeO.ite ?_ ?_
      | refine LeO.bind ?_ (fun _ => ?_)
    · intro y0 y1 y2 y3
      unfold impl_TwAlignment.l2
      repeat' first
      | (with_reducible exact ih0 _ _ _ _)
      | (with_reducible exact ih1 _ _ _ _ _ _ _ _ _ _ _)
      | (with_reducible exact ih2 _ _ _ _ _ _ _ _ _)
      | (with_reducible exact ih3 _ _ _ _)
      | (with_reducible exact tw_MakeAlign.mono _ _ _)
      | (with_reducible exact LeO.refl _)
      | (with_reducible exact LeO.none _)
      | (with_reducible refine LeO.ite ?_ ?_)
      | (with_reducible refine LeO.bind ?_ (fun _ => ?_))
      | exact ih0 _ _ _ _
      | exact ih1 _ _ _ _ _ _ _ _ _ _ _
      | exact ih2 _ _ _ _ _ _ _ _ _
      | exact ih3 _ _ _ _
      | exact tw_MakeAlign.mono _ _ _
      | exact LeO.none _
      | refine LeO.ite ?_ ?_
      | refine LeO.bind ?_ (fun _ => ?_)
theorem impl_TwAlignment.mono : ∀ a0 a1 a2 k, LeO (impl_TwAlignment.f k a0 a1 a2) (impl_TwAlignment.f (k + 1) a0 a1 a2) := by
  intro a0 a1 a2 k
  obtain ⟨ih0, ih1, ih2, ih3⟩ := impl_TwAlignment.mono_l k
  unfold impl_TwAlignment.f
  repeat' first
      | (with_reducible exact ih0 _ _ _ _)
      | (with_reducible exact ih1 _ _ _ _ _ _ _ _ _ _ _)
      | (with_reducible exact ih2 _ _ _ _ _ _ _ _ _)
      | (with_reducible exact ih3 _ _ _ _)
      | (with_reducible exact tw_MakeAlign.mono _ _ _)
      | (with_reducible exact LeO.refl _)
      | (with_reducible exact LeO.none _)
      | (with_reducible refine LeO.ite ?_ ?_)
      | (with_reducible refine LeO.bind ?_ (fun _ => ?_))
      | exact ih0 _ _ _ _
      | exact ih1 _ _ _ _ _ _ _ _ _ _ _
      | exact ih2 _ _ _ _ _ _ _ _ _
      | exact ih3 _ _ _ _
      | exact tw_MakeAlign.mono _ _ _
      | exact LeO.none _
      | refine LeO.ite ?_ ?_
      | refine LeO.bind ?_ (fun _ => ?_)
def impl_TwAlignment.T14 : Bool × List (List Nat × List Nat) := (true, [([], []), ([], []), ([1], [1]), ([], []), ([3], [3]), ([4], [4]), ([0, 2, 5], [0, 2, 5]), ([6, 6, 0, 1, 2, 3, 4, 5, 6], [0, 6])])
def impl_TwAlignment.B14 : List Nat := [0, 0, 2, 0, 8, 24, 63, 127]
theorem impl_TwAlignment.tab14 : rtab .any (opsOf Try.f13 14) = impl_TwAlignment.T14 := by kernel_rfl
theorem impl_TwAlignment.bits14 : waitsOk impl_TwAlignment.T14.2 impl_TwAlignment.B14 = true := by kernel_rfl
set_option maxHeartbeats 8000000 in
set_option maxRecDepth 100000 in
theorem impl_TwAlignment.calls (k : Nat) (a0 : Int) (a1 : ByteArray) (A2 : Option Addr) (c2 : Nat) (l2 : List (S30)) (r : List ByteArray) (w : World) (hr2 : Kd.C k30 w A2 l2.length l2) (hc2 : l2.length ≤ c2) (h : impl_TwAlignment.f k a0 a1 l2 = some r) :
    Calls Try.prog 13 #[.int .i64 a0, .string a1, .slice A2 l2.length c2] w fun e w' => ∃ v0_ : Value, e = .returned (v0_) ∧ Kd.R Kd.string 9 w' w.heap.size (fun _ => True) v0_ r ∧ Below w.heap.size w w' := by
  have hu30 := Try.underlying30
  have HR2 := Aside0.mk hr2
  have HC2 := Aside0.mk hc2
  clear hr2 hc2
  have HB := Aside0.mk (Below.refl w.heap.size w)
  have H : ((tw_MakeAlign.f k a0 a1).bind fun t114 => (impl_TwAlignment.l0 k t114 l2 (l2.length : Int) 0)) = some r := h
  clear h
  replace H := Option.bind_eq_some_iff.mp H
  obtain ⟨t114, A40, H⟩ := H
  replace H : (impl_TwAlignment.l0 k t114 l2 (l2.length : Int) 0) = some r := H
  have A4 := Aside0.mk A40
  clear A40
  have H' := Aside0.mk H
  clear H
  go_enter Try.func13, Try.ntmps13
  go_wp2_with (first | ((with_reducible refine gate_callee (f := 29) rfl ?_); refine goesL_ (some 18) rfl rfl Try.func29 (by kernel_rfl) rfl #[.int .i64 a0, .string a1] rfl (by (try simp only [List.map_toArray, List.map_cons, List.map_nil]); first | done | rfl | (simp only [List.length_drop, List.length_take]; rfl)) ?_; (with_reducible refine (tw_MakeAlign.calls k a0 a1 t114 _ A4.out).mono ?_); rintro e w5 ⟨v115, rfl, ho0, hb⟩; refine ⟨_, rfl, ?_⟩; have n0_ := Aside0.mk (Kd.R_lower ho0 (below_size (by repeat (first | (with_reducible first | exact HB.out | apply below_alloc | apply pw_below_drewN | apply below_drew1) | exact HB.out)))); have n1_ := Aside0.mk (below_step (by repeat (first | (with_reducible first | exact HB.out | apply below_alloc | apply pw_below_drewN | apply below_drew1) | exact HB.out)) hb); clear HB; have HO116 := n0_; have HB := n1_; clear n0_ n1_; (try clear hb); (try clear hb2); (try clear hk); (try clear hi); (try clear ho0)))
  go_loopg [7, 21] k (fun kq v7 v21 w' => ∃ (x7_1 : List ByteArray) (x21_1 : Int), v21 = .int .i64 x21_1 ∧ Aside0 (impl_TwAlignment.l0 kq x7_1 l2 (l2.length : Int) x21_1 = some r) ∧ Aside0 (kq ≤ k) ∧ Aside0 (Kd.R Kd.string 56 w' w.heap.size (fun _ => True) v7 x7_1) ∧ Aside0 (Below w.heap.size w w'))
  case atStart => exact ⟨(t114), (0), (by first | rfl | (simp; done) | (simp [*]; done)), H', ⟨Nat.le_refl _⟩, ⟨by (with_reducible repeat (first | apply Kd.R_alloc | apply Kd.R_drewN | apply Kd.R_drew)); exact HO116.out⟩, ⟨by repeat (first | (with_reducible first | exact HB.out | apply below_alloc | apply pw_below_drewN | apply below_drew1) | exact HB.out)⟩⟩
  case round =>
    clear H'
    try clear c1
    try clear c2
    try clear p2
    obtain ⟨x7_1, x21_1, rfl, HA, HK1, HO_7, HB⟩ := hrel
    cases gk with
    | zero => exact absurd HA.out (by simp [impl_TwAlignment.l0])
    | succ k1 =>
      have H := HA.out
      clear HA
      simp only [impl_TwAlignment.l0] at H
      by_cases c6 : x21_1 < (l2.length : Int)
      · rw [if_pos c6] at H
        have c6b0 : decide (x21_1 < (l2.length : Int)) = true := decide_eq_true c6
        clear c6
        by_cases c7 : 0 ≤ x21_1
        · rw [if_pos c7] at H
          have c7b0 : decide (0 ≤ x21_1) = true := decide_eq_true c7
          clear c7
          by_cases c8 : x21_1 < (l2.length : Int)
          · rw [if_pos c8] at H
            have c8b0 : decide (x21_1 < (l2.length : Int)) = true := decide_eq_true c8
            clear c8
            have H' := Aside0.mk H
            clear H
            have p117 : 0 ≤ (x21_1 : Int) := of_decide_eq_true (by first | (with_reducible assumption) | assumption)
            have q117 : x21_1 < (l2.length : Int) := of_decide_eq_true (by first | (with_reducible assumption) | assumption)
            obtain ⟨ad117, A117_2, c117_2, e117, hx117_0, hx117_1, hx117_2, hl117_2, hi117_2⟩ := at_T30 HR2.out x21_1 p117 q117
            cases e117
            replace hx117_0 := (HB.out.cell (World.block_lt_of_cell? w _ hx117_0)).trans hx117_0
            replace hx117_1 := (HB.out.cell (World.block_lt_of_cell? w _ hx117_1)).trans hx117_1
            replace hx117_2 := (HB.out.cell (World.block_lt_of_cell? w _ hx117_2)).trans hx117_2
            have HR117_2 := Aside0.mk hi117_2
            have HC117_2 := Aside0.mk hl117_2
            clear hi117_2 hl117_2
            replace p117 := eq_true p117
            replace q117 := eq_true q117
            go_wp2_with (first | ((with_reducible refine gate_dst (N := 9) rfl ?_); (try (refine gate_guard (by rfl) ?_; dsimp only)); refine box_event ?hg (N := 9) ?hd (cs := #[.int .i64 0, .int .i64 0, .slice none 0 0]) (t := 30) ?hr ?_; (case hd => rfl); (case hg => rfl); (case hr => first | (go_simp; done) | (go_simp; rfl)); intro gb118 hg w9 hbox hb; have n0_ := Aside0.mk (Kd.R_below (by (with_reducible repeat (first | apply Kd.R_alloc | apply Kd.R_drewN | apply Kd.R_drew)); exact HO_7.out) hb); have n1_ := Aside0.mk (below_step (by repeat (first | (with_reducible first | exact HB.out | apply below_alloc | apply pw_below_drewN | apply below_drew1) | exact HB.out)) hb); have n2_ := Aside0.mk (hbox); have n3_ := Aside0.mk ((by rw [hg]; exact (below_size (by repeat (first | (with_reducible first | exact HB.out | apply below_alloc | apply pw_below_drewN | apply below_drew1) | exact HB.out))) : w.heap.size ≤ gb118)); have n4_ := Aside0.mk ((by rw [hg]; exact (below_size (by repeat (first | (with_reducible first | exact HB.out | apply below_alloc | apply pw_below_drewN | apply below_drew1) | exact HB.out))) : w.heap.size ≤ gb118)); clear HO_7; clear HB; have HO_7 := n0_; have HB := n1_; have BK118 := n2_; have GW118 := n3_; have GE118 := n4_; clear n0_ n1_ n2_ n3_ n4_; clear hb hbox hg; have hcz10_0 : w9.cell? ⟨gb118, 0, none⟩ = some (.int .i64 0) := (blk_cell BK118.out 0).trans rfl; have hcz10_1 : w9.cell? ⟨gb118, 1, none⟩ = some (.int .i64 0) := (blk_cell BK118.out 1).trans rfl; have hcz10_2 : w9.cell? ⟨gb118, 2, none⟩ = some (.slice none 0 0) := (blk_cell BK118.out 2).trans rfl; have hfz10_0 := blk_frozen BK118.out 0; have hfz10_1 := blk_frozen BK118.out 1; have hfz10_2 := blk_frozen BK118.out 2))
            go_loopg [10, 28] k1 (fun kq v10 v28 w' => ∃ (x10_2 : List ByteArray) (x28_2 : Int), v28 = .int .i64 x28_2 ∧ Aside0 (impl_TwAlignment.l1 kq x7_1 x10_2 l2 (l2.length : Int) x21_1 ((rd_T30 l2 x21_1).f2) (((rd_T30 l2 x21_1).f2).length : Int) x28_2 ((rd_T30 l2 x21_1).f0) ((rd_T30 l2 x21_1).f1) ((rd_T30 l2 x21_1).f2) = some r) ∧ Aside0 (kq ≤ k1) ∧ Aside0 (Kd.R Kd.string 56 w' w.heap.size (fun k_ => some k_ ≠ (v10 : Value).ownBlock) u7 x7_1) ∧ Aside0 (Kd.R Kd.string 56 w' w.heap.size (fun k_ => some k_ ≠ (u7 : Value).ownBlock) v10 x10_2) ∧ Aside0 (w'.heap[gb118]? = some (.cells #[.int .i64 ((rd_T30 l2 x21_1).f0), .int .i64 ((rd_T30 l2 x21_1).f1), (.slice A117_2 ((rd_T30 l2 x21_1).f2).length c117_2)] 30 (0, 0))) ∧ Aside0 (Below w.heap.size w w'))
            case atStart => exact ⟨(([] : List ByteArray)), (0), (by first | rfl | (simp; done) | (simp [*]; done)), H', ⟨Nat.le_refl _⟩, ⟨by (with_reducible repeat (first | apply Kd.R_alloc | apply Kd.R_drewN | apply Kd.R_drew)); exact Kd.R_mono (Kd.R_far (p := ⟨gb118, 2, none⟩) (Kd.R_far (p := ⟨gb118, 1, none⟩) (Kd.R_far (p := ⟨gb118, 0, none⟩) (Kd.R_types HO_7.out BK118.out (by decide)) (fun _ hk => hk.2) (.int .i64 ((rd_T30 l2 x21_1).f0))) (fun _ hk => hk.2) (.int .i64 ((rd_T30 l2 x21_1).f1))) (fun _ hk => hk.2) (.slice A117_2 ((rd_T30 l2 x21_1).f2).length c117_2)) (fun _ hk => (by simp [Value.ownBlock]))⟩, ⟨by first | exact Kd.R_nil _ _ _ _ _ | exact Kd.N_nil _ _ _ _ _ | exact Kd.V_nil _ _ _ _ _ | exact Kd.Q_nil _ _ _ _ _ | exact Kd.S_nil _ _ _ _ _⟩, ⟨by (with_reducible repeat (first | refine blk_drewN ?_ _ | refine blk_drew ?_ | refine blk_alloc ?_ _)); refine blk_put (cs := #[.int .i64 ((rd_T30 l2 x21_1).f0), .int .i64 ((rd_T30 l2 x21_1).f1), .slice none 0 0]) ?_ 2 _ rfl; (with_reducible repeat (first | refine blk_drewN ?_ _ | refine blk_drew ?_ | refine blk_alloc ?_ _)); refine blk_put (cs := #[.int .i64 ((rd_T30 l2 x21_1).f0), .int .i64 0, .slice none 0 0]) ?_ 1 _ rfl; (with_reducible repeat (first | refine blk_drewN ?_ _ | refine blk_drew ?_ | refine blk_alloc ?_ _)); refine blk_put (cs := #[.int .i64 0, .int .i64 0, .slice none 0 0]) ?_ 0 _ rfl; (with_reducible repeat (first | refine blk_drewN ?_ _ | refine blk_drew ?_ | refine blk_alloc ?_ _)); exact BK118.out⟩, ⟨by repeat (first | (with_reducible first | exact HB.out | apply below_alloc | apply pw_below_drewN | apply below_drew1 | refine below_set ?_ GE118.out) | exact HB.out)⟩⟩
            case round =>
              clear H'
              try clear c1
              try clear p1
              try clear q1
              try clear hx1
              try clear c2
              try clear p2
              try clear c6
              try clear c6b0
              try clear c7
              try clear c7b0
              try clear c8
              try clear c8b0
              try clear hcz10_0
              try clear hcz10_1
              try clear hcz10_2
              try clear hfz10_0
              try clear hfz10_1
              try clear hfz10_2
              try clear hx117_0
              try clear hx117_1
              try clear hx117_2
              try clear p117
              try clear p2
              try clear q117
              obtain ⟨x10_2, x28_2, rfl, HA, HK2, HO_7, HO_10, BK118, HB⟩ := hrel
              cases gk with
              | zero => exact absurd HA.out (by simp [impl_TwAlignment.l1])
              | succ k2 =>
                have H := HA.out
                clear HA
                simp only [impl_TwAlignment.l1] at H
                by_cases c11 : x28_2 < (((rd_T30 l2 x21_1).f2).length : Int)
                · rw [if_pos c11] at H
                  have c11b0 : decide (x28_2 < (((rd_T30 l2 x21_1).f2).length : Int)) = true := decide_eq_true c11
                  clear c11
                  by_cases c12 : 0 ≤ x28_2
                  · rw [if_pos c12] at H
                    have c12b0 : decide (0 ≤ x28_2) = true := decide_eq_true c12
                    clear c12
                    by_cases c13 : x28_2 < (((rd_T30 l2 x21_1).f2).length : Int)
                    · rw [if_pos c13] at H
                      have c13b0 : decide (x28_2 < (((rd_T30 l2 x21_1).f2).length : Int)) = true := decide_eq_true c13
                      clear c13
                      by_cases c14 : x10_2.length < 8796093022208
                      · rw [if_pos c14] at H
                        have LMc14 := Aside0.mk c14
                        clear c14
                        obtain ⟨y120, hy120⟩ : ∃ y_ : List ByteArray, y_ = (x10_2 ++ [rdOf ByteArray.empty ((rd_T30 l2 x21_1).f2) x28_2]) := ⟨_, rfl⟩
                        replace H : (impl_TwAlignment.l1 k2 x7_1 y120 l2 (l2.length : Int) x21_1 ((rd_T30 l2 x21_1).f2) (((rd_T30 l2 x21_1).f2).length : Int) (wrap64 (x28_2 + 1)) ((rd_T30 l2 x21_1).f0) ((rd_T30 l2 x21_1).f1) ((rd_T30 l2 x21_1).f2)) = some r := by first | (rw [hy120]; with_reducible exact H) | (have H2_ := (Option.bind_some _ _).symm.trans H; rw [hy120]; with_reducible exact H2_) | (have H2_ := (Option.bind_some _ _).symm.trans H; with_reducible exact H2_) | with_reducible exact H | (rw [hy120]; exact H) | exact H
                        have Ny120 := Aside0.mk hy120
                        clear hy120
                        have H' := Aside0.mk H
                        clear H
                        have p119 : 0 ≤ (x28_2 : Int) := of_decide_eq_true (by first | (with_reducible assumption) | assumption)
                        have q119 : x28_2 < (((rd_T30 l2 x21_1).f2).length : Int) := of_decide_eq_true (by first | (with_reducible assumption) | assumption)
                        obtain ⟨ad119, e119, hx119_0⟩ := Kd.at_string HR117_2.out x28_2 p119 q119
                        cases e119
                        replace hx119_0 := (HB.out.cell (World.block_lt_of_cell? w _ hx119_0)).trans hx119_0
                        replace p119 := eq_true p119
                        replace q119 := eq_true q119
                        go_wp2_with (first | ((with_reducible refine gate_builtin (b := .append) (xs := #[.tmp 32, .tmp 34]) rfl ?_); (try (refine gate_guard (by rfl) ?_; dsimp only)); at_builtin; refine Kd.R_append Kd.string (w0 := w) w.heap.size rfl (.tmp 32) (.tmp 34) 53 56 (.string ⟨#[]⟩) 16 rfl Try.underlying53 info56 rfl (by decide) (by omega) u10 x10_2 (rdOf ByteArray.empty ((rd_T30 l2 x21_1).f2) x28_2) [.string (rdOf ByteArray.empty ((rd_T30 l2 x21_1).f2) x28_2)] (fun k_ => some k_ ≠ (u7 : Value).ownBlock) (fun _ => False) rfl rfl ?aP (fun _ hk => hk.elim) ?aF ?aO ?aB ?aS ?aL ?_; (case aP => exact rfl); (case aB => exact (by repeat (first | (with_reducible first | exact HB.out | apply below_alloc | apply pw_below_drewN | apply below_drew1 | refine below_set ?_ GE118.out) | exact HB.out))); (case aF => exact (fun k_ hk => Kd.fresh' (Kd.R_lt (by (with_reducible repeat (first | apply Kd.R_alloc | apply Kd.R_drewN | apply Kd.R_drew)); exact HO_7.out)) k_ hk)); (case aO => exact (by (with_reducible repeat (first | apply Kd.R_alloc | apply Kd.R_drewN | apply Kd.R_drew)); exact HO_10.out)); (case aS => exact (below_size (by repeat (first | (with_reducible first | exact HB.out | apply below_alloc | apply pw_below_drewN | apply below_drew1 | refine below_set ?_ GE118.out) | exact HB.out)))); (case aL => have := LMc14.out; omega); intro v121 w15 ho hb hg hat; rw [← Ny120.out] at ho; have n0_ := Aside0.mk (Kd.R_after (ok := (fun _ => True)) (by (with_reducible repeat (first | apply Kd.R_alloc | apply Kd.R_drewN | apply Kd.R_drew)); exact Kd.R_mono HO_7.out (fun _ hk => ⟨trivial, hk⟩)) hg hat); have n1_ := Aside0.mk (blk_grown (g := gb118) (o := .cells #[.int .i64 ((rd_T30 l2 x21_1).f0), .int .i64 ((rd_T30 l2 x21_1).f1), .slice (some ad119) ((rd_T30 l2 x21_1).f2).length c117_2] 30 (0, 0)) (by (with_reducible repeat (first | refine blk_drewN ?_ _ | refine blk_drew ?_ | refine blk_alloc ?_ _)); exact BK118.out) hg (Kd.R_ne HO_10.out BK118.out (by decide))); have n2_ := Aside0.mk (hb); have n3_ := Aside0.mk (ho); clear HO_7; clear BK118; clear HB; clear HO_10; have HO_7 := n0_; have BK118 := n1_; have HB := n2_; have HO122 := n3_; clear n0_ n1_ n2_ n3_; clear ho hb hg hat))
                        go_roundg k2
                        case measure => have := HK1.out; have := HK2.out; omega
                        case rel => exact ⟨(y120), (wrap64 (x28_2 + 1)), (by first | rfl | (simp; done) | (simp [*]; done)), H', ⟨by have := HK1.out; have := HK2.out; omega⟩, ⟨by (with_reducible repeat (first | apply Kd.R_alloc | apply Kd.R_drewN | apply Kd.R_drew)); exact Kd.R_mono HO_7.out (fun _ hk => hk.2)⟩, ⟨by (with_reducible repeat (first | apply Kd.R_alloc | apply Kd.R_drewN | apply Kd.R_drew)); exact HO122.out⟩, ⟨by (with_reducible repeat (first | refine blk_drewN ?_ _ | refine blk_drew ?_ | refine blk_alloc ?_ _)); exact BK118.out⟩, ⟨by repeat (first | (with_reducible first | exact HB.out | apply below_alloc | apply pw_below_drewN | apply below_drew1 | refine below_set ?_ GE118.out) | exact HB.out)⟩⟩
                      · rw [if_neg c14] at H
                        exact absurd H (by simp)
                    · rw [if_neg c13] at H
                      exact absurd H (by simp)
                  · rw [if_neg c12] at H
                    exact absurd H (by simp)
                · rw [if_neg c11] at H
                  have c11b0 : decide (x28_2 < (((rd_T30 l2 x21_1).f2).length : Int)) = false := decide_eq_false c11
                  clear c11
                  by_cases c16 : ((rd_T30 l2 x21_1).f0) = 0
                  · rw [if_pos c16] at H
                    have c16b0 : (((rd_T30 l2 x21_1).f0) == 0) = true := beq_iff_eq.mpr c16
                    have c16b1 : (((rd_T30 l2 x21_1).f0) != 0) = false := bne_eq_false_iff_eq.mpr c16
                    clear c16
                    replace H := Option.bind_eq_some_iff.mp H
                    obtain ⟨t123, A170, H⟩ := H
                    replace H : (impl_TwAlignment.l0 k2 t123 l2 (l2.length : Int) (wrap64 (x21_1 + 1))) = some r := H
                    have A17 := Aside0.mk A170
                    clear A170
                    have H' := Aside0.mk H
                    clear H
                    have hcz18_0 : wr.cell? ⟨gb118, 0, none⟩ = some (.int .i64 ((rd_T30 l2 x21_1).f0)) := (blk_cell BK118.out 0).trans rfl
                    have hcz18_1 : wr.cell? ⟨gb118, 1, none⟩ = some (.int .i64 ((rd_T30 l2 x21_1).f1)) := (blk_cell BK118.out 1).trans rfl
                    have hcz18_2 : wr.cell? ⟨gb118, 2, none⟩ = some (.slice A117_2 ((rd_T30 l2 x21_1).f2).length c117_2) := (blk_cell BK118.out 2).trans rfl
                    have hfz18_0 := blk_frozen BK118.out 0
                    have hfz18_1 := blk_frozen BK118.out 1
                    have hfz18_2 := blk_frozen BK118.out 2
                    obtain ⟨Ao19, co19, eo19⟩ := Kd.R_slice HO_7.out
                    subst eo19
                    obtain ⟨Ao20, co20, eo20⟩ := Kd.R_slice HO_10.out
                    subst eo20
                    go_wp2_with (first | ((with_reducible refine gate_callee (f := 30) rfl ?_); refine goesL_ (some 43) rfl rfl Try.func30 (by kernel_rfl) rfl #[.slice Ao19 x7_1.length co19, .slice Ao20 x10_2.length co20] rfl (by (try simp only [List.map_toArray, List.map_cons, List.map_nil]); first | done | rfl | (simp only [List.length_drop, List.length_take]; rfl)) ?_; (with_reducible refine (tw_Alignment_Add.calls _ _ x7_1 _ _ x10_2 t123 _ ?side1 ?side2 ?side3 ?side4 A17.out).mono ?_); (case side1 => repeat (first | exact (Kd.R_reads' HO_7.out).2.2 | (with_reducible refine Kd.C_alloc ?_ _) | (with_reducible refine Kd.C_drewN ?_ _) | (with_reducible refine Kd.C_drew ?_))); (case side2 => exact (Kd.R_reads' HO_7.out).2.1); (case side3 => repeat (first | exact (Kd.R_reads' HO_10.out).2.2 | (with_reducible refine Kd.C_alloc ?_ _) | (with_reducible refine Kd.C_drewN ?_ _) | (with_reducible refine Kd.C_drew ?_))); (case side4 => exact (Kd.R_reads' HO_10.out).2.1); rintro e w21 ⟨v124, rfl, ho0, hb⟩; refine ⟨_, rfl, ?_⟩; have n0_ := Aside0.mk (Kd.R_elder' (by (with_reducible repeat (first | apply Kd.R_alloc | apply Kd.R_drewN | apply Kd.R_drew)); exact HO_7.out) (Kd.R_base ho0) hb); have n1_ := Aside0.mk (Kd.R_elder' (by (with_reducible repeat (first | apply Kd.R_alloc | apply Kd.R_drewN | apply Kd.R_drew)); exact HO_10.out) (Kd.R_base ho0) hb); have n2_ := Aside0.mk (Kd.R_lower (Kd.R_new' (Kd.R_new' ho0 (Kd.R_lt (by (with_reducible repeat (first | apply Kd.R_alloc | apply Kd.R_drewN | apply Kd.R_drew)); exact HO_7.out))) (Kd.R_lt (by (with_reducible repeat (first | apply Kd.R_alloc | apply Kd.R_drewN | apply Kd.R_drew)); exact HO_10.out))) (below_size (by repeat (first | (with_reducible first | exact HB.out | apply below_alloc | apply pw_below_drewN | apply below_drew1 | refine below_set ?_ GE118.out) | exact HB.out)))); have n3_ := Aside0.mk (blk_below (g := gb118) (o := .cells #[.int .i64 ((rd_T30 l2 x21_1).f0), .int .i64 ((rd_T30 l2 x21_1).f1), .slice A117_2 ((rd_T30 l2 x21_1).f2).length c117_2] 30 (0, 0)) (by (with_reducible repeat (first | refine blk_drewN ?_ _ | refine blk_drew ?_ | refine blk_alloc ?_ _)); exact BK118.out) hb); have n4_ := Aside0.mk (below_step (by repeat (first | (with_reducible first | exact HB.out | apply below_alloc | apply pw_below_drewN | apply below_drew1 | refine below_set ?_ GE118.out) | exact HB.out)) hb); clear HO_7; clear HO_10; clear BK118; clear HB; have HO_7 := n0_; have HO_10 := n1_; have HO125 := n2_; have BK118 := n3_; have HB := n4_; clear n0_ n1_ n2_ n3_ n4_; (try clear hb); (try clear hb2); (try clear hk); (try clear hi); (try clear ho0)))
                    go_roundg k2
                    case measure => have := HK1.out; have := HK2.out; omega
                    case rel => exact ⟨(t123), (wrap64 (x21_1 + 1)), (by first | rfl | (simp; done) | (simp [*]; done)), H', ⟨by have := HK1.out; have := HK2.out; omega⟩, ⟨by (with_reducible repeat (first | apply Kd.R_alloc | apply Kd.R_drewN | apply Kd.R_drew)); exact Kd.R_mono HO125.out (fun _ hk => trivial)⟩, ⟨by repeat (first | (with_reducible first | exact HB.out | apply below_alloc | apply pw_below_drewN | apply below_drew1 | refine below_set ?_ GE118.out) | exact HB.out)⟩⟩
                  · rw [if_neg c16] at H
                    have c16b0 : (((rd_T30 l2 x21_1).f0) == 0) = false := beq_eq_false_iff_ne.mpr c16
                    have c16b1 : (((rd_T30 l2 x21_1).f0) != 0) = true := bne_iff_ne.mpr c16
                    have HC22 := Aside0.mk H
                    clear H
                    have hcz23_0 : wr.cell? ⟨gb118, 0, none⟩ = some (.int .i64 ((rd_T30 l2 x21_1).f0)) := (blk_cell BK118.out 0).trans rfl
                    have hcz23_1 : wr.cell? ⟨gb118, 1, none⟩ = some (.int .i64 ((rd_T30 l2 x21_1).f1)) := (blk_cell BK118.out 1).trans rfl
                    have hcz23_2 : wr.cell? ⟨gb118, 2, none⟩ = some (.slice A117_2 ((rd_T30 l2 x21_1).f2).length c117_2) := (blk_cell BK118.out 2).trans rfl
                    have hfz23_0 := blk_frozen BK118.out 0
                    have hfz23_1 := blk_frozen BK118.out 1
                    have hfz23_2 := blk_frozen BK118.out 2
                    go_upto_region 13 with (fail)
                    go_cut [44] (fun v44 wc => ∃ (kq : Nat) (x44_21 : Bool), v44 = .bool x44_21 ∧ Aside0 (impl_TwAlignment.j2 kq x7_1 x10_2 l2 (l2.length : Int) x21_1 x44_21 ((rd_T30 l2 x21_1).f0) ((rd_T30 l2 x21_1).f1) ((rd_T30 l2 x21_1).f2) = some r) ∧ Aside0 (kq ≤ k2) ∧ Aside0 (Kd.R Kd.string 56 wc w.heap.size (fun k_ => some k_ ≠ (u10 : Value).ownBlock) u7 x7_1) ∧ Aside0 (Kd.R Kd.string 56 wc w.heap.size (fun k_ => some k_ ≠ (u7 : Value).ownBlock) u10 x10_2) ∧ Aside0 (wc.heap[gb118]? = some (.cells #[.int .i64 ((rd_T30 l2 x21_1).f0), .int .i64 ((rd_T30 l2 x21_1).f1), (.slice A117_2 ((rd_T30 l2 x21_1).f2).length c117_2)] 30 (0, 0))) ∧ Aside0 (Below w.heap.size w wc))
                    case first =>
                      have H := HC22.out
                      clear HC22
                      by_cases c24 : ((rd_T30 l2 x21_1).f0) = 1
                      · rw [if_pos c24] at H
                        have c24b0 : (((rd_T30 l2 x21_1).f0) == 1) = true := beq_iff_eq.mpr c24
                        have c24b1 : (((rd_T30 l2 x21_1).f0) != 1) = false := bne_eq_false_iff_eq.mpr c24
                        clear c24
                        (first | rw [c24b0] | (simp only [i64_w, i32_w]; rw [c24b0]) | skip)
                        have H' := Aside0.mk H
                        clear H
                        have hcz25_0 : wr.cell? ⟨gb118, 0, none⟩ = some (.int .i64 ((rd_T30 l2 x21_1).f0)) := (blk_cell BK118.out 0).trans rfl
                        have hcz25_1 : wr.cell? ⟨gb118, 1, none⟩ = some (.int .i64 ((rd_T30 l2 x21_1).f1)) := (blk_cell BK118.out 1).trans rfl
                        have hcz25_2 : wr.cell? ⟨gb118, 2, none⟩ = some (.slice A117_2 ((rd_T30 l2 x21_1).f2).length c117_2) := (blk_cell BK118.out 2).trans rfl
                        have hfz25_0 := blk_frozen BK118.out 0
                        have hfz25_1 := blk_frozen BK118.out 1
                        have hfz25_2 := blk_frozen BK118.out 2
                        obtain ⟨Ao26, co26, eo26⟩ := Kd.R_slice HO_10.out
                        subst eo26
                        go_wp2
                        go_meet
                        case rel => exact ⟨_, (decide ((x10_2.length : Int) > 0)), (by first | rfl | (simp; done) | (simp [*]; done)), H', ⟨by have := HK1.out; have := HK2.out; first | omega | exact Nat.le_refl _⟩, ⟨by (with_reducible repeat (first | apply Kd.R_alloc | apply Kd.R_drewN | apply Kd.R_drew)); exact HO_7.out⟩, ⟨by (with_reducible repeat (first | apply Kd.R_alloc | apply Kd.R_drewN | apply Kd.R_drew)); exact HO_10.out⟩, ⟨by (with_reducible repeat (first | refine blk_drewN ?_ _ | refine blk_drew ?_ | refine blk_alloc ?_ _)); exact BK118.out⟩, ⟨by repeat (first | (with_reducible first | exact HB.out | apply below_alloc | apply pw_below_drewN | apply below_drew1 | refine below_set ?_ GE118.out) | exact HB.out)⟩⟩
                      · rw [if_neg c24] at H
                        have c24b0 : (((rd_T30 l2 x21_1).f0) == 1) = false := beq_eq_false_iff_ne.mpr c24
                        have c24b1 : (((rd_T30 l2 x21_1).f0) != 1) = true := bne_iff_ne.mpr c24
                        (first | rw [c24b0] | (simp only [i64_w, i32_w]; rw [c24b0]) | skip)
                        have H' := Aside0.mk H
                        clear H
                        have hcz27_0 : wr.cell? ⟨gb118, 0, none⟩ = some (.int .i64 ((rd_T30 l2 x21_1).f0)) := (blk_cell BK118.out 0).trans rfl
                        have hcz27_1 : wr.cell? ⟨gb118, 1, none⟩ = some (.int .i64 ((rd_T30 l2 x21_1).f1)) := (blk_cell BK118.out 1).trans rfl
                        have hcz27_2 : wr.cell? ⟨gb118, 2, none⟩ = some (.slice A117_2 ((rd_T30 l2 x21_1).f2).length c117_2) := (blk_cell BK118.out 2).trans rfl
                        have hfz27_0 := blk_frozen BK118.out 0
                        have hfz27_1 := blk_frozen BK118.out 1
                        have hfz27_2 := blk_frozen BK118.out 2
                        go_wp2
                        go_meet
                        case rel => exact ⟨_, (false), (by first | rfl | (simp; done) | (simp [*]; done)), H', ⟨by have := HK1.out; have := HK2.out; first | omega | exact Nat.le_refl _⟩, ⟨by (with_reducible repeat (first | apply Kd.R_alloc | apply Kd.R_drewN | apply Kd.R_drew)); exact HO_7.out⟩, ⟨by (with_reducible repeat (first | apply Kd.R_alloc | apply Kd.R_drewN | apply Kd.R_drew)); exact HO_10.out⟩, ⟨by (with_reducible repeat (first | refine blk_drewN ?_ _ | refine blk_drew ?_ | refine blk_alloc ?_ _)); exact BK118.out⟩, ⟨by repeat (first | (with_reducible first | exact HB.out | apply below_alloc | apply pw_below_drewN | apply below_drew1 | refine below_set ?_ GE118.out) | exact HB.out)⟩⟩
                    case rest =>
                      clear HC22
                      try clear c1
                      try clear p1
                      try clear q1
                      try clear hx1
                      try clear c2
                      try clear p2
                      try clear c3
                      try clear c6
                      try clear c6b0
                      try clear p6
                      try clear c7
                      try clear c7b0
                      try clear c8
                      try clear c8b0
                      try clear c11
                      try clear c11b0
                      try clear p11
                      try clear q11
                      try clear hx11
                      try clear c12
                      try clear c12b0
                      try clear c13
                      try clear c13b0
                      try clear c14
                      try clear c16
                      try clear c16b0
                      try clear c16b1
                      try clear c24
                      try clear c24b0
                      try clear c24b1
                      try clear hcz10_0
                      try clear hcz10_1
                      try clear hcz10_2
                      try clear hcz18_0
                      try clear hcz18_1
                      try clear hcz18_2
                      try clear hcz23_0
                      try clear hcz23_1
                      try clear hcz23_2
                      try clear hcz25_0
                      try clear hcz25_1
                      try clear hcz25_2
                      try clear hcz27_0
                      try clear hcz27_1
                      try clear hcz27_2
                      try clear hfz10_0
                      try clear hfz10_1
                      try clear hfz10_2
                      try clear hfz18_0
                      try clear hfz18_1
                      try clear hfz18_2
                      try clear hfz23_0
                      try clear hfz23_1
                      try clear hfz23_2
                      try clear hfz25_0
                      try clear hfz25_1
                      try clear hfz25_2
                      try clear hfz27_0
                      try clear hfz27_1
                      try clear hfz27_2
                      try clear hx117_0
                      try clear hx117_1
                      try clear hx117_2
                      try clear hx119_0
                      try clear p1
                      try clear p117
                      try clear p119
                      try clear p2
                      try clear q1
                      try clear q117
                      try clear q119
                      obtain ⟨kq, x44_21, rfl, HA, HJ21, HO_7, HO_10, BK118, HB⟩ := hcut
                      cases kq with
                      | zero => exact absurd HA.out (by simp [impl_TwAlignment.j2])
                      | succ kj21 =>
                        have H := HA.out
                        clear HA
                        simp only [impl_TwAlignment.j2] at H
                        by_cases c28 : x44_21 = true
                        · subst c28
                          have H1 : (if 0 < (x10_2.length : Int) then ((tw_Alignment_Set.f x7_1 ((rd_T30 l2 x21_1).f1) (rdOf ByteArray.empty x10_2 0)).bind fun t127 => (impl_TwAlignment.l0 kj21 t127 l2 (l2.length : Int) (wrap64 (x21_1 + 1)))) else (none)) = some r := by rw [if_pos rfl] at H; exact H
                          clear H
                          have H := H1
                          clear H1
                          by_cases c29 : 0 < (x10_2.length : Int)
                          · rw [if_pos c29] at H
                            have c29b0 : decide (0 < (x10_2.length : Int)) = true := decide_eq_true c29
                            have c29b1 : decide (0 < x10_2.length) = true := decide_eq_true (by omega)
                            clear c29
                            replace H := Option.bind_eq_some_iff.mp H
                            obtain ⟨t127, A300, H⟩ := H
                            replace H : (impl_TwAlignment.l0 kj21 t127 l2 (l2.length : Int) (wrap64 (x21_1 + 1))) = some r := H
                            have A30 := Aside0.mk A300
                            clear A300
                            have H' := Aside0.mk H
                            clear H
                            try go_wp2
                            have n0_ := Aside0.mk (Kd.R_drew HO_7.out)
                            have n1_ := Aside0.mk (Kd.R_drew HO_10.out)
                            have n2_ := Aside0.mk (blk_drew BK118.out)
                            have n3_ := Aside0.mk (below_drew1 HB.out)
                            clear HO_7
                            clear HO_10
                            clear BK118
                            clear HB
                            have HO_7 := n0_
                            have HO_10 := n1_
                            have BK118 := n2_
                            have HB := n3_
                            clear n0_ n1_ n2_ n3_
                            obtain ⟨Ao32, co32, eo32⟩ := Kd.R_slice HO_10.out
                            (first | subst eo32 | (injection eo32 with f1_ f2_ f3_; have f4_ := f1_.symm; have f5_ := f3_.symm; clear f1_ f2_ f3_; subst f4_; subst f5_))
                            have p126 : 0 ≤ (0 : Int) := (by omega)
                            have q126 : 0 < (x10_2.length : Int) := of_decide_eq_true (by first | (with_reducible assumption) | assumption)
                            obtain ⟨ad126, e126, hx126_0⟩ := Kd.at_string (Kd.R_reads' HO_10.out).2.2 0 p126 q126
                            cases e126
                            have qi126 : (0 < x10_2.length) = True := eq_true (by omega)
                            (try rw [show ((0 : Int)).toNat = 0 from rfl] at hx126_0)
                            (try rw [Addr.add_zero'] at hx126_0)
                            replace p126 := eq_true p126
                            replace q126 := eq_true q126
                            obtain ⟨Ao33, co33, eo33⟩ := Kd.R_slice HO_7.out
                            (first | subst eo33 | (injection eo33 with f1_ f2_ f3_; have f4_ := f1_.symm; have f5_ := f3_.symm; clear f1_ f2_ f3_; subst f4_; subst f5_))
                            refine start_ (n := 8) (S := fun w' => w'.cell? ⟨gb118, 0, none⟩ = some (.int .i64 ((rd_T30 l2 x21_1).f0)) ∧ w'.cell? ⟨gb118, 1, none⟩ = some (.int .i64 ((rd_T30 l2 x21_1).f1)) ∧ w'.cell? ⟨gb118, 2, none⟩ = some (.slice A117_2 ((rd_T30 l2 x21_1).f2).length c117_2) ∧ w'.cell? ad126 = some (.string (rdOf ByteArray.empty x10_2 0))) (ds := []) #[false, false, false, false, false, false, false, false] (by kernel_rfl) rfl rfl ⟨(blk_cell BK118.out 0).trans rfl, (blk_cell BK118.out 1).trans rfl, (blk_cell BK118.out 2).trans rfl, hx126_0⟩ (fun hHeld => ?_); refine with_tabW impl_TwAlignment.tab14 impl_TwAlignment.bits14 (fun HT_ HW_ => ?_)
                            generalize wc.drew = w31 at HO_7 HO_10 BK118 HB hx126_0 hHeld ⊢
                            refine pure_ (i := 0) (N := some 53) (v := ?_) (a' := ?_) #[true, false, false, false, false, false, false, false] rfl rfl (any_of HT_.out (by kernel_rfl)) (fun _ _ _ h => h) (Or.inl ⟨by rfl, ?_⟩) ?_ ?_
                            rotate_left
                            · intro w'
                              go_simp
                              with_reducible rfl
                            rotate_left
                            · simp only [Act.put, List.setIfInBounds_toArray, List.set_cons_zero, List.set_cons_succ, i64_w, i32_w]
                              rfl
                            refine pure_ (i := 1) (N := some 54) (v := ?_) (a' := ?_) #[true, true, false, false, false, false, false, false] rfl rfl (any_of HT_.out (by kernel_rfl)) (fun _ _ _ h => h) (Or.inl ⟨by rfl, ?_⟩) ?_ ?_
                            rotate_left
                            · intro w'
                              go_simp
                              with_reducible rfl
                            rotate_left
                            · simp only [Act.put, List.setIfInBounds_toArray, List.set_cons_zero, List.set_cons_succ, i64_w, i32_w]
                              rfl
                            refine pure_ (i := 3) (N := some 56) (v := ?_) (a' := ?_) #[true, true, false, true, false, false, false, false] rfl rfl (any_of HT_.out (by kernel_rfl)) (fun _ _ _ h => h) (Or.inl ⟨by rfl, ?_⟩) ?_ ?_
                            rotate_left
                            · intro w'
                              go_simp
                              with_reducible rfl
                            rotate_left
                            · simp only [Act.put, List.setIfInBounds_toArray, List.set_cons_zero, List.set_cons_succ, i64_w, i32_w]
                              rfl
                            refine pure_ (i := 4) (N := some 57) (v := ?_) (a' := ?_) #[true, true, false, true, true, false, false, false] rfl rfl (any_of HT_.out (by kernel_rfl)) (fun _ _ _ h => h) (Or.inl ⟨by rfl, ?_⟩) ?_ ?_
                            rotate_left
                            · intro w'
                              go_simp
                              with_reducible rfl
                            rotate_left
                            · simp only [Act.put, List.setIfInBounds_toArray, List.set_cons_zero, List.set_cons_succ, i64_w, i32_w]
                              rfl
                            refine take_ (i := 2) (N := some 55) (v := ?_) (a' := ?_) #[true, true, true, true, true, false, false, false] rfl rfl (take_ofW HT_.out HW_.out (by kernel_rfl)) (fun _ _ _ h => h) (Or.inl ⟨by rfl, ?_⟩) hHeld ?_ ?_
                            rotate_left
                            · rintro w' ⟨s0, s1, s2, s3⟩
                              go_simp
                              with_reducible rfl
                            rotate_left
                            · simp only [Act.put, List.setIfInBounds_toArray, List.set_cons_zero, List.set_cons_succ, i64_w, i32_w]
                              rfl
                            refine take_ (i := 5) (N := some 58) (v := ?_) (a' := ?_) #[true, true, true, true, true, true, false, false] rfl rfl (take_ofW HT_.out HW_.out (by kernel_rfl)) (fun _ _ _ h => h) (Or.inl ⟨by rfl, ?_⟩) hHeld ?_ ?_
                            rotate_left
                            · rintro w' ⟨s0, s1, s2, s3⟩
                              go_simp
                              with_reducible rfl
                            rotate_left
                            · simp only [Act.put, List.setIfInBounds_toArray, List.set_cons_zero, List.set_cons_succ, i64_w, i32_w]
                              rfl
                            refine one_ (i := 6) (N := some 59) #[true, true, true, true, true, true, true, false] rfl rfl (one_of HT_.out (by kernel_rfl)) (by decide) (fun K hK => ?_)
                            refine goes_ Try.func31 (by kernel_rfl) rfl #[.slice Ao33 x7_1.length co33, .int .i64 ((rd_T30 l2 x21_1).f1), .string (rdOf ByteArray.empty x10_2 0)] (by rfl) rfl rfl (by (try simp only [List.map_toArray, List.map_cons, List.map_nil]); first | done | rfl | (simp only [List.length_drop, List.length_take]; rfl)) ?_
                            with_reducible refine (tw_Alignment_Set.calls (fun k_ => some k_ = (.slice Ao33 x7_1.length co33 : Value).ownBlock) (.slice Ao33 x7_1.length co33) x7_1 ((rd_T30 l2 x21_1).f1) (rdOf ByteArray.empty x10_2 0) t127 w _ ?side1 ?side2 A30.out).mono ?_
                            (case side1 => repeat (first | (with_reducible first | exact HB.out | apply below_alloc | apply pw_below_drewN | apply below_drew1 | refine below_set ?_ GE118.out) | exact HB.out))
                            (case side2 => exact Kd.R_tight rfl HO_7.out)
                            rintro e w34 ⟨v128, rfl, ho0, hb, hkp⟩
                            have HS3_ := cell_kept (hHeld.2.2.2) hkp (by first | (rw [add_block]; exact (fun hs_ => (((HO_10.out).1 _ rfl)) hs_)) | (show ¬ _; simp only [add_block]; exact (fun hs_ => (((HO_10.out).1 _ rfl)) hs_)) | exact (fun hs_ => (((HO_10.out).1 _ rfl)) hs_))
                            refine ⟨_, rfl, ?_⟩
                            have n0_ := Aside0.mk (Kd.R_mono (ok' := fun k_ => some k_ ≠ (v128 : Value).ownBlock) (Kd.R_keptB (HO_10.out) hkp (fun k_ hk_ hs_ => (hk_) hs_)) (fun k_ hk_ => fun e_ => Or.elim (ho0.1 k_ e_.symm) (fun hs_ => hk_.2.1 hs_) (fun hn_ => Nat.not_le.2 hk_.2.2 hn_)))
                            have n1_ := Aside0.mk (blk_kept (by (with_reducible repeat (first | refine blk_drewN ?_ _ | refine blk_drew ?_ | refine blk_alloc ?_ _)); exact BK118.out) hkp (fun hs_ => (fun e_ => (Kd.R_ne HO_7.out BK118.out (by decide)) e_) hs_))
                            have n2_ := Aside0.mk (Kd.R_mono (ok' := fun k_ => some k_ ≠ (.slice (some ad126) x10_2.length co32 : Value).ownBlock) ho0 (fun k_ hk_ => Or.elim hk_ (fun hs_ => fun e_ => (((HO_10.out).1 k_ e_.symm)) hs_) (fun hn_ => (Kd.fresh' (Kd.R_lt (by (with_reducible repeat (first | apply Kd.R_alloc | apply Kd.R_drewN | apply Kd.R_drew)); exact HO_10.out)) k_ hn_))))
                            have n3_ := Aside0.mk (hb)
                            clear HO_10
                            clear BK118
                            clear HB
                            clear HO_7
                            have HO_10 := n0_
                            have BK118 := n1_
                            have HO129 := n2_
                            have HB := n3_
                            clear n0_ n1_ n2_ n3_
                            (try clear hb)
                            (try clear hkp)
                            (try clear ho0)
                            refine hK.out _ _ ⟨(blk_cell BK118.out 0).trans rfl, (blk_cell BK118.out 1).trans rfl, (blk_cell BK118.out 2).trans rfl, HS3_⟩ (fun hHeld => ?_)
                            clear hK K
                            refine norm_ (a' := ?_) ?_ ?_
                            rotate_left
                            · show Act.put _ (some 59) _ = _
                              simp only [Act.put, List.setIfInBounds_toArray, List.set_cons_zero, List.set_cons_succ, i64_w, i32_w]
                              rfl
                            refine pure_ (i := 7) (N := some 7) (v := ?_) (a' := ?_) #[true, true, true, true, true, true, true, true] rfl rfl (any_of HT_.out (by kernel_rfl)) (fun _ _ _ h => h) (Or.inl ⟨by rfl, ?_⟩) ?_ ?_
                            rotate_left
                            · intro w'
                              go_simp
                              with_reducible rfl
                            rotate_left
                            · simp only [Act.put, List.setIfInBounds_toArray, List.set_cons_zero, List.set_cons_succ, i64_w, i32_w]
                              rfl
                            refine done_ (done_of HT_.out (by kernel_rfl)) ?_
                            try go_wp2
                            go_roundg kj21
                            case measure => have := HK1.out; have := HK2.out; have := HJ21.out; omega
                            case rel => exact ⟨(t127), (wrap64 (x21_1 + 1)), (by first | rfl | (simp; done) | (simp [*]; done)), H', ⟨by have := HK1.out; have := HK2.out; have := HJ21.out; omega⟩, ⟨by (with_reducible repeat (first | apply Kd.R_alloc | apply Kd.R_drewN | apply Kd.R_drew)); exact Kd.R_mono HO129.out (fun _ hk => trivial)⟩, ⟨by repeat (first | (with_reducible first | exact HB.out | apply below_alloc | apply pw_below_drewN | apply below_drew1 | refine below_set ?_ GE118.out) | exact HB.out)⟩⟩
                          · rw [if_neg c29] at H
                            exact absurd H (by simp)
                        · replace c28 := Bool.eq_false_iff.mpr c28
                          subst c28
                          have H1 : (if ((rd_T30 l2 x21_1).f0) = 2 then ((tw_Alignment_Copy.f x7_1).bind fun t130 => (impl_TwAlignment.l0 kj21 t130 l2 (l2.length : Int) (wrap64 (x21_1 + 1)))) else (impl_TwAlignment.l0 kj21 x7_1 l2 (l2.length : Int) (wrap64 (x21_1 + 1)))) = some r := by rw [if_neg (show ¬ (false = true) by decide)] at H; exact H
                          clear H
                          have H := H1
                          clear H1
                          by_cases c35 : ((rd_T30 l2 x21_1).f0) = 2
                          · rw [if_pos c35] at H
                            have c35b0 : (((rd_T30 l2 x21_1).f0) == 2) = true := beq_iff_eq.mpr c35
                            have c35b1 : (((rd_T30 l2 x21_1).f0) != 2) = false := bne_eq_false_iff_eq.mpr c35
                            clear c35
                            replace H := Option.bind_eq_some_iff.mp H
                            obtain ⟨t130, A360, H⟩ := H
                            replace H : (impl_TwAlignment.l0 kj21 t130 l2 (l2.length : Int) (wrap64 (x21_1 + 1))) = some r := H
                            have A36 := Aside0.mk A360
                            clear A360
                            have H' := Aside0.mk H
                            clear H
                            have hcz37_0 : wc.cell? ⟨gb118, 0, none⟩ = some (.int .i64 ((rd_T30 l2 x21_1).f0)) := (blk_cell BK118.out 0).trans rfl
                            have hcz37_1 : wc.cell? ⟨gb118, 1, none⟩ = some (.int .i64 ((rd_T30 l2 x21_1).f1)) := (blk_cell BK118.out 1).trans rfl
                            have hcz37_2 : wc.cell? ⟨gb118, 2, none⟩ = some (.slice A117_2 ((rd_T30 l2 x21_1).f2).length c117_2) := (blk_cell BK118.out 2).trans rfl
                            have hfz37_0 := blk_frozen BK118.out 0
                            have hfz37_1 := blk_frozen BK118.out 1
                            have hfz37_2 := blk_frozen BK118.out 2
                            obtain ⟨Ao38, co38, eo38⟩ := Kd.R_slice HO_7.out
                            subst eo38
                            go_wp2_with (first | ((with_reducible refine gate_callee (f := 32) rfl ?_); refine goesL_ (some 65) rfl rfl Try.func32 (by kernel_rfl) rfl #[.slice Ao38 x7_1.length co38] rfl (by (try simp only [List.map_toArray, List.map_cons, List.map_nil]); first | done | rfl | (simp only [List.length_drop, List.length_take]; rfl)) ?_; (with_reducible refine (tw_Alignment_Copy.calls _ _ x7_1 t130 _ ?side1 ?side2 A36.out).mono ?_); (case side1 => repeat (first | exact (Kd.R_reads' HO_7.out).2.2 | (with_reducible refine Kd.C_alloc ?_ _) | (with_reducible refine Kd.C_drewN ?_ _) | (with_reducible refine Kd.C_drew ?_))); (case side2 => exact (Kd.R_reads' HO_7.out).2.1); rintro e w39 ⟨v131, rfl, ho0, hb⟩; refine ⟨_, rfl, ?_⟩; have n0_ := Aside0.mk (Kd.R_elder' (by (with_reducible repeat (first | apply Kd.R_alloc | apply Kd.R_drewN | apply Kd.R_drew)); exact HO_7.out) (Kd.R_base ho0) hb); have n1_ := Aside0.mk (Kd.R_elder' (by (with_reducible repeat (first | apply Kd.R_alloc | apply Kd.R_drewN | apply Kd.R_drew)); exact HO_10.out) (Kd.R_base ho0) hb); have n2_ := Aside0.mk (Kd.R_lower (Kd.R_new' (Kd.R_new' ho0 (Kd.R_lt (by (with_reducible repeat (first | apply Kd.R_alloc | apply Kd.R_drewN | apply Kd.R_drew)); exact HO_7.out))) (Kd.R_lt (by (with_reducible repeat (first | apply Kd.R_alloc | apply Kd.R_drewN | apply Kd.R_drew)); exact HO_10.out))) (below_size (by repeat (first | (with_reducible first | exact HB.out | apply below_alloc | apply pw_below_drewN | apply below_drew1 | refine below_set ?_ GE118.out) | exact HB.out)))); have n3_ := Aside0.mk (blk_below (g := gb118) (o := .cells #[.int .i64 ((rd_T30 l2 x21_1).f0), .int .i64 ((rd_T30 l2 x21_1).f1), .slice A117_2 ((rd_T30 l2 x21_1).f2).length c117_2] 30 (0, 0)) (by (with_reducible repeat (first | refine blk_drewN ?_ _ | refine blk_drew ?_ | refine blk_alloc ?_ _)); exact BK118.out) hb); have n4_ := Aside0.mk (below_step (by repeat (first | (with_reducible first | exact HB.out | apply below_alloc | apply pw_below_drewN | apply below_drew1 | refine below_set ?_ GE118.out) | exact HB.out)) hb); clear HO_7; clear HO_10; clear BK118; clear HB; have HO_7 := n0_; have HO_10 := n1_; have HO132 := n2_; have BK118 := n3_; have HB := n4_; clear n0_ n1_ n2_ n3_ n4_; (try clear hb); (try clear hb2); (try clear hk); (try clear hi); (try clear ho0)))
                            go_roundg kj21
                            case measure => have := HK1.out; have := HK2.out; have := HJ21.out; omega
                            case rel => exact ⟨(t130), (wrap64 (x21_1 + 1)), (by first | rfl | (simp; done) | (simp [*]; done)), H', ⟨by have := HK1.out; have := HK2.out; have := HJ21.out; omega⟩, ⟨by (with_reducible repeat (first | apply Kd.R_alloc | apply Kd.R_drewN | apply Kd.R_drew)); exact Kd.R_mono HO132.out (fun _ hk => trivial)⟩, ⟨by repeat (first | (with_reducible first | exact HB.out | apply below_alloc | apply pw_below_drewN | apply below_drew1 | refine below_set ?_ GE118.out) | exact HB.out)⟩⟩
                          · rw [if_neg c35] at H
                            have c35b0 : (((rd_T30 l2 x21_1).f0) == 2) = false := beq_eq_false_iff_ne.mpr c35
                            have c35b1 : (((rd_T30 l2 x21_1).f0) != 2) = true := bne_iff_ne.mpr c35
                            have H' := Aside0.mk H
                            clear H
                            have hcz40_0 : wc.cell? ⟨gb118, 0, none⟩ = some (.int .i64 ((rd_T30 l2 x21_1).f0)) := (blk_cell BK118.out 0).trans rfl
                            have hcz40_1 : wc.cell? ⟨gb118, 1, none⟩ = some (.int .i64 ((rd_T30 l2 x21_1).f1)) := (blk_cell BK118.out 1).trans rfl
                            have hcz40_2 : wc.cell? ⟨gb118, 2, none⟩ = some (.slice A117_2 ((rd_T30 l2 x21_1).f2).length c117_2) := (blk_cell BK118.out 2).trans rfl
                            have hfz40_0 := blk_frozen BK118.out 0
                            have hfz40_1 := blk_frozen BK118.out 1
                            have hfz40_2 := blk_frozen BK118.out 2
                            go_wp2
                            go_roundg kj21
                            case measure => have := HK1.out; have := HK2.out; have := HJ21.out; omega
                            case rel => exact ⟨(x7_1), (wrap64 (x21_1 + 1)), (by first | rfl | (simp; done) | (simp [*]; done)), H', ⟨by have := HK1.out; have := HK2.out; have := HJ21.out; omega⟩, ⟨by (with_reducible repeat (first | apply Kd.R_alloc | apply Kd.R_drewN | apply Kd.R_drew)); exact Kd.R_mono HO_7.out (fun _ hk => trivial)⟩, ⟨by repeat (first | (with_reducible first | exact HB.out | apply below_alloc | apply pw_below_drewN | apply below_drew1 | refine below_set ?_ GE118.out) | exact HB.out)⟩⟩
          · rw [if_neg c8] at H
            exact absurd H (by simp)
        · rw [if_neg c7] at H
          exact absurd H (by simp)
      · rw [if_neg c6] at H
        have c6b0 : decide (x21_1 < (l2.length : Int)) = false := decide_eq_false c6
        clear c6
        obtain ⟨y133, hy133⟩ : ∃ y_ : List ByteArray, y_ = (([] : List ByteArray)) := ⟨_, rfl⟩
        replace H : (impl_TwAlignment.l2 k1 y133 x7_1 (x7_1.length : Int) 0) = some r := by first | (rw [hy133]; with_reducible exact H) | (have H2_ := (Option.bind_some _ _).symm.trans H; rw [hy133]; with_reducible exact H2_) | (have H2_ := (Option.bind_some _ _).symm.trans H; with_reducible exact H2_) | with_reducible exact H | (rw [hy133]; exact H) | exact H
        have Ny133 := Aside0.mk hy133
        clear hy133
        have H' := Aside0.mk H
        clear H
        go_wp2_with (first | ((with_reducible refine gate_dst (N := 67) rfl ?_); (try (refine gate_guard (by rfl) ?_; dsimp only)); refine Kd.R_lit Kd.string _ 9 ?hg (N := 67) ?hd (xs := ([] : List ByteArray)) (inner := []) (ok := fun _ => True) (okp := fun _ => True) ?hr ?hp (fun _ hk => hk) trivial (Below.refl _ _) (Nat.le_refl _) (by simp) ?_; (case hd => rfl); (case hg => rfl); (case hr => first | (go_simp; done) | (go_simp; rfl)); (case hp => exact (Reps.none _ _)); intro v134 w41 ho42 hb hg_ hnew_; clear hg_ hnew_; (first | rw [← Ny133.out] at ho42 | (simp only [Int.reduceToNat] at ho42; rw [← Ny133.out] at ho42)); have n0_ := Aside0.mk (Kd.R_below (by (with_reducible repeat (first | apply Kd.R_alloc | apply Kd.R_drewN | apply Kd.R_drew)); exact HO_7.out) hb); have n1_ := Aside0.mk (Kd.R_lower ho42 (below_size (by repeat (first | (with_reducible first | exact HB.out | apply below_alloc | apply pw_below_drewN | apply below_drew1) | exact HB.out)))); have n2_ := Aside0.mk (below_step (by repeat (first | (with_reducible first | exact HB.out | apply below_alloc | apply pw_below_drewN | apply below_drew1) | exact HB.out)) hb); clear HO_7; clear HB; have HO_7 := n0_; have HO135 := n1_; have HB := n2_; clear n0_ n1_ n2_; clear hb ho42; obtain ⟨Ao43, co43, eo43⟩ := Kd.R_slice HO_7.out; subst eo43))
        go_loopg [13, 70] k1 (fun kq v13 v70 w' => ∃ (x13_2 : List ByteArray) (x70_2 : Int), v70 = .int .i64 x70_2 ∧ Aside0 (impl_TwAlignment.l2 kq x13_2 x7_1 (x7_1.length : Int) x70_2 = some r) ∧ Aside0 (kq ≤ k1) ∧ Aside0 (Kd.R Kd.string 9 w' w.heap.size (fun _ => True) v13 x13_2) ∧ Aside0 (Kd.R Kd.string 56 w' w.heap.size (fun _ => True) (.slice Ao43 x7_1.length co43) x7_1) ∧ Aside0 (Below w.heap.size w w'))
        case atStart => exact ⟨(y133), (0), (by first | rfl | (simp; done) | (simp [*]; done)), H', ⟨Nat.le_refl _⟩, ⟨by (with_reducible repeat (first | apply Kd.R_alloc | apply Kd.R_drewN | apply Kd.R_drew)); exact HO135.out⟩, ⟨by (with_reducible repeat (first | apply Kd.R_alloc | apply Kd.R_drewN | apply Kd.R_drew)); exact HO_7.out⟩, ⟨by repeat (first | (with_reducible first | exact HB.out | apply below_alloc | apply pw_below_drewN | apply below_drew1) | exact HB.out)⟩⟩
        case round =>
          clear H'
          try clear c1
          try clear p1
          try clear q1
          try clear hx1
          try clear qi1
          try clear c2
          try clear p2
          try clear c3
          try clear c6
          try clear c6b0
          try clear p6
          try clear c7
          try clear c7b0
          try clear c8
          try clear c8b0
          try clear c11
          try clear c11b0
          try clear p11
          try clear q11
          try clear hx11
          try clear c12
          try clear c12b0
          try clear p12
          try clear q12
          try clear hx12
          try clear qi12
          try clear c13
          try clear c13b0
          try clear c14
          try clear c16
          try clear c16b0
          try clear c16b1
          try clear c24
          try clear c24b0
          try clear c24b1
          try clear c28
          try clear c29
          try clear c29b0
          try clear c29b1
          try clear c30
          try clear c31
          try clear c32
          try clear c35
          try clear c35b0
          try clear c35b1
          try clear hcz10_0
          try clear hcz10_1
          try clear hcz10_2
          try clear hcz18_0
          try clear hcz18_1
          try clear hcz18_2
          try clear hcz23_0
          try clear hcz23_1
          try clear hcz23_2
          try clear hcz25_0
          try clear hcz25_1
          try clear hcz25_2
          try clear hcz27_0
          try clear hcz27_1
          try clear hcz27_2
          try clear hcz37_0
          try clear hcz37_1
          try clear hcz37_2
          try clear hcz40_0
          try clear hcz40_1
          try clear hcz40_2
          try clear hfz10_0
          try clear hfz10_1
          try clear hfz10_2
          try clear hfz18_0
          try clear hfz18_1
          try clear hfz18_2
          try clear hfz23_0
          try clear hfz23_1
          try clear hfz23_2
          try clear hfz25_0
          try clear hfz25_1
          try clear hfz25_2
          try clear hfz27_0
          try clear hfz27_1
          try clear hfz27_2
          try clear hfz37_0
          try clear hfz37_1
          try clear hfz37_2
          try clear hfz40_0
          try clear hfz40_1
          try clear hfz40_2
          try clear hx117_0
          try clear hx117_1
          try clear hx117_2
          try clear hx119_0
          try clear hx126_0
          try clear p1
          try clear p11
          try clear p117
          try clear p119
          try clear p126
          try clear p2
          try clear p6
          try clear q1
          try clear q11
          try clear q117
          try clear q119
          try clear q126
          obtain ⟨x13_2, x70_2, rfl, HA, HK2, HO_13, HO_68, HB⟩ := hrel
          cases gk with
          | zero => exact absurd HA.out (by simp [impl_TwAlignment.l2])
          | succ k2 =>
            have H := HA.out
            clear HA
            simp only [impl_TwAlignment.l2] at H
            by_cases c44 : x70_2 < (x7_1.length : Int)
            · rw [if_pos c44] at H
              have c44b0 : decide (x70_2 < (x7_1.length : Int)) = true := decide_eq_true c44
              clear c44
              by_cases c45 : 0 ≤ x70_2
              · rw [if_pos c45] at H
                have c45b0 : decide (0 ≤ x70_2) = true := decide_eq_true c45
                clear c45
                by_cases c46 : x70_2 < (x7_1.length : Int)
                · rw [if_pos c46] at H
                  have c46b0 : decide (x70_2 < (x7_1.length : Int)) = true := decide_eq_true c46
                  clear c46
                  by_cases c47 : x13_2.length < 8796093022208
                  · rw [if_pos c47] at H
                    have LMc47 := Aside0.mk c47
                    clear c47
                    obtain ⟨y137, hy137⟩ : ∃ y_ : List ByteArray, y_ = (x13_2 ++ [rdOf ByteArray.empty x7_1 x70_2]) := ⟨_, rfl⟩
                    replace H : (impl_TwAlignment.l2 k2 y137 x7_1 (x7_1.length : Int) (wrap64 (x70_2 + 1))) = some r := by first | (rw [hy137]; with_reducible exact H) | (have H2_ := (Option.bind_some _ _).symm.trans H; rw [hy137]; with_reducible exact H2_) | (have H2_ := (Option.bind_some _ _).symm.trans H; with_reducible exact H2_) | with_reducible exact H | (rw [hy137]; exact H) | exact H
                    have Ny137 := Aside0.mk hy137
                    clear hy137
                    have H' := Aside0.mk H
                    clear H
                    have p136 : 0 ≤ (x70_2 : Int) := of_decide_eq_true (by first | (with_reducible assumption) | assumption)
                    have q136 : x70_2 < (x7_1.length : Int) := of_decide_eq_true (by first | (with_reducible assumption) | assumption)
                    obtain ⟨ad136, e136, hx136_0⟩ := Kd.at_string (Kd.R_reads' HO_68.out).2.2 x70_2 p136 q136
                    cases e136
                    replace p136 := eq_true p136
                    replace q136 := eq_true q136
                    go_wp2_with (first | ((with_reducible refine gate_builtin (b := .append) (xs := #[.tmp 74, .tmp 76]) rfl ?_); (try (refine gate_guard (by rfl) ?_; dsimp only)); at_builtin; refine Kd.R_append Kd.string (w0 := w) w.heap.size rfl (.tmp 74) (.tmp 76) 28 9 (.string ⟨#[]⟩) 16 rfl Try.underlying28 info9 rfl (by decide) (by omega) u13 x13_2 (rdOf ByteArray.empty x7_1 x70_2) [.string (rdOf ByteArray.empty x7_1 x70_2)] (fun _ => True) (fun _ => False) rfl rfl ?aP (fun _ hk => hk.elim) ?aF ?aO ?aB ?aS ?aL ?_; (case aP => exact rfl); (case aB => exact (by repeat (first | (with_reducible first | exact HB.out | apply below_alloc | apply pw_below_drewN | apply below_drew1) | exact HB.out))); (case aF => exact (fun _ _ => trivial)); (case aO => exact (by (with_reducible repeat (first | apply Kd.R_alloc | apply Kd.R_drewN | apply Kd.R_drew)); exact HO_13.out)); (case aS => exact (below_size (by repeat (first | (with_reducible first | exact HB.out | apply below_alloc | apply pw_below_drewN | apply below_drew1) | exact HB.out)))); (case aL => have := LMc47.out; omega); intro v138 w48 ho hb hg hat; rw [← Ny137.out] at ho; have n0_ := Aside0.mk (Kd.R_over' (by (with_reducible repeat (first | apply Kd.R_alloc | apply Kd.R_drewN | apply Kd.R_drew)); exact HO_68.out) (Kd.R_typed (by (with_reducible repeat (first | apply Kd.R_alloc | apply Kd.R_drewN | apply Kd.R_drew)); exact HO_13.out)) (by decide) hg); have n1_ := Aside0.mk (hb); have n2_ := Aside0.mk (ho); clear HO_68; clear HB; clear HO_13; have HO_68 := n0_; have HB := n1_; have HO139 := n2_; clear n0_ n1_ n2_; clear ho hb hg hat))
                    go_roundg k2
                    case measure => have := HK1.out; have := HK2.out; omega
                    case rel => exact ⟨(y137), (wrap64 (x70_2 + 1)), (by first | rfl | (simp; done) | (simp [*]; done)), H', ⟨by have := HK1.out; have := HK2.out; omega⟩, ⟨by (with_reducible repeat (first | apply Kd.R_alloc | apply Kd.R_drewN | apply Kd.R_drew)); exact HO139.out⟩, ⟨by (with_reducible repeat (first | apply Kd.R_alloc | apply Kd.R_drewN | apply Kd.R_drew)); exact HO_68.out⟩, ⟨by repeat (first | (with_reducible first | exact HB.out | apply below_alloc | apply pw_below_drewN | apply below_drew1) | exact HB.out)⟩⟩
                  · rw [if_neg c47] at H
                    exact absurd H (by simp)
                · rw [if_neg c46] at H
                  exact absurd H (by simp)
              · rw [if_neg c45] at H
                exact absurd H (by simp)
            · rw [if_neg c44] at H
              have c44b0 : decide (x70_2 < (x7_1.length : Int)) = false := decide_eq_false c44
              clear c44
              obtain rfl := Option.some.inj H
              go_wp2
              go_ret
              exact ⟨_, by first | rfl | (simp [errW_none, errW_some] <;> rfl) | (simp [*, errW_none, errW_some] <;> rfl), by (with_reducible repeat (first | apply Kd.R_alloc | apply Kd.R_drewN | apply Kd.R_drew)); exact HO_13.out, by repeat (first | (with_reducible first | exact HB.out | apply below_alloc | apply pw_below_drewN | apply below_drew1) | exact HB.out)⟩

end Go.Proofs.Ytcjnoadamfdgeaa.GFnAlignment
