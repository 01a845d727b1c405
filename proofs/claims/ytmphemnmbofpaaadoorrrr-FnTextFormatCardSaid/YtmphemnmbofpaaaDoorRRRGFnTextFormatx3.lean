-- Written by gprint.py, a program of this session over the kit's printer, with contracts of its own for what the printer does not take. Not trusted: Lean checks it.
import Derived.Test.YtmphemnmbofpaaaDoorRRRGFnTextFormatx0
import Derived.Test.YtmphemnmbofpaaaDoorRRRGFnTextFormatx2
namespace Go.Proofs.YtmphemnmbofpaaaDoorRRR.GFnTextFormat
open Go.RowKit Go.Proofs.YtmphemnmbofpaaaDoorRRR.Itr Go.Proofs.YtmphemnmbofpaaaDoorRRRW.PrintWords Go.Proofs.YtmphemnmbofpaaaDoorRRRW.PrintLast Go.Proofs.YtmphemnmbofpaaaDoorRRRW.PrintMore
attribute [local go_sem] max2_int min2_int max_two min_two max_three min_three max_four min_four   -- for this text's walks alone
set_option linter.unusedVariables false
set_option linter.unusedSimpArgs false

/-! ### spec_TxGood: function 5 -/
mutual
def spec_TxGood.l0 : Nat → List (S32) → Bool → List (S32) → Int → Int → Option (Bool)
  | 0, _, _, _, _, _ => none
  | k + 1, x0, x1, x9, x10, x11 => if x11 < x10 then (if 0 ≤ x11 then (if x11 < (x9.length : Int) then ((spec_TxSimple.f k ((rd_T32 x9 x11).f1) x1).bind fun t119 => (if t119 = true then (if (((rd_T32 x9 x11).f1).size : Int) > 500 then (spec_TxGood.j1 k x0 x1 x9 x10 x11 true ((rd_T32 x9 x11).f0) ((rd_T32 x9 x11).f1)) else (spec_TxGood.j1 k x0 x1 x9 x10 x11 (decide ((((rd_T32 x9 x11).f0).length : Int) > 4)) ((rd_T32 x9 x11).f0) ((rd_T32 x9 x11).f1))) else (spec_TxGood.j1 k x0 x1 x9 x10 x11 true ((rd_T32 x9 x11).f0) ((rd_T32 x9 x11).f1)))) else (none)) else (none)) else (some (decide ((x0.length : Int) ≤ 40)))
def spec_TxGood.j1 : Nat → List (S32) → Bool → List (S32) → Int → Int → Bool → List Int → ByteArray → Option (Bool)
  | 0, _, _, _, _, _, _, _, _ => none
  | k + 1, x0, x1, x9, x10, x11, x31, x119000, x119001 => if x31 = true then (some false) else (spec_TxGood.l1 k x0 x1 x9 x10 x11 x119000 (x119000.length : Int) 0 x119000 x119001)
def spec_TxGood.l1 : Nat → List (S32) → Bool → List (S32) → Int → Int → List Int → Int → Int → List Int → ByteArray → Option (Bool)
  | 0, _, _, _, _, _, _, _, _, _, _ => none
  | k + 1, x0, x1, x9, x10, x11, x33, x34, x35, x119000, x119001 => if x35 < x34 then (if 0 ≤ x35 then (if x35 < (x33.length : Int) then ((spec_TxAttribute.f (rd x33 x35)).bind fun t121 => (if t121 = true then (spec_TxGood.l1 k x0 x1 x9 x10 x11 x33 x34 (wrap64 (x35 + 1)) x119000 x119001) else (if (rd x33 x35) = 0 then (if (x119000.length : Int) > 1 then (some false) else (spec_TxGood.l1 k x0 x1 x9 x10 x11 x33 x34 (wrap64 (x35 + 1)) x119000 x119001)) else (some false)))) else (none)) else (none)) else (spec_TxGood.l0 k x0 x1 x9 x10 (wrap64 (x11 + 1)))
end
def spec_TxGood.f (k : Nat) (l0 : List (S32)) (a1 : Bool) : Option (Bool) := spec_TxGood.l0 k l0 a1 l0 (l0.length : Int) 0
theorem spec_TxGood.mono_l : ∀ k, (∀ y0 y1 y2 y3 y4, LeO (spec_TxGood.l0 k y0 y1 y2 y3 y4) (spec_TxGood.l0 (k + 1) y0 y1 y2 y3 y4)) ∧ (∀ y0 y1 y2 y3 y4 y5 y6 y7, LeO (spec_TxGood.j1 k y0 y1 y2 y3 y4 y5 y6 y7) (spec_TxGood.j1 (k + 1) y0 y1 y2 y3 y4 y5 y6 y7)) ∧ (∀ y0 y1 y2 y3 y4 y5 y6 y7 y8 y9, LeO (spec_TxGood.l1 k y0 y1 y2 y3 y4 y5 y6 y7 y8 y9) (spec_TxGood.l1 (k + 1) y0 y1 y2 y3 y4 y5 y6 y7 y8 y9))
  | 0 => ⟨fun _ _ _ _ _ r h => by simp [spec_TxGood.l0] at h, fun _ _ _ _ _ _ _ _ r h => by simp [spec_TxGood.j1] at h, fun _ _ _ _ _ _ _ _ _ _ r h => by simp [spec_TxGood.l1] at h⟩
  | k + 1 => by
    obtain ⟨ih0, ih1, ih2⟩ := spec_TxGood.mono_l k
    refine ⟨?_, ?_, ?_⟩
    · intro y0 y1 y2 y3 y4
      unfold spec_TxGood.l0
      repeat' first
      | (with_reducible exact ih0 _ _ _ _ _)
      | (with_reducible exact ih1 _ _ _ _ _ _ _ _)
      | (with_reducible exact ih2 _ _ _ _ _ _ _ _ _ _)
      | (with_reducible exact spec_TxSimple.mono _ _ _)
      | (with_reducible exact LeO.refl _)
      | (with_reducible exact LeO.none _)
      | (with_reducible refine LeO.ite ?_ ?_)
      | (with_reducible refine LeO.bind ?_ (fun _ => ?_))
      | exact ih0 _ _ _ _ _
      | exact ih1 _ _ _ _ _ _ _ _
      | exact ih2 _ _ _ _ _ _ _ _ _ _
      | exact spec_TxSimple.mono _ _ _
      | exact LeO.none _
      | refine LeO.ite ?_ ?_
      | refine LeO.bind ?_ (fun _ => ?_)
    · intro y0 y1 y2 y3 y4 y5 y6 y7
      unfold spec_TxGood.j1
      repeat' first
      | (with_reducible exact ih0 _ _ _ _ _)
      | (with_reducible exact ih1 _ _ _ _ _ _ _ _)
      | (with_reducible exact ih2 _ _ _ _ _ _ _ _ _ _)
      | (with_reducible exact spec_TxSimple.mono _ _ _)
      | (with_reducible exact LeO.refl _)
      | (with_reducible exact LeO.none _)
      | (with_reducible refine LeO.ite ?_ ?_)
      | (with_reducible refine LeO.bind ?_ (fun _ => ?_))
      | exact ih0 _ _ _ _ _
      | exact ih1 _ _ _ _ _ _ _ _
      | exact ih2 _ _ _ _ _ _ _ _ _ _
      | exact spec_TxSimple.mono _ _ _
      | exact LeO.none _
      | refine LeO.ite ?_ ?_
      | refine LeO.bind ?_ (fun _ => ?_)
    · intro y0 y1 y2 y3 y4 y5 y6 y7 y8 y9
      unfold spec_TxGood.l1
      repeat' first
      | (with_reducible exact ih0 _ _ _ _ _)
      | (with_reducible exact ih1 _ _ _ _ _ _ _ _)
      | (with_reducible exact ih2 _ _ _ _ _ _ _ _ _ _)
      | (with_reducible exact spec_TxSimple.mono _ _ _)
      | (with_reducible exact LeO.refl _)
      | (with_reducible exact LeO.none _)
      | (with_reducible refine LeO.ite ?_ ?_)
      | (with_reducible refine LeO.bind ?_ (fun _ => ?_))
      | exact ih0 _ _ _ _ _
      | exact ih1 _ _ _ _ _ _ _ _
      | exact ih2 _ _ _ _ _ _ _ _ _ _
      | exact spec_TxSimple.mono _ _ _
      | exact LeO.none _
      | refine LeO.ite ?_ ?_
      | refine LeO.bind ?_ (fun _ => ?_)
theorem spec_TxGood.mono : ∀ a0 a1 k, LeO (spec_TxGood.f k a0 a1) (spec_TxGood.f (k + 1) a0 a1) := by
  intro a0 a1 k
  obtain ⟨ih0, ih1, ih2⟩ := spec_TxGood.mono_l k
  unfold spec_TxGood.f
  repeat' first
      | (with_reducible exact ih0 _ _ _ _ _)
      | (with_reducible exact ih1 _ _ _ _ _ _ _ _)
      | (with_reducible exact ih2 _ _ _ _ _ _ _ _ _ _)
      | (with_reducible exact spec_TxSimple.mono _ _ _)
      | (with_reducible exact LeO.refl _)
      | (with_reducible exact LeO.none _)
      | (with_reducible refine LeO.ite ?_ ?_)
      | (with_reducible refine LeO.bind ?_ (fun _ => ?_))
      | exact ih0 _ _ _ _ _
      | exact ih1 _ _ _ _ _ _ _ _
      | exact ih2 _ _ _ _ _ _ _ _ _ _
      | exact spec_TxSimple.mono _ _ _
      | exact LeO.none _
      | refine LeO.ite ?_ ?_
      | refine LeO.bind ?_ (fun _ => ?_)
set_option maxHeartbeats 8000000 in
set_option maxRecDepth 100000 in
theorem spec_TxGood.calls (k : Nat) (A0 : Option Addr) (c0 : Nat) (l0 : List (S32)) (a1 : Bool) (r : Bool) (w : World) (hr0 : Kd.C k32 w A0 l0.length l0) (hc0 : l0.length ≤ c0) (h : spec_TxGood.f k l0 a1 = some r) :
    Calls Tryd.prog 5 #[.slice A0 l0.length c0, .bool a1] w fun e w' => e = .returned (.bool r) ∧ Below w.heap.size w w' := by
  have hu32 := Tryd.underlying32
  have HR0 := Aside0.mk hr0
  have HC0 := Aside0.mk hc0
  clear hr0 hc0
  have HB := Aside0.mk (Below.refl w.heap.size w)
  have H : (spec_TxGood.l0 k l0 a1 l0 (l0.length : Int) 0) = some r := h
  clear h
  have H' := Aside0.mk H
  clear H
  go_enter Tryd.func5, Tryd.ntmps5
  go_wp2
  (try simp only [Act.put, List.setIfInBounds_toArray, List.set_cons_zero, List.set_cons_succ])
  go_loopg [11] k (fun kq v11 w' => ∃ (x11_1 : Int), v11 = .int .i64 x11_1 ∧ Aside0 (spec_TxGood.l0 kq l0 a1 l0 (l0.length : Int) x11_1 = some r) ∧ Aside0 (kq ≤ k) ∧ Aside0 (Below w.heap.size w w'))
  case atStart => exact ⟨(0), (by first | rfl | (simp; done) | (simp [*]; done)), H', ⟨Nat.le_refl _⟩, ⟨by repeat (first | (with_reducible first | exact HB.out | apply below_alloc | apply pw_below_drewN | apply below_drew1) | exact HB.out)⟩⟩
  case round =>
    clear H'
    try clear p2
    obtain ⟨x11_1, rfl, HA, HK1, HB⟩ := hrel
    cases gk with
    | zero => exact absurd HA.out (by simp [spec_TxGood.l0])
    | succ k1 =>
      have H := HA.out
      clear HA
      simp only [spec_TxGood.l0] at H
      by_cases c3 : x11_1 < (l0.length : Int)
      · rw [if_pos c3] at H
        have c3b0 : decide (x11_1 < (l0.length : Int)) = true := decide_eq_true c3
        clear c3
        by_cases c4 : 0 ≤ x11_1
        · rw [if_pos c4] at H
          have c4b0 : decide (0 ≤ x11_1) = true := decide_eq_true c4
          clear c4
          by_cases c5 : x11_1 < (l0.length : Int)
          · rw [if_pos c5] at H
            have c5b0 : decide (x11_1 < (l0.length : Int)) = true := decide_eq_true c5
            clear c5
            have HC6 := Aside0.mk H
            clear H
            have p117 : 0 ≤ (x11_1 : Int) := of_decide_eq_true (by first | (with_reducible assumption) | assumption)
            have q117 : x11_1 < (l0.length : Int) := of_decide_eq_true (by first | (with_reducible assumption) | assumption)
            obtain ⟨ad117, A117_0, c117_0, e117, hx117_0, hx117_1, hl117_0, hi117_0⟩ := at_T32 HR0.out x11_1 p117 q117
            cases e117
            replace hx117_0 := (HB.out.cell (World.block_lt_of_cell? w _ hx117_0)).trans hx117_0
            replace hx117_1 := (HB.out.cell (World.block_lt_of_cell? w _ hx117_1)).trans hx117_1
            have HR117_0 := Aside0.mk hi117_0
            have HC117_0 := Aside0.mk hl117_0
            clear hi117_0 hl117_0
            replace p117 := eq_true p117
            replace q117 := eq_true q117
            go_upto_region 4 with (first | ((with_reducible refine gate_dst (N := 6) rfl ?_); (try (refine gate_guard (by rfl) ?_; dsimp only)); refine box_event ?hg (N := 6) ?hd (cs := #[.slice none 0 0, .string (⟨#[]⟩ : ByteArray)]) (t := 32) ?hr ?_; (case hd => rfl); (case hg => rfl); (case hr => first | (go_simp; done) | (go_simp; rfl)); intro gb118 hg w7 hbox hb; have n0_ := Aside0.mk (below_step (by repeat (first | (with_reducible first | exact HB.out | apply below_alloc | apply pw_below_drewN | apply below_drew1) | exact HB.out)) hb); have n1_ := Aside0.mk (hbox); have n2_ := Aside0.mk ((by rw [hg]; exact (below_size (by repeat (first | (with_reducible first | exact HB.out | apply below_alloc | apply pw_below_drewN | apply below_drew1) | exact HB.out))) : w.heap.size ≤ gb118)); have n3_ := Aside0.mk ((by rw [hg]; exact (below_size (by repeat (first | (with_reducible first | exact HB.out | apply below_alloc | apply pw_below_drewN | apply below_drew1) | exact HB.out))) : w.heap.size ≤ gb118)); clear HB; have HB := n0_; have BK118 := n1_; have GW118 := n2_; have GE118 := n3_; clear n0_ n1_ n2_ n3_; clear hb hbox hg; have hcz8_0 : w7.cell? ⟨gb118, 0, none⟩ = some (.slice none 0 0) := (blk_cell BK118.out 0).trans rfl; have hcz8_1 : w7.cell? ⟨gb118, 1, none⟩ = some (.string (⟨#[]⟩ : ByteArray)) := (blk_cell BK118.out 1).trans rfl; have hfz8_0 := blk_frozen BK118.out 0; have hfz8_1 := blk_frozen BK118.out 1))
            (try simp only [Act.put, List.setIfInBounds_toArray, List.set_cons_zero, List.set_cons_succ])
            go_cut [31] (fun v31 wc => ∃ (kq : Nat) (x31_5 : Bool), v31 = .bool x31_5 ∧ Aside0 (spec_TxGood.j1 kq l0 a1 l0 (l0.length : Int) x11_1 x31_5 ((rd_T32 l0 x11_1).f0) ((rd_T32 l0 x11_1).f1) = some r) ∧ Aside0 (kq ≤ k1) ∧ Aside0 (wc.heap[gb118]? = some (.cells #[(.slice A117_0 ((rd_T32 l0 x11_1).f0).length c117_0), .string ((rd_T32 l0 x11_1).f1)] 32 (0, 0))) ∧ Aside0 (Below w.heap.size w wc))
            case first =>
              have H := HC6.out
              clear HC6
              replace H := Option.bind_eq_some_iff.mp H
              obtain ⟨t119, A90, H⟩ := H
              replace H : (if t119 = true then (if (((rd_T32 l0 x11_1).f1).size : Int) > 500 then (spec_TxGood.j1 k1 l0 a1 l0 (l0.length : Int) x11_1 true ((rd_T32 l0 x11_1).f0) ((rd_T32 l0 x11_1).f1)) else (spec_TxGood.j1 k1 l0 a1 l0 (l0.length : Int) x11_1 (decide ((((rd_T32 l0 x11_1).f0).length : Int) > 4)) ((rd_T32 l0 x11_1).f0) ((rd_T32 l0 x11_1).f1))) else (spec_TxGood.j1 k1 l0 a1 l0 (l0.length : Int) x11_1 true ((rd_T32 l0 x11_1).f0) ((rd_T32 l0 x11_1).f1))) = some r := H
              have A9 := Aside0.mk A90
              clear A90
              by_cases c10 : t119 = true
              · subst c10
                have H1 : (if (((rd_T32 l0 x11_1).f1).size : Int) > 500 then (spec_TxGood.j1 k1 l0 a1 l0 (l0.length : Int) x11_1 true ((rd_T32 l0 x11_1).f0) ((rd_T32 l0 x11_1).f1)) else (spec_TxGood.j1 k1 l0 a1 l0 (l0.length : Int) x11_1 (decide ((((rd_T32 l0 x11_1).f0).length : Int) > 4)) ((rd_T32 l0 x11_1).f0) ((rd_T32 l0 x11_1).f1))) = some r := by rw [if_pos rfl] at H; exact H
                clear H
                have H := H1
                clear H1
                by_cases c11 : (((rd_T32 l0 x11_1).f1).size : Int) > 500
                · rw [if_pos c11] at H
                  have c11b0 : decide (500 < (((rd_T32 l0 x11_1).f1).size : Int)) = true := decide_eq_true c11
                  have c11b1 : decide (500 < ((rd_T32 l0 x11_1).f1).size) = true := decide_eq_true (by omega)
                  clear c11
                  (first | rw [c11b0] | (simp only [i64_w, i32_w]; rw [c11b0]) | skip)
                  have H' := Aside0.mk H
                  clear H
                  have hcz12_0 : w7.cell? ⟨gb118, 0, none⟩ = some (.slice none 0 0) := (blk_cell BK118.out 0).trans rfl
                  have hcz12_1 : w7.cell? ⟨gb118, 1, none⟩ = some (.string (⟨#[]⟩ : ByteArray)) := (blk_cell BK118.out 1).trans rfl
                  have hfz12_0 := blk_frozen BK118.out 0
                  have hfz12_1 := blk_frozen BK118.out 1
                  go_wp2_with (first | ((with_reducible refine gate_callee (f := 12) rfl ?_); refine goesL_ (some 18) rfl rfl Tryd.func12 (by kernel_rfl) rfl #[.string ((rd_T32 l0 x11_1).f1), .bool a1] rfl (by (try simp only [List.map_toArray, List.map_cons, List.map_nil]); first | done | rfl | (simp only [List.length_drop, List.length_take]; rfl)) ?_; (with_reducible refine (spec_TxSimple.calls k1 ((rd_T32 l0 x11_1).f1) a1 true _ A9.out).mono ?_); rintro e w13 ⟨rfl, hb⟩; refine ⟨_, rfl, ?_⟩; have n0_ := Aside0.mk (blk_below (g := gb118) (o := .cells #[.slice A117_0 ((rd_T32 l0 x11_1).f0).length c117_0, .string ((rd_T32 l0 x11_1).f1)] 32 (0, 0)) (by (with_reducible repeat (first | refine blk_drewN ?_ _ | refine blk_drew ?_ | refine blk_alloc ?_ _)); refine blk_put (cs := #[.slice A117_0 ((rd_T32 l0 x11_1).f0).length c117_0, .string (⟨#[]⟩ : ByteArray)]) ?_ 1 _ rfl; (with_reducible repeat (first | refine blk_drewN ?_ _ | refine blk_drew ?_ | refine blk_alloc ?_ _)); refine blk_put (cs := #[.slice none 0 0, .string (⟨#[]⟩ : ByteArray)]) ?_ 0 _ rfl; (with_reducible repeat (first | refine blk_drewN ?_ _ | refine blk_drew ?_ | refine blk_alloc ?_ _)); exact BK118.out) hb); have n1_ := Aside0.mk (below_step (by repeat (first | (with_reducible first | exact HB.out | apply below_alloc | apply pw_below_drewN | apply below_drew1 | refine below_set ?_ GE118.out) | exact HB.out)) hb); clear BK118; clear HB; have BK118 := n0_; have HB := n1_; clear n0_ n1_; (try clear hb); (try clear hb2); (try clear hk); (try clear hi); have hcz14_0 : w13.cell? ⟨gb118, 0, none⟩ = some (.slice A117_0 ((rd_T32 l0 x11_1).f0).length c117_0) := (blk_cell BK118.out 0).trans rfl; have hcz14_1 : w13.cell? ⟨gb118, 1, none⟩ = some (.string ((rd_T32 l0 x11_1).f1)) := (blk_cell BK118.out 1).trans rfl; have hfz14_0 := blk_frozen BK118.out 0; have hfz14_1 := blk_frozen BK118.out 1))
                  go_meet
                  case rel => exact ⟨_, (true), (by first | rfl | (simp; done) | (simp [*]; done)), H', ⟨by have := HK1.out; first | omega | exact Nat.le_refl _⟩, ⟨by (with_reducible repeat (first | refine blk_drewN ?_ _ | refine blk_drew ?_ | refine blk_alloc ?_ _)); exact BK118.out⟩, ⟨by repeat (first | (with_reducible first | exact HB.out | apply below_alloc | apply pw_below_drewN | apply below_drew1 | refine below_set ?_ GE118.out) | exact HB.out)⟩⟩
                · rw [if_neg c11] at H
                  have c11b0 : decide (500 < (((rd_T32 l0 x11_1).f1).size : Int)) = false := decide_eq_false c11
                  have c11b1 : decide (500 < ((rd_T32 l0 x11_1).f1).size) = false := decide_eq_false (by omega)
                  clear c11
                  (first | rw [c11b0] | (simp only [i64_w, i32_w]; rw [c11b0]) | skip)
                  have H' := Aside0.mk H
                  clear H
                  have hcz15_0 : w7.cell? ⟨gb118, 0, none⟩ = some (.slice none 0 0) := (blk_cell BK118.out 0).trans rfl
                  have hcz15_1 : w7.cell? ⟨gb118, 1, none⟩ = some (.string (⟨#[]⟩ : ByteArray)) := (blk_cell BK118.out 1).trans rfl
                  have hfz15_0 := blk_frozen BK118.out 0
                  have hfz15_1 := blk_frozen BK118.out 1
                  go_wp2_with (first | ((with_reducible refine gate_callee (f := 12) rfl ?_); refine goesL_ (some 18) rfl rfl Tryd.func12 (by kernel_rfl) rfl #[.string ((rd_T32 l0 x11_1).f1), .bool a1] rfl (by (try simp only [List.map_toArray, List.map_cons, List.map_nil]); first | done | rfl | (simp only [List.length_drop, List.length_take]; rfl)) ?_; (with_reducible refine (spec_TxSimple.calls k1 ((rd_T32 l0 x11_1).f1) a1 true _ A9.out).mono ?_); rintro e w16 ⟨rfl, hb⟩; refine ⟨_, rfl, ?_⟩; have n0_ := Aside0.mk (blk_below (g := gb118) (o := .cells #[.slice A117_0 ((rd_T32 l0 x11_1).f0).length c117_0, .string ((rd_T32 l0 x11_1).f1)] 32 (0, 0)) (by (with_reducible repeat (first | refine blk_drewN ?_ _ | refine blk_drew ?_ | refine blk_alloc ?_ _)); refine blk_put (cs := #[.slice A117_0 ((rd_T32 l0 x11_1).f0).length c117_0, .string (⟨#[]⟩ : ByteArray)]) ?_ 1 _ rfl; (with_reducible repeat (first | refine blk_drewN ?_ _ | refine blk_drew ?_ | refine blk_alloc ?_ _)); refine blk_put (cs := #[.slice none 0 0, .string (⟨#[]⟩ : ByteArray)]) ?_ 0 _ rfl; (with_reducible repeat (first | refine blk_drewN ?_ _ | refine blk_drew ?_ | refine blk_alloc ?_ _)); exact BK118.out) hb); have n1_ := Aside0.mk (below_step (by repeat (first | (with_reducible first | exact HB.out | apply below_alloc | apply pw_below_drewN | apply below_drew1 | refine below_set ?_ GE118.out) | exact HB.out)) hb); clear BK118; clear HB; have BK118 := n0_; have HB := n1_; clear n0_ n1_; (try clear hb); (try clear hb2); (try clear hk); (try clear hi); have hcz17_0 : w16.cell? ⟨gb118, 0, none⟩ = some (.slice A117_0 ((rd_T32 l0 x11_1).f0).length c117_0) := (blk_cell BK118.out 0).trans rfl; have hcz17_1 : w16.cell? ⟨gb118, 1, none⟩ = some (.string ((rd_T32 l0 x11_1).f1)) := (blk_cell BK118.out 1).trans rfl; have hfz17_0 := blk_frozen BK118.out 0; have hfz17_1 := blk_frozen BK118.out 1))
                  go_meet
                  case rel => exact ⟨_, (decide ((((rd_T32 l0 x11_1).f0).length : Int) > 4)), (by first | rfl | (simp; done) | (simp [*]; done)), H', ⟨by have := HK1.out; first | omega | exact Nat.le_refl _⟩, ⟨by (with_reducible repeat (first | refine blk_drewN ?_ _ | refine blk_drew ?_ | refine blk_alloc ?_ _)); exact BK118.out⟩, ⟨by repeat (first | (with_reducible first | exact HB.out | apply below_alloc | apply pw_below_drewN | apply below_drew1 | refine below_set ?_ GE118.out) | exact HB.out)⟩⟩
              · replace c10 := Bool.eq_false_iff.mpr c10
                subst c10
                have H1 : (spec_TxGood.j1 k1 l0 a1 l0 (l0.length : Int) x11_1 true ((rd_T32 l0 x11_1).f0) ((rd_T32 l0 x11_1).f1)) = some r := by rw [if_neg (show ¬ (false = true) by decide)] at H; exact H
                clear H
                have H := H1
                clear H1
                have H' := Aside0.mk H
                clear H
                have hcz18_0 : w7.cell? ⟨gb118, 0, none⟩ = some (.slice none 0 0) := (blk_cell BK118.out 0).trans rfl
                have hcz18_1 : w7.cell? ⟨gb118, 1, none⟩ = some (.string (⟨#[]⟩ : ByteArray)) := (blk_cell BK118.out 1).trans rfl
                have hfz18_0 := blk_frozen BK118.out 0
                have hfz18_1 := blk_frozen BK118.out 1
                go_wp2_with (first | ((with_reducible refine gate_callee (f := 12) rfl ?_); refine goesL_ (some 18) rfl rfl Tryd.func12 (by kernel_rfl) rfl #[.string ((rd_T32 l0 x11_1).f1), .bool a1] rfl (by (try simp only [List.map_toArray, List.map_cons, List.map_nil]); first | done | rfl | (simp only [List.length_drop, List.length_take]; rfl)) ?_; (with_reducible refine (spec_TxSimple.calls k1 ((rd_T32 l0 x11_1).f1) a1 false _ A9.out).mono ?_); rintro e w19 ⟨rfl, hb⟩; refine ⟨_, rfl, ?_⟩; have n0_ := Aside0.mk (blk_below (g := gb118) (o := .cells #[.slice A117_0 ((rd_T32 l0 x11_1).f0).length c117_0, .string ((rd_T32 l0 x11_1).f1)] 32 (0, 0)) (by (with_reducible repeat (first | refine blk_drewN ?_ _ | refine blk_drew ?_ | refine blk_alloc ?_ _)); refine blk_put (cs := #[.slice A117_0 ((rd_T32 l0 x11_1).f0).length c117_0, .string (⟨#[]⟩ : ByteArray)]) ?_ 1 _ rfl; (with_reducible repeat (first | refine blk_drewN ?_ _ | refine blk_drew ?_ | refine blk_alloc ?_ _)); refine blk_put (cs := #[.slice none 0 0, .string (⟨#[]⟩ : ByteArray)]) ?_ 0 _ rfl; (with_reducible repeat (first | refine blk_drewN ?_ _ | refine blk_drew ?_ | refine blk_alloc ?_ _)); exact BK118.out) hb); have n1_ := Aside0.mk (below_step (by repeat (first | (with_reducible first | exact HB.out | apply below_alloc | apply pw_below_drewN | apply below_drew1 | refine below_set ?_ GE118.out) | exact HB.out)) hb); clear BK118; clear HB; have BK118 := n0_; have HB := n1_; clear n0_ n1_; (try clear hb); (try clear hb2); (try clear hk); (try clear hi)))
                go_meet
                case rel => exact ⟨_, (true), (by first | rfl | (simp; done) | (simp [*]; done)), H', ⟨by have := HK1.out; first | omega | exact Nat.le_refl _⟩, ⟨by (with_reducible repeat (first | refine blk_drewN ?_ _ | refine blk_drew ?_ | refine blk_alloc ?_ _)); exact BK118.out⟩, ⟨by repeat (first | (with_reducible first | exact HB.out | apply below_alloc | apply pw_below_drewN | apply below_drew1 | refine below_set ?_ GE118.out) | exact HB.out)⟩⟩
            case rest =>
              clear HC6
              try clear c1
              try clear p1
              try clear q1
              try clear hx1
              try clear p2
              try clear c3
              try clear c3b0
              try clear c4
              try clear c4b0
              try clear c5
              try clear c5b0
              try clear c10
              try clear c11
              try clear c11b0
              try clear c11b1
              try clear p11
              try clear q11
              try clear hx11
              try clear c12
              try clear hcz12_0
              try clear hcz12_1
              try clear hcz14_0
              try clear hcz14_1
              try clear hcz15_0
              try clear hcz15_1
              try clear hcz17_0
              try clear hcz17_1
              try clear hcz18_0
              try clear hcz18_1
              try clear hcz8_0
              try clear hcz8_1
              try clear hfz12_0
              try clear hfz12_1
              try clear hfz14_0
              try clear hfz14_1
              try clear hfz15_0
              try clear hfz15_1
              try clear hfz17_0
              try clear hfz17_1
              try clear hfz18_0
              try clear hfz18_1
              try clear hfz8_0
              try clear hfz8_1
              try clear hx117_0
              try clear hx117_1
              try clear p117
              try clear p2
              try clear q117
              obtain ⟨kq, x31_5, rfl, HA, HJ5, BK118, HB⟩ := hcut
              cases kq with
              | zero => exact absurd HA.out (by simp [spec_TxGood.j1])
              | succ kj5 =>
                have H := HA.out
                clear HA
                simp only [spec_TxGood.j1] at H
                by_cases c20 : x31_5 = true
                · subst c20
                  have H1 : (some false) = some r := by rw [if_pos rfl] at H; exact H
                  clear H
                  have H := H1
                  clear H1
                  obtain rfl := Option.some.inj H
                  go_wp2
                  go_ret
                  exact ⟨by first | rfl | (simp [errW_none, errW_some] <;> rfl) | (simp [*, errW_none, errW_some] <;> rfl), by repeat (first | (with_reducible first | exact HB.out | apply below_alloc | apply pw_below_drewN | apply below_drew1 | refine below_set ?_ GE118.out) | exact HB.out)⟩
                · replace c20 := Bool.eq_false_iff.mpr c20
                  subst c20
                  have H1 : (spec_TxGood.l1 kj5 l0 a1 l0 (l0.length : Int) x11_1 ((rd_T32 l0 x11_1).f0) (((rd_T32 l0 x11_1).f0).length : Int) 0 ((rd_T32 l0 x11_1).f0) ((rd_T32 l0 x11_1).f1)) = some r := by rw [if_neg (show ¬ (false = true) by decide)] at H; exact H
                  clear H
                  have H := H1
                  clear H1
                  have H' := Aside0.mk H
                  clear H
                  have hcz21_0 : wc.cell? ⟨gb118, 0, none⟩ = some (.slice A117_0 ((rd_T32 l0 x11_1).f0).length c117_0) := (blk_cell BK118.out 0).trans rfl
                  have hcz21_1 : wc.cell? ⟨gb118, 1, none⟩ = some (.string ((rd_T32 l0 x11_1).f1)) := (blk_cell BK118.out 1).trans rfl
                  have hfz21_0 := blk_frozen BK118.out 0
                  have hfz21_1 := blk_frozen BK118.out 1
                  go_wp2
                  (try simp only [Act.put, List.setIfInBounds_toArray, List.set_cons_zero, List.set_cons_succ])
                  go_loopg [35] kj5 (fun kq v35 w' => ∃ (x35_3 : Int), v35 = .int .i64 x35_3 ∧ Aside0 (spec_TxGood.l1 kq l0 a1 l0 (l0.length : Int) x11_1 ((rd_T32 l0 x11_1).f0) (((rd_T32 l0 x11_1).f0).length : Int) x35_3 ((rd_T32 l0 x11_1).f0) ((rd_T32 l0 x11_1).f1) = some r) ∧ Aside0 (kq ≤ kj5) ∧ Aside0 (w'.heap[gb118]? = some (.cells #[(.slice A117_0 ((rd_T32 l0 x11_1).f0).length c117_0), .string ((rd_T32 l0 x11_1).f1)] 32 (0, 0))) ∧ Aside0 (Below w.heap.size w w'))
                  case atStart => exact ⟨(0), (by first | rfl | (simp; done) | (simp [*]; done)), H', ⟨Nat.le_refl _⟩, ⟨by (with_reducible repeat (first | refine blk_drewN ?_ _ | refine blk_drew ?_ | refine blk_alloc ?_ _)); exact BK118.out⟩, ⟨by repeat (first | (with_reducible first | exact HB.out | apply below_alloc | apply pw_below_drewN | apply below_drew1 | refine below_set ?_ GE118.out) | exact HB.out)⟩⟩
                  case round =>
                    clear H'
                    try clear c1
                    try clear p1
                    try clear q1
                    try clear hx1
                    try clear c2
                    try clear p2
                    try clear c3
                    try clear c3b0
                    try clear c4
                    try clear c4b0
                    try clear c5
                    try clear c5b0
                    try clear c10
                    try clear c11
                    try clear c11b0
                    try clear c11b1
                    try clear p11
                    try clear q11
                    try clear hx11
                    try clear c12
                    try clear c20
                    try clear hcz12_0
                    try clear hcz12_1
                    try clear hcz14_0
                    try clear hcz14_1
                    try clear hcz15_0
                    try clear hcz15_1
                    try clear hcz17_0
                    try clear hcz17_1
                    try clear hcz18_0
                    try clear hcz18_1
                    try clear hcz21_0
                    try clear hcz21_1
                    try clear hcz8_0
                    try clear hcz8_1
                    try clear hfz12_0
                    try clear hfz12_1
                    try clear hfz14_0
                    try clear hfz14_1
                    try clear hfz15_0
                    try clear hfz15_1
                    try clear hfz17_0
                    try clear hfz17_1
                    try clear hfz18_0
                    try clear hfz18_1
                    try clear hfz21_0
                    try clear hfz21_1
                    try clear hfz8_0
                    try clear hfz8_1
                    try clear hx117_0
                    try clear hx117_1
                    try clear p1
                    try clear p11
                    try clear p117
                    try clear p2
                    try clear q1
                    try clear q11
                    try clear q117
                    obtain ⟨x35_3, rfl, HA, HK3, BK118, HB⟩ := hrel
                    cases gk with
                    | zero => exact absurd HA.out (by simp [spec_TxGood.l1])
                    | succ k3 =>
                      have H := HA.out
                      clear HA
                      simp only [spec_TxGood.l1] at H
                      by_cases c22 : x35_3 < (((rd_T32 l0 x11_1).f0).length : Int)
                      · rw [if_pos c22] at H
                        have c22b0 : decide (x35_3 < (((rd_T32 l0 x11_1).f0).length : Int)) = true := decide_eq_true c22
                        clear c22
                        by_cases c23 : 0 ≤ x35_3
                        · rw [if_pos c23] at H
                          have c23b0 : decide (0 ≤ x35_3) = true := decide_eq_true c23
                          clear c23
                          by_cases c24 : x35_3 < (((rd_T32 l0 x11_1).f0).length : Int)
                          · rw [if_pos c24] at H
                            have c24b0 : decide (x35_3 < (((rd_T32 l0 x11_1).f0).length : Int)) = true := decide_eq_true c24
                            clear c24
                            replace H := Option.bind_eq_some_iff.mp H
                            obtain ⟨t121, A250, H⟩ := H
                            replace H : (if t121 = true then (spec_TxGood.l1 k3 l0 a1 l0 (l0.length : Int) x11_1 ((rd_T32 l0 x11_1).f0) (((rd_T32 l0 x11_1).f0).length : Int) (wrap64 (x35_3 + 1)) ((rd_T32 l0 x11_1).f0) ((rd_T32 l0 x11_1).f1)) else (if (rd ((rd_T32 l0 x11_1).f0) x35_3) = 0 then (if (((rd_T32 l0 x11_1).f0).length : Int) > 1 then (some false) else (spec_TxGood.l1 k3 l0 a1 l0 (l0.length : Int) x11_1 ((rd_T32 l0 x11_1).f0) (((rd_T32 l0 x11_1).f0).length : Int) (wrap64 (x35_3 + 1)) ((rd_T32 l0 x11_1).f0) ((rd_T32 l0 x11_1).f1))) else (some false))) = some r := H
                            have A25 := Aside0.mk A250
                            clear A250
                            by_cases c26 : t121 = true
                            · subst c26
                              have H1 : (spec_TxGood.l1 k3 l0 a1 l0 (l0.length : Int) x11_1 ((rd_T32 l0 x11_1).f0) (((rd_T32 l0 x11_1).f0).length : Int) (wrap64 (x35_3 + 1)) ((rd_T32 l0 x11_1).f0) ((rd_T32 l0 x11_1).f1)) = some r := by rw [if_pos rfl] at H; exact H
                              clear H
                              have H := H1
                              clear H1
                              have H' := Aside0.mk H
                              clear H
                              have p120 : 0 ≤ (x35_3 : Int) := of_decide_eq_true (by first | (with_reducible assumption) | assumption)
                              have q120 : x35_3 < (((rd_T32 l0 x11_1).f0).length : Int) := of_decide_eq_true (by first | (with_reducible assumption) | assumption)
                              obtain ⟨ad120, e120, hx120_0⟩ := Kd.at_int HR117_0.out x35_3 p120 q120
                              cases e120
                              replace hx120_0 := (HB.out.cell (World.block_lt_of_cell? w _ hx120_0)).trans hx120_0
                              replace p120 := eq_true p120
                              replace q120 := eq_true q120
                              go_wp2_with (first | ((with_reducible refine gate_callee (f := 13) rfl ?_); refine goesL_ (some 40) rfl rfl Tryd.func13 (by kernel_rfl) rfl #[.int .i64 (rd ((rd_T32 l0 x11_1).f0) x35_3)] rfl (by (try simp only [List.map_toArray, List.map_cons, List.map_nil]); first | done | rfl | (simp only [List.length_drop, List.length_take]; rfl)) ?_; (with_reducible refine (spec_TxAttribute.calls (rd ((rd_T32 l0 x11_1).f0) x35_3) true _ A25.out).mono ?_); rintro e w' ⟨rfl, ⟨nd, rfl⟩⟩; refine ⟨_, rfl, ?_⟩))
                              go_roundg k3
                              case measure => have := HK1.out; have := HJ5.out; have := HK3.out; omega
                              case rel => exact ⟨(wrap64 (x35_3 + 1)), (by first | rfl | (simp; done) | (simp [*]; done)), H', ⟨by have := HK1.out; have := HJ5.out; have := HK3.out; omega⟩, ⟨by (with_reducible repeat (first | refine blk_drewN ?_ _ | refine blk_drew ?_ | refine blk_alloc ?_ _)); exact BK118.out⟩, ⟨by repeat (first | (with_reducible first | exact HB.out | apply below_alloc | apply pw_below_drewN | apply below_drew1 | refine below_set ?_ GE118.out) | exact HB.out)⟩⟩
                            · replace c26 := Bool.eq_false_iff.mpr c26
                              subst c26
                              have H1 : (if (rd ((rd_T32 l0 x11_1).f0) x35_3) = 0 then (if (((rd_T32 l0 x11_1).f0).length : Int) > 1 then (some false) else (spec_TxGood.l1 k3 l0 a1 l0 (l0.length : Int) x11_1 ((rd_T32 l0 x11_1).f0) (((rd_T32 l0 x11_1).f0).length : Int) (wrap64 (x35_3 + 1)) ((rd_T32 l0 x11_1).f0) ((rd_T32 l0 x11_1).f1))) else (some false)) = some r := by rw [if_neg (show ¬ (false = true) by decide)] at H; exact H
                              clear H
                              have H := H1
                              clear H1
                              by_cases c27 : (rd ((rd_T32 l0 x11_1).f0) x35_3) = 0
                              · rw [if_pos c27] at H
                                have c27b0 : ((rd ((rd_T32 l0 x11_1).f0) x35_3) == 0) = true := beq_iff_eq.mpr c27
                                have c27b1 : ((rd ((rd_T32 l0 x11_1).f0) x35_3) != 0) = false := bne_eq_false_iff_eq.mpr c27
                                clear c27
                                by_cases c28 : (((rd_T32 l0 x11_1).f0).length : Int) > 1
                                · rw [if_pos c28] at H
                                  have c28b0 : decide (1 < (((rd_T32 l0 x11_1).f0).length : Int)) = true := decide_eq_true c28
                                  have c28b1 : decide (1 < ((rd_T32 l0 x11_1).f0).length) = true := decide_eq_true (by omega)
                                  clear c28
                                  obtain rfl := Option.some.inj H
                                  have p120 : 0 ≤ (x35_3 : Int) := of_decide_eq_true (by first | (with_reducible assumption) | assumption)
                                  have q120 : x35_3 < (((rd_T32 l0 x11_1).f0).length : Int) := of_decide_eq_true (by first | (with_reducible assumption) | assumption)
                                  obtain ⟨ad120, e120, hx120_0⟩ := Kd.at_int HR117_0.out x35_3 p120 q120
                                  cases e120
                                  replace hx120_0 := (HB.out.cell (World.block_lt_of_cell? w _ hx120_0)).trans hx120_0
                                  replace p120 := eq_true p120
                                  replace q120 := eq_true q120
                                  go_wp2_with (first | ((with_reducible refine gate_callee (f := 13) rfl ?_); refine goesL_ (some 40) rfl rfl Tryd.func13 (by kernel_rfl) rfl #[.int .i64 (rd ((rd_T32 l0 x11_1).f0) x35_3)] rfl (by (try simp only [List.map_toArray, List.map_cons, List.map_nil]); first | done | rfl | (simp only [List.length_drop, List.length_take]; rfl)) ?_; (with_reducible refine (spec_TxAttribute.calls (rd ((rd_T32 l0 x11_1).f0) x35_3) false _ A25.out).mono ?_); rintro e w' ⟨rfl, ⟨nd, rfl⟩⟩; refine ⟨_, rfl, ?_⟩; have hcz29_0 : wr.cell? ⟨gb118, 0, none⟩ = some (.slice (some ad120) ((rd_T32 l0 x11_1).f0).length c117_0) := (blk_cell BK118.out 0).trans rfl; have hcz29_1 : wr.cell? ⟨gb118, 1, none⟩ = some (.string ((rd_T32 l0 x11_1).f1)) := (blk_cell BK118.out 1).trans rfl; have hfz29_0 := blk_frozen BK118.out 0; have hfz29_1 := blk_frozen BK118.out 1))
                                  go_ret
                                  exact ⟨by first | rfl | (simp [errW_none, errW_some] <;> rfl) | (simp [*, errW_none, errW_some] <;> rfl), by repeat (first | (with_reducible first | exact HB.out | apply below_alloc | apply pw_below_drewN | apply below_drew1 | refine below_set ?_ GE118.out) | exact HB.out)⟩
                                · rw [if_neg c28] at H
                                  have c28b0 : decide (1 < (((rd_T32 l0 x11_1).f0).length : Int)) = false := decide_eq_false c28
                                  have c28b1 : decide (1 < ((rd_T32 l0 x11_1).f0).length) = false := decide_eq_false (by omega)
                                  clear c28
                                  have H' := Aside0.mk H
                                  clear H
                                  have p120 : 0 ≤ (x35_3 : Int) := of_decide_eq_true (by first | (with_reducible assumption) | assumption)
                                  have q120 : x35_3 < (((rd_T32 l0 x11_1).f0).length : Int) := of_decide_eq_true (by first | (with_reducible assumption) | assumption)
                                  obtain ⟨ad120, e120, hx120_0⟩ := Kd.at_int HR117_0.out x35_3 p120 q120
                                  cases e120
                                  replace hx120_0 := (HB.out.cell (World.block_lt_of_cell? w _ hx120_0)).trans hx120_0
                                  replace p120 := eq_true p120
                                  replace q120 := eq_true q120
                                  go_wp2_with (first | ((with_reducible refine gate_callee (f := 13) rfl ?_); refine goesL_ (some 40) rfl rfl Tryd.func13 (by kernel_rfl) rfl #[.int .i64 (rd ((rd_T32 l0 x11_1).f0) x35_3)] rfl (by (try simp only [List.map_toArray, List.map_cons, List.map_nil]); first | done | rfl | (simp only [List.length_drop, List.length_take]; rfl)) ?_; (with_reducible refine (spec_TxAttribute.calls (rd ((rd_T32 l0 x11_1).f0) x35_3) false _ A25.out).mono ?_); rintro e w' ⟨rfl, ⟨nd, rfl⟩⟩; refine ⟨_, rfl, ?_⟩; have hcz30_0 : wr.cell? ⟨gb118, 0, none⟩ = some (.slice (some ad120) ((rd_T32 l0 x11_1).f0).length c117_0) := (blk_cell BK118.out 0).trans rfl; have hcz30_1 : wr.cell? ⟨gb118, 1, none⟩ = some (.string ((rd_T32 l0 x11_1).f1)) := (blk_cell BK118.out 1).trans rfl; have hfz30_0 := blk_frozen BK118.out 0; have hfz30_1 := blk_frozen BK118.out 1))
                                  go_roundg k3
                                  case measure => have := HK1.out; have := HJ5.out; have := HK3.out; omega
                                  case rel => exact ⟨(wrap64 (x35_3 + 1)), (by first | rfl | (simp; done) | (simp [*]; done)), H', ⟨by have := HK1.out; have := HJ5.out; have := HK3.out; omega⟩, ⟨by (with_reducible repeat (first | refine blk_drewN ?_ _ | refine blk_drew ?_ | refine blk_alloc ?_ _)); exact BK118.out⟩, ⟨by repeat (first | (with_reducible first | exact HB.out | apply below_alloc | apply pw_below_drewN | apply below_drew1 | refine below_set ?_ GE118.out) | exact HB.out)⟩⟩
                              · rw [if_neg c27] at H
                                have c27b0 : ((rd ((rd_T32 l0 x11_1).f0) x35_3) == 0) = false := beq_eq_false_iff_ne.mpr c27
                                have c27b1 : ((rd ((rd_T32 l0 x11_1).f0) x35_3) != 0) = true := bne_iff_ne.mpr c27
                                obtain rfl := Option.some.inj H
                                have p120 : 0 ≤ (x35_3 : Int) := of_decide_eq_true (by first | (with_reducible assumption) | assumption)
                                have q120 : x35_3 < (((rd_T32 l0 x11_1).f0).length : Int) := of_decide_eq_true (by first | (with_reducible assumption) | assumption)
                                obtain ⟨ad120, e120, hx120_0⟩ := Kd.at_int HR117_0.out x35_3 p120 q120
                                cases e120
                                replace hx120_0 := (HB.out.cell (World.block_lt_of_cell? w _ hx120_0)).trans hx120_0
                                replace p120 := eq_true p120
                                replace q120 := eq_true q120
                                go_wp2_with (first | ((with_reducible refine gate_callee (f := 13) rfl ?_); refine goesL_ (some 40) rfl rfl Tryd.func13 (by kernel_rfl) rfl #[.int .i64 (rd ((rd_T32 l0 x11_1).f0) x35_3)] rfl (by (try simp only [List.map_toArray, List.map_cons, List.map_nil]); first | done | rfl | (simp only [List.length_drop, List.length_take]; rfl)) ?_; (with_reducible refine (spec_TxAttribute.calls (rd ((rd_T32 l0 x11_1).f0) x35_3) false _ A25.out).mono ?_); rintro e w' ⟨rfl, ⟨nd, rfl⟩⟩; refine ⟨_, rfl, ?_⟩))
                                go_ret
                                exact ⟨by first | rfl | (simp [errW_none, errW_some] <;> rfl) | (simp [*, errW_none, errW_some] <;> rfl), by repeat (first | (with_reducible first | exact HB.out | apply below_alloc | apply pw_below_drewN | apply below_drew1 | refine below_set ?_ GE118.out) | exact HB.out)⟩
                          · rw [if_neg c24] at H
                            exact absurd H (by simp)
                        · rw [if_neg c23] at H
                          exact absurd H (by simp)
                      · rw [if_neg c22] at H
                        have c22b0 : decide (x35_3 < (((rd_T32 l0 x11_1).f0).length : Int)) = false := decide_eq_false c22
                        clear c22
                        have H' := Aside0.mk H
                        clear H
                        go_wp2
                        go_roundg k3
                        case measure => have := HK1.out; have := HJ5.out; have := HK3.out; omega
                        case rel => exact ⟨(wrap64 (x11_1 + 1)), (by first | rfl | (simp; done) | (simp [*]; done)), H', ⟨by have := HK1.out; have := HJ5.out; have := HK3.out; omega⟩, ⟨by repeat (first | (with_reducible first | exact HB.out | apply below_alloc | apply pw_below_drewN | apply below_drew1 | refine below_set ?_ GE118.out) | exact HB.out)⟩⟩
          · rw [if_neg c5] at H
            exact absurd H (by simp)
        · rw [if_neg c4] at H
          exact absurd H (by simp)
      · rw [if_neg c3] at H
        have c3b0 : decide (x11_1 < (l0.length : Int)) = false := decide_eq_false c3
        clear c3
        obtain rfl := Option.some.inj H
        go_wp2
        go_ret
        exact ⟨by first | rfl | (simp [errW_none, errW_some] <;> rfl) | (simp [*, errW_none, errW_some] <;> rfl), by repeat (first | (with_reducible first | exact HB.out | apply below_alloc | apply pw_below_drewN | apply below_drew1) | exact HB.out)⟩

/-! ### spec_TxASCII: function 6 -/
def spec_TxASCII.l0 : Nat → ByteArray → Bool → Int → Option (Bool)
  | 0, _, _, _ => none
  | k + 1, x0, x1, x5 => if x5 < (x0.size : Int) then (if 0 ≤ x5 then (if (bt x0 x5) < 32 then (if x1 = true then (if ((bt x0 x5) = 10) then (spec_TxASCII.l0 k x0 x1 (wrap64 (x5 + 1))) else (some false)) else (some false)) else (if (bt x0 x5) > 126 then (if x1 = true then (if ((bt x0 x5) = 10) then (spec_TxASCII.l0 k x0 x1 (wrap64 (x5 + 1))) else (some false)) else (some false)) else (spec_TxASCII.l0 k x0 x1 (wrap64 (x5 + 1))))) else (none)) else (some true)
def spec_TxASCII.f (k : Nat) (a0 : ByteArray) (a1 : Bool) : Option (Bool) := spec_TxASCII.l0 k a0 a1 0
theorem spec_TxASCII.mono_l : ∀ k, (∀ y0 y1 y2, LeO (spec_TxASCII.l0 k y0 y1 y2) (spec_TxASCII.l0 (k + 1) y0 y1 y2))
  | 0 => fun _ _ _ r h => by simp [spec_TxASCII.l0] at h
  | k + 1 => by
    have ih0 := spec_TxASCII.mono_l k
    · intro y0 y1 y2
      unfold spec_TxASCII.l0
      repeat' first
      | (with_reducible exact ih0 _ _ _)
      | (with_reducible exact LeO.refl _)
      | (with_reducible exact LeO.none _)
      | (with_reducible refine LeO.ite ?_ ?_)
      | (with_reducible refine LeO.bind ?_ (fun _ => ?_))
      | exact ih0 _ _ _
      | exact LeO.none _
      | refine LeO.ite ?_ ?_
      | refine LeO.bind ?_ (fun _ => ?_)
theorem spec_TxASCII.mono : ∀ a0 a1 k, LeO (spec_TxASCII.f k a0 a1) (spec_TxASCII.f (k + 1) a0 a1) := by
  intro a0 a1 k
  have ih0 := spec_TxASCII.mono_l k
  unfold spec_TxASCII.f
  repeat' first
      | (with_reducible exact ih0 _ _ _)
      | (with_reducible exact LeO.refl _)
      | (with_reducible exact LeO.none _)
      | (with_reducible refine LeO.ite ?_ ?_)
      | (with_reducible refine LeO.bind ?_ (fun _ => ?_))
      | exact ih0 _ _ _
      | exact LeO.none _
      | refine LeO.ite ?_ ?_
      | refine LeO.bind ?_ (fun _ => ?_)
set_option maxHeartbeats 8000000 in
set_option maxRecDepth 100000 in
theorem spec_TxASCII.calls (k : Nat) (a0 : ByteArray) (a1 : Bool) (r : Bool) (w : World) (h : spec_TxASCII.f k a0 a1 = some r) :
    Calls Tryd.prog 6 #[.string a0, .bool a1] w fun e w' => e = .returned (.bool r) ∧ Drawn0 w w' := by
  have H : (spec_TxASCII.l0 k a0 a1 0) = some r := h
  clear h
  have H' := Aside0.mk H
  clear H
  go_enter Tryd.func6, Tryd.ntmps6
  go_wp2
  (try simp only [Act.put, List.setIfInBounds_toArray, List.set_cons_zero, List.set_cons_succ])
  go_loopg [5] k (fun kq v5 w' => ∃ (x5_1 : Int), v5 = .int .i64 x5_1 ∧ Aside0 (spec_TxASCII.l0 kq a0 a1 x5_1 = some r) ∧ Aside0 (kq ≤ k) ∧ Drawn0 w w')
  case atStart => exact ⟨(0), (by first | rfl | (simp; done) | (simp [*]; done)), H', ⟨Nat.le_refl _⟩, by repeat (first | exact Drawn0.refl _ | apply Drawn0.step)⟩
  case round =>
    clear H'
    try clear p2
    obtain ⟨x5_1, rfl, HA, HK1, ⟨m1, rfl⟩⟩ := hrel
    cases gk with
    | zero => exact absurd HA.out (by simp [spec_TxASCII.l0])
    | succ k1 =>
      have H := HA.out
      clear HA
      simp only [spec_TxASCII.l0] at H
      by_cases c3 : x5_1 < (a0.size : Int)
      · rw [if_pos c3] at H
        have c3b0 : decide (x5_1 < (a0.size : Int)) = true := decide_eq_true c3
        clear c3
        by_cases c4 : 0 ≤ x5_1
        · rw [if_pos c4] at H
          have c4b0 : decide (0 ≤ x5_1) = true := decide_eq_true c4
          clear c4
          by_cases c6 : (bt a0 x5_1) < 32
          · rw [if_pos c6] at H
            have c6b0 : decide ((bt a0 x5_1) < 32) = true := decide_eq_true c6
            clear c6
            by_cases c7 : a1 = true
            · subst c7
              have H1 : (if ((bt a0 x5_1) = 10) then (spec_TxASCII.l0 k1 a0 true (wrap64 (x5_1 + 1))) else (some false)) = some r := by rw [if_pos rfl] at H; exact H
              clear H
              have H := H1
              clear H1
              by_cases c9 : ((bt a0 x5_1) = 10)
              · rw [if_pos c9] at H
                have c9b0 : ((bt a0 x5_1) == 10) = true := beq_iff_eq.mpr c9
                have c9b1 : ((bt a0 x5_1) != 10) = false := bne_eq_false_iff_eq.mpr c9
                clear c9
                have H' := Aside0.mk H
                clear H
                have p5 : 0 ≤ (x5_1 : Int) := of_decide_eq_true (by first | (with_reducible assumption) | assumption)
                have q5 : x5_1 < (a0.size : Int) := of_decide_eq_true (by first | (with_reducible assumption) | assumption)
                have hx5 := bt_at a0 x5_1
                replace p5 := eq_true p5
                replace q5 := eq_true q5
                have p8 : 0 ≤ (x5_1 : Int) := of_decide_eq_true (by first | (with_reducible assumption) | assumption)
                have q8 : x5_1 < (a0.size : Int) := of_decide_eq_true (by first | (with_reducible assumption) | assumption)
                have hx8 := bt_at a0 x5_1
                replace p8 := eq_true p8
                replace q8 := eq_true q8
                go_wp2
                go_roundg k1
                case measure => have := HK1.out; omega
                case rel => exact ⟨(wrap64 (x5_1 + 1)), (by first | rfl | (simp; done) | (simp [*]; done)), H', ⟨by have := HK1.out; omega⟩, by repeat (first | exact Drawn0.refl _ | apply Drawn0.step)⟩
              · rw [if_neg c9] at H
                have c9b0 : ((bt a0 x5_1) == 10) = false := beq_eq_false_iff_ne.mpr c9
                have c9b1 : ((bt a0 x5_1) != 10) = true := bne_iff_ne.mpr c9
                obtain rfl := Option.some.inj H
                have p5 : 0 ≤ (x5_1 : Int) := of_decide_eq_true (by first | (with_reducible assumption) | assumption)
                have q5 : x5_1 < (a0.size : Int) := of_decide_eq_true (by first | (with_reducible assumption) | assumption)
                have hx5 := bt_at a0 x5_1
                replace p5 := eq_true p5
                replace q5 := eq_true q5
                have p8 : 0 ≤ (x5_1 : Int) := of_decide_eq_true (by first | (with_reducible assumption) | assumption)
                have q8 : x5_1 < (a0.size : Int) := of_decide_eq_true (by first | (with_reducible assumption) | assumption)
                have hx8 := bt_at a0 x5_1
                replace p8 := eq_true p8
                replace q8 := eq_true q8
                go_wp2
                go_ret
                exact ⟨by first | rfl | (simp; done) | (simp [*]; done), by repeat (first | exact Drawn0.refl _ | apply Drawn0.step)⟩
            · replace c7 := Bool.eq_false_iff.mpr c7
              subst c7
              have H1 : (some false) = some r := by rw [if_neg (show ¬ (false = true) by decide)] at H; exact H
              clear H
              have H := H1
              clear H1
              obtain rfl := Option.some.inj H
              have p5 : 0 ≤ (x5_1 : Int) := of_decide_eq_true (by first | (with_reducible assumption) | assumption)
              have q5 : x5_1 < (a0.size : Int) := of_decide_eq_true (by first | (with_reducible assumption) | assumption)
              have hx5 := bt_at a0 x5_1
              replace p5 := eq_true p5
              replace q5 := eq_true q5
              go_wp2
              go_ret
              exact ⟨by first | rfl | (simp; done) | (simp [*]; done), by repeat (first | exact Drawn0.refl _ | apply Drawn0.step)⟩
          · rw [if_neg c6] at H
            have c6b0 : decide ((bt a0 x5_1) < 32) = false := decide_eq_false c6
            clear c6
            by_cases c11 : (bt a0 x5_1) > 126
            · rw [if_pos c11] at H
              have c11b0 : decide (126 < (bt a0 x5_1)) = true := decide_eq_true c11
              clear c11
              by_cases c12 : a1 = true
              · subst c12
                have H1 : (if ((bt a0 x5_1) = 10) then (spec_TxASCII.l0 k1 a0 true (wrap64 (x5_1 + 1))) else (some false)) = some r := by rw [if_pos rfl] at H; exact H
                clear H
                have H := H1
                clear H1
                by_cases c14 : ((bt a0 x5_1) = 10)
                · rw [if_pos c14] at H
                  have c14b0 : ((bt a0 x5_1) == 10) = true := beq_iff_eq.mpr c14
                  have c14b1 : ((bt a0 x5_1) != 10) = false := bne_eq_false_iff_eq.mpr c14
                  clear c14
                  have H' := Aside0.mk H
                  clear H
                  have p5 : 0 ≤ (x5_1 : Int) := of_decide_eq_true (by first | (with_reducible assumption) | assumption)
                  have q5 : x5_1 < (a0.size : Int) := of_decide_eq_true (by first | (with_reducible assumption) | assumption)
                  have hx5 := bt_at a0 x5_1
                  replace p5 := eq_true p5
                  replace q5 := eq_true q5
                  have p10 : 0 ≤ (x5_1 : Int) := of_decide_eq_true (by first | (with_reducible assumption) | assumption)
                  have q10 : x5_1 < (a0.size : Int) := of_decide_eq_true (by first | (with_reducible assumption) | assumption)
                  have hx10 := bt_at a0 x5_1
                  replace p10 := eq_true p10
                  replace q10 := eq_true q10
                  have p13 : 0 ≤ (x5_1 : Int) := of_decide_eq_true (by first | (with_reducible assumption) | assumption)
                  have q13 : x5_1 < (a0.size : Int) := of_decide_eq_true (by first | (with_reducible assumption) | assumption)
                  have hx13 := bt_at a0 x5_1
                  replace p13 := eq_true p13
                  replace q13 := eq_true q13
                  go_wp2
                  go_roundg k1
                  case measure => have := HK1.out; omega
                  case rel => exact ⟨(wrap64 (x5_1 + 1)), (by first | rfl | (simp; done) | (simp [*]; done)), H', ⟨by have := HK1.out; omega⟩, by repeat (first | exact Drawn0.refl _ | apply Drawn0.step)⟩
                · rw [if_neg c14] at H
                  have c14b0 : ((bt a0 x5_1) == 10) = false := beq_eq_false_iff_ne.mpr c14
                  have c14b1 : ((bt a0 x5_1) != 10) = true := bne_iff_ne.mpr c14
                  obtain rfl := Option.some.inj H
                  have p5 : 0 ≤ (x5_1 : Int) := of_decide_eq_true (by first | (with_reducible assumption) | assumption)
                  have q5 : x5_1 < (a0.size : Int) := of_decide_eq_true (by first | (with_reducible assumption) | assumption)
                  have hx5 := bt_at a0 x5_1
                  replace p5 := eq_true p5
                  replace q5 := eq_true q5
                  have p10 : 0 ≤ (x5_1 : Int) := of_decide_eq_true (by first | (with_reducible assumption) | assumption)
                  have q10 : x5_1 < (a0.size : Int) := of_decide_eq_true (by first | (with_reducible assumption) | assumption)
                  have hx10 := bt_at a0 x5_1
                  replace p10 := eq_true p10
                  replace q10 := eq_true q10
                  have p13 : 0 ≤ (x5_1 : Int) := of_decide_eq_true (by first | (with_reducible assumption) | assumption)
                  have q13 : x5_1 < (a0.size : Int) := of_decide_eq_true (by first | (with_reducible assumption) | assumption)
                  have hx13 := bt_at a0 x5_1
                  replace p13 := eq_true p13
                  replace q13 := eq_true q13
                  go_wp2
                  go_ret
                  exact ⟨by first | rfl | (simp; done) | (simp [*]; done), by repeat (first | exact Drawn0.refl _ | apply Drawn0.step)⟩
              · replace c12 := Bool.eq_false_iff.mpr c12
                subst c12
                have H1 : (some false) = some r := by rw [if_neg (show ¬ (false = true) by decide)] at H; exact H
                clear H
                have H := H1
                clear H1
                obtain rfl := Option.some.inj H
                have p5 : 0 ≤ (x5_1 : Int) := of_decide_eq_true (by first | (with_reducible assumption) | assumption)
                have q5 : x5_1 < (a0.size : Int) := of_decide_eq_true (by first | (with_reducible assumption) | assumption)
                have hx5 := bt_at a0 x5_1
                replace p5 := eq_true p5
                replace q5 := eq_true q5
                have p10 : 0 ≤ (x5_1 : Int) := of_decide_eq_true (by first | (with_reducible assumption) | assumption)
                have q10 : x5_1 < (a0.size : Int) := of_decide_eq_true (by first | (with_reducible assumption) | assumption)
                have hx10 := bt_at a0 x5_1
                replace p10 := eq_true p10
                replace q10 := eq_true q10
                go_wp2
                go_ret
                exact ⟨by first | rfl | (simp; done) | (simp [*]; done), by repeat (first | exact Drawn0.refl _ | apply Drawn0.step)⟩
            · rw [if_neg c11] at H
              have c11b0 : decide (126 < (bt a0 x5_1)) = false := decide_eq_false c11
              clear c11
              have H' := Aside0.mk H
              clear H
              have p5 : 0 ≤ (x5_1 : Int) := of_decide_eq_true (by first | (with_reducible assumption) | assumption)
              have q5 : x5_1 < (a0.size : Int) := of_decide_eq_true (by first | (with_reducible assumption) | assumption)
              have hx5 := bt_at a0 x5_1
              replace p5 := eq_true p5
              replace q5 := eq_true q5
              have p10 : 0 ≤ (x5_1 : Int) := of_decide_eq_true (by first | (with_reducible assumption) | assumption)
              have q10 : x5_1 < (a0.size : Int) := of_decide_eq_true (by first | (with_reducible assumption) | assumption)
              have hx10 := bt_at a0 x5_1
              replace p10 := eq_true p10
              replace q10 := eq_true q10
              go_wp2
              go_roundg k1
              case measure => have := HK1.out; omega
              case rel => exact ⟨(wrap64 (x5_1 + 1)), (by first | rfl | (simp; done) | (simp [*]; done)), H', ⟨by have := HK1.out; omega⟩, by repeat (first | exact Drawn0.refl _ | apply Drawn0.step)⟩
        · rw [if_neg c4] at H
          exact absurd H (by simp)
      · rw [if_neg c3] at H
        have c3b0 : decide (x5_1 < (a0.size : Int)) = false := decide_eq_false c3
        clear c3
        obtain rfl := Option.some.inj H
        go_wp2
        go_ret
        exact ⟨by first | rfl | (simp; done) | (simp [*]; done), by repeat (first | exact Drawn0.refl _ | apply Drawn0.step)⟩

/-! ### spec_TxPlain: function 7 -/
def spec_TxPlain.l0 : Nat → ByteArray → List (S32) → Int → Int → Option (ByteArray)
  | 0, _, _, _, _ => none
  | k + 1, x3, x6, x7, x8 => if x8 < x7 then (if 0 ≤ x8 then (if x8 < (x6.length : Int) then (if x3.size + ((rd_T32 x6 x8).f1).size ≤ 9223372036854775807 then (spec_TxPlain.l0 k (x3 ++ ((rd_T32 x6 x8).f1)) x6 x7 (wrap64 (x8 + 1))) else (none)) else (none)) else (none)) else (some x3)
def spec_TxPlain.f (k : Nat) (l0 : List (S32)) : Option (ByteArray) := spec_TxPlain.l0 k (⟨#[]⟩ : ByteArray) l0 (l0.length : Int) 0
theorem spec_TxPlain.mono_l : ∀ k, (∀ y0 y1 y2 y3, LeO (spec_TxPlain.l0 k y0 y1 y2 y3) (spec_TxPlain.l0 (k + 1) y0 y1 y2 y3))
  | 0 => fun _ _ _ _ r h => by simp [spec_TxPlain.l0] at h
  | k + 1 => by
    have ih0 := spec_TxPlain.mono_l k
    · intro y0 y1 y2 y3
      unfold spec_TxPlain.l0
      repeat' first
      | (with_reducible exact ih0 _ _ _ _)
      | (with_reducible exact LeO.refl _)
      | (with_reducible exact LeO.none _)
      | (with_reducible refine LeO.ite ?_ ?_)
      | (with_reducible refine LeO.bind ?_ (fun _ => ?_))
      | exact ih0 _ _ _ _
      | exact LeO.none _
      | refine LeO.ite ?_ ?_
      | refine LeO.bind ?_ (fun _ => ?_)
theorem spec_TxPlain.mono : ∀ a0 k, LeO (spec_TxPlain.f k a0) (spec_TxPlain.f (k + 1) a0) := by
  intro a0 k
  have ih0 := spec_TxPlain.mono_l k
  unfold spec_TxPlain.f
  repeat' first
      | (with_reducible exact ih0 _ _ _ _)
      | (with_reducible exact LeO.refl _)
      | (with_reducible exact LeO.none _)
      | (with_reducible refine LeO.ite ?_ ?_)
      | (with_reducible refine LeO.bind ?_ (fun _ => ?_))
      | exact ih0 _ _ _ _
      | exact LeO.none _
      | refine LeO.ite ?_ ?_
      | refine LeO.bind ?_ (fun _ => ?_)
set_option maxHeartbeats 8000000 in
set_option maxRecDepth 100000 in
theorem spec_TxPlain.calls (k : Nat) (A0 : Option Addr) (c0 : Nat) (l0 : List (S32)) (r : ByteArray) (w : World) (hr0 : Kd.C k32 w A0 l0.length l0) (hc0 : l0.length ≤ c0) (h : spec_TxPlain.f k l0 = some r) :
    Calls Tryd.prog 7 #[.slice A0 l0.length c0] w fun e w' => e = .returned (.string r) ∧ Below w.heap.size w w' := by
  have hu32 := Tryd.underlying32
  have HR0 := Aside0.mk hr0
  have HC0 := Aside0.mk hc0
  clear hr0 hc0
  have HB := Aside0.mk (Below.refl w.heap.size w)
  have H : (spec_TxPlain.l0 k (⟨#[]⟩ : ByteArray) l0 (l0.length : Int) 0) = some r := h
  clear h
  have H' := Aside0.mk H
  clear H
  go_enter Tryd.func7, Tryd.ntmps7
  go_wp2
  (try simp only [Act.put, List.setIfInBounds_toArray, List.set_cons_zero, List.set_cons_succ])
  go_loopg [3, 8] k (fun kq v3 v8 w' => ∃ (x3_1 : ByteArray) (x8_1 : Int), v3 = .string x3_1 ∧ v8 = .int .i64 x8_1 ∧ Aside0 (spec_TxPlain.l0 kq x3_1 l0 (l0.length : Int) x8_1 = some r) ∧ Aside0 (kq ≤ k) ∧ Aside0 (Below w.heap.size w w'))
  case atStart => exact ⟨((⟨#[]⟩ : ByteArray)), (0), (by first | rfl | (simp; done) | (simp [*]; done)), (by first | rfl | (simp; done) | (simp [*]; done)), H', ⟨Nat.le_refl _⟩, ⟨by repeat (first | (with_reducible first | exact HB.out | apply below_alloc | apply pw_below_drewN | apply below_drew1) | exact HB.out)⟩⟩
  case round =>
    clear H'
    obtain ⟨x3_1, x8_1, rfl, rfl, HA, HK1, HB⟩ := hrel
    cases gk with
    | zero => exact absurd HA.out (by simp [spec_TxPlain.l0])
    | succ k1 =>
      have H := HA.out
      clear HA
      simp only [spec_TxPlain.l0] at H
      by_cases c2 : x8_1 < (l0.length : Int)
      · rw [if_pos c2] at H
        have c2b0 : decide (x8_1 < (l0.length : Int)) = true := decide_eq_true c2
        clear c2
        by_cases c3 : 0 ≤ x8_1
        · rw [if_pos c3] at H
          have c3b0 : decide (0 ≤ x8_1) = true := decide_eq_true c3
          clear c3
          by_cases c4 : x8_1 < (l0.length : Int)
          · rw [if_pos c4] at H
            have c4b0 : decide (x8_1 < (l0.length : Int)) = true := decide_eq_true c4
            clear c4
            by_cases c5 : x3_1.size + ((rd_T32 l0 x8_1).f1).size ≤ 9223372036854775807
            · rw [if_pos c5] at H
              have c5b0 := eq_true c5
              have c5b1 : decide (x3_1.size + ((rd_T32 l0 x8_1).f1).size ≤ 9223372036854775807) = true := decide_eq_true c5
              try have c5b2 : (9223372036854775807 < x3_1.size + ((rd_T32 l0 x8_1).f1).size) = False := eq_false (Nat.not_lt.2 c5)
              have H' := Aside0.mk H
              clear H
              have p122 : 0 ≤ (x8_1 : Int) := of_decide_eq_true (by first | (with_reducible assumption) | assumption)
              have q122 : x8_1 < (l0.length : Int) := of_decide_eq_true (by first | (with_reducible assumption) | assumption)
              obtain ⟨ad122, A122_0, c122_0, e122, hx122_0, hx122_1, hl122_0, hi122_0⟩ := at_T32 HR0.out x8_1 p122 q122
              cases e122
              replace hx122_0 := (HB.out.cell (World.block_lt_of_cell? w _ hx122_0)).trans hx122_0
              replace hx122_1 := (HB.out.cell (World.block_lt_of_cell? w _ hx122_1)).trans hx122_1
              have HR122_0 := Aside0.mk hi122_0
              have HC122_0 := Aside0.mk hl122_0
              clear hi122_0 hl122_0
              replace p122 := eq_true p122
              replace q122 := eq_true q122
              go_wp2_with (first | ((with_reducible refine gate_dst (N := 5) rfl ?_); refine box_event ?hg (N := 5) ?hd (cs := #[.slice none 0 0, .string (⟨#[]⟩ : ByteArray)]) (t := 32) ?hr ?_; (case hd => rfl); (case hg => rfl); (case hr => first | (go_simp; done) | (go_simp; rfl)); intro gb123 hg w6 hbox hb; have n0_ := Aside0.mk (below_step (by repeat (first | (with_reducible first | exact HB.out | apply below_alloc | apply pw_below_drewN | apply below_drew1) | exact HB.out)) hb); have n1_ := Aside0.mk (hbox); have n2_ := Aside0.mk ((by rw [hg]; exact (below_size (by repeat (first | (with_reducible first | exact HB.out | apply below_alloc | apply pw_below_drewN | apply below_drew1) | exact HB.out))) : w.heap.size ≤ gb123)); have n3_ := Aside0.mk ((by rw [hg]; exact (below_size (by repeat (first | (with_reducible first | exact HB.out | apply below_alloc | apply pw_below_drewN | apply below_drew1) | exact HB.out))) : w.heap.size ≤ gb123)); clear HB; have HB := n0_; have BK123 := n1_; have GW123 := n2_; have GE123 := n3_; clear n0_ n1_ n2_ n3_; clear hb hbox hg; have hcz7_0 : w6.cell? ⟨gb123, 0, none⟩ = some (.slice none 0 0) := (blk_cell BK123.out 0).trans rfl; have hcz7_1 : w6.cell? ⟨gb123, 1, none⟩ = some (.string (⟨#[]⟩ : ByteArray)) := (blk_cell BK123.out 1).trans rfl; have hfz7_0 := blk_frozen BK123.out 0; have hfz7_1 := blk_frozen BK123.out 1))
              go_roundg k1
              case measure => have := HK1.out; omega
              case rel => exact ⟨(x3_1 ++ ((rd_T32 l0 x8_1).f1)), (wrap64 (x8_1 + 1)), (by first | rfl | (simp; done) | (simp [*]; done)), (by first | rfl | (simp; done) | (simp [*]; done)), H', ⟨by have := HK1.out; omega⟩, ⟨by repeat (first | (with_reducible first | exact HB.out | apply below_alloc | apply pw_below_drewN | apply below_drew1 | refine below_set ?_ GE123.out) | exact HB.out)⟩⟩
            · rw [if_neg c5] at H
              exact absurd H (by simp)
          · rw [if_neg c4] at H
            exact absurd H (by simp)
        · rw [if_neg c3] at H
          exact absurd H (by simp)
      · rw [if_neg c2] at H
        have c2b0 : decide (x8_1 < (l0.length : Int)) = false := decide_eq_false c2
        clear c2
        obtain rfl := Option.some.inj H
        go_wp2
        go_ret
        exact ⟨by first | rfl | (simp [errW_none, errW_some] <;> rfl) | (simp [*, errW_none, errW_some] <;> rfl), by repeat (first | (with_reducible first | exact HB.out | apply below_alloc | apply pw_below_drewN | apply below_drew1) | exact HB.out)⟩

/-! ### strings_ToLower: function 18 -/
def strings_ToLower.f (a0 : ByteArray) : Option (ByteArray) := if a0.size ≤ 1000000 then (if (∀ b ∈ a0.data.toList, b.toNat < 128) then some ⟨(Lib.toLowerA a0.data.toList).toArray⟩ else none) else none
theorem strings_ToLower.calls (a0 : ByteArray) (r : ByteArray) (w : World) (h : strings_ToLower.f a0 = some r) :
    Calls Tryd.prog 18 #[.string a0] w fun e w' => e = .returned (.string r) ∧ Below w.heap.size w w' := by
  unfold strings_ToLower.f at h
  by_cases hc : a0.size ≤ 1000000
  · rw [if_pos hc] at h
    by_cases hd : ∀ b ∈ a0.data.toList, b.toNat < 128
    · rw [if_pos hd] at h
      obtain rfl := Option.some.inj h
      exact Tryd.strings_ToLower_ascii a0 w (by omega) (fun j b hb => hd b (List.mem_of_getElem? hb))
    · rw [if_neg hd] at h
      exact absurd h (by simp)
  · rw [if_neg hc] at h
    exact absurd h (by simp)

/-! ### text_toTitle: function 19 -/
def text_toTitle.f (a0 : ByteArray) : Option (ByteArray) := none
theorem text_toTitle.calls (a0 : ByteArray) (r : ByteArray) (w : World) (h : text_toTitle.f a0 = some r) :
    Calls Tryd.prog 19 #[.string a0] w fun e w' => e = .returned (.string r) ∧ Below w.heap.size w w' := by
  exact absurd h (by simp [text_toTitle.f])

/-! ### text_toUpper: function 20 -/
def text_toUpper.f (a0 : ByteArray) : Option (ByteArray) := if a0.size ≤ 1000000 then (if (∀ b ∈ a0.data.toList, b.toNat < 128) then some (Small.str (Mpw.out false a0.data.toList)) else none) else none
theorem text_toUpper.calls (a0 : ByteArray) (r : ByteArray) (w : World) (h : text_toUpper.f a0 = some r) :
    Calls Tryd.prog 20 #[.string a0] w fun e w' => e = .returned (.string r) ∧ Below w.heap.size w w' := by
  unfold text_toUpper.f at h
  by_cases hc : a0.size ≤ 1000000
  · rw [if_pos hc] at h
    by_cases hd : ∀ b ∈ a0.data.toList, b.toNat < 128
    · rw [if_pos hd] at h
      obtain rfl := Option.some.inj h
      exact Mpx.upper a0 w hc (fun i hi => by rw [Small.getD_at 0 _ i hi]; exact hd _ (List.getElem_mem _))
    · rw [if_neg hd] at h
      exact absurd h (by simp)
  · rw [if_neg hc] at h
    exact absurd h (by simp)

end Go.Proofs.YtmphemnmbofpaaaDoorRRR.GFnTextFormat
