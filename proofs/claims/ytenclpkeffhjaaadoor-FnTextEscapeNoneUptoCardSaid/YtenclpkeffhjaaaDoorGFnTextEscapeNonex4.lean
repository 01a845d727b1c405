-- Written by gprint.py, a program of this session over the kit's printer, with contracts of its own for what the printer does not take. Not trusted: Lean checks it.
import Derived.Test.YtenclpkeffhjaaaDoorGFnTextEscapeNonex0
import Derived.Test.YtenclpkeffhjaaaDoorGFnTextEscapeNonex1
import Derived.Test.YtenclpkeffhjaaaDoorGFnTextEscapeNonex2
import Derived.Test.YtenclpkeffhjaaaDoorGFnTextEscapeNonex3
namespace Go.Proofs.YtenclpkeffhjaaaDoor.GFnTextEscapeNone
open Go.RowKit Go.Proofs.YtenclpkeffhjaaaDoor.Itr Go.Proofs.YtenclpkeffhjaaaDoorW.PrintWords Go.Proofs.YtenclpkeffhjaaaDoorW.PrintLast Go.Proofs.YtenclpkeffhjaaaDoorW.PrintMore
attribute [local go_sem] max2_int min2_int max_two min_two max_three min_three max_four min_four   -- for this text's walks alone
set_option linter.unusedVariables false
set_option linter.unusedSimpArgs false

/-! ### spec_TxGood: function 9 -/
mutual
def spec_TxGood.l0 : Nat → List (S26) → Bool → List (S26) → Int → Int → Option (Bool)
  | 0, _, _, _, _, _ => none
  | k + 1, x0, x1, x9, x10, x11 => if x11 < x10 then (if 0 ≤ x11 then (if x11 < (x9.length : Int) then ((spec_TxSimple.f k ((rd_T26 x9 x11).f1) x1).bind fun t123 => (if t123 = true then (if (((rd_T26 x9 x11).f1).size : Int) > 500 then (spec_TxGood.j1 k x0 x1 x9 x10 x11 true ((rd_T26 x9 x11).f0) ((rd_T26 x9 x11).f1)) else (spec_TxGood.j1 k x0 x1 x9 x10 x11 (decide ((((rd_T26 x9 x11).f0).length : Int) > 4)) ((rd_T26 x9 x11).f0) ((rd_T26 x9 x11).f1))) else (spec_TxGood.j1 k x0 x1 x9 x10 x11 true ((rd_T26 x9 x11).f0) ((rd_T26 x9 x11).f1)))) else (none)) else (none)) else (some (decide ((x0.length : Int) ≤ 40)))
def spec_TxGood.j1 : Nat → List (S26) → Bool → List (S26) → Int → Int → Bool → List Int → ByteArray → Option (Bool)
  | 0, _, _, _, _, _, _, _, _ => none
  | k + 1, x0, x1, x9, x10, x11, x31, x123000, x123001 => if x31 = true then (some false) else (spec_TxGood.l1 k x0 x1 x9 x10 x11 x123000 (x123000.length : Int) 0 x123000 x123001)
def spec_TxGood.l1 : Nat → List (S26) → Bool → List (S26) → Int → Int → List Int → Int → Int → List Int → ByteArray → Option (Bool)
  | 0, _, _, _, _, _, _, _, _, _, _ => none
  | k + 1, x0, x1, x9, x10, x11, x33, x34, x35, x123000, x123001 => if x35 < x34 then (if 0 ≤ x35 then (if x35 < (x33.length : Int) then ((spec_TxAttribute.f (rd x33 x35)).bind fun t125 => (if t125 = true then (spec_TxGood.l1 k x0 x1 x9 x10 x11 x33 x34 (wrap64 (x35 + 1)) x123000 x123001) else (if (rd x33 x35) = 0 then (if (x123000.length : Int) > 1 then (some false) else (spec_TxGood.l1 k x0 x1 x9 x10 x11 x33 x34 (wrap64 (x35 + 1)) x123000 x123001)) else (some false)))) else (none)) else (none)) else (spec_TxGood.l0 k x0 x1 x9 x10 (wrap64 (x11 + 1)))
end
def spec_TxGood.f (k : Nat) (l0 : List (S26)) (a1 : Bool) : Option (Bool) := spec_TxGood.l0 k l0 a1 l0 (l0.length : Int) 0
theorem spec_TxGood.mono_l : ∀ k, (∀ y0 y1 y2 y3 y4, LeO (spec_TxGood.l0 k y0 y1 y2 y3 y4) (spec_TxGood.l0 (k + 1) y0 y1 y2 y3 y4)) ∧ (∀ y0 y1 y2 y3 y4 y5 y6 y7, LeO (spec_TxGood.j1 k y0 y1 y2 y3 y4 y5 y6 y7) (spec_TxGood.j1 (k + 1) y0 y1 y2 y3 y4 y5 y6 y7)) ∧ (∀ y0 y1 y2 y3 y4 y5 y6 y7 y8 y9, LeO (spec_TxGood.l1 k y0 y1 y2 y3 y4 y5 y6 y7 y8 y9) (spec_TxGood.l1 (k + 1) y0 y1 y2 y3 y4 y5 y6 y7 y8 y9))
  | 0 => ⟨fun _ _ _ _ _ r h => by simp [spec_TxGood.l0] at h, fun _ _ _ _ _ _ _ _ r h => by simp [spec_TxGood.j1] at h, fun _ _ _ _ _ _ _ _ _ _ r h => by simp [spec_TxGood.l1] at h⟩
  | k + 1 => by
    obtain ⟨ih0, ih1, ih2⟩ := spec_TxGood.mono_l k
    refine ⟨?_, ?_, ?_⟩
    · intro y0 y1 y2 y3 y4
      unfold spec_TxGood.l0
      repeat' first
      | (with_reducible exact ih0 _ _ _ _ _)
      | (with_reducible exact ih1 _ _ _ _ _ _ _ _)
      | (with_reducible exact ih2 _ _ _ _ _ _ _ _ _ _)
      | (with_reducible exact spec_TxSimple.mono _ _ _)
      | (with_reducible exact LeO.refl _)
      | (with_reducible exact LeO.none _)
      | (with_reducible refine LeO.ite ?_ ?_)
      | (with_reducible refine LeO.bind ?_ (fun _ => ?_))
      | exact ih0 _ _ _ _ _
      | exact ih1 _ _ _ _ _ _ _ _
      | exact ih2 _ _ _ _ _ _ _ _ _ _
      | exact spec_TxSimple.mono _ _ _
      | exact LeO.none _
      | refine LeO.ite ?_ ?_
      | refine LeO.bind ?_ (fun _ => ?_)
    · intro y0 y1 y2 y3 y4 y5 y6 y7
      unfold spec_TxGood.j1
      repeat' first
      | (with_reducible exact ih0 _ _ _ _ _)
      | (with_reducible exact ih1 _ _ _ _ _ _ _ _)
      | (with_reducible exact ih2 _ _ _ _ _ _ _ _ _ _)
      | (with_reducible exact spec_TxSimple.mono _ _ _)
      | (with_reducible exact LeO.refl _)
      | (with_reducible exact LeO.none _)
      | (with_reducible refine LeO.ite ?_ ?_)
      | (with_reducible refine LeO.bind ?_ (fun _ => ?_))
      | exact ih0 _ _ _ _ _
      | exact ih1 _ _ _ _ _ _ _ _
      | exact ih2 _ _ _ _ _ _ _ _ _ _
      | exact spec_TxSimple.mono _ _ _
      | exact LeO.none _
      | refine LeO.ite ?_ ?_
      | refine LeO.bind ?_ (fun _ => ?_)
    · intro y0 y1 y2 y3 y4 y5 y6 y7 y8 y9
      unfold spec_TxGood.l1
      repeat' first
      | (with_reducible exact ih0 _ _ _ _ _)
      | (with_reducible exact ih1 _ _ _ _ _ _ _ _)
      | (with_reducible exact ih2 _ _ _ _ _ _ _ _ _ _)
      | (with_reducible exact spec_TxSimple.mono _ _ _)
      | (with_reducible exact LeO.refl _)
      | (with_reducible exact LeO.none _)
      | (with_reducible refine LeO.ite ?_ ?_)
      | (with_reducible refine LeO.bind ?_ (fun _ => ?_))
      | exact ih0 _ _ _ _ _
      | exact ih1 _ _ _ _ _ _ _ _
      | exact ih2 _ _ _ _ _ _ _ _ _ _
      | exact spec_TxSimple.mono _ _ _
      | exact LeO.none _
      | refine LeO.ite ?_ ?_
      | refine LeO.bind ?_ (fun _ => ?_)
theorem spec_TxGood.mono : ∀ a0 a1 k, LeO (spec_TxGood.f k a0 a1) (spec_TxGood.f (k + 1) a0 a1) := by
  intro a0 a1 k
  obtain ⟨ih0, ih1, ih2⟩ := spec_TxGood.mono_l k
  unfold spec_TxGood.f
  repeat' first
      | (with_reducible exact ih0 _ _ _ _ _)
      | (with_reducible exact ih1 _ _ _ _ _ _ _ _)
      | (with_reducible exact ih2 _ _ _ _ _ _ _ _ _ _)
      | (with_reducible exact spec_TxSimple.mono _ _ _)
      | (with_reducible exact LeO.refl _)
      | (with_reducible exact LeO.none _)
      | (with_reducible refine LeO.ite ?_ ?_)
      | (with_reducible refine LeO.bind ?_ (fun _ => ?_))
      | exact ih0 _ _ _ _ _
      | exact ih1 _ _ _ _ _ _ _ _
      | exact ih2 _ _ _ _ _ _ _ _ _ _
      | exact spec_TxSimple.mono _ _ _
      | exact LeO.none _
      | refine LeO.ite ?_ ?_
      | refine LeO.bind ?_ (fun _ => ?_)
set_option maxHeartbeats 8000000 in
set_option maxRecDepth 100000 in
theorem spec_TxGood.calls (k : Nat) (A0 : Option Addr) (c0 : Nat) (l0 : List (S26)) (a1 : Bool) (r : Bool) (w : World) (hr0 : Kd.C k26 w A0 l0.length l0) (hc0 : l0.length ≤ c0) (h : spec_TxGood.f k l0 a1 = some r) :
    Calls Tryd.prog 9 #[.slice A0 l0.length c0, .bool a1] w fun e w' => e = .returned (.bool r) ∧ Below w.heap.size w w' := by
  have hu26 := Tryd.underlying26
  have HR0 := Aside0.mk hr0
  have HC0 := Aside0.mk hc0
  clear hr0 hc0
  have HB := Aside0.mk (Below.refl w.heap.size w)
  have H : (spec_TxGood.l0 k l0 a1 l0 (l0.length : Int) 0) = some r := h
  clear h
  have H' := Aside0.mk H
  clear H
  go_enter Tryd.func9, Tryd.ntmps9
  go_wp2
  (try simp only [Act.put, List.setIfInBounds_toArray, List.set_cons_zero, List.set_cons_succ])
  go_loopg [11] k (fun kq v11 w' => ∃ (x11_1 : Int), v11 = .int .i64 x11_1 ∧ Aside0 (spec_TxGood.l0 kq l0 a1 l0 (l0.length : Int) x11_1 = some r) ∧ Aside0 (kq ≤ k) ∧ Aside0 (Below w.heap.size w w'))
  case atStart => exact ⟨(0), (by first | rfl | (simp; done) | (simp [*]; done)), H', ⟨Nat.le_refl _⟩, ⟨by repeat (first | (with_reducible first | exact HB.out | apply below_alloc | apply pw_below_drewN | apply below_drew1) | exact HB.out)⟩⟩
  case round =>
    clear H'
    try clear p2
    obtain ⟨x11_1, rfl, HA, HK1, HB⟩ := hrel
    cases gk with
    | zero => exact absurd HA.out (by simp [spec_TxGood.l0])
    | succ k1 =>
      have H := HA.out
      clear HA
      simp only [spec_TxGood.l0] at H
      by_cases c3 : x11_1 < (l0.length : Int)
      · rw [if_pos c3] at H
        have c3b0 : decide (x11_1 < (l0.length : Int)) = true := decide_eq_true c3
        clear c3
        by_cases c4 : 0 ≤ x11_1
        · rw [if_pos c4] at H
          have c4b0 : decide (0 ≤ x11_1) = true := decide_eq_true c4
          clear c4
          by_cases c5 : x11_1 < (l0.length : Int)
          · rw [if_pos c5] at H
            have c5b0 : decide (x11_1 < (l0.length : Int)) = true := decide_eq_true c5
            clear c5
            have HC6 := Aside0.mk H
            clear H
            have p121 : 0 ≤ (x11_1 : Int) := of_decide_eq_true (by first | (with_reducible assumption) | assumption)
            have q121 : x11_1 < (l0.length : Int) := of_decide_eq_true (by first | (with_reducible assumption) | assumption)
            obtain ⟨ad121, A121_0, c121_0, e121, hx121_0, hx121_1, hl121_0, hi121_0⟩ := at_T26 HR0.out x11_1 p121 q121
            cases e121
            replace hx121_0 := (HB.out.cell (World.block_lt_of_cell? w _ hx121_0)).trans hx121_0
            replace hx121_1 := (HB.out.cell (World.block_lt_of_cell? w _ hx121_1)).trans hx121_1
            have HR121_0 := Aside0.mk hi121_0
            have HC121_0 := Aside0.mk hl121_0
            clear hi121_0 hl121_0
            replace p121 := eq_true p121
            replace q121 := eq_true q121
            go_upto_region 4 with (first | ((with_reducible refine gate_dst (N := 6) rfl ?_); (try (refine gate_guard (by rfl) ?_; dsimp only)); refine box_event ?hg (N := 6) ?hd (cs := #[.slice none 0 0, .string (⟨#[]⟩ : ByteArray)]) (t := 26) ?hr ?_; (case hd => rfl); (case hg => rfl); (case hr => first | (go_simp; done) | (go_simp; rfl)); intro gb122 hg w7 hbox hb; have n0_ := Aside0.mk (below_step (by repeat (first | (with_reducible first | exact HB.out | apply below_alloc | apply pw_below_drewN | apply below_drew1) | exact HB.out)) hb); have n1_ := Aside0.mk (hbox); have n2_ := Aside0.mk ((by rw [hg]; exact (below_size (by repeat (first | (with_reducible first | exact HB.out | apply below_alloc | apply pw_below_drewN | apply below_drew1) | exact HB.out))) : w.heap.size ≤ gb122)); have n3_ := Aside0.mk ((by rw [hg]; exact (below_size (by repeat (first | (with_reducible first | exact HB.out | apply below_alloc | apply pw_below_drewN | apply below_drew1) | exact HB.out))) : w.heap.size ≤ gb122)); clear HB; have HB := n0_; have BK122 := n1_; have GW122 := n2_; have GE122 := n3_; clear n0_ n1_ n2_ n3_; clear hb hbox hg; have hcz8_0 : w7.cell? ⟨gb122, 0, none⟩ = some (.slice none 0 0) := (blk_cell BK122.out 0).trans rfl; have hcz8_1 : w7.cell? ⟨gb122, 1, none⟩ = some (.string (⟨#[]⟩ : ByteArray)) := (blk_cell BK122.out 1).trans rfl; have hfz8_0 := blk_frozen BK122.out 0; have hfz8_1 := blk_frozen BK122.out 1))
            (try simp only [Act.put, List.setIfInBounds_toArray, List.set_cons_zero, List.set_cons_succ])
            go_cut [31] (fun v31 wc => ∃ (kq : Nat) (x31_5 : Bool), v31 = .bool x31_5 ∧ Aside0 (spec_TxGood.j1 kq l0 a1 l0 (l0.length : Int) x11_1 x31_5 ((rd_T26 l0 x11_1).f0) ((rd_T26 l0 x11_1).f1) = some r) ∧ Aside0 (kq ≤ k1) ∧ Aside0 (wc.heap[gb122]? = some (.cells #[(.slice A121_0 ((rd_T26 l0 x11_1).f0).length c121_0), .string ((rd_T26 l0 x11_1).f1)] 26 (0, 0))) ∧ Aside0 (Below w.heap.size w wc))
            case first =>
              have H := HC6.out
              clear HC6
              replace H := Option.bind_eq_some_iff.mp H
              obtain ⟨t123, A90, H⟩ := H
              replace H : (if t123 = true then (if (((rd_T26 l0 x11_1).f1).size : Int) > 500 then (spec_TxGood.j1 k1 l0 a1 l0 (l0.length : Int) x11_1 true ((rd_T26 l0 x11_1).f0) ((rd_T26 l0 x11_1).f1)) else (spec_TxGood.j1 k1 l0 a1 l0 (l0.length : Int) x11_1 (decide ((((rd_T26 l0 x11_1).f0).length : Int) > 4)) ((rd_T26 l0 x11_1).f0) ((rd_T26 l0 x11_1).f1))) else (spec_TxGood.j1 k1 l0 a1 l0 (l0.length : Int) x11_1 true ((rd_T26 l0 x11_1).f0) ((rd_T26 l0 x11_1).f1))) = some r := H
              have A9 := Aside0.mk A90
              clear A90
              by_cases c10 : t123 = true
              · subst c10
                have H1 : (if (((rd_T26 l0 x11_1).f1).size : Int) > 500 then (spec_TxGood.j1 k1 l0 a1 l0 (l0.length : Int) x11_1 true ((rd_T26 l0 x11_1).f0) ((rd_T26 l0 x11_1).f1)) else (spec_TxGood.j1 k1 l0 a1 l0 (l0.length : Int) x11_1 (decide ((((rd_T26 l0 x11_1).f0).length : Int) > 4)) ((rd_T26 l0 x11_1).f0) ((rd_T26 l0 x11_1).f1))) = some r := by rw [if_pos rfl] at H; exact H
                clear H
                have H := H1
                clear H1
                by_cases c11 : (((rd_T26 l0 x11_1).f1).size : Int) > 500
                · rw [if_pos c11] at H
                  have c11b0 : decide (500 < (((rd_T26 l0 x11_1).f1).size : Int)) = true := decide_eq_true c11
                  have c11b1 : decide (500 < ((rd_T26 l0 x11_1).f1).size) = true := decide_eq_true (by omega)
                  clear c11
                  (first | rw [c11b0] | (simp only [i64_w, i32_w]; rw [c11b0]) | skip)
                  have H' := Aside0.mk H
                  clear H
                  have hcz12_0 : w7.cell? ⟨gb122, 0, none⟩ = some (.slice none 0 0) := (blk_cell BK122.out 0).trans rfl
                  have hcz12_1 : w7.cell? ⟨gb122, 1, none⟩ = some (.string (⟨#[]⟩ : ByteArray)) := (blk_cell BK122.out 1).trans rfl
                  have hfz12_0 := blk_frozen BK122.out 0
                  have hfz12_1 := blk_frozen BK122.out 1
                  go_wp2_with (first | ((with_reducible refine gate_callee (f := 18) rfl ?_); refine goesL_ (some 18) rfl rfl Tryd.func18 (by kernel_rfl) rfl #[.string ((rd_T26 l0 x11_1).f1), .bool a1] rfl (by (try simp only [List.map_toArray, List.map_cons, List.map_nil]); first | done | rfl | (simp only [List.length_drop, List.length_take]; rfl)) ?_; (with_reducible refine (spec_TxSimple.calls k1 ((rd_T26 l0 x11_1).f1) a1 true _ A9.out).mono ?_); rintro e w13 ⟨rfl, hb⟩; refine ⟨_, rfl, ?_⟩; have n0_ := Aside0.mk (blk_below (g := gb122) (o := .cells #[.slice A121_0 ((rd_T26 l0 x11_1).f0).length c121_0, .string ((rd_T26 l0 x11_1).f1)] 26 (0, 0)) (by (with_reducible repeat (first | refine blk_drewN ?_ _ | refine blk_drew ?_ | refine blk_alloc ?_ _)); refine blk_put (cs := #[.slice A121_0 ((rd_T26 l0 x11_1).f0).length c121_0, .string (⟨#[]⟩ : ByteArray)]) ?_ 1 _ rfl; (with_reducible repeat (first | refine blk_drewN ?_ _ | refine blk_drew ?_ | refine blk_alloc ?_ _)); refine blk_put (cs := #[.slice none 0 0, .string (⟨#[]⟩ : ByteArray)]) ?_ 0 _ rfl; (with_reducible repeat (first | refine blk_drewN ?_ _ | refine blk_drew ?_ | refine blk_alloc ?_ _)); exact BK122.out) hb); have n1_ := Aside0.mk (below_step (by repeat (first | (with_reducible first | exact HB.out | apply below_alloc | apply pw_below_drewN | apply below_drew1 | refine below_set ?_ GE122.out) | exact HB.out)) hb); clear BK122; clear HB; have BK122 := n0_; have HB := n1_; clear n0_ n1_; (try clear hb); (try clear hb2); (try clear hk); (try clear hi); have hcz14_0 : w13.cell? ⟨gb122, 0, none⟩ = some (.slice A121_0 ((rd_T26 l0 x11_1).f0).length c121_0) := (blk_cell BK122.out 0).trans rfl; have hcz14_1 : w13.cell? ⟨gb122, 1, none⟩ = some (.string ((rd_T26 l0 x11_1).f1)) := (blk_cell BK122.out 1).trans rfl; have hfz14_0 := blk_frozen BK122.out 0; have hfz14_1 := blk_frozen BK122.out 1))
                  go_meet
                  case rel => exact ⟨_, (true), (by first | rfl | (simp; done) | (simp [*]; done)), H', ⟨by have := HK1.out; first | omega | exact Nat.le_refl _⟩, ⟨by (with_reducible repeat (first | refine blk_drewN ?_ _ | refine blk_drew ?_ | refine blk_alloc ?_ _)); exact BK122.out⟩, ⟨by repeat (first | (with_reducible first | exact HB.out | apply below_alloc | apply pw_below_drewN | apply below_drew1 | refine below_set ?_ GE122.out) | exact HB.out)⟩⟩
                · rw [if_neg c11] at H
                  have c11b0 : decide (500 < (((rd_T26 l0 x11_1).f1).size : Int)) = false := decide_eq_false c11
                  have c11b1 : decide (500 < ((rd_T26 l0 x11_1).f1).size) = false := decide_eq_false (by omega)
                  clear c11
                  (first | rw [c11b0] | (simp only [i64_w, i32_w]; rw [c11b0]) | skip)
                  have H' := Aside0.mk H
                  clear H
                  have hcz15_0 : w7.cell? ⟨gb122, 0, none⟩ = some (.slice none 0 0) := (blk_cell BK122.out 0).trans rfl
                  have hcz15_1 : w7.cell? ⟨gb122, 1, none⟩ = some (.string (⟨#[]⟩ : ByteArray)) := (blk_cell BK122.out 1).trans rfl
                  have hfz15_0 := blk_frozen BK122.out 0
                  have hfz15_1 := blk_frozen BK122.out 1
                  go_wp2_with (first | ((with_reducible refine gate_callee (f := 18) rfl ?_); refine goesL_ (some 18) rfl rfl Tryd.func18 (by kernel_rfl) rfl #[.string ((rd_T26 l0 x11_1).f1), .bool a1] rfl (by (try simp only [List.map_toArray, List.map_cons, List.map_nil]); first | done | rfl | (simp only [List.length_drop, List.length_take]; rfl)) ?_; (with_reducible refine (spec_TxSimple.calls k1 ((rd_T26 l0 x11_1).f1) a1 true _ A9.out).mono ?_); rintro e w16 ⟨rfl, hb⟩; refine ⟨_, rfl, ?_⟩; have n0_ := Aside0.mk (blk_below (g := gb122) (o := .cells #[.slice A121_0 ((rd_T26 l0 x11_1).f0).length c121_0, .string ((rd_T26 l0 x11_1).f1)] 26 (0, 0)) (by (with_reducible repeat (first | refine blk_drewN ?_ _ | refine blk_drew ?_ | refine blk_alloc ?_ _)); refine blk_put (cs := #[.slice A121_0 ((rd_T26 l0 x11_1).f0).length c121_0, .string (⟨#[]⟩ : ByteArray)]) ?_ 1 _ rfl; (with_reducible repeat (first | refine blk_drewN ?_ _ | refine blk_drew ?_ | refine blk_alloc ?_ _)); refine blk_put (cs := #[.slice none 0 0, .string (⟨#[]⟩ : ByteArray)]) ?_ 0 _ rfl; (with_reducible repeat (first | refine blk_drewN ?_ _ | refine blk_drew ?_ | refine blk_alloc ?_ _)); exact BK122.out) hb); have n1_ := Aside0.mk (below_step (by repeat (first | (with_reducible first | exact HB.out | apply below_alloc | apply pw_below_drewN | apply below_drew1 | refine below_set ?_ GE122.out) | exact HB.out)) hb); clear BK122; clear HB; have BK122 := n0_; have HB := n1_; clear n0_ n1_; (try clear hb); (try clear hb2); (try clear hk); (try clear hi); have hcz17_0 : w16.cell? ⟨gb122, 0, none⟩ = some (.slice A121_0 ((rd_T26 l0 x11_1).f0).length c121_0) := (blk_cell BK122.out 0).trans rfl; have hcz17_1 : w16.cell? ⟨gb122, 1, none⟩ = some (.string ((rd_T26 l0 x11_1).f1)) := (blk_cell BK122.out 1).trans rfl; have hfz17_0 := blk_frozen BK122.out 0; have hfz17_1 := blk_frozen BK122.out 1))
                  go_meet
                  case rel => exact ⟨_, (decide ((((rd_T26 l0 x11_1).f0).length : Int) > 4)), (by first | rfl | (simp; done) | (simp [*]; done)), H', ⟨by have := HK1.out; first | omega | exact Nat.le_refl _⟩, ⟨by (with_reducible repeat (first | refine blk_drewN ?_ _ | refine blk_drew ?_ | refine blk_alloc ?_ _)); exact BK122.out⟩, ⟨by repeat (first | (with_reducible first | exact HB.out | apply below_alloc | apply pw_below_drewN | apply below_drew1 | refine below_set ?_ GE122.out) | exact HB.out)⟩⟩
              · replace c10 := Bool.eq_false_iff.mpr c10
                subst c10
                have H1 : (spec_TxGood.j1 k1 l0 a1 l0 (l0.length : Int) x11_1 true ((rd_T26 l0 x11_1).f0) ((rd_T26 l0 x11_1).f1)) = some r := by rw [if_neg (show ¬ (false = true) by decide)] at H; exact H
                clear H
                have H := H1
                clear H1
                have H' := Aside0.mk H
                clear H
                have hcz18_0 : w7.cell? ⟨gb122, 0, none⟩ = some (.slice none 0 0) := (blk_cell BK122.out 0).trans rfl
                have hcz18_1 : w7.cell? ⟨gb122, 1, none⟩ = some (.string (⟨#[]⟩ : ByteArray)) := (blk_cell BK122.out 1).trans rfl
                have hfz18_0 := blk_frozen BK122.out 0
                have hfz18_1 := blk_frozen BK122.out 1
                go_wp2_with (first | ((with_reducible refine gate_callee (f := 18) rfl ?_); refine goesL_ (some 18) rfl rfl Tryd.func18 (by kernel_rfl) rfl #[.string ((rd_T26 l0 x11_1).f1), .bool a1] rfl (by (try simp only [List.map_toArray, List.map_cons, List.map_nil]); first | done | rfl | (simp only [List.length_drop, List.length_take]; rfl)) ?_; (with_reducible refine (spec_TxSimple.calls k1 ((rd_T26 l0 x11_1).f1) a1 false _ A9.out).mono ?_); rintro e w19 ⟨rfl, hb⟩; refine ⟨_, rfl, ?_⟩; have n0_ := Aside0.mk (blk_below (g := gb122) (o := .cells #[.slice A121_0 ((rd_T26 l0 x11_1).f0).length c121_0, .string ((rd_T26 l0 x11_1).f1)] 26 (0, 0)) (by (with_reducible repeat (first | refine blk_drewN ?_ _ | refine blk_drew ?_ | refine blk_alloc ?_ _)); refine blk_put (cs := #[.slice A121_0 ((rd_T26 l0 x11_1).f0).length c121_0, .string (⟨#[]⟩ : ByteArray)]) ?_ 1 _ rfl; (with_reducible repeat (first | refine blk_drewN ?_ _ | refine blk_drew ?_ | refine blk_alloc ?_ _)); refine blk_put (cs := #[.slice none 0 0, .string (⟨#[]⟩ : ByteArray)]) ?_ 0 _ rfl; (with_reducible repeat (first | refine blk_drewN ?_ _ | refine blk_drew ?_ | refine blk_alloc ?_ _)); exact BK122.out) hb); have n1_ := Aside0.mk (below_step (by repeat (first | (with_reducible first | exact HB.out | apply below_alloc | apply pw_below_drewN | apply below_drew1 | refine below_set ?_ GE122.out) | exact HB.out)) hb); clear BK122; clear HB; have BK122 := n0_; have HB := n1_; clear n0_ n1_; (try clear hb); (try clear hb2); (try clear hk); (try clear hi)))
                go_meet
                case rel => exact ⟨_, (true), (by first | rfl | (simp; done) | (simp [*]; done)), H', ⟨by have := HK1.out; first | omega | exact Nat.le_refl _⟩, ⟨by (with_reducible repeat (first | refine blk_drewN ?_ _ | refine blk_drew ?_ | refine blk_alloc ?_ _)); exact BK122.out⟩, ⟨by repeat (first | (with_reducible first | exact HB.out | apply below_alloc | apply pw_below_drewN | apply below_drew1 | refine below_set ?_ GE122.out) | exact HB.out)⟩⟩
            case rest =>
              clear HC6
              try clear c1
              try clear p1
              try clear q1
              try clear hx1
              try clear p2
              try clear c3
              try clear c3b0
              try clear c4
              try clear c4b0
              try clear c5
              try clear c5b0
              try clear c9
              try clear c10
              try clear c11
              try clear c11b0
              try clear c11b1
              try clear c12
              try clear p12
              try clear q12
              try clear hx12
              try clear c18
              try clear hcz12_0
              try clear hcz12_1
              try clear hcz14_0
              try clear hcz14_1
              try clear hcz15_0
              try clear hcz15_1
              try clear hcz17_0
              try clear hcz17_1
              try clear hcz18_0
              try clear hcz18_1
              try clear hcz8_0
              try clear hcz8_1
              try clear hfz12_0
              try clear hfz12_1
              try clear hfz14_0
              try clear hfz14_1
              try clear hfz15_0
              try clear hfz15_1
              try clear hfz17_0
              try clear hfz17_1
              try clear hfz18_0
              try clear hfz18_1
              try clear hfz8_0
              try clear hfz8_1
              try clear hx121_0
              try clear hx121_1
              try clear p121
              try clear p2
              try clear q121
              obtain ⟨kq, x31_5, rfl, HA, HJ5, BK122, HB⟩ := hcut
              cases kq with
              | zero => exact absurd HA.out (by simp [spec_TxGood.j1])
              | succ kj5 =>
                have H := HA.out
                clear HA
                simp only [spec_TxGood.j1] at H
                by_cases c20 : x31_5 = true
                · subst c20
                  have H1 : (some false) = some r := by rw [if_pos rfl] at H; exact H
                  clear H
                  have H := H1
                  clear H1
                  obtain rfl := Option.some.inj H
                  go_wp2
                  go_ret
                  exact ⟨by first | rfl | (simp [errW_none, errW_some] <;> rfl) | (simp [*, errW_none, errW_some] <;> rfl), by repeat (first | (with_reducible first | exact HB.out | apply below_alloc | apply pw_below_drewN | apply below_drew1 | refine below_set ?_ GE122.out) | exact HB.out)⟩
                · replace c20 := Bool.eq_false_iff.mpr c20
                  subst c20
                  have H1 : (spec_TxGood.l1 kj5 l0 a1 l0 (l0.length : Int) x11_1 ((rd_T26 l0 x11_1).f0) (((rd_T26 l0 x11_1).f0).length : Int) 0 ((rd_T26 l0 x11_1).f0) ((rd_T26 l0 x11_1).f1)) = some r := by rw [if_neg (show ¬ (false = true) by decide)] at H; exact H
                  clear H
                  have H := H1
                  clear H1
                  have H' := Aside0.mk H
                  clear H
                  have hcz21_0 : wc.cell? ⟨gb122, 0, none⟩ = some (.slice A121_0 ((rd_T26 l0 x11_1).f0).length c121_0) := (blk_cell BK122.out 0).trans rfl
                  have hcz21_1 : wc.cell? ⟨gb122, 1, none⟩ = some (.string ((rd_T26 l0 x11_1).f1)) := (blk_cell BK122.out 1).trans rfl
                  have hfz21_0 := blk_frozen BK122.out 0
                  have hfz21_1 := blk_frozen BK122.out 1
                  go_wp2
                  (try simp only [Act.put, List.setIfInBounds_toArray, List.set_cons_zero, List.set_cons_succ])
                  go_loopg [35] kj5 (fun kq v35 w' => ∃ (x35_3 : Int), v35 = .int .i64 x35_3 ∧ Aside0 (spec_TxGood.l1 kq l0 a1 l0 (l0.length : Int) x11_1 ((rd_T26 l0 x11_1).f0) (((rd_T26 l0 x11_1).f0).length : Int) x35_3 ((rd_T26 l0 x11_1).f0) ((rd_T26 l0 x11_1).f1) = some r) ∧ Aside0 (kq ≤ kj5) ∧ Aside0 (w'.heap[gb122]? = some (.cells #[(.slice A121_0 ((rd_T26 l0 x11_1).f0).length c121_0), .string ((rd_T26 l0 x11_1).f1)] 26 (0, 0))) ∧ Aside0 (Below w.heap.size w w'))
                  case atStart => exact ⟨(0), (by first | rfl | (simp; done) | (simp [*]; done)), H', ⟨Nat.le_refl _⟩, ⟨by (with_reducible repeat (first | refine blk_drewN ?_ _ | refine blk_drew ?_ | refine blk_alloc ?_ _)); exact BK122.out⟩, ⟨by repeat (first | (with_reducible first | exact HB.out | apply below_alloc | apply pw_below_drewN | apply below_drew1 | refine below_set ?_ GE122.out) | exact HB.out)⟩⟩
                  case round =>
                    clear H'
                    try clear c1
                    try clear p1
                    try clear q1
                    try clear hx1
                    try clear c2
                    try clear p2
                    try clear c3
                    try clear c3b0
                    try clear c4
                    try clear c4b0
                    try clear c5
                    try clear c5b0
                    try clear c9
                    try clear c10
                    try clear c11
                    try clear c11b0
                    try clear c11b1
                    try clear c12
                    try clear p12
                    try clear q12
                    try clear hx12
                    try clear c18
                    try clear c20
                    try clear hcz12_0
                    try clear hcz12_1
                    try clear hcz14_0
                    try clear hcz14_1
                    try clear hcz15_0
                    try clear hcz15_1
                    try clear hcz17_0
                    try clear hcz17_1
                    try clear hcz18_0
                    try clear hcz18_1
                    try clear hcz21_0
                    try clear hcz21_1
                    try clear hcz8_0
                    try clear hcz8_1
                    try clear hfz12_0
                    try clear hfz12_1
                    try clear hfz14_0
                    try clear hfz14_1
                    try clear hfz15_0
                    try clear hfz15_1
                    try clear hfz17_0
                    try clear hfz17_1
                    try clear hfz18_0
                    try clear hfz18_1
                    try clear hfz21_0
                    try clear hfz21_1
                    try clear hfz8_0
                    try clear hfz8_1
                    try clear hx121_0
                    try clear hx121_1
                    try clear p1
                    try clear p12
                    try clear p121
                    try clear p2
                    try clear q1
                    try clear q12
                    try clear q121
                    obtain ⟨x35_3, rfl, HA, HK3, BK122, HB⟩ := hrel
                    cases gk with
                    | zero => exact absurd HA.out (by simp [spec_TxGood.l1])
                    | succ k3 =>
                      have H := HA.out
                      clear HA
                      simp only [spec_TxGood.l1] at H
                      by_cases c22 : x35_3 < (((rd_T26 l0 x11_1).f0).length : Int)
                      · rw [if_pos c22] at H
                        have c22b0 : decide (x35_3 < (((rd_T26 l0 x11_1).f0).length : Int)) = true := decide_eq_true c22
                        clear c22
                        by_cases c23 : 0 ≤ x35_3
                        · rw [if_pos c23] at H
                          have c23b0 : decide (0 ≤ x35_3) = true := decide_eq_true c23
                          clear c23
                          by_cases c24 : x35_3 < (((rd_T26 l0 x11_1).f0).length : Int)
                          · rw [if_pos c24] at H
                            have c24b0 : decide (x35_3 < (((rd_T26 l0 x11_1).f0).length : Int)) = true := decide_eq_true c24
                            clear c24
                            replace H := Option.bind_eq_some_iff.mp H
                            obtain ⟨t125, A250, H⟩ := H
                            replace H : (if t125 = true then (spec_TxGood.l1 k3 l0 a1 l0 (l0.length : Int) x11_1 ((rd_T26 l0 x11_1).f0) (((rd_T26 l0 x11_1).f0).length : Int) (wrap64 (x35_3 + 1)) ((rd_T26 l0 x11_1).f0) ((rd_T26 l0 x11_1).f1)) else (if (rd ((rd_T26 l0 x11_1).f0) x35_3) = 0 then (if (((rd_T26 l0 x11_1).f0).length : Int) > 1 then (some false) else (spec_TxGood.l1 k3 l0 a1 l0 (l0.length : Int) x11_1 ((rd_T26 l0 x11_1).f0) (((rd_T26 l0 x11_1).f0).length : Int) (wrap64 (x35_3 + 1)) ((rd_T26 l0 x11_1).f0) ((rd_T26 l0 x11_1).f1))) else (some false))) = some r := H
                            have A25 := Aside0.mk A250
                            clear A250
                            by_cases c26 : t125 = true
                            · subst c26
                              have H1 : (spec_TxGood.l1 k3 l0 a1 l0 (l0.length : Int) x11_1 ((rd_T26 l0 x11_1).f0) (((rd_T26 l0 x11_1).f0).length : Int) (wrap64 (x35_3 + 1)) ((rd_T26 l0 x11_1).f0) ((rd_T26 l0 x11_1).f1)) = some r := by rw [if_pos rfl] at H; exact H
                              clear H
                              have H := H1
                              clear H1
                              have H' := Aside0.mk H
                              clear H
                              have p124 : 0 ≤ (x35_3 : Int) := of_decide_eq_true (by first | (with_reducible assumption) | assumption)
                              have q124 : x35_3 < (((rd_T26 l0 x11_1).f0).length : Int) := of_decide_eq_true (by first | (with_reducible assumption) | assumption)
                              obtain ⟨ad124, e124, hx124_0⟩ := Kd.at_int HR121_0.out x35_3 p124 q124
                              cases e124
                              replace hx124_0 := (HB.out.cell (World.block_lt_of_cell? w _ hx124_0)).trans hx124_0
                              replace p124 := eq_true p124
                              replace q124 := eq_true q124
                              go_wp2_with (first | ((with_reducible refine gate_callee (f := 11) rfl ?_); refine goesL_ (some 40) rfl rfl Tryd.func11 (by kernel_rfl) rfl #[.int .i64 (rd ((rd_T26 l0 x11_1).f0) x35_3)] rfl (by (try simp only [List.map_toArray, List.map_cons, List.map_nil]); first | done | rfl | (simp only [List.length_drop, List.length_take]; rfl)) ?_; (with_reducible refine (spec_TxAttribute.calls (rd ((rd_T26 l0 x11_1).f0) x35_3) true _ A25.out).mono ?_); rintro e w' ⟨rfl, ⟨nd, rfl⟩⟩; refine ⟨_, rfl, ?_⟩))
                              go_roundg k3
                              case measure => have := HK1.out; have := HJ5.out; have := HK3.out; omega
                              case rel => exact ⟨(wrap64 (x35_3 + 1)), (by first | rfl | (simp; done) | (simp [*]; done)), H', ⟨by have := HK1.out; have := HJ5.out; have := HK3.out; omega⟩, ⟨by (with_reducible repeat (first | refine blk_drewN ?_ _ | refine blk_drew ?_ | refine blk_alloc ?_ _)); exact BK122.out⟩, ⟨by repeat (first | (with_reducible first | exact HB.out | apply below_alloc | apply pw_below_drewN | apply below_drew1 | refine below_set ?_ GE122.out) | exact HB.out)⟩⟩
                            · replace c26 := Bool.eq_false_iff.mpr c26
                              subst c26
                              have H1 : (if (rd ((rd_T26 l0 x11_1).f0) x35_3) = 0 then (if (((rd_T26 l0 x11_1).f0).length : Int) > 1 then (some false) else (spec_TxGood.l1 k3 l0 a1 l0 (l0.length : Int) x11_1 ((rd_T26 l0 x11_1).f0) (((rd_T26 l0 x11_1).f0).length : Int) (wrap64 (x35_3 + 1)) ((rd_T26 l0 x11_1).f0) ((rd_T26 l0 x11_1).f1))) else (some false)) = some r := by rw [if_neg (show ¬ (false = true) by decide)] at H; exact H
                              clear H
                              have H := H1
                              clear H1
                              by_cases c27 : (rd ((rd_T26 l0 x11_1).f0) x35_3) = 0
                              · rw [if_pos c27] at H
                                have c27b0 : ((rd ((rd_T26 l0 x11_1).f0) x35_3) == 0) = true := beq_iff_eq.mpr c27
                                have c27b1 : ((rd ((rd_T26 l0 x11_1).f0) x35_3) != 0) = false := bne_eq_false_iff_eq.mpr c27
                                clear c27
                                by_cases c28 : (((rd_T26 l0 x11_1).f0).length : Int) > 1
                                · rw [if_pos c28] at H
                                  have c28b0 : decide (1 < (((rd_T26 l0 x11_1).f0).length : Int)) = true := decide_eq_true c28
                                  have c28b1 : decide (1 < ((rd_T26 l0 x11_1).f0).length) = true := decide_eq_true (by omega)
                                  clear c28
                                  obtain rfl := Option.some.inj H
                                  have p124 : 0 ≤ (x35_3 : Int) := of_decide_eq_true (by first | (with_reducible assumption) | assumption)
                                  have q124 : x35_3 < (((rd_T26 l0 x11_1).f0).length : Int) := of_decide_eq_true (by first | (with_reducible assumption) | assumption)
                                  obtain ⟨ad124, e124, hx124_0⟩ := Kd.at_int HR121_0.out x35_3 p124 q124
                                  cases e124
                                  replace hx124_0 := (HB.out.cell (World.block_lt_of_cell? w _ hx124_0)).trans hx124_0
                                  replace p124 := eq_true p124
                                  replace q124 := eq_true q124
                                  go_wp2_with (first | ((with_reducible refine gate_callee (f := 11) rfl ?_); refine goesL_ (some 40) rfl rfl Tryd.func11 (by kernel_rfl) rfl #[.int .i64 (rd ((rd_T26 l0 x11_1).f0) x35_3)] rfl (by (try simp only [List.map_toArray, List.map_cons, List.map_nil]); first | done | rfl | (simp only [List.length_drop, List.length_take]; rfl)) ?_; (with_reducible refine (spec_TxAttribute.calls (rd ((rd_T26 l0 x11_1).f0) x35_3) false _ A25.out).mono ?_); rintro e w' ⟨rfl, ⟨nd, rfl⟩⟩; refine ⟨_, rfl, ?_⟩; have hcz29_0 : wr.cell? ⟨gb122, 0, none⟩ = some (.slice (some ad124) ((rd_T26 l0 x11_1).f0).length c121_0) := (blk_cell BK122.out 0).trans rfl; have hcz29_1 : wr.cell? ⟨gb122, 1, none⟩ = some (.string ((rd_T26 l0 x11_1).f1)) := (blk_cell BK122.out 1).trans rfl; have hfz29_0 := blk_frozen BK122.out 0; have hfz29_1 := blk_frozen BK122.out 1))
                                  go_ret
                                  exact ⟨by first | rfl | (simp [errW_none, errW_some] <;> rfl) | (simp [*, errW_none, errW_some] <;> rfl), by repeat (first | (with_reducible first | exact HB.out | apply below_alloc | apply pw_below_drewN | apply below_drew1 | refine below_set ?_ GE122.out) | exact HB.out)⟩
                                · rw [if_neg c28] at H
                                  have c28b0 : decide (1 < (((rd_T26 l0 x11_1).f0).length : Int)) = false := decide_eq_false c28
                                  have c28b1 : decide (1 < ((rd_T26 l0 x11_1).f0).length) = false := decide_eq_false (by omega)
                                  clear c28
                                  have H' := Aside0.mk H
                                  clear H
                                  have p124 : 0 ≤ (x35_3 : Int) := of_decide_eq_true (by first | (with_reducible assumption) | assumption)
                                  have q124 : x35_3 < (((rd_T26 l0 x11_1).f0).length : Int) := of_decide_eq_true (by first | (with_reducible assumption) | assumption)
                                  obtain ⟨ad124, e124, hx124_0⟩ := Kd.at_int HR121_0.out x35_3 p124 q124
                                  cases e124
                                  replace hx124_0 := (HB.out.cell (World.block_lt_of_cell? w _ hx124_0)).trans hx124_0
                                  replace p124 := eq_true p124
                                  replace q124 := eq_true q124
                                  go_wp2_with (first | ((with_reducible refine gate_callee (f := 11) rfl ?_); refine goesL_ (some 40) rfl rfl Tryd.func11 (by kernel_rfl) rfl #[.int .i64 (rd ((rd_T26 l0 x11_1).f0) x35_3)] rfl (by (try simp only [List.map_toArray, List.map_cons, List.map_nil]); first | done | rfl | (simp only [List.length_drop, List.length_take]; rfl)) ?_; (with_reducible refine (spec_TxAttribute.calls (rd ((rd_T26 l0 x11_1).f0) x35_3) false _ A25.out).mono ?_); rintro e w' ⟨rfl, ⟨nd, rfl⟩⟩; refine ⟨_, rfl, ?_⟩; have hcz30_0 : wr.cell? ⟨gb122, 0, none⟩ = some (.slice (some ad124) ((rd_T26 l0 x11_1).f0).length c121_0) := (blk_cell BK122.out 0).trans rfl; have hcz30_1 : wr.cell? ⟨gb122, 1, none⟩ = some (.string ((rd_T26 l0 x11_1).f1)) := (blk_cell BK122.out 1).trans rfl; have hfz30_0 := blk_frozen BK122.out 0; have hfz30_1 := blk_frozen BK122.out 1))
                                  go_roundg k3
                                  case measure => have := HK1.out; have := HJ5.out; have := HK3.out; omega
                                  case rel => exact ⟨(wrap64 (x35_3 + 1)), (by first | rfl | (simp; done) | (simp [*]; done)), H', ⟨by have := HK1.out; have := HJ5.out; have := HK3.out; omega⟩, ⟨by (with_reducible repeat (first | refine blk_drewN ?_ _ | refine blk_drew ?_ | refine blk_alloc ?_ _)); exact BK122.out⟩, ⟨by repeat (first | (with_reducible first | exact HB.out | apply below_alloc | apply pw_below_drewN | apply below_drew1 | refine below_set ?_ GE122.out) | exact HB.out)⟩⟩
                              · rw [if_neg c27] at H
                                have c27b0 : ((rd ((rd_T26 l0 x11_1).f0) x35_3) == 0) = false := beq_eq_false_iff_ne.mpr c27
                                have c27b1 : ((rd ((rd_T26 l0 x11_1).f0) x35_3) != 0) = true := bne_iff_ne.mpr c27
                                obtain rfl := Option.some.inj H
                                have p124 : 0 ≤ (x35_3 : Int) := of_decide_eq_true (by first | (with_reducible assumption) | assumption)
                                have q124 : x35_3 < (((rd_T26 l0 x11_1).f0).length : Int) := of_decide_eq_true (by first | (with_reducible assumption) | assumption)
                                obtain ⟨ad124, e124, hx124_0⟩ := Kd.at_int HR121_0.out x35_3 p124 q124
                                cases e124
                                replace hx124_0 := (HB.out.cell (World.block_lt_of_cell? w _ hx124_0)).trans hx124_0
                                replace p124 := eq_true p124
                                replace q124 := eq_true q124
                                go_wp2_with (first | ((with_reducible refine gate_callee (f := 11) rfl ?_); refine goesL_ (some 40) rfl rfl Tryd.func11 (by kernel_rfl) rfl #[.int .i64 (rd ((rd_T26 l0 x11_1).f0) x35_3)] rfl (by (try simp only [List.map_toArray, List.map_cons, List.map_nil]); first | done | rfl | (simp only [List.length_drop, List.length_take]; rfl)) ?_; (with_reducible refine (spec_TxAttribute.calls (rd ((rd_T26 l0 x11_1).f0) x35_3) false _ A25.out).mono ?_); rintro e w' ⟨rfl, ⟨nd, rfl⟩⟩; refine ⟨_, rfl, ?_⟩))
                                go_ret
                                exact ⟨by first | rfl | (simp [errW_none, errW_some] <;> rfl) | (simp [*, errW_none, errW_some] <;> rfl), by repeat (first | (with_reducible first | exact HB.out | apply below_alloc | apply pw_below_drewN | apply below_drew1 | refine below_set ?_ GE122.out) | exact HB.out)⟩
                          · rw [if_neg c24] at H
                            exact absurd H (by simp)
                        · rw [if_neg c23] at H
                          exact absurd H (by simp)
                      · rw [if_neg c22] at H
                        have c22b0 : decide (x35_3 < (((rd_T26 l0 x11_1).f0).length : Int)) = false := decide_eq_false c22
                        clear c22
                        have H' := Aside0.mk H
                        clear H
                        go_wp2
                        go_roundg k3
                        case measure => have := HK1.out; have := HJ5.out; have := HK3.out; omega
                        case rel => exact ⟨(wrap64 (x11_1 + 1)), (by first | rfl | (simp; done) | (simp [*]; done)), H', ⟨by have := HK1.out; have := HJ5.out; have := HK3.out; omega⟩, ⟨by repeat (first | (with_reducible first | exact HB.out | apply below_alloc | apply pw_below_drewN | apply below_drew1 | refine below_set ?_ GE122.out) | exact HB.out)⟩⟩
          · rw [if_neg c5] at H
            exact absurd H (by simp)
        · rw [if_neg c4] at H
          exact absurd H (by simp)
      · rw [if_neg c3] at H
        have c3b0 : decide (x11_1 < (l0.length : Int)) = false := decide_eq_false c3
        clear c3
        obtain rfl := Option.some.inj H
        go_wp2
        go_ret
        exact ⟨by first | rfl | (simp [errW_none, errW_some] <;> rfl) | (simp [*, errW_none, errW_some] <;> rfl), by repeat (first | (with_reducible first | exact HB.out | apply below_alloc | apply pw_below_drewN | apply below_drew1) | exact HB.out)⟩

/-! ### text_Escape: function 19 -/
def text_Escape.f (a0 : ByteArray) (a1 : ByteArray) : Option (ByteArray) := if a1.size = 0 then (if Esr.Tame a0.data.toList then some a0 else none) else none
theorem text_Escape.calls (a0 : ByteArray) (a1 : ByteArray) (r : ByteArray) (w : World) (h : text_Escape.f a0 a1 = some r) :
    Calls Tryd.prog 19 #[.string a0, .string a1] w fun e w' => e = .returned (.string r) ∧ Below w.heap.size w w' := by
  unfold text_Escape.f at h
  by_cases hc : a1.size = 0
  · rw [if_pos hc] at h
    by_cases hd : Esr.Tame a0.data.toList
    · rw [if_pos hd] at h
      obtain rfl := Option.some.inj h
      exact Ese.calls a0 a1 w hc hd
    · rw [if_neg hd] at h
      exact absurd h (by simp)
  · rw [if_neg hc] at h
    exact absurd h (by simp)

/-! ### impl_TextEscape: function 10 -/
def impl_TextEscape.f (a0 : ByteArray) (a1 : ByteArray) : Option (ByteArray) := (text_Escape.f a0 a1).bind fun t126 => (some t126)
set_option maxHeartbeats 8000000 in
set_option maxRecDepth 100000 in
theorem impl_TextEscape.calls (a0 : ByteArray) (a1 : ByteArray) (r : ByteArray) (w : World) (h : impl_TextEscape.f a0 a1 = some r) :
    Calls Tryd.prog 10 #[.string a0, .string a1] w fun e w' => e = .returned (.string r) ∧ Below w.heap.size w w' := by
  have HB := Aside0.mk (Below.refl w.heap.size w)
  have H : ((text_Escape.f a0 a1).bind fun t126 => (some t126)) = some r := h
  clear h
  replace H := Option.bind_eq_some_iff.mp H
  obtain ⟨t126, A30, H⟩ := H
  replace H : (some t126) = some r := H
  have A3 := Aside0.mk A30
  clear A30
  obtain rfl := Option.some.inj H
  go_enter Tryd.func10, Tryd.ntmps10
  go_wp2_with (first | ((with_reducible refine gate_callee (f := 19) rfl ?_); refine goesL_ (some 7) rfl rfl Tryd.func19 (by kernel_rfl) rfl #[.string a0, .string a1] rfl (by (try simp only [List.map_toArray, List.map_cons, List.map_nil]); first | done | rfl | (simp only [List.length_drop, List.length_take]; rfl)) ?_; (with_reducible refine (text_Escape.calls a0 a1 t126 _ A3.out).mono ?_); rintro e w4 ⟨rfl, hb⟩; refine ⟨_, rfl, ?_⟩; have n0_ := Aside0.mk (below_step (by repeat (first | (with_reducible first | exact HB.out | apply below_alloc | apply pw_below_drewN | apply below_drew1) | exact HB.out)) hb); clear HB; have HB := n0_; clear n0_; (try clear hb); (try clear hb2); (try clear hk); (try clear hi)))
  go_ret
  exact ⟨by first | rfl | (simp [errW_none, errW_some] <;> rfl) | (simp [*, errW_none, errW_some] <;> rfl), by repeat (first | (with_reducible first | exact HB.out | apply below_alloc | apply pw_below_drewN | apply below_drew1) | exact HB.out)⟩

/-! ### laws_FnTextEscapeNone: function 3 -/
def laws_FnTextEscapeNone.l0 : Nat → List (S26) → List (S26) → Int → Int → Option (Bool)
  | 0, _, _, _, _ => none
  | k + 1, x0, x9, x10, x11 => if x11 < x10 then (if 0 ≤ x11 then (if x11 < (x9.length : Int) then ((spec_TxAmong.f k ((rd_T26 x9 x11).f0) 0).bind fun t130 => (if t130 = true then (some true) else (laws_FnTextEscapeNone.l0 k x0 x9 x10 (wrap64 (x11 + 1))))) else (none)) else (none)) else ((spec_TxWritten.f k x0).bind fun t131 => ((spec_TxGood.f k x0 false).bind fun t132 => (if t132 = true then ((impl_TextEscape.f t131 (⟨#[]⟩ : ByteArray)).bind fun t133 => (some (t133.toList == t131.toList))) else (some true))))
def laws_FnTextEscapeNone.f (k : Nat) (l0 : List (S26)) : Option (Bool) := (laws_zzFits15.f k l0).bind fun t127 => (if t127 = true then (laws_FnTextEscapeNone.l0 k l0 l0 (l0.length : Int) 0) else (some true))
theorem laws_FnTextEscapeNone.mono_l : ∀ k, (∀ y0 y1 y2 y3, LeO (laws_FnTextEscapeNone.l0 k y0 y1 y2 y3) (laws_FnTextEscapeNone.l0 (k + 1) y0 y1 y2 y3))
  | 0 => fun _ _ _ _ r h => by simp [laws_FnTextEscapeNone.l0] at h
  | k + 1 => by
    have ih0 := laws_FnTextEscapeNone.mono_l k
    · intro y0 y1 y2 y3
      unfold laws_FnTextEscapeNone.l0
      repeat' first
      | (with_reducible exact ih0 _ _ _ _)
      | (with_reducible exact laws_zzFits15.mono _ _)
      | (with_reducible exact spec_TxAmong.mono _ _ _)
      | (with_reducible exact spec_TxGood.mono _ _ _)
      | (with_reducible exact spec_TxWritten.mono _ _)
      | (with_reducible exact LeO.refl _)
      | (with_reducible exact LeO.none _)
      | (with_reducible refine LeO.ite ?_ ?_)
      | (with_reducible refine LeO.bind ?_ (fun _ => ?_))
      | exact ih0 _ _ _ _
      | exact laws_zzFits15.mono _ _
      | exact spec_TxAmong.mono _ _ _
      | exact spec_TxGood.mono _ _ _
      | exact spec_TxWritten.mono _ _
      | exact LeO.none _
      | refine LeO.ite ?_ ?_
      | refine LeO.bind ?_ (fun _ => ?_)
theorem laws_FnTextEscapeNone.mono : ∀ a0 k, LeO (laws_FnTextEscapeNone.f k a0) (laws_FnTextEscapeNone.f (k + 1) a0) := by
  intro a0 k
  have ih0 := laws_FnTextEscapeNone.mono_l k
  unfold laws_FnTextEscapeNone.f
  repeat' first
      | (with_reducible exact ih0 _ _ _ _)
      | (with_reducible exact laws_zzFits15.mono _ _)
      | (with_reducible exact spec_TxAmong.mono _ _ _)
      | (with_reducible exact spec_TxGood.mono _ _ _)
      | (with_reducible exact spec_TxWritten.mono _ _)
      | (with_reducible exact LeO.refl _)
      | (with_reducible exact LeO.none _)
      | (with_reducible refine LeO.ite ?_ ?_)
      | (with_reducible refine LeO.bind ?_ (fun _ => ?_))
      | exact ih0 _ _ _ _
      | exact laws_zzFits15.mono _ _
      | exact spec_TxAmong.mono _ _ _
      | exact spec_TxGood.mono _ _ _
      | exact spec_TxWritten.mono _ _
      | exact LeO.none _
      | refine LeO.ite ?_ ?_
      | refine LeO.bind ?_ (fun _ => ?_)
set_option maxHeartbeats 8000000 in
set_option maxRecDepth 100000 in
theorem laws_FnTextEscapeNone.calls (k : Nat) (A0 : Option Addr) (c0 : Nat) (l0 : List (S26)) (r : Bool) (w : World) (hr0 : Kd.C k26 w A0 l0.length l0) (hc0 : l0.length ≤ c0) (h : laws_FnTextEscapeNone.f k l0 = some r) (hT_ : Es.Tb w) :
    Calls Tryd.prog 3 #[.slice A0 l0.length c0] w fun e w' => e = .returned (.bool r) ∧ Below w.heap.size w w' := by
  have HT_P := Aside0.mk hT_
  clear hT_
  have hu26 := Tryd.underlying26
  have HR0 := Aside0.mk hr0
  have HC0 := Aside0.mk hc0
  clear hr0 hc0
  have HB := Aside0.mk (Below.refl w.heap.size w)
  have H : ((laws_zzFits15.f k l0).bind fun t127 => (if t127 = true then (laws_FnTextEscapeNone.l0 k l0 l0 (l0.length : Int) 0) else (some true))) = some r := h
  clear h
  replace H := Option.bind_eq_some_iff.mp H
  obtain ⟨t127, A20, H⟩ := H
  replace H : (if t127 = true then (laws_FnTextEscapeNone.l0 k l0 l0 (l0.length : Int) 0) else (some true)) = some r := H
  have A2 := Aside0.mk A20
  clear A20
  by_cases c3 : t127 = true
  · subst c3
    have H1 : (laws_FnTextEscapeNone.l0 k l0 l0 (l0.length : Int) 0) = some r := by rw [if_pos rfl] at H; exact H
    clear H
    have H := H1
    clear H1
    have H' := Aside0.mk H
    clear H
    go_enter Tryd.func3, Tryd.ntmps3
    go_wp2_with (first | ((with_reducible refine gate_callee (f := 6) rfl ?_); refine goesL_ (some 7) rfl rfl Tryd.func6 (by kernel_rfl) rfl #[.slice A0 l0.length c0] rfl (by (try simp only [List.map_toArray, List.map_cons, List.map_nil]); first | done | rfl | (simp only [List.length_drop, List.length_take]; rfl)) ?_; (with_reducible refine (laws_zzFits15.calls k _ _ l0 true _ ?side1 ?side2 A2.out).mono ?_); (case side1 => repeat (first | exact HR0.out | (with_reducible refine Kd.C_alloc ?_ _) | (with_reducible refine Kd.C_drewN ?_ _) | (with_reducible refine Kd.C_drew ?_))); (case side2 => exact HC0.out); rintro e w4 ⟨rfl, hb⟩; refine ⟨_, rfl, ?_⟩; have n0_ := Aside0.mk (below_step (by repeat (first | (with_reducible first | exact HB.out | apply below_alloc | apply pw_below_drewN | apply below_drew1) | exact HB.out)) hb); clear HB; have HB := n0_; clear n0_; (try clear hb); (try clear hb2); (try clear hk); (try clear hi)))
    (try simp only [Act.put, List.setIfInBounds_toArray, List.set_cons_zero, List.set_cons_succ])
    go_loopg [11] k (fun kq v11 w' => ∃ (x11_1 : Int), v11 = .int .i64 x11_1 ∧ Aside0 (laws_FnTextEscapeNone.l0 kq l0 l0 (l0.length : Int) x11_1 = some r) ∧ Aside0 (kq ≤ k) ∧ Aside0 (Below w.heap.size w w'))
    case atStart => exact ⟨(0), (by first | rfl | (simp; done) | (simp [*]; done)), H', ⟨Nat.le_refl _⟩, ⟨by repeat (first | (with_reducible first | exact HB.out | apply below_alloc | apply pw_below_drewN | apply below_drew1) | exact HB.out)⟩⟩
    case round =>
      clear H'
      try clear p2
      try clear c3
      obtain ⟨x11_1, rfl, HA, HK1, HB⟩ := hrel
      cases gk with
      | zero => exact absurd HA.out (by simp [laws_FnTextEscapeNone.l0])
      | succ k1 =>
        have H := HA.out
        clear HA
        simp only [laws_FnTextEscapeNone.l0] at H
        by_cases c5 : x11_1 < (l0.length : Int)
        · rw [if_pos c5] at H
          have c5b0 : decide (x11_1 < (l0.length : Int)) = true := decide_eq_true c5
          clear c5
          by_cases c6 : 0 ≤ x11_1
          · rw [if_pos c6] at H
            have c6b0 : decide (0 ≤ x11_1) = true := decide_eq_true c6
            clear c6
            by_cases c7 : x11_1 < (l0.length : Int)
            · rw [if_pos c7] at H
              have c7b0 : decide (x11_1 < (l0.length : Int)) = true := decide_eq_true c7
              clear c7
              replace H := Option.bind_eq_some_iff.mp H
              obtain ⟨t130, A80, H⟩ := H
              replace H : (if t130 = true then (some true) else (laws_FnTextEscapeNone.l0 k1 l0 l0 (l0.length : Int) (wrap64 (x11_1 + 1)))) = some r := H
              have A8 := Aside0.mk A80
              clear A80
              by_cases c9 : t130 = true
              · subst c9
                have H1 : (some true) = some r := by rw [if_pos rfl] at H; exact H
                clear H
                have H := H1
                clear H1
                obtain rfl := Option.some.inj H
                have p128 : 0 ≤ (x11_1 : Int) := of_decide_eq_true (by first | (with_reducible assumption) | assumption)
                have q128 : x11_1 < (l0.length : Int) := of_decide_eq_true (by first | (with_reducible assumption) | assumption)
                obtain ⟨ad128, A128_0, c128_0, e128, hx128_0, hx128_1, hl128_0, hi128_0⟩ := at_T26 HR0.out x11_1 p128 q128
                cases e128
                replace hx128_0 := (HB.out.cell (World.block_lt_of_cell? w _ hx128_0)).trans hx128_0
                replace hx128_1 := (HB.out.cell (World.block_lt_of_cell? w _ hx128_1)).trans hx128_1
                have HR128_0 := Aside0.mk hi128_0
                have HC128_0 := Aside0.mk hl128_0
                clear hi128_0 hl128_0
                replace p128 := eq_true p128
                replace q128 := eq_true q128
                go_wp2_with (first | ((with_reducible refine gate_dst (N := 4) rfl ?_); refine box_event ?hg (N := 4) ?hd (cs := #[.slice none 0 0, .string (⟨#[]⟩ : ByteArray)]) (t := 26) ?hr ?_; (case hd => rfl); (case hg => rfl); (case hr => first | (go_simp; done) | (go_simp; rfl)); intro gb129 hg w10 hbox hb; have n0_ := Aside0.mk (below_step (by repeat (first | (with_reducible first | exact HB.out | apply below_alloc | apply pw_below_drewN | apply below_drew1) | exact HB.out)) hb); have n1_ := Aside0.mk (hbox); have n2_ := Aside0.mk ((by rw [hg]; exact (below_size (by repeat (first | (with_reducible first | exact HB.out | apply below_alloc | apply pw_below_drewN | apply below_drew1) | exact HB.out))) : w.heap.size ≤ gb129)); have n3_ := Aside0.mk ((by rw [hg]; exact (below_size (by repeat (first | (with_reducible first | exact HB.out | apply below_alloc | apply pw_below_drewN | apply below_drew1) | exact HB.out))) : w.heap.size ≤ gb129)); clear HB; have HB := n0_; have BK129 := n1_; have GW129 := n2_; have GE129 := n3_; clear n0_ n1_ n2_ n3_; clear hb hbox hg; have hcz11_0 : w10.cell? ⟨gb129, 0, none⟩ = some (.slice none 0 0) := (blk_cell BK129.out 0).trans rfl; have hcz11_1 : w10.cell? ⟨gb129, 1, none⟩ = some (.string (⟨#[]⟩ : ByteArray)) := (blk_cell BK129.out 1).trans rfl; have hfz11_0 := blk_frozen BK129.out 0; have hfz11_1 := blk_frozen BK129.out 1) | ((with_reducible refine gate_callee (f := 7) rfl ?_); refine goesL_ (some 17) rfl rfl Tryd.func7 (by kernel_rfl) rfl #[.slice A128_0 ((rd_T26 l0 x11_1).f0).length c128_0, .int .i64 0] rfl (by (try simp only [List.map_toArray, List.map_cons, List.map_nil]); first | done | rfl | (simp only [List.length_drop, List.length_take]; rfl)) ?_; (with_reducible refine (spec_TxAmong.calls k1 _ _ ((rd_T26 l0 x11_1).f0) 0 true _ ?side1 ?side2 A8.out).mono ?_); (case side1 => exact Kd.C_below HR128_0.out (by repeat (first | (with_reducible first | exact HB.out | apply below_alloc | apply pw_below_drewN | apply below_drew1 | refine below_set ?_ GE129.out) | exact HB.out))); (case side2 => exact HC128_0.out); rintro e w' ⟨rfl, ⟨nd, rfl⟩⟩; refine ⟨_, rfl, ?_⟩))
                go_ret
                exact ⟨by first | rfl | (simp [errW_none, errW_some] <;> rfl) | (simp [*, errW_none, errW_some] <;> rfl), by repeat (first | (with_reducible first | exact HB.out | apply below_alloc | apply pw_below_drewN | apply below_drew1 | refine below_set ?_ GE129.out) | exact HB.out)⟩
              · replace c9 := Bool.eq_false_iff.mpr c9
                subst c9
                have H1 : (laws_FnTextEscapeNone.l0 k1 l0 l0 (l0.length : Int) (wrap64 (x11_1 + 1))) = some r := by rw [if_neg (show ¬ (false = true) by decide)] at H; exact H
                clear H
                have H := H1
                clear H1
                have H' := Aside0.mk H
                clear H
                have p128 : 0 ≤ (x11_1 : Int) := of_decide_eq_true (by first | (with_reducible assumption) | assumption)
                have q128 : x11_1 < (l0.length : Int) := of_decide_eq_true (by first | (with_reducible assumption) | assumption)
                obtain ⟨ad128, A128_0, c128_0, e128, hx128_0, hx128_1, hl128_0, hi128_0⟩ := at_T26 HR0.out x11_1 p128 q128
                cases e128
                replace hx128_0 := (HB.out.cell (World.block_lt_of_cell? w _ hx128_0)).trans hx128_0
                replace hx128_1 := (HB.out.cell (World.block_lt_of_cell? w _ hx128_1)).trans hx128_1
                have HR128_0 := Aside0.mk hi128_0
                have HC128_0 := Aside0.mk hl128_0
                clear hi128_0 hl128_0
                replace p128 := eq_true p128
                replace q128 := eq_true q128
                go_wp2_with (first | ((with_reducible refine gate_dst (N := 4) rfl ?_); refine box_event ?hg (N := 4) ?hd (cs := #[.slice none 0 0, .string (⟨#[]⟩ : ByteArray)]) (t := 26) ?hr ?_; (case hd => rfl); (case hg => rfl); (case hr => first | (go_simp; done) | (go_simp; rfl)); intro gb129 hg w12 hbox hb; have n0_ := Aside0.mk (below_step (by repeat (first | (with_reducible first | exact HB.out | apply below_alloc | apply pw_below_drewN | apply below_drew1) | exact HB.out)) hb); have n1_ := Aside0.mk (hbox); have n2_ := Aside0.mk ((by rw [hg]; exact (below_size (by repeat (first | (with_reducible first | exact HB.out | apply below_alloc | apply pw_below_drewN | apply below_drew1) | exact HB.out))) : w.heap.size ≤ gb129)); have n3_ := Aside0.mk ((by rw [hg]; exact (below_size (by repeat (first | (with_reducible first | exact HB.out | apply below_alloc | apply pw_below_drewN | apply below_drew1) | exact HB.out))) : w.heap.size ≤ gb129)); clear HB; have HB := n0_; have BK129 := n1_; have GW129 := n2_; have GE129 := n3_; clear n0_ n1_ n2_ n3_; clear hb hbox hg; have hcz13_0 : w12.cell? ⟨gb129, 0, none⟩ = some (.slice none 0 0) := (blk_cell BK129.out 0).trans rfl; have hcz13_1 : w12.cell? ⟨gb129, 1, none⟩ = some (.string (⟨#[]⟩ : ByteArray)) := (blk_cell BK129.out 1).trans rfl; have hfz13_0 := blk_frozen BK129.out 0; have hfz13_1 := blk_frozen BK129.out 1) | ((with_reducible refine gate_callee (f := 7) rfl ?_); refine goesL_ (some 17) rfl rfl Tryd.func7 (by kernel_rfl) rfl #[.slice A128_0 ((rd_T26 l0 x11_1).f0).length c128_0, .int .i64 0] rfl (by (try simp only [List.map_toArray, List.map_cons, List.map_nil]); first | done | rfl | (simp only [List.length_drop, List.length_take]; rfl)) ?_; (with_reducible refine (spec_TxAmong.calls k1 _ _ ((rd_T26 l0 x11_1).f0) 0 false _ ?side1 ?side2 A8.out).mono ?_); (case side1 => exact Kd.C_below HR128_0.out (by repeat (first | (with_reducible first | exact HB.out | apply below_alloc | apply pw_below_drewN | apply below_drew1 | refine below_set ?_ GE129.out) | exact HB.out))); (case side2 => exact HC128_0.out); rintro e w' ⟨rfl, ⟨nd, rfl⟩⟩; refine ⟨_, rfl, ?_⟩))
                go_roundg k1
                case measure => have := HK1.out; omega
                case rel => exact ⟨(wrap64 (x11_1 + 1)), (by first | rfl | (simp; done) | (simp [*]; done)), H', ⟨by have := HK1.out; omega⟩, ⟨by repeat (first | (with_reducible first | exact HB.out | apply below_alloc | apply pw_below_drewN | apply below_drew1 | refine below_set ?_ GE129.out) | exact HB.out)⟩⟩
            · rw [if_neg c7] at H
              exact absurd H (by simp)
          · rw [if_neg c6] at H
            exact absurd H (by simp)
        · rw [if_neg c5] at H
          have c5b0 : decide (x11_1 < (l0.length : Int)) = false := decide_eq_false c5
          clear c5
          replace H := Option.bind_eq_some_iff.mp H
          obtain ⟨t131, A140, H⟩ := H
          replace H : ((spec_TxGood.f k1 l0 false).bind fun t132 => (if t132 = true then ((impl_TextEscape.f t131 (⟨#[]⟩ : ByteArray)).bind fun t133 => (some (t133.toList == t131.toList))) else (some true))) = some r := H
          have A14 := Aside0.mk A140
          clear A140
          replace H := Option.bind_eq_some_iff.mp H
          obtain ⟨t132, A150, H⟩ := H
          replace H : (if t132 = true then ((impl_TextEscape.f t131 (⟨#[]⟩ : ByteArray)).bind fun t133 => (some (t133.toList == t131.toList))) else (some true)) = some r := H
          have A15 := Aside0.mk A150
          clear A150
          by_cases c16 : t132 = true
          · subst c16
            have H1 : ((impl_TextEscape.f t131 (⟨#[]⟩ : ByteArray)).bind fun t133 => (some (t133.toList == t131.toList))) = some r := by rw [if_pos rfl] at H; exact H
            clear H
            have H := H1
            clear H1
            replace H := Option.bind_eq_some_iff.mp H
            obtain ⟨t133, A170, H⟩ := H
            replace H : (some (t133.toList == t131.toList)) = some r := H
            have A17 := Aside0.mk A170
            clear A170
            obtain rfl := Option.some.inj H
            go_wp2_with (first | ((with_reducible refine gate_callee (f := 8) rfl ?_); refine goesL_ (some 20) rfl rfl Tryd.func8 (by kernel_rfl) rfl #[.slice A0 l0.length c0] rfl (by (try simp only [List.map_toArray, List.map_cons, List.map_nil]); first | done | rfl | (simp only [List.length_drop, List.length_take]; rfl)) ?_; (with_reducible refine (spec_TxWritten.calls k1 _ _ l0 t131 _ ?side1 ?side2 A14.out (Es.Tb.below HT_P.out (by repeat (first | (with_reducible first | exact HB.out | apply below_alloc | apply pw_below_drewN | apply below_drew1 | refine below_set ?_ (by assumption)) | exact HB.out | exact Below.refl _ _)))).mono ?_); (case side1 => repeat (first | exact (Kd.C_below HR0.out HB.out) | (with_reducible refine Kd.C_alloc ?_ _) | (with_reducible refine Kd.C_drewN ?_ _) | (with_reducible refine Kd.C_drew ?_))); (case side2 => exact HC0.out); rintro e w18 ⟨rfl, hb⟩; refine ⟨_, rfl, ?_⟩; have n0_ := Aside0.mk (below_step (by repeat (first | (with_reducible first | exact HB.out | apply below_alloc | apply pw_below_drewN | apply below_drew1) | exact HB.out)) hb); clear HB; have HB := n0_; clear n0_; (try clear hb); (try clear hb2); (try clear hk); (try clear hi)) | ((with_reducible refine gate_callee (f := 9) rfl ?_); refine goesL_ (some 22) rfl rfl Tryd.func9 (by kernel_rfl) rfl #[.slice A0 l0.length c0, .bool false] rfl (by (try simp only [List.map_toArray, List.map_cons, List.map_nil]); first | done | rfl | (simp only [List.length_drop, List.length_take]; rfl)) ?_; (with_reducible refine (spec_TxGood.calls k1 _ _ l0 false true _ ?side1 ?side2 A15.out).mono ?_); (case side1 => repeat (first | exact (Kd.C_below HR0.out HB.out) | (with_reducible refine Kd.C_alloc ?_ _) | (with_reducible refine Kd.C_drewN ?_ _) | (with_reducible refine Kd.C_drew ?_))); (case side2 => exact HC0.out); rintro e w19 ⟨rfl, hb⟩; refine ⟨_, rfl, ?_⟩; have n0_ := Aside0.mk (below_step (by repeat (first | (with_reducible first | exact HB.out | apply below_alloc | apply pw_below_drewN | apply below_drew1) | exact HB.out)) hb); clear HB; have HB := n0_; clear n0_; (try clear hb); (try clear hb2); (try clear hk); (try clear hi)) | (go_at_call 10; (with_reducible refine (impl_TextEscape.calls t131 (⟨#[]⟩ : ByteArray) t133 _ A17.out).mono ?_); rintro e w20 ⟨rfl, hb⟩; have n0_ := Aside0.mk (below_step (by repeat (first | (with_reducible first | exact HB.out | apply below_alloc | apply pw_below_drewN | apply below_drew1) | exact HB.out)) hb); clear HB; have HB := n0_; clear n0_; (try clear hb); (try clear hb2); (try clear hk); (try clear hi)))
            go_ret
            exact ⟨by first | rfl | (simp [errW_none, errW_some] <;> rfl) | (simp [*, errW_none, errW_some] <;> rfl), by repeat (first | (with_reducible first | exact HB.out | apply below_alloc | apply pw_below_drewN | apply below_drew1) | exact HB.out)⟩
          · replace c16 := Bool.eq_false_iff.mpr c16
            subst c16
            have H1 : (some true) = some r := by rw [if_neg (show ¬ (false = true) by decide)] at H; exact H
            clear H
            have H := H1
            clear H1
            obtain rfl := Option.some.inj H
            go_wp2_with (first | ((with_reducible refine gate_callee (f := 8) rfl ?_); refine goesL_ (some 20) rfl rfl Tryd.func8 (by kernel_rfl) rfl #[.slice A0 l0.length c0] rfl (by (try simp only [List.map_toArray, List.map_cons, List.map_nil]); first | done | rfl | (simp only [List.length_drop, List.length_take]; rfl)) ?_; (with_reducible refine (spec_TxWritten.calls k1 _ _ l0 t131 _ ?side1 ?side2 A14.out (Es.Tb.below HT_P.out (by repeat (first | (with_reducible first | exact HB.out | apply below_alloc | apply pw_below_drewN | apply below_drew1 | refine below_set ?_ (by assumption)) | exact HB.out | exact Below.refl _ _)))).mono ?_); (case side1 => repeat (first | exact (Kd.C_below HR0.out HB.out) | (with_reducible refine Kd.C_alloc ?_ _) | (with_reducible refine Kd.C_drewN ?_ _) | (with_reducible refine Kd.C_drew ?_))); (case side2 => exact HC0.out); rintro e w21 ⟨rfl, hb⟩; refine ⟨_, rfl, ?_⟩; have n0_ := Aside0.mk (below_step (by repeat (first | (with_reducible first | exact HB.out | apply below_alloc | apply pw_below_drewN | apply below_drew1) | exact HB.out)) hb); clear HB; have HB := n0_; clear n0_; (try clear hb); (try clear hb2); (try clear hk); (try clear hi)) | ((with_reducible refine gate_callee (f := 9) rfl ?_); refine goesL_ (some 22) rfl rfl Tryd.func9 (by kernel_rfl) rfl #[.slice A0 l0.length c0, .bool false] rfl (by (try simp only [List.map_toArray, List.map_cons, List.map_nil]); first | done | rfl | (simp only [List.length_drop, List.length_take]; rfl)) ?_; (with_reducible refine (spec_TxGood.calls k1 _ _ l0 false false _ ?side1 ?side2 A15.out).mono ?_); (case side1 => repeat (first | exact (Kd.C_below HR0.out HB.out) | (with_reducible refine Kd.C_alloc ?_ _) | (with_reducible refine Kd.C_drewN ?_ _) | (with_reducible refine Kd.C_drew ?_))); (case side2 => exact HC0.out); rintro e w22 ⟨rfl, hb⟩; refine ⟨_, rfl, ?_⟩; have n0_ := Aside0.mk (below_step (by repeat (first | (with_reducible first | exact HB.out | apply below_alloc | apply pw_below_drewN | apply below_drew1) | exact HB.out)) hb); clear HB; have HB := n0_; clear n0_; (try clear hb); (try clear hb2); (try clear hk); (try clear hi)))
            go_ret
            exact ⟨by first | rfl | (simp [errW_none, errW_some] <;> rfl) | (simp [*, errW_none, errW_some] <;> rfl), by repeat (first | (with_reducible first | exact HB.out | apply below_alloc | apply pw_below_drewN | apply below_drew1) | exact HB.out)⟩
  · replace c3 := Bool.eq_false_iff.mpr c3
    subst c3
    have H1 : (some true) = some r := by rw [if_neg (show ¬ (false = true) by decide)] at H; exact H
    clear H
    have H := H1
    clear H1
    obtain rfl := Option.some.inj H
    go_enter Tryd.func3, Tryd.ntmps3
    go_wp2_with (first | ((with_reducible refine gate_callee (f := 6) rfl ?_); refine goesL_ (some 7) rfl rfl Tryd.func6 (by kernel_rfl) rfl #[.slice A0 l0.length c0] rfl (by (try simp only [List.map_toArray, List.map_cons, List.map_nil]); first | done | rfl | (simp only [List.length_drop, List.length_take]; rfl)) ?_; (with_reducible refine (laws_zzFits15.calls k _ _ l0 false _ ?side1 ?side2 A2.out).mono ?_); (case side1 => repeat (first | exact HR0.out | (with_reducible refine Kd.C_alloc ?_ _) | (with_reducible refine Kd.C_drewN ?_ _) | (with_reducible refine Kd.C_drew ?_))); (case side2 => exact HC0.out); rintro e w23 ⟨rfl, hb⟩; refine ⟨_, rfl, ?_⟩; have n0_ := Aside0.mk (below_step (by repeat (first | (with_reducible first | exact HB.out | apply below_alloc | apply pw_below_drewN | apply below_drew1) | exact HB.out)) hb); clear HB; have HB := n0_; clear n0_; (try clear hb); (try clear hb2); (try clear hk); (try clear hi)))
    go_ret
    exact ⟨by first | rfl | (simp [errW_none, errW_some] <;> rfl) | (simp [*, errW_none, errW_some] <;> rfl), by repeat (first | (with_reducible first | exact HB.out | apply below_alloc | apply pw_below_drewN | apply below_drew1) | exact HB.out)⟩

end Go.Proofs.YtenclpkeffhjaaaDoor.GFnTextEscapeNone
