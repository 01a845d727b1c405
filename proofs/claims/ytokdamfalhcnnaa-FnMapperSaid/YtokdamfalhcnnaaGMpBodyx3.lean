-- Written by gprint.py, a program of this session over the kit's printer, with contracts of its own for what the printer does not take. Not trusted: Lean checks it.
import Derived.Test.YtokdamfalhcnnaaGMpBodyx0
import Derived.Test.YtokdamfalhcnnaaGMpBodyx2
namespace Go.Proofs.Ytokdamfalhcnnaa.GMpBody
open Go.RowKit Go.Proofs.Ytokdamfalhcnnaa.Itr Go.Proofs.YtokdamfalhcnnaaW.PrintWords Go.Proofs.YtokdamfalhcnnaaW.PrintLast Go.Proofs.YtokdamfalhcnnaaW.PrintMore
attribute [local go_sem] max2_int min2_int max_two min_two max_three min_three max_four min_four   -- for this text's walks alone
set_option linter.unusedVariables false
set_option linter.unusedSimpArgs false

/-! ### spec_TwMapped_With: function 5 -/
def spec_TwMapped_With.f (k : Nat) (a0_0 : Bool) (l0_1 : List (S29)) (a1_0 : Int) (a1_1 : Int) : Option (Bool × (List (S29))) := (spec_TwMapped_At.f k a0_0 l0_1 a1_0).bind fun bt107 => (if 0 ≤ bt107.1 then (if bt107.1 ≤ (l0_1.length : Int) then ((some (l0_1.drop (bt107.1 : Int).toNat : List (S29))).bind fun y109 => (if bt107.2 = true then (if 1 ≤ (y109.length : Int) then ((some (y109.drop 1 : List (S29))).bind fun y113 => ((some (([] : List (S29)) : List (S29))).bind fun y117 => ((some (l0_1.take (bt107.1 : Int).toNat : List (S29))).bind fun y120 => (if y117.length + y120.length < 8796093022208 then ((some (y117 ++ y120 : List (S29))).bind fun y124 => ((some (([(⟨a1_0, a1_1⟩ : S29)] : List (S29)) : List (S29))).bind fun y127 => (if y124.length + y127.length < 8796093022208 then ((some (y124 ++ y127 : List (S29))).bind fun y130 => (if y130.length + y113.length < 8796093022208 then (some (false, (y130 ++ y113))) else (none))) else (none)))) else (none))))) else (none)) else ((some (([] : List (S29)) : List (S29))).bind fun y136 => ((some (l0_1.take (bt107.1 : Int).toNat : List (S29))).bind fun y139 => (if y136.length + y139.length < 8796093022208 then ((some (y136 ++ y139 : List (S29))).bind fun y143 => ((some (([(⟨a1_0, a1_1⟩ : S29)] : List (S29)) : List (S29))).bind fun y146 => (if y143.length + y146.length < 8796093022208 then ((some (y143 ++ y146 : List (S29))).bind fun y149 => (if y149.length + y109.length < 8796093022208 then (some (false, (y149 ++ y109))) else (none))) else (none)))) else (none)))))) else (none)) else (none))
theorem spec_TwMapped_With.mono : ∀ a0 a1 a2 a3 k, LeO (spec_TwMapped_With.f k a0 a1 a2 a3) (spec_TwMapped_With.f (k + 1) a0 a1 a2 a3) := by
  intro a0 a1 a2 a3 k
  unfold spec_TwMapped_With.f
  repeat' first
      | (with_reducible exact spec_TwMapped_At.mono _ _ _ _)
      | (with_reducible exact LeO.refl _)
      | (with_reducible exact LeO.none _)
      | (with_reducible refine LeO.ite ?_ ?_)
      | (with_reducible refine LeO.bind ?_ (fun _ => ?_))
      | exact spec_TwMapped_At.mono _ _ _ _
      | exact LeO.none _
      | refine LeO.ite ?_ ?_
      | refine LeO.bind ?_ (fun _ => ?_)
def spec_TwMapped_With.T5 : Bool × List (List Nat × List Nat) := (true, [([], []), ([], []), ([1], [1]), ([], []), ([2, 3], [2, 3]), ([0, 4], [0, 4]), ([], []), ([6], [6]), ([5, 7, 5], [5, 7]), ([], []), ([8, 9, 8], [8, 9]), ([10], [10]), ([11, 10, 0, 1, 2, 3, 4, 5, 6, 7, 8, 9, 10, 11], [11])])
def spec_TwMapped_With.B5 : List Nat := [0, 0, 2, 0, 14, 31, 0, 64, 255, 0, 1023, 2047, 4095]
theorem spec_TwMapped_With.tab5 : rtab .any (opsOf Try.f5 5) = spec_TwMapped_With.T5 := by kernel_rfl
theorem spec_TwMapped_With.bits5 : waitsOk spec_TwMapped_With.T5.2 spec_TwMapped_With.B5 = true := by kernel_rfl
set_option maxHeartbeats 8000000 in
set_option maxRecDepth 100000 in
theorem spec_TwMapped_With.calls (k : Nat) (a0_0 : Bool) (A0_1 : Option Addr) (c0_1 : Nat) (l0_1 : List (S29)) (a1_0 : Int) (a1_1 : Int) (r1 : Bool) (r2 : List (S29)) (w : World) (hr0_1 : Kd.C k29 w A0_1 l0_1.length l0_1) (hc0_1 : l0_1.length ≤ c0_1) (h : spec_TwMapped_With.f k a0_0 l0_1 a1_0 a1_1 = some (r1, r2)) :
    Calls Try.prog 5 #[.agg #[.bool a0_0, .slice A0_1 l0_1.length c0_1], .agg #[.int .i64 a1_0, .int .i64 a1_1]] w fun e w' => ∃ v1_ : Value, e = .returned (.agg #[.bool r1, v1_]) ∧ Kd.R k29 29 w' w.heap.size (fun _ => True) v1_ r2 ∧ Below w.heap.size w w' := by
  have hu27 := Try.underlying27
  have hu29 := Try.underlying29
  have HR0_1 := Aside0.mk hr0_1
  have HC0_1 := Aside0.mk hc0_1
  clear hr0_1 hc0_1
  have HB := Aside0.mk (Below.refl w.heap.size w)
  have H : ((spec_TwMapped_At.f k a0_0 l0_1 a1_0).bind fun bt107 => (if 0 ≤ bt107.1 then (if bt107.1 ≤ (l0_1.length : Int) then ((some (l0_1.drop (bt107.1 : Int).toNat : List (S29))).bind fun y109 => (if bt107.2 = true then (if 1 ≤ (y109.length : Int) then ((some (y109.drop 1 : List (S29))).bind fun y113 => ((some (([] : List (S29)) : List (S29))).bind fun y117 => ((some (l0_1.take (bt107.1 : Int).toNat : List (S29))).bind fun y120 => (if y117.length + y120.length < 8796093022208 then ((some (y117 ++ y120 : List (S29))).bind fun y124 => ((some (([(⟨a1_0, a1_1⟩ : S29)] : List (S29)) : List (S29))).bind fun y127 => (if y124.length + y127.length < 8796093022208 then ((some (y124 ++ y127 : List (S29))).bind fun y130 => (if y130.length + y113.length < 8796093022208 then (some (false, (y130 ++ y113))) else (none))) else (none)))) else (none))))) else (none)) else ((some (([] : List (S29)) : List (S29))).bind fun y136 => ((some (l0_1.take (bt107.1 : Int).toNat : List (S29))).bind fun y139 => (if y136.length + y139.length < 8796093022208 then ((some (y136 ++ y139 : List (S29))).bind fun y143 => ((some (([(⟨a1_0, a1_1⟩ : S29)] : List (S29)) : List (S29))).bind fun y146 => (if y143.length + y146.length < 8796093022208 then ((some (y143 ++ y146 : List (S29))).bind fun y149 => (if y149.length + y109.length < 8796093022208 then (some (false, (y149 ++ y109))) else (none))) else (none)))) else (none)))))) else (none)) else (none))) = some (r1, r2) := h
  clear h
  replace H := Option.bind_eq_some_iff.mp H
  obtain ⟨⟨t107, t108⟩, A30, H⟩ := H
  replace H : (if 0 ≤ t107 then (if t107 ≤ (l0_1.length : Int) then ((some (l0_1.drop (t107 : Int).toNat : List (S29))).bind fun y109 => (if t108 = true then (if 1 ≤ (y109.length : Int) then ((some (y109.drop 1 : List (S29))).bind fun y113 => ((some (([] : List (S29)) : List (S29))).bind fun y117 => ((some (l0_1.take (t107 : Int).toNat : List (S29))).bind fun y120 => (if y117.length + y120.length < 8796093022208 then ((some (y117 ++ y120 : List (S29))).bind fun y124 => ((some (([(⟨a1_0, a1_1⟩ : S29)] : List (S29)) : List (S29))).bind fun y127 => (if y124.length + y127.length < 8796093022208 then ((some (y124 ++ y127 : List (S29))).bind fun y130 => (if y130.length + y113.length < 8796093022208 then (some (false, (y130 ++ y113))) else (none))) else (none)))) else (none))))) else (none)) else ((some (([] : List (S29)) : List (S29))).bind fun y136 => ((some (l0_1.take (t107 : Int).toNat : List (S29))).bind fun y139 => (if y136.length + y139.length < 8796093022208 then ((some (y136 ++ y139 : List (S29))).bind fun y143 => ((some (([(⟨a1_0, a1_1⟩ : S29)] : List (S29)) : List (S29))).bind fun y146 => (if y143.length + y146.length < 8796093022208 then ((some (y143 ++ y146 : List (S29))).bind fun y149 => (if y149.length + y109.length < 8796093022208 then (some (false, (y149 ++ y109))) else (none))) else (none)))) else (none)))))) else (none)) else (none)) = some (r1, r2) := H
  have A3 := Aside0.mk A30
  clear A30
  by_cases c4 : 0 ≤ t107
  · rw [if_pos c4] at H
    have c4b0 := eq_true c4
    have c4b1 : decide (0 ≤ t107) = true := decide_eq_true c4
    clear c4
    by_cases c5 : t107 ≤ (l0_1.length : Int)
    · rw [if_pos c5] at H
      have c5b0 := eq_true c5
      have c5b1 : decide (t107 ≤ (l0_1.length : Int)) = true := decide_eq_true c5
      clear c5
      obtain ⟨y109, hy109⟩ : ∃ y_ : List (S29), y_ = (l0_1.drop (t107 : Int).toNat) := ⟨_, rfl⟩
      replace H : (if t108 = true then (if 1 ≤ (y109.length : Int) then ((some (y109.drop 1 : List (S29))).bind fun y113 => ((some (([] : List (S29)) : List (S29))).bind fun y117 => ((some (l0_1.take (t107 : Int).toNat : List (S29))).bind fun y120 => (if y117.length + y120.length < 8796093022208 then ((some (y117 ++ y120 : List (S29))).bind fun y124 => ((some (([(⟨a1_0, a1_1⟩ : S29)] : List (S29)) : List (S29))).bind fun y127 => (if y124.length + y127.length < 8796093022208 then ((some (y124 ++ y127 : List (S29))).bind fun y130 => (if y130.length + y113.length < 8796093022208 then (some (false, (y130 ++ y113))) else (none))) else (none)))) else (none))))) else (none)) else ((some (([] : List (S29)) : List (S29))).bind fun y136 => ((some (l0_1.take (t107 : Int).toNat : List (S29))).bind fun y139 => (if y136.length + y139.length < 8796093022208 then ((some (y136 ++ y139 : List (S29))).bind fun y143 => ((some (([(⟨a1_0, a1_1⟩ : S29)] : List (S29)) : List (S29))).bind fun y146 => (if y143.length + y146.length < 8796093022208 then ((some (y143 ++ y146 : List (S29))).bind fun y149 => (if y149.length + y109.length < 8796093022208 then (some (false, (y149 ++ y109))) else (none))) else (none)))) else (none))))) = some (r1, r2) := by first | (rw [hy109]; with_reducible exact H) | (have H2_ := (Option.bind_some _ _).symm.trans H; rw [hy109]; with_reducible exact H2_) | (have H2_ := (Option.bind_some _ _).symm.trans H; with_reducible exact H2_) | with_reducible exact H | (rw [hy109]; exact H) | exact H
      have Ny109 := Aside0.mk hy109
      clear hy109
      by_cases c6 : t108 = true
      · subst c6
        have H1 : (if 1 ≤ (y109.length : Int) then ((some (y109.drop 1 : List (S29))).bind fun y113 => ((some (([] : List (S29)) : List (S29))).bind fun y117 => ((some (l0_1.take (t107 : Int).toNat : List (S29))).bind fun y120 => (if y117.length + y120.length < 8796093022208 then ((some (y117 ++ y120 : List (S29))).bind fun y124 => ((some (([(⟨a1_0, a1_1⟩ : S29)] : List (S29)) : List (S29))).bind fun y127 => (if y124.length + y127.length < 8796093022208 then ((some (y124 ++ y127 : List (S29))).bind fun y130 => (if y130.length + y113.length < 8796093022208 then (some (false, (y130 ++ y113))) else (none))) else (none)))) else (none))))) else (none)) = some (r1, r2) := by rw [if_pos rfl] at H; exact H
        clear H
        have H := H1
        clear H1
        by_cases c7 : 1 ≤ (y109.length : Int)
        · rw [if_pos c7] at H
          have c7b0 := eq_true c7
          have c7b1 : decide (1 ≤ (y109.length : Int)) = true := decide_eq_true c7
          clear c7
          obtain ⟨y113, hy113⟩ : ∃ y_ : List (S29), y_ = (y109.drop 1) := ⟨_, rfl⟩
          replace H : ((some (([] : List (S29)) : List (S29))).bind fun y117 => ((some (l0_1.take (t107 : Int).toNat : List (S29))).bind fun y120 => (if y117.length + y120.length < 8796093022208 then ((some (y117 ++ y120 : List (S29))).bind fun y124 => ((some (([(⟨a1_0, a1_1⟩ : S29)] : List (S29)) : List (S29))).bind fun y127 => (if y124.length + y127.length < 8796093022208 then ((some (y124 ++ y127 : List (S29))).bind fun y130 => (if y130.length + y113.length < 8796093022208 then (some (false, (y130 ++ y113))) else (none))) else (none)))) else (none)))) = some (r1, r2) := by first | (rw [hy113]; with_reducible exact H) | (have H2_ := (Option.bind_some _ _).symm.trans H; rw [hy113]; with_reducible exact H2_) | (have H2_ := (Option.bind_some _ _).symm.trans H; with_reducible exact H2_) | with_reducible exact H | (rw [hy113]; exact H) | exact H
          have Ny113 := Aside0.mk hy113
          clear hy113
          obtain ⟨y117, hy117⟩ : ∃ y_ : List (S29), y_ = (([] : List (S29))) := ⟨_, rfl⟩
          replace H : ((some (l0_1.take (t107 : Int).toNat : List (S29))).bind fun y120 => (if y117.length + y120.length < 8796093022208 then ((some (y117 ++ y120 : List (S29))).bind fun y124 => ((some (([(⟨a1_0, a1_1⟩ : S29)] : List (S29)) : List (S29))).bind fun y127 => (if y124.length + y127.length < 8796093022208 then ((some (y124 ++ y127 : List (S29))).bind fun y130 => (if y130.length + y113.length < 8796093022208 then (some (false, (y130 ++ y113))) else (none))) else (none)))) else (none))) = some (r1, r2) := by first | (rw [hy117]; with_reducible exact H) | (have H2_ := (Option.bind_some _ _).symm.trans H; rw [hy117]; with_reducible exact H2_) | (have H2_ := (Option.bind_some _ _).symm.trans H; with_reducible exact H2_) | with_reducible exact H | (rw [hy117]; exact H) | exact H
          have Ny117 := Aside0.mk hy117
          clear hy117
          have c8b0 := eq_true (of_decide_eq_true (by first | (with_reducible assumption) | assumption) : 0 ≤ t107)
          have c9b0 := eq_true (of_decide_eq_true (by first | (with_reducible assumption) | assumption) : t107 ≤ (l0_1.length : Int))
          obtain ⟨y120, hy120⟩ : ∃ y_ : List (S29), y_ = (l0_1.take (t107 : Int).toNat) := ⟨_, rfl⟩
          replace H : (if y117.length + y120.length < 8796093022208 then ((some (y117 ++ y120 : List (S29))).bind fun y124 => ((some (([(⟨a1_0, a1_1⟩ : S29)] : List (S29)) : List (S29))).bind fun y127 => (if y124.length + y127.length < 8796093022208 then ((some (y124 ++ y127 : List (S29))).bind fun y130 => (if y130.length + y113.length < 8796093022208 then (some (false, (y130 ++ y113))) else (none))) else (none)))) else (none)) = some (r1, r2) := by first | (rw [hy120]; with_reducible exact H) | (have H2_ := (Option.bind_some _ _).symm.trans H; rw [hy120]; with_reducible exact H2_) | (have H2_ := (Option.bind_some _ _).symm.trans H; with_reducible exact H2_) | with_reducible exact H | (rw [hy120]; exact H) | exact H
          have Ny120 := Aside0.mk hy120
          clear hy120
          by_cases c10 : y117.length + y120.length < 8796093022208
          · rw [if_pos c10] at H
            have LMc10 := Aside0.mk c10
            clear c10
            obtain ⟨y124, hy124⟩ : ∃ y_ : List (S29), y_ = (y117 ++ y120) := ⟨_, rfl⟩
            replace H : ((some (([(⟨a1_0, a1_1⟩ : S29)] : List (S29)) : List (S29))).bind fun y127 => (if y124.length + y127.length < 8796093022208 then ((some (y124 ++ y127 : List (S29))).bind fun y130 => (if y130.length + y113.length < 8796093022208 then (some (false, (y130 ++ y113))) else (none))) else (none))) = some (r1, r2) := by first | (rw [hy124]; with_reducible exact H) | (have H2_ := (Option.bind_some _ _).symm.trans H; rw [hy124]; with_reducible exact H2_) | (have H2_ := (Option.bind_some _ _).symm.trans H; with_reducible exact H2_) | with_reducible exact H | (rw [hy124]; exact H) | exact H
            have Ny124 := Aside0.mk hy124
            clear hy124
            obtain ⟨y127, hy127⟩ : ∃ y_ : List (S29), y_ = (([(⟨a1_0, a1_1⟩ : S29)] : List (S29))) := ⟨_, rfl⟩
            replace H : (if y124.length + y127.length < 8796093022208 then ((some (y124 ++ y127 : List (S29))).bind fun y130 => (if y130.length + y113.length < 8796093022208 then (some (false, (y130 ++ y113))) else (none))) else (none)) = some (r1, r2) := by first | (rw [hy127]; with_reducible exact H) | (have H2_ := (Option.bind_some _ _).symm.trans H; rw [hy127]; with_reducible exact H2_) | (have H2_ := (Option.bind_some _ _).symm.trans H; with_reducible exact H2_) | with_reducible exact H | (rw [hy127]; exact H) | exact H
            have Ny127 := Aside0.mk hy127
            clear hy127
            by_cases c11 : y124.length + y127.length < 8796093022208
            · rw [if_pos c11] at H
              have LMc11 := Aside0.mk c11
              clear c11
              obtain ⟨y130, hy130⟩ : ∃ y_ : List (S29), y_ = (y124 ++ y127) := ⟨_, rfl⟩
              replace H : (if y130.length + y113.length < 8796093022208 then (some (false, (y130 ++ y113))) else (none)) = some (r1, r2) := by first | (rw [hy130]; with_reducible exact H) | (have H2_ := (Option.bind_some _ _).symm.trans H; rw [hy130]; with_reducible exact H2_) | (have H2_ := (Option.bind_some _ _).symm.trans H; with_reducible exact H2_) | with_reducible exact H | (rw [hy130]; exact H) | exact H
              have Ny130 := Aside0.mk hy130
              clear hy130
              by_cases c12 : y130.length + y113.length < 8796093022208
              · rw [if_pos c12] at H
                have LMc12 := Aside0.mk c12
                clear c12
                obtain ⟨y133, hy133⟩ : ∃ y_ : List (S29), y_ = (y130 ++ y113) := ⟨_, rfl⟩
                replace H : (some (false, y133)) = some (r1, r2) := by first | (rw [hy133]; with_reducible exact H) | (have H2_ := (Option.bind_some _ _).symm.trans H; rw [hy133]; with_reducible exact H2_) | (have H2_ := (Option.bind_some _ _).symm.trans H; with_reducible exact H2_) | with_reducible exact H | (rw [hy133]; exact H) | exact H
                have Ny133 := Aside0.mk hy133
                clear hy133
                simp only [Option.some.injEq, Prod.mk.injEq] at H
                obtain ⟨rfl, rfl⟩ := H
                go_enter Try.func5, Try.ntmps5
                try go_wp2_with (first | ((with_reducible refine gate_dst (N := 2) rfl ?_); refine box_event ?hg (N := 2) ?hd (cs := #[.bool a0_0, .slice A0_1 l0_1.length c0_1]) (t := 27) ?hr ?_; (case hd => rfl); (case hg => rfl); (case hr => first | (go_simp; done) | (go_simp; rfl)); intro gb104 hg w13 hbox hb; have n0_ := Aside0.mk (below_step (by repeat (first | (with_reducible first | exact HB.out | apply below_alloc | apply pw_below_drewN | apply below_drew1) | exact HB.out)) hb); have n1_ := Aside0.mk (hbox); have n2_ := Aside0.mk ((by rw [hg]; exact (below_size (by repeat (first | (with_reducible first | exact HB.out | apply below_alloc | apply pw_below_drewN | apply below_drew1) | exact HB.out))) : w.heap.size ≤ gb104)); have n3_ := Aside0.mk ((by rw [hg]; exact (below_size (by repeat (first | (with_reducible first | exact HB.out | apply below_alloc | apply pw_below_drewN | apply below_drew1) | exact HB.out))) : w.heap.size ≤ gb104)); clear HB; have HB := n0_; have BK104 := n1_; have GW104 := n2_; have GE104 := n3_; clear n0_ n1_ n2_ n3_; clear hb hbox hg) | ((with_reducible refine gate_dst (N := 3) rfl ?_); refine box_event ?hg (N := 3) ?hd (cs := #[.int .i64 a1_0, .int .i64 a1_1]) (t := 29) ?hr ?_; (case hd => rfl); (case hg => rfl); (case hr => first | (go_simp; done) | (go_simp; rfl)); intro gb105 hg w14 hbox hb; have n0_ := Aside0.mk (blk_below (g := gb104) (o := .cells #[.bool a0_0, .slice A0_1 l0_1.length c0_1] 27 (0, 0)) (by (with_reducible repeat (first | refine blk_drewN ?_ _ | refine blk_drew ?_ | refine blk_alloc ?_ _)); exact BK104.out) hb); have n1_ := Aside0.mk (below_step (by repeat (first | (with_reducible first | exact HB.out | apply below_alloc | apply pw_below_drewN | apply below_drew1 | refine below_set ?_ GE104.out) | exact HB.out)) hb); have n2_ := Aside0.mk (hbox); have n3_ := Aside0.mk ((by rw [hg]; exact (below_size (by repeat (first | (with_reducible first | exact HB.out | apply below_alloc | apply pw_below_drewN | apply below_drew1 | refine below_set ?_ GE104.out) | exact HB.out))) : w.heap.size ≤ gb105)); have n4_ := Aside0.mk ((by rw [hg]; exact (below_size (by repeat (first | (with_reducible first | exact HB.out | apply below_alloc | apply pw_below_drewN | apply below_drew1 | refine below_set ?_ GE104.out) | exact HB.out))) : w.heap.size ≤ gb105)); have n5_ := Aside0.mk ((by rw [hg]; exact Nat.ne_of_lt (blk_lt (g := gb104) (o := .cells #[.bool a0_0, .slice A0_1 l0_1.length c0_1] 27 (0, 0)) (by (with_reducible repeat (first | refine blk_drewN ?_ _ | refine blk_drew ?_ | refine blk_alloc ?_ _)); exact BK104.out)) : gb104 ≠ gb105)); have n6_ := Aside0.mk ((by rw [hg]; exact Nat.ne_of_gt (blk_lt (g := gb104) (o := .cells #[.bool a0_0, .slice A0_1 l0_1.length c0_1] 27 (0, 0)) (by (with_reducible repeat (first | refine blk_drewN ?_ _ | refine blk_drew ?_ | refine blk_alloc ?_ _)); exact BK104.out)) : gb105 ≠ gb104)); clear BK104; clear HB; have BK104 := n0_; have HB := n1_; have BK105 := n2_; have GW105 := n3_; have GE105 := n4_; have NB104_105 := n5_; have NB105_104 := n6_; clear n0_ n1_ n2_ n3_ n4_ n5_ n6_; clear hb hbox hg) | ((with_reducible refine gate_dst (N := 4) rfl ?_); refine box_event ?hg (N := 4) ?hd (cs := #[.bool false, .slice none 0 0]) (t := 27) ?hr ?_; (case hd => rfl); (case hg => rfl); (case hr => first | (go_simp; done) | (go_simp; rfl)); intro gb106 hg w15 hbox hb; have n0_ := Aside0.mk (blk_below (g := gb104) (o := .cells #[.bool a0_0, .slice A0_1 l0_1.length c0_1] 27 (0, 0)) (by (with_reducible repeat (first | refine blk_drewN ?_ _ | refine blk_drew ?_ | refine blk_alloc ?_ _)); exact BK104.out) hb); have n1_ := Aside0.mk (blk_below (g := gb105) (o := .cells #[.int .i64 a1_0, .int .i64 a1_1] 29 (0, 0)) (by (with_reducible repeat (first | refine blk_drewN ?_ _ | refine blk_drew ?_ | refine blk_alloc ?_ _)); exact BK105.out) hb); have n2_ := Aside0.mk (below_step (by repeat (first | (with_reducible first | exact HB.out | apply below_alloc | apply pw_below_drewN | apply below_drew1 | refine below_set ?_ GE104.out | refine below_set ?_ GE105.out) | exact HB.out)) hb); have n3_ := Aside0.mk (hbox); have n4_ := Aside0.mk ((by rw [hg]; exact (below_size (by repeat (first | (with_reducible first | exact HB.out | apply below_alloc | apply pw_below_drewN | apply below_drew1 | refine below_set ?_ GE104.out | refine below_set ?_ GE105.out) | exact HB.out))) : w.heap.size ≤ gb106)); have n5_ := Aside0.mk ((by rw [hg]; exact (below_size (by repeat (first | (with_reducible first | exact HB.out | apply below_alloc | apply pw_below_drewN | apply below_drew1 | refine below_set ?_ GE104.out | refine below_set ?_ GE105.out) | exact HB.out))) : w.heap.size ≤ gb106)); have n6_ := Aside0.mk ((by rw [hg]; exact Nat.ne_of_lt (blk_lt (g := gb104) (o := .cells #[.bool a0_0, .slice A0_1 l0_1.length c0_1] 27 (0, 0)) (by (with_reducible repeat (first | refine blk_drewN ?_ _ | refine blk_drew ?_ | refine blk_alloc ?_ _)); exact BK104.out)) : gb104 ≠ gb106)); have n7_ := Aside0.mk ((by rw [hg]; exact Nat.ne_of_gt (blk_lt (g := gb104) (o := .cells #[.bool a0_0, .slice A0_1 l0_1.length c0_1] 27 (0, 0)) (by (with_reducible repeat (first | refine blk_drewN ?_ _ | refine blk_drew ?_ | refine blk_alloc ?_ _)); exact BK104.out)) : gb106 ≠ gb104)); have n8_ := Aside0.mk ((by rw [hg]; exact Nat.ne_of_lt (blk_lt (g := gb105) (o := .cells #[.int .i64 a1_0, .int .i64 a1_1] 29 (0, 0)) (by (with_reducible repeat (first | refine blk_drewN ?_ _ | refine blk_drew ?_ | refine blk_alloc ?_ _)); exact BK105.out)) : gb105 ≠ gb106)); have n9_ := Aside0.mk ((by rw [hg]; exact Nat.ne_of_gt (blk_lt (g := gb105) (o := .cells #[.int .i64 a1_0, .int .i64 a1_1] 29 (0, 0)) (by (with_reducible repeat (first | refine blk_drewN ?_ _ | refine blk_drew ?_ | refine blk_alloc ?_ _)); exact BK105.out)) : gb106 ≠ gb105)); clear BK104; clear BK105; clear HB; have BK104 := n0_; have BK105 := n1_; have HB := n2_; have BK106 := n3_; have GW106 := n4_; have GE106 := n5_; have NB104_106 := n6_; have NB106_104 := n7_; have NB105_106 := n8_; have NB106_105 := n9_; clear n0_ n1_ n2_ n3_ n4_ n5_ n6_ n7_ n8_ n9_; clear hb hbox hg; have hnb16 := NB104_105.out; have hnc16 := NB105_104.out; have hnb17 := NB104_106.out; have hnc17 := NB106_104.out; have hcz18_0 : w15.cell? ⟨gb104, 0, none⟩ = some (.bool a0_0) := (blk_cell BK104.out 0).trans rfl; have hcz18_1 : w15.cell? ⟨gb104, 1, none⟩ = some (.slice A0_1 l0_1.length c0_1) := (blk_cell BK104.out 1).trans rfl; have hfz18_0 := blk_frozen BK104.out 0; have hfz18_1 := blk_frozen BK104.out 1; have hnb19 := NB105_106.out; have hnc19 := NB106_105.out; have hcz20_0 : w15.cell? ⟨gb105, 0, none⟩ = some (.int .i64 a1_0) := (blk_cell BK105.out 0).trans rfl; have hcz20_1 : w15.cell? ⟨gb105, 1, none⟩ = some (.int .i64 a1_1) := (blk_cell BK105.out 1).trans rfl; have hfz20_0 := blk_frozen BK105.out 0; have hfz20_1 := blk_frozen BK105.out 1) | ((with_reducible refine gate_callee (f := 11) rfl ?_); refine goesL_ (some 12) rfl rfl Try.func11 (by kernel_rfl) rfl #[.agg #[.bool a0_0, .slice A0_1 l0_1.length c0_1], .int .i64 a1_0] rfl (by (try simp only [List.map_toArray, List.map_cons, List.map_nil]); first | done | rfl | (simp only [List.length_drop, List.length_take]; rfl)) ?_; (with_reducible refine (spec_TwMapped_At.calls k a0_0 _ _ l0_1 a1_0 t107 true _ ?side1 ?side2 A3.out).mono ?_); (case side1 => repeat (first | exact (Kd.C_below HR0_1.out HB.out) | (with_reducible refine Kd.C_alloc ?_ _) | (with_reducible refine Kd.C_drewN ?_ _) | (with_reducible refine Kd.C_drew ?_))); (case side2 => exact HC0_1.out); rintro e w21 ⟨rfl, hb⟩; refine ⟨_, rfl, ?_⟩; have n0_ := Aside0.mk (blk_below (g := gb104) (o := .cells #[.bool a0_0, .slice A0_1 l0_1.length c0_1] 27 (0, 0)) (by (with_reducible repeat (first | refine blk_drewN ?_ _ | refine blk_drew ?_ | refine blk_alloc ?_ _)); exact BK104.out) hb); have n1_ := Aside0.mk (blk_below (g := gb105) (o := .cells #[.int .i64 a1_0, .int .i64 a1_1] 29 (0, 0)) (by (with_reducible repeat (first | refine blk_drewN ?_ _ | refine blk_drew ?_ | refine blk_alloc ?_ _)); exact BK105.out) hb); have n2_ := Aside0.mk (blk_below (g := gb106) (o := .cells #[.bool false, .slice none 0 0] 27 (0, 0)) (by (with_reducible repeat (first | refine blk_drewN ?_ _ | refine blk_drew ?_ | refine blk_alloc ?_ _)); exact BK106.out) hb); have n3_ := Aside0.mk (below_step (by repeat (first | (with_reducible first | exact HB.out | apply below_alloc | apply pw_below_drewN | apply below_drew1 | refine below_set ?_ GE104.out | refine below_set ?_ GE105.out | refine below_set ?_ GE106.out) | exact HB.out)) hb); clear BK104; clear BK105; clear BK106; clear HB; have BK104 := n0_; have BK105 := n1_; have BK106 := n2_; have HB := n3_; clear n0_ n1_ n2_ n3_; (try clear hb); (try clear hb2); (try clear hk); (try clear hi); have hcz22_0 : w21.cell? ⟨gb104, 0, none⟩ = some (.bool a0_0) := (blk_cell BK104.out 0).trans rfl; have hcz22_1 : w21.cell? ⟨gb104, 1, none⟩ = some (.slice A0_1 l0_1.length c0_1) := (blk_cell BK104.out 1).trans rfl; have hfz22_0 := blk_frozen BK104.out 0; have hfz22_1 := blk_frozen BK104.out 1; have q23 : (t107 : Int) ≤ ((l0_1.length : Int) : Int) := of_decide_eq_true (by first | (with_reducible assumption) | assumption); obtain ⟨i023, hi023, _, hsz23, _⟩ := info_parts info29; have hroom23 : l0_1.length ≤ c0_1 := HC0_1.out; have hC23 : Kd.C k29 _ A0_1 l0_1.length l0_1 := HR0_1.out; have q023 : (0 : Int) ≤ (t107 : Int) := of_decide_eq_true (by first | (with_reducible assumption) | assumption); have hcut23 := cut_from (P := Try.prog) 25 29 .i64 Try.underlying25 hi023 2 hsz23 A0_1 l0_1.length c0_1 t107 q023 q23; have hr23 := Kd.C_drop (m := (t107 : Int).toNat) (c := c0_1) hC23 (by omega) hroom23; obtain ⟨A23, hA23⟩ : ∃ A1, A1 = (if c0_1 = (t107 : Int).toNat then A0_1 else (A0_1 : Option Addr).map (·.add ((t107 : Int).toNat * 2))) := ⟨_, rfl⟩; obtain ⟨c23, hc23⟩ : ∃ c1, c1 = c0_1 - (t107 : Int).toNat := ⟨_, rfl⟩; have hy23 : y109.length = l0_1.length - (t107 : Int).toNat := (by rw [Ny109.out, List.length_drop] <;> omega); rw [show (l0_1).drop (t107 : Int).toNat = y109 from Ny109.out.symm] at hr23; replace hr23 : Kd.C k29 _ A23 y109.length y109 := (by rw [hA23]; exact hr23); rw [← hy23, ← hA23, ← hc23] at hcut23; have HR112 := Aside0.mk hr23; have HC112 := Aside0.mk (show y109.length ≤ c23 from by rw [hy23, hc23]; exact Nat.sub_le_sub_right hroom23 _); clear hr23 hC23 hroom23 hi023 hsz23 hc23; have KY23 := Aside0.mk hy23; have KA23 := Aside0.mk hA23; clear hy23 hA23; replace q23 := eq_true q23; have q24 : (1 : Int) ≤ ((y109.length : Int) : Int) := of_decide_eq_true (by first | (with_reducible assumption) | assumption); obtain ⟨i024, hi024, _, hsz24, _⟩ := info_parts info29; have hroom24 : y109.length ≤ c23 := HC112.out; have hC24 : Kd.C k29 _ A23 y109.length y109 := HR112.out; have hcut24 := cut_from (P := Try.prog) 25 29 .i64 Try.underlying25 hi024 2 hsz24 A23 y109.length c23 1 (by omega) q24; have hr24 := Kd.C_drop (m := (1 : Int).toNat) (c := c23) hC24 (by omega) hroom24; obtain ⟨A24, hA24⟩ : ∃ A1, A1 = (if c23 = (1 : Int).toNat then A23 else (A23 : Option Addr).map (·.add ((1 : Int).toNat * 2))) := ⟨_, rfl⟩; obtain ⟨c24, hc24⟩ : ∃ c1, c1 = c23 - (1 : Int).toNat := ⟨_, rfl⟩; have hy24 : y113.length = y109.length - (1 : Int).toNat := (by rw [Ny113.out, List.length_drop] <;> omega); rw [show (y109).drop (1 : Int).toNat = y113 from Ny113.out.symm] at hr24; replace hr24 : Kd.C k29 _ A24 y113.length y113 := (by rw [hA24]; exact hr24); rw [← hy24, ← hA24, ← hc24] at hcut24; have HR116 := Aside0.mk hr24; have HC116 := Aside0.mk (show y113.length ≤ c24 from by rw [hy24, hc24]; exact Nat.sub_le_sub_right hroom24 _); clear hr24 hC24 hroom24 hi024 hsz24 hc24; have KY24 := Aside0.mk hy24; have KA24 := Aside0.mk hA24; clear hy24 hA24; replace q24 := eq_true q24))
                have n0_ := Aside0.mk (blk_drew BK104.out)
                have n1_ := Aside0.mk (blk_drew BK105.out)
                have n2_ := Aside0.mk (blk_drew BK106.out)
                have n3_ := Aside0.mk (below_drew1 HB.out)
                clear BK104
                clear BK105
                clear BK106
                clear HB
                have BK104 := n0_
                have BK105 := n1_
                have BK106 := n2_
                have HB := n3_
                clear n0_ n1_ n2_ n3_
                have q26 : (t107 : Int) ≤ ((l0_1.length : Int) : Int) := of_decide_eq_true (by first | (with_reducible assumption) | assumption)
                obtain ⟨i026, hi026, _, hsz26, _⟩ := info_parts info29
                have hroom26 : l0_1.length ≤ c0_1 := HC0_1.out
                have hC26 : Kd.C k29 _ A0_1 l0_1.length l0_1 := HR0_1.out
                have hcut26 := cut_to (P := Try.prog) 25 29 .i64 Try.underlying25 hi026 A0_1 l0_1.length c0_1 t107 (of_decide_eq_true (by first | (with_reducible assumption) | assumption)) q26 hroom26
                have hr26 := Kd.C_take (m := (t107 : Int).toNat) hC26 (by omega)
                have hy26 : y120.length = (t107 : Int).toNat := (by rw [Ny120.out, List.length_take]; omega)
                rw [← Ny120.out] at hr26
                rw [← hy26] at hcut26
                have HR123 := Aside0.mk hr26
                have HC123 := Aside0.mk (show y120.length ≤ c0_1 from by omega)
                clear hr26 hC26 hroom26 hi026 hsz26
                have KY26 := Aside0.mk hy26
                clear hy26
                replace q26 := eq_true q26
                refine start_ (n := 13) (S := fun w' => w'.cell? ⟨gb104, 0, none⟩ = some (.bool a0_0) ∧ w'.cell? ⟨gb104, 1, none⟩ = some (.slice A0_1 l0_1.length c0_1) ∧ w'.cell? ⟨gb105, 0, none⟩ = some (.int .i64 a1_0) ∧ w'.cell? ⟨gb105, 1, none⟩ = some (.int .i64 a1_1)) (ds := []) #[false, false, false, false, false, false, false, false, false, false, false, false, false] (by kernel_rfl) rfl rfl ⟨(blk_cell BK104.out 0).trans rfl, (blk_cell BK104.out 1).trans rfl, (blk_cell BK105.out 0).trans rfl, (blk_cell BK105.out 1).trans rfl⟩ (fun hHeld => ?_); refine with_tabW spec_TwMapped_With.tab5 spec_TwMapped_With.bits5 (fun HT_ HW_ => ?_)
                generalize w21.drew = w25 at BK104 BK105 BK106 HB HR123 hHeld ⊢
                refine pure_ (i := 1) (N := some 23) (v := ?_) (a' := ?_) #[false, true, false, false, false, false, false, false, false, false, false, false, false] rfl rfl (any_of HT_.out (by kernel_rfl)) (fun _ _ _ h => h) (Or.inl ⟨by rfl, ?_⟩) ?_ ?_
                rotate_left
                · intro w'
                  go_simp
                  with_reducible rfl
                rotate_left
                · simp only [Act.put, List.setIfInBounds_toArray, List.set_cons_zero, List.set_cons_succ, i64_w, i32_w]
                  rfl
                refine pure_ (i := 3) (N := some 25) (v := ?_) (a' := ?_) #[false, true, false, true, false, false, false, false, false, false, false, false, false] rfl rfl (any_of HT_.out (by kernel_rfl)) (fun _ _ _ h => h) (Or.inl ⟨by rfl, ?_⟩) ?_ ?_
                rotate_left
                · intro w'
                  go_simp
                  with_reducible rfl
                rotate_left
                · simp only [Act.put, List.setIfInBounds_toArray, List.set_cons_zero, List.set_cons_succ, i64_w, i32_w]
                  rfl
                refine pure_ (i := 9) (N := some 31) (v := ?_) (a' := ?_) #[false, true, false, true, false, false, false, false, false, true, false, false, false] rfl rfl (any_of HT_.out (by kernel_rfl)) (fun _ _ _ h => h) (Or.inl ⟨by rfl, ?_⟩) ?_ ?_
                rotate_left
                · intro w'
                  go_simp
                  with_reducible rfl
                rotate_left
                · simp only [Act.put, List.setIfInBounds_toArray, List.set_cons_zero, List.set_cons_succ, i64_w, i32_w]
                  rfl
                refine take_ (i := 2) (N := some 24) (v := ?_) (a' := ?_) #[false, true, true, true, false, false, false, false, false, true, false, false, false] rfl rfl (take_ofW HT_.out HW_.out (by kernel_rfl)) (fun _ _ _ h => h) (Or.inl ⟨by rfl, ?_⟩) hHeld ?_ ?_
                rotate_left
                · rintro w' ⟨s0, s1, s2, s3⟩
                  go_simp
                  with_reducible rfl
                rotate_left
                · simp only [Act.put, List.setIfInBounds_toArray, List.set_cons_zero, List.set_cons_succ, i64_w, i32_w]
                  rfl
                refine pure_ (i := 4) (N := some 26) (v := ?_) (a' := ?_) #[false, true, true, true, true, false, false, false, false, true, false, false, false] rfl rfl (any_of HT_.out (by kernel_rfl)) (fun _ _ _ h => h) (Or.inl ⟨by rfl, ?_⟩) ?_ ?_
                rotate_left
                · intro w'
                  go_simp
                  with_reducible rfl
                rotate_left
                · simp only [Act.put, List.setIfInBounds_toArray, List.set_cons_zero, List.set_cons_succ, i64_w, i32_w]
                  rfl
                refine take_ (i := 6) (N := some 28) (v := ?_) (a' := ?_) #[false, true, true, true, true, false, true, false, false, true, false, false, false] rfl rfl (take_ofW HT_.out HW_.out (by kernel_rfl)) (fun _ _ _ h => h) (Or.inl ⟨by rfl, ?_⟩) hHeld ?_ ?_
                rotate_left
                · rintro w' ⟨s0, s1, s2, s3⟩
                  go_simp
                  with_reducible rfl
                rotate_left
                · simp only [Act.put, List.setIfInBounds_toArray, List.set_cons_zero, List.set_cons_succ, i64_w, i32_w]
                  rfl
                refine join_ (σ := Value × Value × Value) 4 #[true, true, true, true, true, true, true, true, false, true, false, false, false] (fun s_ => [(22, s_.1), (27, s_.2.1), (29, s_.2.2)]) (fun s_ w' => (w'.cell? ⟨gb104, 0, none⟩ = some (.bool a0_0) ∧ w'.cell? ⟨gb104, 1, none⟩ = some (.slice A0_1 l0_1.length c0_1) ∧ w'.cell? ⟨gb105, 0, none⟩ = some (.int .i64 a1_0) ∧ w'.cell? ⟨gb105, 1, none⟩ = some (.int .i64 a1_1)) ∧ (Kd.R k29 29 w' w.heap.size (fun k_ => some k_ ≠ (s_.2.2 : Value).ownBlock ∧ k_ ≠ gb105) s_.2.1 y124) ∧ (Kd.R k29 29 w' w.heap.size (fun k_ => some k_ ≠ (s_.2.1 : Value).ownBlock ∧ k_ ≠ gb105) s_.2.2 y127) ∧ (w'.heap[gb104]? = some (.cells #[.bool a0_0, .slice A0_1 l0_1.length c0_1] 27 (0, 0))) ∧ (w'.heap[gb105]? = some (.cells #[.int .i64 a1_0, .int .i64 a1_1] 29 (0, 0))) ∧ (w'.heap[gb106]? = some (.cells #[.bool false, .slice none 0 0] 27 (0, 0))) ∧ (Below w.heap.size w w')) ?_ ?_
                rotate_left
                · intro hCont
                  refine two_ (i := 0) (j := 7) (Ni := some 22) (Nj := some 29) #[true, true, true, true, true, false, true, false, false, true, false, false, false] #[false, true, true, true, true, false, true, true, false, true, false, false, false] rfl rfl rfl rfl (two_of HT_.out (by kernel_rfl)) (by decide) (by decide) (fun K hK => ?_) (fun K hK => ?_)
                  · skip
                    refine Kd.R_lit_step k29 _ 29 ?hg (N := 22) ?hd (xs := ([] : List (S29))) (inner := []) (ok := fun _ => True) (okp := fun _ => True) ?hr ?hp (fun _ hk => hk) trivial (Below.refl _ _) (Nat.le_refl _) (by simp) ?_; (case hd => rfl); (case hg => rfl); (case hr => first | (go_simp; done) | (go_simp; rfl)); (case hp => exact (Reps.none _ _))
                    intro v118 w27 ho28 hb hg_ hnew_
                    clear hg_ hnew_
                    (first | rw [← Ny117.out] at ho28 | (simp only [Int.reduceToNat] at ho28; rw [← Ny117.out] at ho28))
                    have n0_ := Aside0.mk (Kd.R_lower (Kd.R_newB ho28 (g := gb105) (o := .cells #[.int .i64 a1_0, .int .i64 a1_1] 29 (0, 0)) (by (with_reducible repeat (first | refine blk_drewN ?_ _ | refine blk_drew ?_ | refine blk_alloc ?_ _)); exact BK105.out)) (below_size (by repeat (first | (with_reducible first | exact HB.out | apply below_alloc | apply pw_below_drewN | apply below_drew1 | refine below_set ?_ GE104.out | refine below_set ?_ GE105.out | refine below_set ?_ GE106.out) | exact HB.out))))
                    have n1_ := Aside0.mk (blk_below (g := gb104) (o := .cells #[.bool a0_0, .slice A0_1 l0_1.length c0_1] 27 (0, 0)) (by (with_reducible repeat (first | refine blk_drewN ?_ _ | refine blk_drew ?_ | refine blk_alloc ?_ _)); exact BK104.out) hb)
                    have n2_ := Aside0.mk (blk_below (g := gb105) (o := .cells #[.int .i64 a1_0, .int .i64 a1_1] 29 (0, 0)) (by (with_reducible repeat (first | refine blk_drewN ?_ _ | refine blk_drew ?_ | refine blk_alloc ?_ _)); exact BK105.out) hb)
                    have n3_ := Aside0.mk (blk_below (g := gb106) (o := .cells #[.bool false, .slice none 0 0] 27 (0, 0)) (by (with_reducible repeat (first | refine blk_drewN ?_ _ | refine blk_drew ?_ | refine blk_alloc ?_ _)); exact BK106.out) hb)
                    have n4_ := Aside0.mk (below_step (by repeat (first | (with_reducible first | exact HB.out | apply below_alloc | apply pw_below_drewN | apply below_drew1 | refine below_set ?_ GE104.out | refine below_set ?_ GE105.out | refine below_set ?_ GE106.out) | exact HB.out)) hb)
                    clear BK104
                    clear BK105
                    clear BK106
                    clear HB
                    have HO119 := n0_
                    have BK104 := n1_
                    have BK105 := n2_
                    have BK106 := n3_
                    have HB := n4_
                    clear n0_ n1_ n2_ n3_ n4_
                    clear hb ho28
                    refine hK.out _ _ ⟨(blk_cell BK104.out 0).trans rfl, (blk_cell BK104.out 1).trans rfl, (blk_cell BK105.out 0).trans rfl, (blk_cell BK105.out 1).trans rfl⟩ (fun hHeld => ?_)
                    clear hK K
                    refine norm_ (a' := ?_) ?_ ?_
                    rotate_left
                    · show Act.put _ (some 22) _ = _
                      simp only [Act.put, List.setIfInBounds_toArray, List.set_cons_zero, List.set_cons_succ, i64_w, i32_w]
                      rfl
                    refine two_ (i := 5) (j := 7) (Ni := some 27) (Nj := some 29) #[true, true, true, true, true, true, true, false, false, true, false, false, false] #[true, true, true, true, true, false, true, true, false, true, false, false, false] rfl rfl rfl rfl (two_of HT_.out (by kernel_rfl)) (by decide) (by decide) (fun K hK => ?_) (fun K hK => ?_)
                    · skip
                      refine Kd.R_append_rows_step k29 (w0 := w) w.heap.size (by rfl) (.tmp 22) (.tmp 26) 25 29 (.agg #[(.int .i64 0), (.int .i64 0)]) 16 rfl Try.underlying25 info29 rfl (by decide) (by omega) v118 y117 y120 _ _ _ (fun k_ => k_ ≠ gb105) (fun _ => False) rfl rfl ?aO ?aR (fun _ _ h => h) (fun _ h => h.elim) ?aF ?aB ?aS ?aL ?_
                      (case aR => repeat (first | exact (Kd.C_below HR123.out HB.out) | (with_reducible refine Kd.C_alloc ?_ _) | (with_reducible refine Kd.C_drewN ?_ _) | (with_reducible refine Kd.C_drew ?_)))
                      (case aB => exact (by repeat (first | (with_reducible first | exact HB.out | apply below_alloc | apply pw_below_drewN | apply below_drew1 | refine below_set ?_ GE104.out | refine below_set ?_ GE105.out | refine below_set ?_ GE106.out) | exact HB.out)))
                      (case aF => exact (fun k_ hk => Kd.freshB (g := gb105) (o := .cells #[.int .i64 a1_0, .int .i64 a1_1] 29 (0, 0)) (by (with_reducible repeat (first | refine blk_drewN ?_ _ | refine blk_drew ?_ | refine blk_alloc ?_ _)); exact BK105.out) k_ hk))
                      (case aO => exact (by (with_reducible repeat (first | apply Kd.R_alloc | apply Kd.R_drewN | apply Kd.R_drew)); exact Kd.R_mono HO119.out (fun _ hk => hk.2)))
                      (case aS => exact (below_size (by repeat (first | (with_reducible first | exact HB.out | apply below_alloc | apply pw_below_drewN | apply below_drew1 | refine below_set ?_ GE104.out | refine below_set ?_ GE105.out | refine below_set ?_ GE106.out) | exact HB.out))))
                      (case aL => have := LMc10.out; first | omega | exact this | exact Nat.le_of_lt this)
                      intro v125 w29 ho hb hg hat
                      rw [← Ny124.out] at ho
                      have n0_ := Aside0.mk (blk_grown (g := gb104) (o := .cells #[.bool a0_0, .slice A0_1 l0_1.length c0_1] 27 (0, 0)) (by (with_reducible repeat (first | refine blk_drewN ?_ _ | refine blk_drew ?_ | refine blk_alloc ?_ _)); exact BK104.out) hg (Kd.R_ne HO119.out BK104.out (by decide)))
                      have n1_ := Aside0.mk (blk_grown (g := gb105) (o := .cells #[.int .i64 a1_0, .int .i64 a1_1] 29 (0, 0)) (by (with_reducible repeat (first | refine blk_drewN ?_ _ | refine blk_drew ?_ | refine blk_alloc ?_ _)); exact BK105.out) hg (Kd.R_away HO119.out (fun _ hk => hk.2)))
                      have n2_ := Aside0.mk (blk_grown (g := gb106) (o := .cells #[.bool false, .slice none 0 0] 27 (0, 0)) (by (with_reducible repeat (first | refine blk_drewN ?_ _ | refine blk_drew ?_ | refine blk_alloc ?_ _)); exact BK106.out) hg (Kd.R_ne HO119.out BK106.out (by decide)))
                      have n3_ := Aside0.mk (hb)
                      have n4_ := Aside0.mk (ho)
                      clear BK104
                      clear BK105
                      clear BK106
                      clear HB
                      clear HO119
                      have BK104 := n0_
                      have BK105 := n1_
                      have BK106 := n2_
                      have HB := n3_
                      have HO126 := n4_
                      clear n0_ n1_ n2_ n3_ n4_
                      clear ho hb hg hat
                      refine hK.out _ _ ⟨(blk_cell BK104.out 0).trans rfl, (blk_cell BK104.out 1).trans rfl, (blk_cell BK105.out 0).trans rfl, (blk_cell BK105.out 1).trans rfl⟩ (fun hHeld => ?_)
                      clear hK K
                      refine norm_ (a' := ?_) ?_ ?_
                      rotate_left
                      · show Act.put _ (some 27) _ = _
                        simp only [Act.put, List.setIfInBounds_toArray, List.set_cons_zero, List.set_cons_succ, i64_w, i32_w]
                        rfl
                      refine one_ (i := 7) (N := some 29) #[true, true, true, true, true, true, true, true, false, true, false, false, false] rfl rfl (one_of HT_.out (by kernel_rfl)) (by decide) (fun K hK => ?_)
                      refine Kd.R_lit_step k29 _ 29 ?hg (N := 29) ?hd (xs := ([(⟨a1_0, a1_1⟩ : S29)] : List (S29))) (inner := [.int .i64 a1_0, .int .i64 a1_1]) (ok := fun _ => True) (okp := fun _ => True) ?hr ?hp (fun _ hk => hk) trivial (Below.refl _ _) (Nat.le_refl _) (by simp) ?_; (case hd => rfl); (case hg => rfl); (case hr => first | (go_simp; done) | (go_simp; rfl)); (case hp => exact (Reps.c2 (show Kd.M k29 _ _ _ (⟨a1_0, a1_1⟩ : S29) [.int .i64 a1_0, .int .i64 a1_1] from (k29_mkM _ _ _ (⟨a1_0, a1_1⟩ : S29) )) (Reps.none _ _)))
                      intro v128 w30 ho31 hb hg_ hnew_
                      clear hg_ hnew_
                      (first | rw [← Ny127.out] at ho31 | (simp only [Int.reduceToNat] at ho31; rw [← Ny127.out] at ho31))
                      have n0_ := Aside0.mk (Kd.R_elder' (by (with_reducible repeat (first | apply Kd.R_alloc | apply Kd.R_drewN | apply Kd.R_drew)); exact HO126.out) (Kd.R_base ho31) hb)
                      have n1_ := Aside0.mk (Kd.R_lower (Kd.R_newB (Kd.R_new' ho31 (Kd.R_lt (by (with_reducible repeat (first | apply Kd.R_alloc | apply Kd.R_drewN | apply Kd.R_drew)); exact HO126.out))) (g := gb105) (o := .cells #[.int .i64 a1_0, .int .i64 a1_1] 29 (0, 0)) (by (with_reducible repeat (first | refine blk_drewN ?_ _ | refine blk_drew ?_ | refine blk_alloc ?_ _)); exact BK105.out)) (below_size (by repeat (first | (with_reducible first | exact HB.out | apply below_alloc | apply pw_below_drewN | apply below_drew1 | refine below_set ?_ GE104.out | refine below_set ?_ GE105.out | refine below_set ?_ GE106.out) | exact HB.out))))
                      have n2_ := Aside0.mk (blk_below (g := gb104) (o := .cells #[.bool a0_0, .slice A0_1 l0_1.length c0_1] 27 (0, 0)) (by (with_reducible repeat (first | refine blk_drewN ?_ _ | refine blk_drew ?_ | refine blk_alloc ?_ _)); exact BK104.out) hb)
                      have n3_ := Aside0.mk (blk_below (g := gb105) (o := .cells #[.int .i64 a1_0, .int .i64 a1_1] 29 (0, 0)) (by (with_reducible repeat (first | refine blk_drewN ?_ _ | refine blk_drew ?_ | refine blk_alloc ?_ _)); exact BK105.out) hb)
                      have n4_ := Aside0.mk (blk_below (g := gb106) (o := .cells #[.bool false, .slice none 0 0] 27 (0, 0)) (by (with_reducible repeat (first | refine blk_drewN ?_ _ | refine blk_drew ?_ | refine blk_alloc ?_ _)); exact BK106.out) hb)
                      have n5_ := Aside0.mk (below_step (by repeat (first | (with_reducible first | exact HB.out | apply below_alloc | apply pw_below_drewN | apply below_drew1 | refine below_set ?_ GE104.out | refine below_set ?_ GE105.out | refine below_set ?_ GE106.out) | exact HB.out)) hb)
                      clear HO126
                      clear BK104
                      clear BK105
                      clear BK106
                      clear HB
                      have HO126 := n0_
                      have HO129 := n1_
                      have BK104 := n2_
                      have BK105 := n3_
                      have BK106 := n4_
                      have HB := n5_
                      clear n0_ n1_ n2_ n3_ n4_ n5_
                      clear hb ho31
                      refine hK.out _ _ ⟨(blk_cell BK104.out 0).trans rfl, (blk_cell BK104.out 1).trans rfl, (blk_cell BK105.out 0).trans rfl, (blk_cell BK105.out 1).trans rfl⟩ (fun hHeld => ?_)
                      clear hK K
                      refine norm_ (a' := ?_) ?_ ?_
                      rotate_left
                      · show Act.put _ (some 29) _ = _
                        simp only [Act.put, List.setIfInBounds_toArray, List.set_cons_zero, List.set_cons_succ, i64_w, i32_w]
                        rfl
                      exact norm_ (by simp only [putAll, Act.put, List.setIfInBounds_toArray, List.set_cons_zero, List.set_cons_succ]) (hCont (v118, v125, v128) _ ⟨hHeld, (by (with_reducible repeat (first | apply Kd.R_alloc | apply Kd.R_drewN | apply Kd.R_drew)); exact Kd.R_mono HO126.out (fun _ hk => ⟨hk.2, hk.1⟩)), (by (with_reducible repeat (first | apply Kd.R_alloc | apply Kd.R_drewN | apply Kd.R_drew)); exact Kd.R_mono HO129.out (fun _ hk => ⟨hk.1.2, hk.2⟩)), (by (with_reducible repeat (first | refine blk_drewN ?_ _ | refine blk_drew ?_ | refine blk_alloc ?_ _)); exact BK104.out), (by (with_reducible repeat (first | refine blk_drewN ?_ _ | refine blk_drew ?_ | refine blk_alloc ?_ _)); exact BK105.out), (by (with_reducible repeat (first | refine blk_drewN ?_ _ | refine blk_drew ?_ | refine blk_alloc ?_ _)); exact BK106.out), (by repeat (first | (with_reducible first | exact HB.out | apply below_alloc | apply pw_below_drewN | apply below_drew1 | refine below_set ?_ GE104.out | refine below_set ?_ GE105.out | refine below_set ?_ GE106.out) | exact HB.out))⟩)
                    · skip
                      refine Kd.R_lit_step k29 _ 29 ?hg (N := 29) ?hd (xs := ([(⟨a1_0, a1_1⟩ : S29)] : List (S29))) (inner := [.int .i64 a1_0, .int .i64 a1_1]) (ok := fun _ => True) (okp := fun _ => True) ?hr ?hp (fun _ hk => hk) trivial (Below.refl _ _) (Nat.le_refl _) (by simp) ?_; (case hd => rfl); (case hg => rfl); (case hr => first | (go_simp; done) | (go_simp; rfl)); (case hp => exact (Reps.c2 (show Kd.M k29 _ _ _ (⟨a1_0, a1_1⟩ : S29) [.int .i64 a1_0, .int .i64 a1_1] from (k29_mkM _ _ _ (⟨a1_0, a1_1⟩ : S29) )) (Reps.none _ _)))
                      intro v128 w29 ho30 hb hg_ hnew_
                      clear hg_ hnew_
                      (first | rw [← Ny127.out] at ho30 | (simp only [Int.reduceToNat] at ho30; rw [← Ny127.out] at ho30))
                      have n0_ := Aside0.mk (Kd.R_elder' (by (with_reducible repeat (first | apply Kd.R_alloc | apply Kd.R_drewN | apply Kd.R_drew)); exact HO119.out) (Kd.R_base ho30) hb)
                      have n1_ := Aside0.mk (Kd.R_lower (Kd.R_newB (Kd.R_new' ho30 (Kd.R_lt (by (with_reducible repeat (first | apply Kd.R_alloc | apply Kd.R_drewN | apply Kd.R_drew)); exact HO119.out))) (g := gb105) (o := .cells #[.int .i64 a1_0, .int .i64 a1_1] 29 (0, 0)) (by (with_reducible repeat (first | refine blk_drewN ?_ _ | refine blk_drew ?_ | refine blk_alloc ?_ _)); exact BK105.out)) (below_size (by repeat (first | (with_reducible first | exact HB.out | apply below_alloc | apply pw_below_drewN | apply below_drew1 | refine below_set ?_ GE104.out | refine below_set ?_ GE105.out | refine below_set ?_ GE106.out) | exact HB.out))))
                      have n2_ := Aside0.mk (blk_below (g := gb104) (o := .cells #[.bool a0_0, .slice A0_1 l0_1.length c0_1] 27 (0, 0)) (by (with_reducible repeat (first | refine blk_drewN ?_ _ | refine blk_drew ?_ | refine blk_alloc ?_ _)); exact BK104.out) hb)
                      have n3_ := Aside0.mk (blk_below (g := gb105) (o := .cells #[.int .i64 a1_0, .int .i64 a1_1] 29 (0, 0)) (by (with_reducible repeat (first | refine blk_drewN ?_ _ | refine blk_drew ?_ | refine blk_alloc ?_ _)); exact BK105.out) hb)
                      have n4_ := Aside0.mk (blk_below (g := gb106) (o := .cells #[.bool false, .slice none 0 0] 27 (0, 0)) (by (with_reducible repeat (first | refine blk_drewN ?_ _ | refine blk_drew ?_ | refine blk_alloc ?_ _)); exact BK106.out) hb)
                      have n5_ := Aside0.mk (below_step (by repeat (first | (with_reducible first | exact HB.out | apply below_alloc | apply pw_below_drewN | apply below_drew1 | refine below_set ?_ GE104.out | refine below_set ?_ GE105.out | refine below_set ?_ GE106.out) | exact HB.out)) hb)
                      clear HO119
                      clear BK104
                      clear BK105
                      clear BK106
                      clear HB
                      have HO119 := n0_
                      have HO129 := n1_
                      have BK104 := n2_
                      have BK105 := n3_
                      have BK106 := n4_
                      have HB := n5_
                      clear n0_ n1_ n2_ n3_ n4_ n5_
                      clear hb ho30
                      refine hK.out _ _ ⟨(blk_cell BK104.out 0).trans rfl, (blk_cell BK104.out 1).trans rfl, (blk_cell BK105.out 0).trans rfl, (blk_cell BK105.out 1).trans rfl⟩ (fun hHeld => ?_)
                      clear hK K
                      refine norm_ (a' := ?_) ?_ ?_
                      rotate_left
                      · show Act.put _ (some 29) _ = _
                        simp only [Act.put, List.setIfInBounds_toArray, List.set_cons_zero, List.set_cons_succ, i64_w, i32_w]
                        rfl
                      refine one_ (i := 5) (N := some 27) #[true, true, true, true, true, true, true, true, false, true, false, false, false] rfl rfl (one_of HT_.out (by kernel_rfl)) (by decide) (fun K hK => ?_)
                      refine Kd.R_append_rows_step k29 (w0 := w) w.heap.size (by rfl) (.tmp 22) (.tmp 26) 25 29 (.agg #[(.int .i64 0), (.int .i64 0)]) 16 rfl Try.underlying25 info29 rfl (by decide) (by omega) v118 y117 y120 _ _ _ (fun k_ => some k_ ≠ (v128 : Value).ownBlock ∧ k_ ≠ gb105) (fun _ => False) rfl rfl ?aO ?aR (fun _ _ h => h) (fun _ h => h.elim) ?aF ?aB ?aS ?aL ?_
                      (case aR => repeat (first | exact (Kd.C_below HR123.out HB.out) | (with_reducible refine Kd.C_alloc ?_ _) | (with_reducible refine Kd.C_drewN ?_ _) | (with_reducible refine Kd.C_drew ?_)))
                      (case aB => exact (by repeat (first | (with_reducible first | exact HB.out | apply below_alloc | apply pw_below_drewN | apply below_drew1 | refine below_set ?_ GE104.out | refine below_set ?_ GE105.out | refine below_set ?_ GE106.out) | exact HB.out)))
                      (case aF => exact (fun k_ hk => ⟨Kd.fresh' (Kd.R_lt (by (with_reducible repeat (first | apply Kd.R_alloc | apply Kd.R_drewN | apply Kd.R_drew)); exact HO129.out)) k_ hk, Kd.freshB (g := gb105) (o := .cells #[.int .i64 a1_0, .int .i64 a1_1] 29 (0, 0)) (by (with_reducible repeat (first | refine blk_drewN ?_ _ | refine blk_drew ?_ | refine blk_alloc ?_ _)); exact BK105.out) k_ hk⟩))
                      (case aO => exact (by (with_reducible repeat (first | apply Kd.R_alloc | apply Kd.R_drewN | apply Kd.R_drew)); exact Kd.R_mono HO119.out (fun _ hk => ⟨hk.2, hk.1.2⟩)))
                      (case aS => exact (below_size (by repeat (first | (with_reducible first | exact HB.out | apply below_alloc | apply pw_below_drewN | apply below_drew1 | refine below_set ?_ GE104.out | refine below_set ?_ GE105.out | refine below_set ?_ GE106.out) | exact HB.out))))
                      (case aL => have := LMc10.out; first | omega | exact this | exact Nat.le_of_lt this)
                      intro v125 w31 ho hb hg hat
                      rw [← Ny124.out] at ho
                      have n0_ := Aside0.mk (blk_grown (g := gb104) (o := .cells #[.bool a0_0, .slice A0_1 l0_1.length c0_1] 27 (0, 0)) (by (with_reducible repeat (first | refine blk_drewN ?_ _ | refine blk_drew ?_ | refine blk_alloc ?_ _)); exact BK104.out) hg (Kd.R_ne HO119.out BK104.out (by decide)))
                      have n1_ := Aside0.mk (blk_grown (g := gb105) (o := .cells #[.int .i64 a1_0, .int .i64 a1_1] 29 (0, 0)) (by (with_reducible repeat (first | refine blk_drewN ?_ _ | refine blk_drew ?_ | refine blk_alloc ?_ _)); exact BK105.out) hg (Kd.R_away HO119.out (fun _ hk => hk.1.2)))
                      have n2_ := Aside0.mk (blk_grown (g := gb106) (o := .cells #[.bool false, .slice none 0 0] 27 (0, 0)) (by (with_reducible repeat (first | refine blk_drewN ?_ _ | refine blk_drew ?_ | refine blk_alloc ?_ _)); exact BK106.out) hg (Kd.R_ne HO119.out BK106.out (by decide)))
                      have n3_ := Aside0.mk (Kd.R_after (ok := (fun k_ => k_ ≠ gb105)) (by (with_reducible repeat (first | apply Kd.R_alloc | apply Kd.R_drewN | apply Kd.R_drew)); exact Kd.R_mono HO129.out (fun _ hk => ⟨hk.2, hk.1.2⟩)) hg hat)
                      have n4_ := Aside0.mk (hb)
                      have n5_ := Aside0.mk (ho)
                      clear BK104
                      clear BK105
                      clear BK106
                      clear HO129
                      clear HB
                      clear HO119
                      have BK104 := n0_
                      have BK105 := n1_
                      have BK106 := n2_
                      have HO129 := n3_
                      have HB := n4_
                      have HO126 := n5_
                      clear n0_ n1_ n2_ n3_ n4_ n5_
                      clear ho hb hg hat
                      refine hK.out _ _ ⟨(blk_cell BK104.out 0).trans rfl, (blk_cell BK104.out 1).trans rfl, (blk_cell BK105.out 0).trans rfl, (blk_cell BK105.out 1).trans rfl⟩ (fun hHeld => ?_)
                      clear hK K
                      refine norm_ (a' := ?_) ?_ ?_
                      rotate_left
                      · show Act.put _ (some 27) _ = _
                        simp only [Act.put, List.setIfInBounds_toArray, List.set_cons_zero, List.set_cons_succ, i64_w, i32_w]
                        rfl
                      exact norm_ (by simp only [putAll, Act.put, List.setIfInBounds_toArray, List.set_cons_zero, List.set_cons_succ]) (hCont (v118, v125, v128) _ ⟨hHeld, (by (with_reducible repeat (first | apply Kd.R_alloc | apply Kd.R_drewN | apply Kd.R_drew)); exact HO126.out), (by (with_reducible repeat (first | apply Kd.R_alloc | apply Kd.R_drewN | apply Kd.R_drew)); exact Kd.R_mono HO129.out (fun _ hk => ⟨hk.2, hk.1⟩)), (by (with_reducible repeat (first | refine blk_drewN ?_ _ | refine blk_drew ?_ | refine blk_alloc ?_ _)); exact BK104.out), (by (with_reducible repeat (first | refine blk_drewN ?_ _ | refine blk_drew ?_ | refine blk_alloc ?_ _)); exact BK105.out), (by (with_reducible repeat (first | refine blk_drewN ?_ _ | refine blk_drew ?_ | refine blk_alloc ?_ _)); exact BK106.out), (by repeat (first | (with_reducible first | exact HB.out | apply below_alloc | apply pw_below_drewN | apply below_drew1 | refine below_set ?_ GE104.out | refine below_set ?_ GE105.out | refine below_set ?_ GE106.out) | exact HB.out))⟩)
                  · skip
                    refine Kd.R_lit_step k29 _ 29 ?hg (N := 29) ?hd (xs := ([(⟨a1_0, a1_1⟩ : S29)] : List (S29))) (inner := [.int .i64 a1_0, .int .i64 a1_1]) (ok := fun _ => True) (okp := fun _ => True) ?hr ?hp (fun _ hk => hk) trivial (Below.refl _ _) (Nat.le_refl _) (by simp) ?_; (case hd => rfl); (case hg => rfl); (case hr => first | (go_simp; done) | (go_simp; rfl)); (case hp => exact (Reps.c2 (show Kd.M k29 _ _ _ (⟨a1_0, a1_1⟩ : S29) [.int .i64 a1_0, .int .i64 a1_1] from (k29_mkM _ _ _ (⟨a1_0, a1_1⟩ : S29) )) (Reps.none _ _)))
                    intro v128 w27 ho28 hb hg_ hnew_
                    clear hg_ hnew_
                    (first | rw [← Ny127.out] at ho28 | (simp only [Int.reduceToNat] at ho28; rw [← Ny127.out] at ho28))
                    have n0_ := Aside0.mk (Kd.R_lower (Kd.R_newB ho28 (g := gb105) (o := .cells #[.int .i64 a1_0, .int .i64 a1_1] 29 (0, 0)) (by (with_reducible repeat (first | refine blk_drewN ?_ _ | refine blk_drew ?_ | refine blk_alloc ?_ _)); exact BK105.out)) (below_size (by repeat (first | (with_reducible first | exact HB.out | apply below_alloc | apply pw_below_drewN | apply below_drew1 | refine below_set ?_ GE104.out | refine below_set ?_ GE105.out | refine below_set ?_ GE106.out) | exact HB.out))))
                    have n1_ := Aside0.mk (blk_below (g := gb104) (o := .cells #[.bool a0_0, .slice A0_1 l0_1.length c0_1] 27 (0, 0)) (by (with_reducible repeat (first | refine blk_drewN ?_ _ | refine blk_drew ?_ | refine blk_alloc ?_ _)); exact BK104.out) hb)
                    have n2_ := Aside0.mk (blk_below (g := gb105) (o := .cells #[.int .i64 a1_0, .int .i64 a1_1] 29 (0, 0)) (by (with_reducible repeat (first | refine blk_drewN ?_ _ | refine blk_drew ?_ | refine blk_alloc ?_ _)); exact BK105.out) hb)
                    have n3_ := Aside0.mk (blk_below (g := gb106) (o := .cells #[.bool false, .slice none 0 0] 27 (0, 0)) (by (with_reducible repeat (first | refine blk_drewN ?_ _ | refine blk_drew ?_ | refine blk_alloc ?_ _)); exact BK106.out) hb)
                    have n4_ := Aside0.mk (below_step (by repeat (first | (with_reducible first | exact HB.out | apply below_alloc | apply pw_below_drewN | apply below_drew1 | refine below_set ?_ GE104.out | refine below_set ?_ GE105.out | refine below_set ?_ GE106.out) | exact HB.out)) hb)
                    clear BK104
                    clear BK105
                    clear BK106
                    clear HB
                    have HO129 := n0_
                    have BK104 := n1_
                    have BK105 := n2_
                    have BK106 := n3_
                    have HB := n4_
                    clear n0_ n1_ n2_ n3_ n4_
                    clear hb ho28
                    refine hK.out _ _ ⟨(blk_cell BK104.out 0).trans rfl, (blk_cell BK104.out 1).trans rfl, (blk_cell BK105.out 0).trans rfl, (blk_cell BK105.out 1).trans rfl⟩ (fun hHeld => ?_)
                    clear hK K
                    refine norm_ (a' := ?_) ?_ ?_
                    rotate_left
                    · show Act.put _ (some 29) _ = _
                      simp only [Act.put, List.setIfInBounds_toArray, List.set_cons_zero, List.set_cons_succ, i64_w, i32_w]
                      rfl
                    refine one_ (i := 0) (N := some 22) #[true, true, true, true, true, false, true, true, false, true, false, false, false] rfl rfl (one_of HT_.out (by kernel_rfl)) (by decide) (fun K hK => ?_)
                    refine Kd.R_lit_step k29 _ 29 ?hg (N := 22) ?hd (xs := ([] : List (S29))) (inner := []) (ok := fun _ => True) (okp := fun _ => True) ?hr ?hp (fun _ hk => hk) trivial (Below.refl _ _) (Nat.le_refl _) (by simp) ?_; (case hd => rfl); (case hg => rfl); (case hr => first | (go_simp; done) | (go_simp; rfl)); (case hp => exact (Reps.none _ _))
                    intro v118 w29 ho30 hb hg_ hnew_
                    clear hg_ hnew_
                    (first | rw [← Ny117.out] at ho30 | (simp only [Int.reduceToNat] at ho30; rw [← Ny117.out] at ho30))
                    have n0_ := Aside0.mk (Kd.R_elder' (by (with_reducible repeat (first | apply Kd.R_alloc | apply Kd.R_drewN | apply Kd.R_drew)); exact HO129.out) (Kd.R_base ho30) hb)
                    have n1_ := Aside0.mk (Kd.R_lower (Kd.R_newB (Kd.R_new' ho30 (Kd.R_lt (by (with_reducible repeat (first | apply Kd.R_alloc | apply Kd.R_drewN | apply Kd.R_drew)); exact HO129.out))) (g := gb105) (o := .cells #[.int .i64 a1_0, .int .i64 a1_1] 29 (0, 0)) (by (with_reducible repeat (first | refine blk_drewN ?_ _ | refine blk_drew ?_ | refine blk_alloc ?_ _)); exact BK105.out)) (below_size (by repeat (first | (with_reducible first | exact HB.out | apply below_alloc | apply pw_below_drewN | apply below_drew1 | refine below_set ?_ GE104.out | refine below_set ?_ GE105.out | refine below_set ?_ GE106.out) | exact HB.out))))
                    have n2_ := Aside0.mk (blk_below (g := gb104) (o := .cells #[.bool a0_0, .slice A0_1 l0_1.length c0_1] 27 (0, 0)) (by (with_reducible repeat (first | refine blk_drewN ?_ _ | refine blk_drew ?_ | refine blk_alloc ?_ _)); exact BK104.out) hb)
                    have n3_ := Aside0.mk (blk_below (g := gb105) (o := .cells #[.int .i64 a1_0, .int .i64 a1_1] 29 (0, 0)) (by (with_reducible repeat (first | refine blk_drewN ?_ _ | refine blk_drew ?_ | refine blk_alloc ?_ _)); exact BK105.out) hb)
                    have n4_ := Aside0.mk (blk_below (g := gb106) (o := .cells #[.bool false, .slice none 0 0] 27 (0, 0)) (by (with_reducible repeat (first | refine blk_drewN ?_ _ | refine blk_drew ?_ | refine blk_alloc ?_ _)); exact BK106.out) hb)
                    have n5_ := Aside0.mk (below_step (by repeat (first | (with_reducible first | exact HB.out | apply below_alloc | apply pw_below_drewN | apply below_drew1 | refine below_set ?_ GE104.out | refine below_set ?_ GE105.out | refine below_set ?_ GE106.out) | exact HB.out)) hb)
                    clear HO129
                    clear BK104
                    clear BK105
                    clear BK106
                    clear HB
                    have HO129 := n0_
                    have HO119 := n1_
                    have BK104 := n2_
                    have BK105 := n3_
                    have BK106 := n4_
                    have HB := n5_
                    clear n0_ n1_ n2_ n3_ n4_ n5_
                    clear hb ho30
                    refine hK.out _ _ ⟨(blk_cell BK104.out 0).trans rfl, (blk_cell BK104.out 1).trans rfl, (blk_cell BK105.out 0).trans rfl, (blk_cell BK105.out 1).trans rfl⟩ (fun hHeld => ?_)
                    clear hK K
                    refine norm_ (a' := ?_) ?_ ?_
                    rotate_left
                    · show Act.put _ (some 22) _ = _
                      simp only [Act.put, List.setIfInBounds_toArray, List.set_cons_zero, List.set_cons_succ, i64_w, i32_w]
                      rfl
                    refine one_ (i := 5) (N := some 27) #[true, true, true, true, true, true, true, true, false, true, false, false, false] rfl rfl (one_of HT_.out (by kernel_rfl)) (by decide) (fun K hK => ?_)
                    refine Kd.R_append_rows_step k29 (w0 := w) w.heap.size (by rfl) (.tmp 22) (.tmp 26) 25 29 (.agg #[(.int .i64 0), (.int .i64 0)]) 16 rfl Try.underlying25 info29 rfl (by decide) (by omega) v118 y117 y120 _ _ _ (fun k_ => some k_ ≠ (v128 : Value).ownBlock ∧ k_ ≠ gb105) (fun _ => False) rfl rfl ?aO ?aR (fun _ _ h => h) (fun _ h => h.elim) ?aF ?aB ?aS ?aL ?_
                    (case aR => repeat (first | exact (Kd.C_below HR123.out HB.out) | (with_reducible refine Kd.C_alloc ?_ _) | (with_reducible refine Kd.C_drewN ?_ _) | (with_reducible refine Kd.C_drew ?_)))
                    (case aB => exact (by repeat (first | (with_reducible first | exact HB.out | apply below_alloc | apply pw_below_drewN | apply below_drew1 | refine below_set ?_ GE104.out | refine below_set ?_ GE105.out | refine below_set ?_ GE106.out) | exact HB.out)))
                    (case aF => exact (fun k_ hk => ⟨Kd.fresh' (Kd.R_lt (by (with_reducible repeat (first | apply Kd.R_alloc | apply Kd.R_drewN | apply Kd.R_drew)); exact HO129.out)) k_ hk, Kd.freshB (g := gb105) (o := .cells #[.int .i64 a1_0, .int .i64 a1_1] 29 (0, 0)) (by (with_reducible repeat (first | refine blk_drewN ?_ _ | refine blk_drew ?_ | refine blk_alloc ?_ _)); exact BK105.out) k_ hk⟩))
                    (case aO => exact (by (with_reducible repeat (first | apply Kd.R_alloc | apply Kd.R_drewN | apply Kd.R_drew)); exact Kd.R_mono HO119.out (fun _ hk => ⟨hk.1.2, hk.2⟩)))
                    (case aS => exact (below_size (by repeat (first | (with_reducible first | exact HB.out | apply below_alloc | apply pw_below_drewN | apply below_drew1 | refine below_set ?_ GE104.out | refine below_set ?_ GE105.out | refine below_set ?_ GE106.out) | exact HB.out))))
                    (case aL => have := LMc10.out; first | omega | exact this | exact Nat.le_of_lt this)
                    intro v125 w31 ho hb hg hat
                    rw [← Ny124.out] at ho
                    have n0_ := Aside0.mk (blk_grown (g := gb104) (o := .cells #[.bool a0_0, .slice A0_1 l0_1.length c0_1] 27 (0, 0)) (by (with_reducible repeat (first | refine blk_drewN ?_ _ | refine blk_drew ?_ | refine blk_alloc ?_ _)); exact BK104.out) hg (Kd.R_ne HO119.out BK104.out (by decide)))
                    have n1_ := Aside0.mk (blk_grown (g := gb105) (o := .cells #[.int .i64 a1_0, .int .i64 a1_1] 29 (0, 0)) (by (with_reducible repeat (first | refine blk_drewN ?_ _ | refine blk_drew ?_ | refine blk_alloc ?_ _)); exact BK105.out) hg (Kd.R_away HO119.out (fun _ hk => hk.2)))
                    have n2_ := Aside0.mk (blk_grown (g := gb106) (o := .cells #[.bool false, .slice none 0 0] 27 (0, 0)) (by (with_reducible repeat (first | refine blk_drewN ?_ _ | refine blk_drew ?_ | refine blk_alloc ?_ _)); exact BK106.out) hg (Kd.R_ne HO119.out BK106.out (by decide)))
                    have n3_ := Aside0.mk (Kd.R_after (ok := (fun k_ => k_ ≠ gb105)) (by (with_reducible repeat (first | apply Kd.R_alloc | apply Kd.R_drewN | apply Kd.R_drew)); exact Kd.R_mono HO129.out (fun _ hk => ⟨hk.1.2, hk.2⟩)) hg hat)
                    have n4_ := Aside0.mk (hb)
                    have n5_ := Aside0.mk (ho)
                    clear BK104
                    clear BK105
                    clear BK106
                    clear HO129
                    clear HB
                    clear HO119
                    have BK104 := n0_
                    have BK105 := n1_
                    have BK106 := n2_
                    have HO129 := n3_
                    have HB := n4_
                    have HO126 := n5_
                    clear n0_ n1_ n2_ n3_ n4_ n5_
                    clear ho hb hg hat
                    refine hK.out _ _ ⟨(blk_cell BK104.out 0).trans rfl, (blk_cell BK104.out 1).trans rfl, (blk_cell BK105.out 0).trans rfl, (blk_cell BK105.out 1).trans rfl⟩ (fun hHeld => ?_)
                    clear hK K
                    refine norm_ (a' := ?_) ?_ ?_
                    rotate_left
                    · show Act.put _ (some 27) _ = _
                      simp only [Act.put, List.setIfInBounds_toArray, List.set_cons_zero, List.set_cons_succ, i64_w, i32_w]
                      rfl
                    exact norm_ (by simp only [putAll, Act.put, List.setIfInBounds_toArray, List.set_cons_zero, List.set_cons_succ]) (hCont (v118, v125, v128) _ ⟨hHeld, (by (with_reducible repeat (first | apply Kd.R_alloc | apply Kd.R_drewN | apply Kd.R_drew)); exact HO126.out), (by (with_reducible repeat (first | apply Kd.R_alloc | apply Kd.R_drewN | apply Kd.R_drew)); exact Kd.R_mono HO129.out (fun _ hk => ⟨hk.2, hk.1⟩)), (by (with_reducible repeat (first | refine blk_drewN ?_ _ | refine blk_drew ?_ | refine blk_alloc ?_ _)); exact BK104.out), (by (with_reducible repeat (first | refine blk_drewN ?_ _ | refine blk_drew ?_ | refine blk_alloc ?_ _)); exact BK105.out), (by (with_reducible repeat (first | refine blk_drewN ?_ _ | refine blk_drew ?_ | refine blk_alloc ?_ _)); exact BK106.out), (by repeat (first | (with_reducible first | exact HB.out | apply below_alloc | apply pw_below_drewN | apply below_drew1 | refine below_set ?_ GE104.out | refine below_set ?_ GE105.out | refine below_set ?_ GE106.out) | exact HB.out))⟩)
                rintro ⟨v118, v125, v128⟩ w32 ⟨hS_, h0_, h1_, h2_, h3_, h4_, h5_⟩
                have n0_ : Aside0 (Kd.R k29 29 w32 w.heap.size (fun k_ => some k_ ≠ (v128 : Value).ownBlock ∧ k_ ≠ gb105) v125 y124) := ⟨h0_⟩
                have n1_ : Aside0 (Kd.R k29 29 w32 w.heap.size (fun k_ => some k_ ≠ (v125 : Value).ownBlock ∧ k_ ≠ gb105) v128 y127) := ⟨h1_⟩
                have n2_ : Aside0 (w32.heap[gb104]? = some (.cells #[.bool a0_0, .slice A0_1 l0_1.length c0_1] 27 (0, 0))) := ⟨h2_⟩
                have n3_ : Aside0 (w32.heap[gb105]? = some (.cells #[.int .i64 a1_0, .int .i64 a1_1] 29 (0, 0))) := ⟨h3_⟩
                have n4_ : Aside0 (w32.heap[gb106]? = some (.cells #[.bool false, .slice none 0 0] 27 (0, 0))) := ⟨h4_⟩
                have n5_ : Aside0 (Below w.heap.size w w32) := ⟨h5_⟩
                clear BK104
                clear BK105
                clear BK106
                clear HB
                clear h0_ h1_ h2_ h3_ h4_ h5_
                have HO126 := n0_
                have HO129 := n1_
                have BK104 := n2_
                have BK105 := n3_
                have BK106 := n4_
                have HB := n5_
                clear n0_ n1_ n2_ n3_ n4_ n5_
                have hHeld : w32.cell? ⟨gb104, 0, none⟩ = some (.bool a0_0) ∧ w32.cell? ⟨gb104, 1, none⟩ = some (.slice A0_1 l0_1.length c0_1) ∧ w32.cell? ⟨gb105, 0, none⟩ = some (.int .i64 a1_0) ∧ w32.cell? ⟨gb105, 1, none⟩ = some (.int .i64 a1_1) := hS_
                obtain ⟨Ao34, co34, eo34⟩ := Kd.R_slice HO129.out
                (first | subst eo34 | (injection eo34 with f1_ f2_ f3_; have f4_ := f1_.symm; have f5_ := f3_.symm; clear f1_ f2_ f3_; subst f4_; subst f5_))
                refine norm_ (a' := ?_) ?_ ?_
                rotate_left
                · simp only [putAll, Act.put, List.setIfInBounds_toArray, List.set_cons_zero, List.set_cons_succ]
                  rfl
                refine one_ (i := 8) (N := some 30) #[true, true, true, true, true, true, true, true, true, true, false, false, false] rfl rfl (one_of HT_.out (by kernel_rfl)) (by decide) (fun K hK => ?_)
                refine Kd.R_append_rows_step k29 (w0 := w) w.heap.size (by rfl) (.tmp 27) (.tmp 29) 25 29 (.agg #[(.int .i64 0), (.int .i64 0)]) 16 rfl Try.underlying25 info29 rfl (by decide) (by omega) v125 y124 y127 _ _ _ (fun k_ => some k_ ≠ (.slice Ao34 y127.length co34 : Value).ownBlock ∧ k_ ≠ gb105) (fun _ => False) rfl rfl ?aO ?aR (fun _ _ h => h) (fun _ h => h.elim) ?aF ?aB ?aS ?aL ?_
                (case aR => repeat (first | exact (Kd.R_reads' HO129.out).2.2 | (with_reducible refine Kd.C_alloc ?_ _) | (with_reducible refine Kd.C_drewN ?_ _) | (with_reducible refine Kd.C_drew ?_)))
                (case aB => exact (by repeat (first | (with_reducible first | exact HB.out | apply below_alloc | apply pw_below_drewN | apply below_drew1 | refine below_set ?_ GE104.out | refine below_set ?_ GE105.out | refine below_set ?_ GE106.out) | exact HB.out)))
                (case aF => exact (fun k_ hk => ⟨Kd.fresh' (Kd.R_lt (by (with_reducible repeat (first | apply Kd.R_alloc | apply Kd.R_drewN | apply Kd.R_drew)); exact HO129.out)) k_ hk, Kd.freshB (g := gb105) (o := .cells #[.int .i64 a1_0, .int .i64 a1_1] 29 (0, 0)) (by (with_reducible repeat (first | refine blk_drewN ?_ _ | refine blk_drew ?_ | refine blk_alloc ?_ _)); exact BK105.out) k_ hk⟩))
                (case aO => exact (by (with_reducible repeat (first | apply Kd.R_alloc | apply Kd.R_drewN | apply Kd.R_drew)); exact HO126.out))
                (case aS => exact (below_size (by repeat (first | (with_reducible first | exact HB.out | apply below_alloc | apply pw_below_drewN | apply below_drew1 | refine below_set ?_ GE104.out | refine below_set ?_ GE105.out | refine below_set ?_ GE106.out) | exact HB.out))))
                (case aL => have := LMc11.out; first | omega | exact this | exact Nat.le_of_lt this)
                intro v131 w33 ho hb hg hat
                rw [← Ny130.out] at ho
                have n0_ := Aside0.mk (blk_grown (g := gb104) (o := .cells #[.bool a0_0, .slice A0_1 l0_1.length c0_1] 27 (0, 0)) (by (with_reducible repeat (first | refine blk_drewN ?_ _ | refine blk_drew ?_ | refine blk_alloc ?_ _)); exact BK104.out) hg (Kd.R_ne HO126.out BK104.out (by decide)))
                have n1_ := Aside0.mk (blk_grown (g := gb105) (o := .cells #[.int .i64 a1_0, .int .i64 a1_1] 29 (0, 0)) (by (with_reducible repeat (first | refine blk_drewN ?_ _ | refine blk_drew ?_ | refine blk_alloc ?_ _)); exact BK105.out) hg (Kd.R_away HO126.out (fun _ hk => hk.2)))
                have n2_ := Aside0.mk (blk_grown (g := gb106) (o := .cells #[.bool false, .slice none 0 0] 27 (0, 0)) (by (with_reducible repeat (first | refine blk_drewN ?_ _ | refine blk_drew ?_ | refine blk_alloc ?_ _)); exact BK106.out) hg (Kd.R_ne HO126.out BK106.out (by decide)))
                have n3_ := Aside0.mk (Kd.R_after (ok := (fun k_ => k_ ≠ gb105)) (by (with_reducible repeat (first | apply Kd.R_alloc | apply Kd.R_drewN | apply Kd.R_drew)); exact Kd.R_mono HO129.out (fun _ hk => ⟨hk.2, hk.1⟩)) hg hat)
                have n4_ := Aside0.mk (hb)
                have n5_ := Aside0.mk (ho)
                clear BK104
                clear BK105
                clear BK106
                clear HO129
                clear HB
                clear HO126
                have BK104 := n0_
                have BK105 := n1_
                have BK106 := n2_
                have HO129 := n3_
                have HB := n4_
                have HO132 := n5_
                clear n0_ n1_ n2_ n3_ n4_ n5_
                clear ho hb hg hat
                refine hK.out _ _ ⟨(blk_cell BK104.out 0).trans rfl, (blk_cell BK104.out 1).trans rfl, (blk_cell BK105.out 0).trans rfl, (blk_cell BK105.out 1).trans rfl⟩ (fun hHeld => ?_)
                clear hK K
                refine norm_ (a' := ?_) ?_ ?_
                rotate_left
                · show Act.put _ (some 30) _ = _
                  simp only [Act.put, List.setIfInBounds_toArray, List.set_cons_zero, List.set_cons_succ, i64_w, i32_w]
                  rfl
                refine one_ (i := 10) (N := some 32) #[true, true, true, true, true, true, true, true, true, true, true, false, false] rfl rfl (one_of HT_.out (by kernel_rfl)) (by decide) (fun K hK => ?_)
                refine Kd.R_append_rows_step k29 (w0 := w) w.heap.size (by rfl) (.tmp 30) (.tmp 31) 25 29 (.agg #[(.int .i64 0), (.int .i64 0)]) 16 rfl Try.underlying25 info29 rfl (by decide) (by omega) v131 y130 y113 _ _ _ (fun k_ => some k_ ≠ (.slice Ao34 y127.length co34 : Value).ownBlock ∧ k_ ≠ gb105) (fun _ => False) rfl rfl ?aO ?aR (fun _ _ h => h) (fun _ h => h.elim) ?aF ?aB ?aS ?aL ?_
                (case aR => repeat (first | exact (Kd.C_below HR116.out HB.out) | (with_reducible refine Kd.C_alloc ?_ _) | (with_reducible refine Kd.C_drewN ?_ _) | (with_reducible refine Kd.C_drew ?_)))
                (case aB => exact (by repeat (first | (with_reducible first | exact HB.out | apply below_alloc | apply pw_below_drewN | apply below_drew1 | refine below_set ?_ GE104.out | refine below_set ?_ GE105.out | refine below_set ?_ GE106.out) | exact HB.out)))
                (case aF => exact (fun k_ hk => ⟨Kd.fresh' (Kd.R_lt (by (with_reducible repeat (first | apply Kd.R_alloc | apply Kd.R_drewN | apply Kd.R_drew)); exact HO129.out)) k_ hk, Kd.freshB (g := gb105) (o := .cells #[.int .i64 a1_0, .int .i64 a1_1] 29 (0, 0)) (by (with_reducible repeat (first | refine blk_drewN ?_ _ | refine blk_drew ?_ | refine blk_alloc ?_ _)); exact BK105.out) k_ hk⟩))
                (case aO => exact (by (with_reducible repeat (first | apply Kd.R_alloc | apply Kd.R_drewN | apply Kd.R_drew)); exact HO132.out))
                (case aS => exact (below_size (by repeat (first | (with_reducible first | exact HB.out | apply below_alloc | apply pw_below_drewN | apply below_drew1 | refine below_set ?_ GE104.out | refine below_set ?_ GE105.out | refine below_set ?_ GE106.out) | exact HB.out))))
                (case aL => have := LMc12.out; first | omega | exact this | exact Nat.le_of_lt this)
                intro v134 w35 ho hb hg hat
                rw [← Ny133.out] at ho
                have n0_ := Aside0.mk (blk_grown (g := gb104) (o := .cells #[.bool a0_0, .slice A0_1 l0_1.length c0_1] 27 (0, 0)) (by (with_reducible repeat (first | refine blk_drewN ?_ _ | refine blk_drew ?_ | refine blk_alloc ?_ _)); exact BK104.out) hg (Kd.R_ne HO132.out BK104.out (by decide)))
                have n1_ := Aside0.mk (blk_grown (g := gb105) (o := .cells #[.int .i64 a1_0, .int .i64 a1_1] 29 (0, 0)) (by (with_reducible repeat (first | refine blk_drewN ?_ _ | refine blk_drew ?_ | refine blk_alloc ?_ _)); exact BK105.out) hg (Kd.R_away HO132.out (fun _ hk => hk.2)))
                have n2_ := Aside0.mk (blk_grown (g := gb106) (o := .cells #[.bool false, .slice none 0 0] 27 (0, 0)) (by (with_reducible repeat (first | refine blk_drewN ?_ _ | refine blk_drew ?_ | refine blk_alloc ?_ _)); exact BK106.out) hg (Kd.R_ne HO132.out BK106.out (by decide)))
                have n3_ := Aside0.mk (Kd.R_after (ok := (fun k_ => k_ ≠ gb105)) (by (with_reducible repeat (first | apply Kd.R_alloc | apply Kd.R_drewN | apply Kd.R_drew)); exact HO129.out) hg hat)
                have n4_ := Aside0.mk (hb)
                have n5_ := Aside0.mk (ho)
                clear BK104
                clear BK105
                clear BK106
                clear HO129
                clear HB
                clear HO132
                have BK104 := n0_
                have BK105 := n1_
                have BK106 := n2_
                have HO129 := n3_
                have HB := n4_
                have HO135 := n5_
                clear n0_ n1_ n2_ n3_ n4_ n5_
                clear ho hb hg hat
                obtain ⟨Ao36, co36, eo36⟩ := Kd.R_slice HO135.out
                (first | subst eo36 | (injection eo36 with f1_ f2_ f3_; have f4_ := f1_.symm; have f5_ := f3_.symm; clear f1_ f2_ f3_; subst f4_; subst f5_))
                refine hK.out _ _ ⟨(blk_cell BK104.out 0).trans rfl, (blk_cell BK104.out 1).trans rfl, (blk_cell BK105.out 0).trans rfl, (blk_cell BK105.out 1).trans rfl⟩ (fun hHeld => ?_)
                clear hK K
                refine norm_ (a' := ?_) ?_ ?_
                rotate_left
                · show Act.put _ (some 32) _ = _
                  simp only [Act.put, List.setIfInBounds_toArray, List.set_cons_zero, List.set_cons_succ, i64_w, i32_w]
                  rfl
                refine pure_ (i := 11) (N := some 33) (v := ?_) (a' := ?_) #[true, true, true, true, true, true, true, true, true, true, true, true, false] rfl rfl (any_of HT_.out (by kernel_rfl)) (fun _ _ _ h => h) (Or.inl ⟨by rfl, ?_⟩) ?_ ?_
                rotate_left
                · intro w'
                  go_simp
                  with_reducible rfl
                rotate_left
                · simp only [Act.put, List.setIfInBounds_toArray, List.set_cons_zero, List.set_cons_succ, i64_w, i32_w]
                  rfl
                refine one_ (i := 12) (N := none) #[true, true, true, true, true, true, true, true, true, true, true, true, true] rfl rfl (one_of HT_.out (by kernel_rfl)) (by decide) (fun K hK => ?_)
                have hs37 : w35.cell? ⟨gb106, 0, none⟩ = some (.bool false) := (blk_cell BK106.out 0).trans rfl
                have hfs37 := blk_frozen BK106.out 0
                have hns37_0 := NB104_106.out
                have hns37_1 := NB105_106.out
                have hms37_0 := NB106_104.out
                have hms37_1 := NB106_105.out
                have hs38 : w35.cell? ⟨gb106, 1, none⟩ = some (.slice none 0 0) := (blk_cell BK106.out 1).trans rfl
                have hfs38 := blk_frozen BK106.out 1
                have hns38_0 := NB104_106.out
                have hns38_1 := NB105_106.out
                have hms38_0 := NB106_104.out
                have hms38_1 := NB106_105.out
                refine skip_ (w1 := ?_) (by rfl) rfl ?_ ?_
                rotate_left
                · go_simp
                  rfl
                refine hK.out _ _ ⟨((cell_far (p := ⟨gb106, _, none⟩) NB104_106.out _).trans (((cell_far (p := ⟨gb106, _, none⟩) NB104_106.out _).trans (hHeld.1)))), ((cell_far (p := ⟨gb106, _, none⟩) NB104_106.out _).trans (((cell_far (p := ⟨gb106, _, none⟩) NB104_106.out _).trans (hHeld.2.1)))), ((cell_far (p := ⟨gb106, _, none⟩) NB105_106.out _).trans (((cell_far (p := ⟨gb106, _, none⟩) NB105_106.out _).trans (hHeld.2.2.1)))), ((cell_far (p := ⟨gb106, _, none⟩) NB105_106.out _).trans (((cell_far (p := ⟨gb106, _, none⟩) NB105_106.out _).trans (hHeld.2.2.2))))⟩ (fun hHeld => ?_)
                clear hK K
                refine done_ (done_of HT_.out (by kernel_rfl)) ?_
                try go_wp2
                refine bodyPost_ret (results_cell_row rfl _ _ gb106 27 #[.bool false, .slice Ao36 y133.length co36] (0, 0) _ rfl (by (with_reducible repeat (first | refine blk_drewN ?_ _ | refine blk_drew ?_ | refine blk_alloc ?_ _)); refine blk_put (cs := #[.bool false, .slice none 0 0]) ?_ 1 _ rfl; (with_reducible repeat (first | refine blk_drewN ?_ _ | refine blk_drew ?_ | refine blk_alloc ?_ _)); refine blk_put (cs := #[.bool false, .slice none 0 0]) ?_ 0 _ rfl; (with_reducible repeat (first | refine blk_drewN ?_ _ | refine blk_drew ?_ | refine blk_alloc ?_ _)); exact BK106.out) Try.underlying27 rfl (by kernel_rfl)) rfl ?_
                exact ⟨_, by first | rfl | (simp [errW_none, errW_some] <;> rfl) | (simp [*, errW_none, errW_some] <;> rfl), by (with_reducible repeat (first | apply Kd.R_alloc | apply Kd.R_drewN | apply Kd.R_drew)); exact Kd.R_mono (Kd.R_far (p := ⟨gb106, 1, none⟩) (Kd.R_far (p := ⟨gb106, 0, none⟩) (Kd.R_types HO135.out BK106.out (by decide)) (fun _ hk => hk.2) (.bool false)) (fun _ hk => hk.2) (.slice Ao36 y133.length co36)) (fun _ hk => trivial), by repeat (first | (with_reducible first | exact HB.out | apply below_alloc | apply pw_below_drewN | apply below_drew1 | refine below_set ?_ GE104.out | refine below_set ?_ GE105.out | refine below_set ?_ GE106.out) | exact HB.out)⟩
              · rw [if_neg c12] at H
                exact absurd H (by simp)
            · rw [if_neg c11] at H
              exact absurd H (by simp)
          · rw [if_neg c10] at H
            exact absurd H (by simp)
        · rw [if_neg c7] at H
          exact absurd H (by simp)
      · replace c6 := Bool.eq_false_iff.mpr c6
        subst c6
        have H1 : ((some (([] : List (S29)) : List (S29))).bind fun y136 => ((some (l0_1.take (t107 : Int).toNat : List (S29))).bind fun y139 => (if y136.length + y139.length < 8796093022208 then ((some (y136 ++ y139 : List (S29))).bind fun y143 => ((some (([(⟨a1_0, a1_1⟩ : S29)] : List (S29)) : List (S29))).bind fun y146 => (if y143.length + y146.length < 8796093022208 then ((some (y143 ++ y146 : List (S29))).bind fun y149 => (if y149.length + y109.length < 8796093022208 then (some (false, (y149 ++ y109))) else (none))) else (none)))) else (none)))) = some (r1, r2) := by rw [if_neg (show ¬ (false = true) by decide)] at H; exact H
        clear H
        have H := H1
        clear H1
        obtain ⟨y136, hy136⟩ : ∃ y_ : List (S29), y_ = (([] : List (S29))) := ⟨_, rfl⟩
        replace H : ((some (l0_1.take (t107 : Int).toNat : List (S29))).bind fun y139 => (if y136.length + y139.length < 8796093022208 then ((some (y136 ++ y139 : List (S29))).bind fun y143 => ((some (([(⟨a1_0, a1_1⟩ : S29)] : List (S29)) : List (S29))).bind fun y146 => (if y143.length + y146.length < 8796093022208 then ((some (y143 ++ y146 : List (S29))).bind fun y149 => (if y149.length + y109.length < 8796093022208 then (some (false, (y149 ++ y109))) else (none))) else (none)))) else (none))) = some (r1, r2) := by first | (rw [hy136]; with_reducible exact H) | (have H2_ := (Option.bind_some _ _).symm.trans H; rw [hy136]; with_reducible exact H2_) | (have H2_ := (Option.bind_some _ _).symm.trans H; with_reducible exact H2_) | with_reducible exact H | (rw [hy136]; exact H) | exact H
        have Ny136 := Aside0.mk hy136
        clear hy136
        have c39b0 := eq_true (of_decide_eq_true (by first | (with_reducible assumption) | assumption) : 0 ≤ t107)
        have c40b0 := eq_true (of_decide_eq_true (by first | (with_reducible assumption) | assumption) : t107 ≤ (l0_1.length : Int))
        obtain ⟨y139, hy139⟩ : ∃ y_ : List (S29), y_ = (l0_1.take (t107 : Int).toNat) := ⟨_, rfl⟩
        replace H : (if y136.length + y139.length < 8796093022208 then ((some (y136 ++ y139 : List (S29))).bind fun y143 => ((some (([(⟨a1_0, a1_1⟩ : S29)] : List (S29)) : List (S29))).bind fun y146 => (if y143.length + y146.length < 8796093022208 then ((some (y143 ++ y146 : List (S29))).bind fun y149 => (if y149.length + y109.length < 8796093022208 then (some (false, (y149 ++ y109))) else (none))) else (none)))) else (none)) = some (r1, r2) := by first | (rw [hy139]; with_reducible exact H) | (have H2_ := (Option.bind_some _ _).symm.trans H; rw [hy139]; with_reducible exact H2_) | (have H2_ := (Option.bind_some _ _).symm.trans H; with_reducible exact H2_) | with_reducible exact H | (rw [hy139]; exact H) | exact H
        have Ny139 := Aside0.mk hy139
        clear hy139
        by_cases c41 : y136.length + y139.length < 8796093022208
        · rw [if_pos c41] at H
          have LMc41 := Aside0.mk c41
          clear c41
          obtain ⟨y143, hy143⟩ : ∃ y_ : List (S29), y_ = (y136 ++ y139) := ⟨_, rfl⟩
          replace H : ((some (([(⟨a1_0, a1_1⟩ : S29)] : List (S29)) : List (S29))).bind fun y146 => (if y143.length + y146.length < 8796093022208 then ((some (y143 ++ y146 : List (S29))).bind fun y149 => (if y149.length + y109.length < 8796093022208 then (some (false, (y149 ++ y109))) else (none))) else (none))) = some (r1, r2) := by first | (rw [hy143]; with_reducible exact H) | (have H2_ := (Option.bind_some _ _).symm.trans H; rw [hy143]; with_reducible exact H2_) | (have H2_ := (Option.bind_some _ _).symm.trans H; with_reducible exact H2_) | with_reducible exact H | (rw [hy143]; exact H) | exact H
          have Ny143 := Aside0.mk hy143
          clear hy143
          obtain ⟨y146, hy146⟩ : ∃ y_ : List (S29), y_ = (([(⟨a1_0, a1_1⟩ : S29)] : List (S29))) := ⟨_, rfl⟩
          replace H : (if y143.length + y146.length < 8796093022208 then ((some (y143 ++ y146 : List (S29))).bind fun y149 => (if y149.length + y109.length < 8796093022208 then (some (false, (y149 ++ y109))) else (none))) else (none)) = some (r1, r2) := by first | (rw [hy146]; with_reducible exact H) | (have H2_ := (Option.bind_some _ _).symm.trans H; rw [hy146]; with_reducible exact H2_) | (have H2_ := (Option.bind_some _ _).symm.trans H; with_reducible exact H2_) | with_reducible exact H | (rw [hy146]; exact H) | exact H
          have Ny146 := Aside0.mk hy146
          clear hy146
          by_cases c42 : y143.length + y146.length < 8796093022208
          · rw [if_pos c42] at H
            have LMc42 := Aside0.mk c42
            clear c42
            obtain ⟨y149, hy149⟩ : ∃ y_ : List (S29), y_ = (y143 ++ y146) := ⟨_, rfl⟩
            replace H : (if y149.length + y109.length < 8796093022208 then (some (false, (y149 ++ y109))) else (none)) = some (r1, r2) := by first | (rw [hy149]; with_reducible exact H) | (have H2_ := (Option.bind_some _ _).symm.trans H; rw [hy149]; with_reducible exact H2_) | (have H2_ := (Option.bind_some _ _).symm.trans H; with_reducible exact H2_) | with_reducible exact H | (rw [hy149]; exact H) | exact H
            have Ny149 := Aside0.mk hy149
            clear hy149
            by_cases c43 : y149.length + y109.length < 8796093022208
            · rw [if_pos c43] at H
              have LMc43 := Aside0.mk c43
              clear c43
              obtain ⟨y152, hy152⟩ : ∃ y_ : List (S29), y_ = (y149 ++ y109) := ⟨_, rfl⟩
              replace H : (some (false, y152)) = some (r1, r2) := by first | (rw [hy152]; with_reducible exact H) | (have H2_ := (Option.bind_some _ _).symm.trans H; rw [hy152]; with_reducible exact H2_) | (have H2_ := (Option.bind_some _ _).symm.trans H; with_reducible exact H2_) | with_reducible exact H | (rw [hy152]; exact H) | exact H
              have Ny152 := Aside0.mk hy152
              clear hy152
              simp only [Option.some.injEq, Prod.mk.injEq] at H
              obtain ⟨rfl, rfl⟩ := H
              go_enter Try.func5, Try.ntmps5
              try go_wp2_with (first | ((with_reducible refine gate_dst (N := 2) rfl ?_); refine box_event ?hg (N := 2) ?hd (cs := #[.bool a0_0, .slice A0_1 l0_1.length c0_1]) (t := 27) ?hr ?_; (case hd => rfl); (case hg => rfl); (case hr => first | (go_simp; done) | (go_simp; rfl)); intro gb104 hg w44 hbox hb; have n0_ := Aside0.mk (below_step (by repeat (first | (with_reducible first | exact HB.out | apply below_alloc | apply pw_below_drewN | apply below_drew1) | exact HB.out)) hb); have n1_ := Aside0.mk (hbox); have n2_ := Aside0.mk ((by rw [hg]; exact (below_size (by repeat (first | (with_reducible first | exact HB.out | apply below_alloc | apply pw_below_drewN | apply below_drew1) | exact HB.out))) : w.heap.size ≤ gb104)); have n3_ := Aside0.mk ((by rw [hg]; exact (below_size (by repeat (first | (with_reducible first | exact HB.out | apply below_alloc | apply pw_below_drewN | apply below_drew1) | exact HB.out))) : w.heap.size ≤ gb104)); clear HB; have HB := n0_; have BK104 := n1_; have GW104 := n2_; have GE104 := n3_; clear n0_ n1_ n2_ n3_; clear hb hbox hg) | ((with_reducible refine gate_dst (N := 3) rfl ?_); refine box_event ?hg (N := 3) ?hd (cs := #[.int .i64 a1_0, .int .i64 a1_1]) (t := 29) ?hr ?_; (case hd => rfl); (case hg => rfl); (case hr => first | (go_simp; done) | (go_simp; rfl)); intro gb105 hg w45 hbox hb; have n0_ := Aside0.mk (blk_below (g := gb104) (o := .cells #[.bool a0_0, .slice A0_1 l0_1.length c0_1] 27 (0, 0)) (by (with_reducible repeat (first | refine blk_drewN ?_ _ | refine blk_drew ?_ | refine blk_alloc ?_ _)); exact BK104.out) hb); have n1_ := Aside0.mk (below_step (by repeat (first | (with_reducible first | exact HB.out | apply below_alloc | apply pw_below_drewN | apply below_drew1 | refine below_set ?_ GE104.out) | exact HB.out)) hb); have n2_ := Aside0.mk (hbox); have n3_ := Aside0.mk ((by rw [hg]; exact (below_size (by repeat (first | (with_reducible first | exact HB.out | apply below_alloc | apply pw_below_drewN | apply below_drew1 | refine below_set ?_ GE104.out) | exact HB.out))) : w.heap.size ≤ gb105)); have n4_ := Aside0.mk ((by rw [hg]; exact (below_size (by repeat (first | (with_reducible first | exact HB.out | apply below_alloc | apply pw_below_drewN | apply below_drew1 | refine below_set ?_ GE104.out) | exact HB.out))) : w.heap.size ≤ gb105)); have n5_ := Aside0.mk ((by rw [hg]; exact Nat.ne_of_lt (blk_lt (g := gb104) (o := .cells #[.bool a0_0, .slice A0_1 l0_1.length c0_1] 27 (0, 0)) (by (with_reducible repeat (first | refine blk_drewN ?_ _ | refine blk_drew ?_ | refine blk_alloc ?_ _)); exact BK104.out)) : gb104 ≠ gb105)); have n6_ := Aside0.mk ((by rw [hg]; exact Nat.ne_of_gt (blk_lt (g := gb104) (o := .cells #[.bool a0_0, .slice A0_1 l0_1.length c0_1] 27 (0, 0)) (by (with_reducible repeat (first | refine blk_drewN ?_ _ | refine blk_drew ?_ | refine blk_alloc ?_ _)); exact BK104.out)) : gb105 ≠ gb104)); clear BK104; clear HB; have BK104 := n0_; have HB := n1_; have BK105 := n2_; have GW105 := n3_; have GE105 := n4_; have NB104_105 := n5_; have NB105_104 := n6_; clear n0_ n1_ n2_ n3_ n4_ n5_ n6_; clear hb hbox hg) | ((with_reducible refine gate_dst (N := 4) rfl ?_); refine box_event ?hg (N := 4) ?hd (cs := #[.bool false, .slice none 0 0]) (t := 27) ?hr ?_; (case hd => rfl); (case hg => rfl); (case hr => first | (go_simp; done) | (go_simp; rfl)); intro gb106 hg w46 hbox hb; have n0_ := Aside0.mk (blk_below (g := gb104) (o := .cells #[.bool a0_0, .slice A0_1 l0_1.length c0_1] 27 (0, 0)) (by (with_reducible repeat (first | refine blk_drewN ?_ _ | refine blk_drew ?_ | refine blk_alloc ?_ _)); exact BK104.out) hb); have n1_ := Aside0.mk (blk_below (g := gb105) (o := .cells #[.int .i64 a1_0, .int .i64 a1_1] 29 (0, 0)) (by (with_reducible repeat (first | refine blk_drewN ?_ _ | refine blk_drew ?_ | refine blk_alloc ?_ _)); exact BK105.out) hb); have n2_ := Aside0.mk (below_step (by repeat (first | (with_reducible first | exact HB.out | apply below_alloc | apply pw_below_drewN | apply below_drew1 | refine below_set ?_ GE104.out | refine below_set ?_ GE105.out) | exact HB.out)) hb); have n3_ := Aside0.mk (hbox); have n4_ := Aside0.mk ((by rw [hg]; exact (below_size (by repeat (first | (with_reducible first | exact HB.out | apply below_alloc | apply pw_below_drewN | apply below_drew1 | refine below_set ?_ GE104.out | refine below_set ?_ GE105.out) | exact HB.out))) : w.heap.size ≤ gb106)); have n5_ := Aside0.mk ((by rw [hg]; exact (below_size (by repeat (first | (with_reducible first | exact HB.out | apply below_alloc | apply pw_below_drewN | apply below_drew1 | refine below_set ?_ GE104.out | refine below_set ?_ GE105.out) | exact HB.out))) : w.heap.size ≤ gb106)); have n6_ := Aside0.mk ((by rw [hg]; exact Nat.ne_of_lt (blk_lt (g := gb104) (o := .cells #[.bool a0_0, .slice A0_1 l0_1.length c0_1] 27 (0, 0)) (by (with_reducible repeat (first | refine blk_drewN ?_ _ | refine blk_drew ?_ | refine blk_alloc ?_ _)); exact BK104.out)) : gb104 ≠ gb106)); have n7_ := Aside0.mk ((by rw [hg]; exact Nat.ne_of_gt (blk_lt (g := gb104) (o := .cells #[.bool a0_0, .slice A0_1 l0_1.length c0_1] 27 (0, 0)) (by (with_reducible repeat (first | refine blk_drewN ?_ _ | refine blk_drew ?_ | refine blk_alloc ?_ _)); exact BK104.out)) : gb106 ≠ gb104)); have n8_ := Aside0.mk ((by rw [hg]; exact Nat.ne_of_lt (blk_lt (g := gb105) (o := .cells #[.int .i64 a1_0, .int .i64 a1_1] 29 (0, 0)) (by (with_reducible repeat (first | refine blk_drewN ?_ _ | refine blk_drew ?_ | refine blk_alloc ?_ _)); exact BK105.out)) : gb105 ≠ gb106)); have n9_ := Aside0.mk ((by rw [hg]; exact Nat.ne_of_gt (blk_lt (g := gb105) (o := .cells #[.int .i64 a1_0, .int .i64 a1_1] 29 (0, 0)) (by (with_reducible repeat (first | refine blk_drewN ?_ _ | refine blk_drew ?_ | refine blk_alloc ?_ _)); exact BK105.out)) : gb106 ≠ gb105)); clear BK104; clear BK105; clear HB; have BK104 := n0_; have BK105 := n1_; have HB := n2_; have BK106 := n3_; have GW106 := n4_; have GE106 := n5_; have NB104_106 := n6_; have NB106_104 := n7_; have NB105_106 := n8_; have NB106_105 := n9_; clear n0_ n1_ n2_ n3_ n4_ n5_ n6_ n7_ n8_ n9_; clear hb hbox hg; have hnb47 := NB104_105.out; have hnc47 := NB105_104.out; have hnb48 := NB104_106.out; have hnc48 := NB106_104.out; have hcz49_0 : w46.cell? ⟨gb104, 0, none⟩ = some (.bool a0_0) := (blk_cell BK104.out 0).trans rfl; have hcz49_1 : w46.cell? ⟨gb104, 1, none⟩ = some (.slice A0_1 l0_1.length c0_1) := (blk_cell BK104.out 1).trans rfl; have hfz49_0 := blk_frozen BK104.out 0; have hfz49_1 := blk_frozen BK104.out 1; have hnb50 := NB105_106.out; have hnc50 := NB106_105.out; have hcz51_0 : w46.cell? ⟨gb105, 0, none⟩ = some (.int .i64 a1_0) := (blk_cell BK105.out 0).trans rfl; have hcz51_1 : w46.cell? ⟨gb105, 1, none⟩ = some (.int .i64 a1_1) := (blk_cell BK105.out 1).trans rfl; have hfz51_0 := blk_frozen BK105.out 0; have hfz51_1 := blk_frozen BK105.out 1) | ((with_reducible refine gate_callee (f := 11) rfl ?_); refine goesL_ (some 12) rfl rfl Try.func11 (by kernel_rfl) rfl #[.agg #[.bool a0_0, .slice A0_1 l0_1.length c0_1], .int .i64 a1_0] rfl (by (try simp only [List.map_toArray, List.map_cons, List.map_nil]); first | done | rfl | (simp only [List.length_drop, List.length_take]; rfl)) ?_; (with_reducible refine (spec_TwMapped_At.calls k a0_0 _ _ l0_1 a1_0 t107 false _ ?side1 ?side2 A3.out).mono ?_); (case side1 => repeat (first | exact (Kd.C_below HR0_1.out HB.out) | (with_reducible refine Kd.C_alloc ?_ _) | (with_reducible refine Kd.C_drewN ?_ _) | (with_reducible refine Kd.C_drew ?_))); (case side2 => exact HC0_1.out); rintro e w52 ⟨rfl, hb⟩; refine ⟨_, rfl, ?_⟩; have n0_ := Aside0.mk (blk_below (g := gb104) (o := .cells #[.bool a0_0, .slice A0_1 l0_1.length c0_1] 27 (0, 0)) (by (with_reducible repeat (first | refine blk_drewN ?_ _ | refine blk_drew ?_ | refine blk_alloc ?_ _)); exact BK104.out) hb); have n1_ := Aside0.mk (blk_below (g := gb105) (o := .cells #[.int .i64 a1_0, .int .i64 a1_1] 29 (0, 0)) (by (with_reducible repeat (first | refine blk_drewN ?_ _ | refine blk_drew ?_ | refine blk_alloc ?_ _)); exact BK105.out) hb); have n2_ := Aside0.mk (blk_below (g := gb106) (o := .cells #[.bool false, .slice none 0 0] 27 (0, 0)) (by (with_reducible repeat (first | refine blk_drewN ?_ _ | refine blk_drew ?_ | refine blk_alloc ?_ _)); exact BK106.out) hb); have n3_ := Aside0.mk (below_step (by repeat (first | (with_reducible first | exact HB.out | apply below_alloc | apply pw_below_drewN | apply below_drew1 | refine below_set ?_ GE104.out | refine below_set ?_ GE105.out | refine below_set ?_ GE106.out) | exact HB.out)) hb); clear BK104; clear BK105; clear BK106; clear HB; have BK104 := n0_; have BK105 := n1_; have BK106 := n2_; have HB := n3_; clear n0_ n1_ n2_ n3_; (try clear hb); (try clear hb2); (try clear hk); (try clear hi); have hcz53_0 : w52.cell? ⟨gb104, 0, none⟩ = some (.bool a0_0) := (blk_cell BK104.out 0).trans rfl; have hcz53_1 : w52.cell? ⟨gb104, 1, none⟩ = some (.slice A0_1 l0_1.length c0_1) := (blk_cell BK104.out 1).trans rfl; have hfz53_0 := blk_frozen BK104.out 0; have hfz53_1 := blk_frozen BK104.out 1; have q54 : (t107 : Int) ≤ ((l0_1.length : Int) : Int) := of_decide_eq_true (by first | (with_reducible assumption) | assumption); obtain ⟨i054, hi054, _, hsz54, _⟩ := info_parts info29; have hroom54 : l0_1.length ≤ c0_1 := HC0_1.out; have hC54 : Kd.C k29 _ A0_1 l0_1.length l0_1 := HR0_1.out; have q054 : (0 : Int) ≤ (t107 : Int) := of_decide_eq_true (by first | (with_reducible assumption) | assumption); have hcut54 := cut_from (P := Try.prog) 25 29 .i64 Try.underlying25 hi054 2 hsz54 A0_1 l0_1.length c0_1 t107 q054 q54; have hr54 := Kd.C_drop (m := (t107 : Int).toNat) (c := c0_1) hC54 (by omega) hroom54; obtain ⟨A54, hA54⟩ : ∃ A1, A1 = (if c0_1 = (t107 : Int).toNat then A0_1 else (A0_1 : Option Addr).map (·.add ((t107 : Int).toNat * 2))) := ⟨_, rfl⟩; obtain ⟨c54, hc54⟩ : ∃ c1, c1 = c0_1 - (t107 : Int).toNat := ⟨_, rfl⟩; have hy54 : y109.length = l0_1.length - (t107 : Int).toNat := (by rw [Ny109.out, List.length_drop] <;> omega); rw [show (l0_1).drop (t107 : Int).toNat = y109 from Ny109.out.symm] at hr54; replace hr54 : Kd.C k29 _ A54 y109.length y109 := (by rw [hA54]; exact hr54); rw [← hy54, ← hA54, ← hc54] at hcut54; have HR112 := Aside0.mk hr54; have HC112 := Aside0.mk (show y109.length ≤ c54 from by rw [hy54, hc54]; exact Nat.sub_le_sub_right hroom54 _); clear hr54 hC54 hroom54 hi054 hsz54 hc54; have KY54 := Aside0.mk hy54; have KA54 := Aside0.mk hA54; clear hy54 hA54; replace q54 := eq_true q54))
              have n0_ := Aside0.mk (blk_drew BK104.out)
              have n1_ := Aside0.mk (blk_drew BK105.out)
              have n2_ := Aside0.mk (blk_drew BK106.out)
              have n3_ := Aside0.mk (below_drew1 HB.out)
              clear BK104
              clear BK105
              clear BK106
              clear HB
              have BK104 := n0_
              have BK105 := n1_
              have BK106 := n2_
              have HB := n3_
              clear n0_ n1_ n2_ n3_
              have q56 : (t107 : Int) ≤ ((l0_1.length : Int) : Int) := of_decide_eq_true (by first | (with_reducible assumption) | assumption)
              obtain ⟨i056, hi056, _, hsz56, _⟩ := info_parts info29
              have hroom56 : l0_1.length ≤ c0_1 := HC0_1.out
              have hC56 : Kd.C k29 _ A0_1 l0_1.length l0_1 := HR0_1.out
              have hcut56 := cut_to (P := Try.prog) 25 29 .i64 Try.underlying25 hi056 A0_1 l0_1.length c0_1 t107 (of_decide_eq_true (by first | (with_reducible assumption) | assumption)) q56 hroom56
              have hr56 := Kd.C_take (m := (t107 : Int).toNat) hC56 (by omega)
              have hy56 : y139.length = (t107 : Int).toNat := (by rw [Ny139.out, List.length_take]; omega)
              rw [← Ny139.out] at hr56
              rw [← hy56] at hcut56
              have HR142 := Aside0.mk hr56
              have HC142 := Aside0.mk (show y139.length ≤ c0_1 from by omega)
              clear hr56 hC56 hroom56 hi056 hsz56
              have KY56 := Aside0.mk hy56
              clear hy56
              replace q56 := eq_true q56
              refine start_ (n := 13) (S := fun w' => w'.cell? ⟨gb104, 0, none⟩ = some (.bool a0_0) ∧ w'.cell? ⟨gb104, 1, none⟩ = some (.slice A0_1 l0_1.length c0_1) ∧ w'.cell? ⟨gb105, 0, none⟩ = some (.int .i64 a1_0) ∧ w'.cell? ⟨gb105, 1, none⟩ = some (.int .i64 a1_1)) (ds := []) #[false, false, false, false, false, false, false, false, false, false, false, false, false] (by kernel_rfl) rfl rfl ⟨(blk_cell BK104.out 0).trans rfl, (blk_cell BK104.out 1).trans rfl, (blk_cell BK105.out 0).trans rfl, (blk_cell BK105.out 1).trans rfl⟩ (fun hHeld => ?_); refine with_tabW spec_TwMapped_With.tab5 spec_TwMapped_With.bits5 (fun HT_ HW_ => ?_)
              generalize w52.drew = w55 at BK104 BK105 BK106 HB HR142 hHeld ⊢
              refine pure_ (i := 1) (N := some 23) (v := ?_) (a' := ?_) #[false, true, false, false, false, false, false, false, false, false, false, false, false] rfl rfl (any_of HT_.out (by kernel_rfl)) (fun _ _ _ h => h) (Or.inl ⟨by rfl, ?_⟩) ?_ ?_
              rotate_left
              · intro w'
                go_simp
                with_reducible rfl
              rotate_left
              · simp only [Act.put, List.setIfInBounds_toArray, List.set_cons_zero, List.set_cons_succ, i64_w, i32_w]
                rfl
              refine pure_ (i := 3) (N := some 25) (v := ?_) (a' := ?_) #[false, true, false, true, false, false, false, false, false, false, false, false, false] rfl rfl (any_of HT_.out (by kernel_rfl)) (fun _ _ _ h => h) (Or.inl ⟨by rfl, ?_⟩) ?_ ?_
              rotate_left
              · intro w'
                go_simp
                with_reducible rfl
              rotate_left
              · simp only [Act.put, List.setIfInBounds_toArray, List.set_cons_zero, List.set_cons_succ, i64_w, i32_w]
                rfl
              refine pure_ (i := 9) (N := some 31) (v := ?_) (a' := ?_) #[false, true, false, true, false, false, false, false, false, true, false, false, false] rfl rfl (any_of HT_.out (by kernel_rfl)) (fun _ _ _ h => h) (Or.inl ⟨by rfl, ?_⟩) ?_ ?_
              rotate_left
              · intro w'
                go_simp
                with_reducible rfl
              rotate_left
              · simp only [Act.put, List.setIfInBounds_toArray, List.set_cons_zero, List.set_cons_succ, i64_w, i32_w]
                rfl
              refine take_ (i := 2) (N := some 24) (v := ?_) (a' := ?_) #[false, true, true, true, false, false, false, false, false, true, false, false, false] rfl rfl (take_ofW HT_.out HW_.out (by kernel_rfl)) (fun _ _ _ h => h) (Or.inl ⟨by rfl, ?_⟩) hHeld ?_ ?_
              rotate_left
              · rintro w' ⟨s0, s1, s2, s3⟩
                go_simp
                with_reducible rfl
              rotate_left
              · simp only [Act.put, List.setIfInBounds_toArray, List.set_cons_zero, List.set_cons_succ, i64_w, i32_w]
                rfl
              refine pure_ (i := 4) (N := some 26) (v := ?_) (a' := ?_) #[false, true, true, true, true, false, false, false, false, true, false, false, false] rfl rfl (any_of HT_.out (by kernel_rfl)) (fun _ _ _ h => h) (Or.inl ⟨by rfl, ?_⟩) ?_ ?_
              rotate_left
              · intro w'
                go_simp
                with_reducible rfl
              rotate_left
              · simp only [Act.put, List.setIfInBounds_toArray, List.set_cons_zero, List.set_cons_succ, i64_w, i32_w]
                rfl
              refine take_ (i := 6) (N := some 28) (v := ?_) (a' := ?_) #[false, true, true, true, true, false, true, false, false, true, false, false, false] rfl rfl (take_ofW HT_.out HW_.out (by kernel_rfl)) (fun _ _ _ h => h) (Or.inl ⟨by rfl, ?_⟩) hHeld ?_ ?_
              rotate_left
              · rintro w' ⟨s0, s1, s2, s3⟩
                go_simp
                with_reducible rfl
              rotate_left
              · simp only [Act.put, List.setIfInBounds_toArray, List.set_cons_zero, List.set_cons_succ, i64_w, i32_w]
                rfl
              refine join_ (σ := Value × Value × Value) 4 #[true, true, true, true, true, true, true, true, false, true, false, false, false] (fun s_ => [(22, s_.1), (27, s_.2.1), (29, s_.2.2)]) (fun s_ w' => (w'.cell? ⟨gb104, 0, none⟩ = some (.bool a0_0) ∧ w'.cell? ⟨gb104, 1, none⟩ = some (.slice A0_1 l0_1.length c0_1) ∧ w'.cell? ⟨gb105, 0, none⟩ = some (.int .i64 a1_0) ∧ w'.cell? ⟨gb105, 1, none⟩ = some (.int .i64 a1_1)) ∧ (Kd.R k29 29 w' w.heap.size (fun k_ => some k_ ≠ (s_.2.2 : Value).ownBlock ∧ k_ ≠ gb105) s_.2.1 y143) ∧ (Kd.R k29 29 w' w.heap.size (fun k_ => some k_ ≠ (s_.2.1 : Value).ownBlock ∧ k_ ≠ gb105) s_.2.2 y146) ∧ (w'.heap[gb104]? = some (.cells #[.bool a0_0, .slice A0_1 l0_1.length c0_1] 27 (0, 0))) ∧ (w'.heap[gb105]? = some (.cells #[.int .i64 a1_0, .int .i64 a1_1] 29 (0, 0))) ∧ (w'.heap[gb106]? = some (.cells #[.bool false, .slice none 0 0] 27 (0, 0))) ∧ (Below w.heap.size w w')) ?_ ?_
              rotate_left
              · intro hCont
                refine two_ (i := 0) (j := 7) (Ni := some 22) (Nj := some 29) #[true, true, true, true, true, false, true, false, false, true, false, false, false] #[false, true, true, true, true, false, true, true, false, true, false, false, false] rfl rfl rfl rfl (two_of HT_.out (by kernel_rfl)) (by decide) (by decide) (fun K hK => ?_) (fun K hK => ?_)
                · skip
                  refine Kd.R_lit_step k29 _ 29 ?hg (N := 22) ?hd (xs := ([] : List (S29))) (inner := []) (ok := fun _ => True) (okp := fun _ => True) ?hr ?hp (fun _ hk => hk) trivial (Below.refl _ _) (Nat.le_refl _) (by simp) ?_; (case hd => rfl); (case hg => rfl); (case hr => first | (go_simp; done) | (go_simp; rfl)); (case hp => exact (Reps.none _ _))
                  intro v137 w57 ho58 hb hg_ hnew_
                  clear hg_ hnew_
                  (first | rw [← Ny136.out] at ho58 | (simp only [Int.reduceToNat] at ho58; rw [← Ny136.out] at ho58))
                  have n0_ := Aside0.mk (Kd.R_lower (Kd.R_newB ho58 (g := gb105) (o := .cells #[.int .i64 a1_0, .int .i64 a1_1] 29 (0, 0)) (by (with_reducible repeat (first | refine blk_drewN ?_ _ | refine blk_drew ?_ | refine blk_alloc ?_ _)); exact BK105.out)) (below_size (by repeat (first | (with_reducible first | exact HB.out | apply below_alloc | apply pw_below_drewN | apply below_drew1 | refine below_set ?_ GE104.out | refine below_set ?_ GE105.out | refine below_set ?_ GE106.out) | exact HB.out))))
                  have n1_ := Aside0.mk (blk_below (g := gb104) (o := .cells #[.bool a0_0, .slice A0_1 l0_1.length c0_1] 27 (0, 0)) (by (with_reducible repeat (first | refine blk_drewN ?_ _ | refine blk_drew ?_ | refine blk_alloc ?_ _)); exact BK104.out) hb)
                  have n2_ := Aside0.mk (blk_below (g := gb105) (o := .cells #[.int .i64 a1_0, .int .i64 a1_1] 29 (0, 0)) (by (with_reducible repeat (first | refine blk_drewN ?_ _ | refine blk_drew ?_ | refine blk_alloc ?_ _)); exact BK105.out) hb)
                  have n3_ := Aside0.mk (blk_below (g := gb106) (o := .cells #[.bool false, .slice none 0 0] 27 (0, 0)) (by (with_reducible repeat (first | refine blk_drewN ?_ _ | refine blk_drew ?_ | refine blk_alloc ?_ _)); exact BK106.out) hb)
                  have n4_ := Aside0.mk (below_step (by repeat (first | (with_reducible first | exact HB.out | apply below_alloc | apply pw_below_drewN | apply below_drew1 | refine below_set ?_ GE104.out | refine below_set ?_ GE105.out | refine below_set ?_ GE106.out) | exact HB.out)) hb)
                  clear BK104
                  clear BK105
                  clear BK106
                  clear HB
                  have HO138 := n0_
                  have BK104 := n1_
                  have BK105 := n2_
                  have BK106 := n3_
                  have HB := n4_
                  clear n0_ n1_ n2_ n3_ n4_
                  clear hb ho58
                  refine hK.out _ _ ⟨(blk_cell BK104.out 0).trans rfl, (blk_cell BK104.out 1).trans rfl, (blk_cell BK105.out 0).trans rfl, (blk_cell BK105.out 1).trans rfl⟩ (fun hHeld => ?_)
                  clear hK K
                  refine norm_ (a' := ?_) ?_ ?_
                  rotate_left
                  · show Act.put _ (some 22) _ = _
                    simp only [Act.put, List.setIfInBounds_toArray, List.set_cons_zero, List.set_cons_succ, i64_w, i32_w]
                    rfl
                  refine two_ (i := 5) (j := 7) (Ni := some 27) (Nj := some 29) #[true, true, true, true, true, true, true, false, false, true, false, false, false] #[true, true, true, true, true, false, true, true, false, true, false, false, false] rfl rfl rfl rfl (two_of HT_.out (by kernel_rfl)) (by decide) (by decide) (fun K hK => ?_) (fun K hK => ?_)
                  · skip
                    refine Kd.R_append_rows_step k29 (w0 := w) w.heap.size (by rfl) (.tmp 22) (.tmp 26) 25 29 (.agg #[(.int .i64 0), (.int .i64 0)]) 16 rfl Try.underlying25 info29 rfl (by decide) (by omega) v137 y136 y139 _ _ _ (fun k_ => k_ ≠ gb105) (fun _ => False) rfl rfl ?aO ?aR (fun _ _ h => h) (fun _ h => h.elim) ?aF ?aB ?aS ?aL ?_
                    (case aR => repeat (first | exact (Kd.C_below HR142.out HB.out) | (with_reducible refine Kd.C_alloc ?_ _) | (with_reducible refine Kd.C_drewN ?_ _) | (with_reducible refine Kd.C_drew ?_)))
                    (case aB => exact (by repeat (first | (with_reducible first | exact HB.out | apply below_alloc | apply pw_below_drewN | apply below_drew1 | refine below_set ?_ GE104.out | refine below_set ?_ GE105.out | refine below_set ?_ GE106.out) | exact HB.out)))
                    (case aF => exact (fun k_ hk => Kd.freshB (g := gb105) (o := .cells #[.int .i64 a1_0, .int .i64 a1_1] 29 (0, 0)) (by (with_reducible repeat (first | refine blk_drewN ?_ _ | refine blk_drew ?_ | refine blk_alloc ?_ _)); exact BK105.out) k_ hk))
                    (case aO => exact (by (with_reducible repeat (first | apply Kd.R_alloc | apply Kd.R_drewN | apply Kd.R_drew)); exact Kd.R_mono HO138.out (fun _ hk => hk.2)))
                    (case aS => exact (below_size (by repeat (first | (with_reducible first | exact HB.out | apply below_alloc | apply pw_below_drewN | apply below_drew1 | refine below_set ?_ GE104.out | refine below_set ?_ GE105.out | refine below_set ?_ GE106.out) | exact HB.out))))
                    (case aL => have := LMc41.out; first | omega | exact this | exact Nat.le_of_lt this)
                    intro v144 w59 ho hb hg hat
                    rw [← Ny143.out] at ho
                    have n0_ := Aside0.mk (blk_grown (g := gb104) (o := .cells #[.bool a0_0, .slice A0_1 l0_1.length c0_1] 27 (0, 0)) (by (with_reducible repeat (first | refine blk_drewN ?_ _ | refine blk_drew ?_ | refine blk_alloc ?_ _)); exact BK104.out) hg (Kd.R_ne HO138.out BK104.out (by decide)))
                    have n1_ := Aside0.mk (blk_grown (g := gb105) (o := .cells #[.int .i64 a1_0, .int .i64 a1_1] 29 (0, 0)) (by (with_reducible repeat (first | refine blk_drewN ?_ _ | refine blk_drew ?_ | refine blk_alloc ?_ _)); exact BK105.out) hg (Kd.R_away HO138.out (fun _ hk => hk.2)))
                    have n2_ := Aside0.mk (blk_grown (g := gb106) (o := .cells #[.bool false, .slice none 0 0] 27 (0, 0)) (by (with_reducible repeat (first | refine blk_drewN ?_ _ | refine blk_drew ?_ | refine blk_alloc ?_ _)); exact BK106.out) hg (Kd.R_ne HO138.out BK106.out (by decide)))
                    have n3_ := Aside0.mk (hb)
                    have n4_ := Aside0.mk (ho)
                    clear BK104
                    clear BK105
                    clear BK106
                    clear HB
                    clear HO138
                    have BK104 := n0_
                    have BK105 := n1_
                    have BK106 := n2_
                    have HB := n3_
                    have HO145 := n4_
                    clear n0_ n1_ n2_ n3_ n4_
                    clear ho hb hg hat
                    refine hK.out _ _ ⟨(blk_cell BK104.out 0).trans rfl, (blk_cell BK104.out 1).trans rfl, (blk_cell BK105.out 0).trans rfl, (blk_cell BK105.out 1).trans rfl⟩ (fun hHeld => ?_)
                    clear hK K
                    refine norm_ (a' := ?_) ?_ ?_
                    rotate_left
                    · show Act.put _ (some 27) _ = _
                      simp only [Act.put, List.setIfInBounds_toArray, List.set_cons_zero, List.set_cons_succ, i64_w, i32_w]
                      rfl
                    refine one_ (i := 7) (N := some 29) #[true, true, true, true, true, true, true, true, false, true, false, false, false] rfl rfl (one_of HT_.out (by kernel_rfl)) (by decide) (fun K hK => ?_)
                    refine Kd.R_lit_step k29 _ 29 ?hg (N := 29) ?hd (xs := ([(⟨a1_0, a1_1⟩ : S29)] : List (S29))) (inner := [.int .i64 a1_0, .int .i64 a1_1]) (ok := fun _ => True) (okp := fun _ => True) ?hr ?hp (fun _ hk => hk) trivial (Below.refl _ _) (Nat.le_refl _) (by simp) ?_; (case hd => rfl); (case hg => rfl); (case hr => first | (go_simp; done) | (go_simp; rfl)); (case hp => exact (Reps.c2 (show Kd.M k29 _ _ _ (⟨a1_0, a1_1⟩ : S29) [.int .i64 a1_0, .int .i64 a1_1] from (k29_mkM _ _ _ (⟨a1_0, a1_1⟩ : S29) )) (Reps.none _ _)))
                    intro v147 w60 ho61 hb hg_ hnew_
                    clear hg_ hnew_
                    (first | rw [← Ny146.out] at ho61 | (simp only [Int.reduceToNat] at ho61; rw [← Ny146.out] at ho61))
                    have n0_ := Aside0.mk (Kd.R_elder' (by (with_reducible repeat (first | apply Kd.R_alloc | apply Kd.R_drewN | apply Kd.R_drew)); exact HO145.out) (Kd.R_base ho61) hb)
                    have n1_ := Aside0.mk (Kd.R_lower (Kd.R_newB (Kd.R_new' ho61 (Kd.R_lt (by (with_reducible repeat (first | apply Kd.R_alloc | apply Kd.R_drewN | apply Kd.R_drew)); exact HO145.out))) (g := gb105) (o := .cells #[.int .i64 a1_0, .int .i64 a1_1] 29 (0, 0)) (by (with_reducible repeat (first | refine blk_drewN ?_ _ | refine blk_drew ?_ | refine blk_alloc ?_ _)); exact BK105.out)) (below_size (by repeat (first | (with_reducible first | exact HB.out | apply below_alloc | apply pw_below_drewN | apply below_drew1 | refine below_set ?_ GE104.out | refine below_set ?_ GE105.out | refine below_set ?_ GE106.out) | exact HB.out))))
                    have n2_ := Aside0.mk (blk_below (g := gb104) (o := .cells #[.bool a0_0, .slice A0_1 l0_1.length c0_1] 27 (0, 0)) (by (with_reducible repeat (first | refine blk_drewN ?_ _ | refine blk_drew ?_ | refine blk_alloc ?_ _)); exact BK104.out) hb)
                    have n3_ := Aside0.mk (blk_below (g := gb105) (o := .cells #[.int .i64 a1_0, .int .i64 a1_1] 29 (0, 0)) (by (with_reducible repeat (first | refine blk_drewN ?_ _ | refine blk_drew ?_ | refine blk_alloc ?_ _)); exact BK105.out) hb)
                    have n4_ := Aside0.mk (blk_below (g := gb106) (o := .cells #[.bool false, .slice none 0 0] 27 (0, 0)) (by (with_reducible repeat (first | refine blk_drewN ?_ _ | refine blk_drew ?_ | refine blk_alloc ?_ _)); exact BK106.out) hb)
                    have n5_ := Aside0.mk (below_step (by repeat (first | (with_reducible first | exact HB.out | apply below_alloc | apply pw_below_drewN | apply below_drew1 | refine below_set ?_ GE104.out | refine below_set ?_ GE105.out | refine below_set ?_ GE106.out) | exact HB.out)) hb)
                    clear HO145
                    clear BK104
                    clear BK105
                    clear BK106
                    clear HB
                    have HO145 := n0_
                    have HO148 := n1_
                    have BK104 := n2_
                    have BK105 := n3_
                    have BK106 := n4_
                    have HB := n5_
                    clear n0_ n1_ n2_ n3_ n4_ n5_
                    clear hb ho61
                    refine hK.out _ _ ⟨(blk_cell BK104.out 0).trans rfl, (blk_cell BK104.out 1).trans rfl, (blk_cell BK105.out 0).trans rfl, (blk_cell BK105.out 1).trans rfl⟩ (fun hHeld => ?_)
                    clear hK K
                    refine norm_ (a' := ?_) ?_ ?_
                    rotate_left
                    · show Act.put _ (some 29) _ = _
                      simp only [Act.put, List.setIfInBounds_toArray, List.set_cons_zero, List.set_cons_succ, i64_w, i32_w]
                      rfl
                    exact norm_ (by simp only [putAll, Act.put, List.setIfInBounds_toArray, List.set_cons_zero, List.set_cons_succ]) (hCont (v137, v144, v147) _ ⟨hHeld, (by (with_reducible repeat (first | apply Kd.R_alloc | apply Kd.R_drewN | apply Kd.R_drew)); exact Kd.R_mono HO145.out (fun _ hk => ⟨hk.2, hk.1⟩)), (by (with_reducible repeat (first | apply Kd.R_alloc | apply Kd.R_drewN | apply Kd.R_drew)); exact Kd.R_mono HO148.out (fun _ hk => ⟨hk.1.2, hk.2⟩)), (by (with_reducible repeat (first | refine blk_drewN ?_ _ | refine blk_drew ?_ | refine blk_alloc ?_ _)); exact BK104.out), (by (with_reducible repeat (first | refine blk_drewN ?_ _ | refine blk_drew ?_ | refine blk_alloc ?_ _)); exact BK105.out), (by (with_reducible repeat (first | refine blk_drewN ?_ _ | refine blk_drew ?_ | refine blk_alloc ?_ _)); exact BK106.out), (by repeat (first | (with_reducible first | exact HB.out | apply below_alloc | apply pw_below_drewN | apply below_drew1 | refine below_set ?_ GE104.out | refine below_set ?_ GE105.out | refine below_set ?_ GE106.out) | exact HB.out))⟩)
                  · skip
                    refine Kd.R_lit_step k29 _ 29 ?hg (N := 29) ?hd (xs := ([(⟨a1_0, a1_1⟩ : S29)] : List (S29))) (inner := [.int .i64 a1_0, .int .i64 a1_1]) (ok := fun _ => True) (okp := fun _ => True) ?hr ?hp (fun _ hk => hk) trivial (Below.refl _ _) (Nat.le_refl _) (by simp) ?_; (case hd => rfl); (case hg => rfl); (case hr => first | (go_simp; done) | (go_simp; rfl)); (case hp => exact (Reps.c2 (show Kd.M k29 _ _ _ (⟨a1_0, a1_1⟩ : S29) [.int .i64 a1_0, .int .i64 a1_1] from (k29_mkM _ _ _ (⟨a1_0, a1_1⟩ : S29) )) (Reps.none _ _)))
                    intro v147 w59 ho60 hb hg_ hnew_
                    clear hg_ hnew_
                    (first | rw [← Ny146.out] at ho60 | (simp only [Int.reduceToNat] at ho60; rw [← Ny146.out] at ho60))
                    have n0_ := Aside0.mk (Kd.R_elder' (by (with_reducible repeat (first | apply Kd.R_alloc | apply Kd.R_drewN | apply Kd.R_drew)); exact HO138.out) (Kd.R_base ho60) hb)
                    have n1_ := Aside0.mk (Kd.R_lower (Kd.R_newB (Kd.R_new' ho60 (Kd.R_lt (by (with_reducible repeat (first | apply Kd.R_alloc | apply Kd.R_drewN | apply Kd.R_drew)); exact HO138.out))) (g := gb105) (o := .cells #[.int .i64 a1_0, .int .i64 a1_1] 29 (0, 0)) (by (with_reducible repeat (first | refine blk_drewN ?_ _ | refine blk_drew ?_ | refine blk_alloc ?_ _)); exact BK105.out)) (below_size (by repeat (first | (with_reducible first | exact HB.out | apply below_alloc | apply pw_below_drewN | apply below_drew1 | refine below_set ?_ GE104.out | refine below_set ?_ GE105.out | refine below_set ?_ GE106.out) | exact HB.out))))
                    have n2_ := Aside0.mk (blk_below (g := gb104) (o := .cells #[.bool a0_0, .slice A0_1 l0_1.length c0_1] 27 (0, 0)) (by (with_reducible repeat (first | refine blk_drewN ?_ _ | refine blk_drew ?_ | refine blk_alloc ?_ _)); exact BK104.out) hb)
                    have n3_ := Aside0.mk (blk_below (g := gb105) (o := .cells #[.int .i64 a1_0, .int .i64 a1_1] 29 (0, 0)) (by (with_reducible repeat (first | refine blk_drewN ?_ _ | refine blk_drew ?_ | refine blk_alloc ?_ _)); exact BK105.out) hb)
                    have n4_ := Aside0.mk (blk_below (g := gb106) (o := .cells #[.bool false, .slice none 0 0] 27 (0, 0)) (by (with_reducible repeat (first | refine blk_drewN ?_ _ | refine blk_drew ?_ | refine blk_alloc ?_ _)); exact BK106.out) hb)
                    have n5_ := Aside0.mk (below_step (by repeat (first | (with_reducible first | exact HB.out | apply below_alloc | apply pw_below_drewN | apply below_drew1 | refine below_set ?_ GE104.out | refine below_set ?_ GE105.out | refine below_set ?_ GE106.out) | exact HB.out)) hb)
                    clear HO138
                    clear BK104
                    clear BK105
                    clear BK106
                    clear HB
                    have HO138 := n0_
                    have HO148 := n1_
                    have BK104 := n2_
                    have BK105 := n3_
                    have BK106 := n4_
                    have HB := n5_
                    clear n0_ n1_ n2_ n3_ n4_ n5_
                    clear hb ho60
                    refine hK.out _ _ ⟨(blk_cell BK104.out 0).trans rfl, (blk_cell BK104.out 1).trans rfl, (blk_cell BK105.out 0).trans rfl, (blk_cell BK105.out 1).trans rfl⟩ (fun hHeld => ?_)
                    clear hK K
                    refine norm_ (a' := ?_) ?_ ?_
                    rotate_left
                    · show Act.put _ (some 29) _ = _
                      simp only [Act.put, List.setIfInBounds_toArray, List.set_cons_zero, List.set_cons_succ, i64_w, i32_w]
                      rfl
                    refine one_ (i := 5) (N := some 27) #[true, true, true, true, true, true, true, true, false, true, false, false, false] rfl rfl (one_of HT_.out (by kernel_rfl)) (by decide) (fun K hK => ?_)
                    refine Kd.R_append_rows_step k29 (w0 := w) w.heap.size (by rfl) (.tmp 22) (.tmp 26) 25 29 (.agg #[(.int .i64 0), (.int .i64 0)]) 16 rfl Try.underlying25 info29 rfl (by decide) (by omega) v137 y136 y139 _ _ _ (fun k_ => some k_ ≠ (v147 : Value).ownBlock ∧ k_ ≠ gb105) (fun _ => False) rfl rfl ?aO ?aR (fun _ _ h => h) (fun _ h => h.elim) ?aF ?aB ?aS ?aL ?_
                    (case aR => repeat (first | exact (Kd.C_below HR142.out HB.out) | (with_reducible refine Kd.C_alloc ?_ _) | (with_reducible refine Kd.C_drewN ?_ _) | (with_reducible refine Kd.C_drew ?_)))
                    (case aB => exact (by repeat (first | (with_reducible first | exact HB.out | apply below_alloc | apply pw_below_drewN | apply below_drew1 | refine below_set ?_ GE104.out | refine below_set ?_ GE105.out | refine below_set ?_ GE106.out) | exact HB.out)))
                    (case aF => exact (fun k_ hk => ⟨Kd.fresh' (Kd.R_lt (by (with_reducible repeat (first | apply Kd.R_alloc | apply Kd.R_drewN | apply Kd.R_drew)); exact HO148.out)) k_ hk, Kd.freshB (g := gb105) (o := .cells #[.int .i64 a1_0, .int .i64 a1_1] 29 (0, 0)) (by (with_reducible repeat (first | refine blk_drewN ?_ _ | refine blk_drew ?_ | refine blk_alloc ?_ _)); exact BK105.out) k_ hk⟩))
                    (case aO => exact (by (with_reducible repeat (first | apply Kd.R_alloc | apply Kd.R_drewN | apply Kd.R_drew)); exact Kd.R_mono HO138.out (fun _ hk => ⟨hk.2, hk.1.2⟩)))
                    (case aS => exact (below_size (by repeat (first | (with_reducible first | exact HB.out | apply below_alloc | apply pw_below_drewN | apply below_drew1 | refine below_set ?_ GE104.out | refine below_set ?_ GE105.out | refine below_set ?_ GE106.out) | exact HB.out))))
                    (case aL => have := LMc41.out; first | omega | exact this | exact Nat.le_of_lt this)
                    intro v144 w61 ho hb hg hat
                    rw [← Ny143.out] at ho
                    have n0_ := Aside0.mk (blk_grown (g := gb104) (o := .cells #[.bool a0_0, .slice A0_1 l0_1.length c0_1] 27 (0, 0)) (by (with_reducible repeat (first | refine blk_drewN ?_ _ | refine blk_drew ?_ | refine blk_alloc ?_ _)); exact BK104.out) hg (Kd.R_ne HO138.out BK104.out (by decide)))
                    have n1_ := Aside0.mk (blk_grown (g := gb105) (o := .cells #[.int .i64 a1_0, .int .i64 a1_1] 29 (0, 0)) (by (with_reducible repeat (first | refine blk_drewN ?_ _ | refine blk_drew ?_ | refine blk_alloc ?_ _)); exact BK105.out) hg (Kd.R_away HO138.out (fun _ hk => hk.1.2)))
                    have n2_ := Aside0.mk (blk_grown (g := gb106) (o := .cells #[.bool false, .slice none 0 0] 27 (0, 0)) (by (with_reducible repeat (first | refine blk_drewN ?_ _ | refine blk_drew ?_ | refine blk_alloc ?_ _)); exact BK106.out) hg (Kd.R_ne HO138.out BK106.out (by decide)))
                    have n3_ := Aside0.mk (Kd.R_after (ok := (fun k_ => k_ ≠ gb105)) (by (with_reducible repeat (first | apply Kd.R_alloc | apply Kd.R_drewN | apply Kd.R_drew)); exact Kd.R_mono HO148.out (fun _ hk => ⟨hk.2, hk.1.2⟩)) hg hat)
                    have n4_ := Aside0.mk (hb)
                    have n5_ := Aside0.mk (ho)
                    clear BK104
                    clear BK105
                    clear BK106
                    clear HO148
                    clear HB
                    clear HO138
                    have BK104 := n0_
                    have BK105 := n1_
                    have BK106 := n2_
                    have HO148 := n3_
                    have HB := n4_
                    have HO145 := n5_
                    clear n0_ n1_ n2_ n3_ n4_ n5_
                    clear ho hb hg hat
                    refine hK.out _ _ ⟨(blk_cell BK104.out 0).trans rfl, (blk_cell BK104.out 1).trans rfl, (blk_cell BK105.out 0).trans rfl, (blk_cell BK105.out 1).trans rfl⟩ (fun hHeld => ?_)
                    clear hK K
                    refine norm_ (a' := ?_) ?_ ?_
                    rotate_left
                    · show Act.put _ (some 27) _ = _
                      simp only [Act.put, List.setIfInBounds_toArray, List.set_cons_zero, List.set_cons_succ, i64_w, i32_w]
                      rfl
                    exact norm_ (by simp only [putAll, Act.put, List.setIfInBounds_toArray, List.set_cons_zero, List.set_cons_succ]) (hCont (v137, v144, v147) _ ⟨hHeld, (by (with_reducible repeat (first | apply Kd.R_alloc | apply Kd.R_drewN | apply Kd.R_drew)); exact HO145.out), (by (with_reducible repeat (first | apply Kd.R_alloc | apply Kd.R_drewN | apply Kd.R_drew)); exact Kd.R_mono HO148.out (fun _ hk => ⟨hk.2, hk.1⟩)), (by (with_reducible repeat (first | refine blk_drewN ?_ _ | refine blk_drew ?_ | refine blk_alloc ?_ _)); exact BK104.out), (by (with_reducible repeat (first | refine blk_drewN ?_ _ | refine blk_drew ?_ | refine blk_alloc ?_ _)); exact BK105.out), (by (with_reducible repeat (first | refine blk_drewN ?_ _ | refine blk_drew ?_ | refine blk_alloc ?_ _)); exact BK106.out), (by repeat (first | (with_reducible first | exact HB.out | apply below_alloc | apply pw_below_drewN | apply below_drew1 | refine below_set ?_ GE104.out | refine below_set ?_ GE105.out | refine below_set ?_ GE106.out) | exact HB.out))⟩)
                · skip
                  refine Kd.R_lit_step k29 _ 29 ?hg (N := 29) ?hd (xs := ([(⟨a1_0, a1_1⟩ : S29)] : List (S29))) (inner := [.int .i64 a1_0, .int .i64 a1_1]) (ok := fun _ => True) (okp := fun _ => True) ?hr ?hp (fun _ hk => hk) trivial (Below.refl _ _) (Nat.le_refl _) (by simp) ?_; (case hd => rfl); (case hg => rfl); (case hr => first | (go_simp; done) | (go_simp; rfl)); (case hp => exact (Reps.c2 (show Kd.M k29 _ _ _ (⟨a1_0, a1_1⟩ : S29) [.int .i64 a1_0, .int .i64 a1_1] from (k29_mkM _ _ _ (⟨a1_0, a1_1⟩ : S29) )) (Reps.none _ _)))
                  intro v147 w57 ho58 hb hg_ hnew_
                  clear hg_ hnew_
                  (first | rw [← Ny146.out] at ho58 | (simp only [Int.reduceToNat] at ho58; rw [← Ny146.out] at ho58))
                  have n0_ := Aside0.mk (Kd.R_lower (Kd.R_newB ho58 (g := gb105) (o := .cells #[.int .i64 a1_0, .int .i64 a1_1] 29 (0, 0)) (by (with_reducible repeat (first | refine blk_drewN ?_ _ | refine blk_drew ?_ | refine blk_alloc ?_ _)); exact BK105.out)) (below_size (by repeat (first | (with_reducible first | exact HB.out | apply below_alloc | apply pw_below_drewN | apply below_drew1 | refine below_set ?_ GE104.out | refine below_set ?_ GE105.out | refine below_set ?_ GE106.out) | exact HB.out))))
                  have n1_ := Aside0.mk (blk_below (g := gb104) (o := .cells #[.bool a0_0, .slice A0_1 l0_1.length c0_1] 27 (0, 0)) (by (with_reducible repeat (first | refine blk_drewN ?_ _ | refine blk_drew ?_ | refine blk_alloc ?_ _)); exact BK104.out) hb)
                  have n2_ := Aside0.mk (blk_below (g := gb105) (o := .cells #[.int .i64 a1_0, .int .i64 a1_1] 29 (0, 0)) (by (with_reducible repeat (first | refine blk_drewN ?_ _ | refine blk_drew ?_ | refine blk_alloc ?_ _)); exact BK105.out) hb)
                  have n3_ := Aside0.mk (blk_below (g := gb106) (o := .cells #[.bool false, .slice none 0 0] 27 (0, 0)) (by (with_reducible repeat (first | refine blk_drewN ?_ _ | refine blk_drew ?_ | refine blk_alloc ?_ _)); exact BK106.out) hb)
                  have n4_ := Aside0.mk (below_step (by repeat (first | (with_reducible first | exact HB.out | apply below_alloc | apply pw_below_drewN | apply below_drew1 | refine below_set ?_ GE104.out | refine below_set ?_ GE105.out | refine below_set ?_ GE106.out) | exact HB.out)) hb)
                  clear BK104
                  clear BK105
                  clear BK106
                  clear HB
                  have HO148 := n0_
                  have BK104 := n1_
                  have BK105 := n2_
                  have BK106 := n3_
                  have HB := n4_
                  clear n0_ n1_ n2_ n3_ n4_
                  clear hb ho58
                  refine hK.out _ _ ⟨(blk_cell BK104.out 0).trans rfl, (blk_cell BK104.out 1).trans rfl, (blk_cell BK105.out 0).trans rfl, (blk_cell BK105.out 1).trans rfl⟩ (fun hHeld => ?_)
                  clear hK K
                  refine norm_ (a' := ?_) ?_ ?_
                  rotate_left
                  · show Act.put _ (some 29) _ = _
                    simp only [Act.put, List.setIfInBounds_toArray, List.set_cons_zero, List.set_cons_succ, i64_w, i32_w]
                    rfl
                  refine one_ (i := 0) (N := some 22) #[true, true, true, true, true, false, true, true, false, true, false, false, false] rfl rfl (one_of HT_.out (by kernel_rfl)) (by decide) (fun K hK => ?_)
                  refine Kd.R_lit_step k29 _ 29 ?hg (N := 22) ?hd (xs := ([] : List (S29))) (inner := []) (ok := fun _ => True) (okp := fun _ => True) ?hr ?hp (fun _ hk => hk) trivial (Below.refl _ _) (Nat.le_refl _) (by simp) ?_; (case hd => rfl); (case hg => rfl); (case hr => first | (go_simp; done) | (go_simp; rfl)); (case hp => exact (Reps.none _ _))
                  intro v137 w59 ho60 hb hg_ hnew_
                  clear hg_ hnew_
                  (first | rw [← Ny136.out] at ho60 | (simp only [Int.reduceToNat] at ho60; rw [← Ny136.out] at ho60))
                  have n0_ := Aside0.mk (Kd.R_elder' (by (with_reducible repeat (first | apply Kd.R_alloc | apply Kd.R_drewN | apply Kd.R_drew)); exact HO148.out) (Kd.R_base ho60) hb)
                  have n1_ := Aside0.mk (Kd.R_lower (Kd.R_newB (Kd.R_new' ho60 (Kd.R_lt (by (with_reducible repeat (first | apply Kd.R_alloc | apply Kd.R_drewN | apply Kd.R_drew)); exact HO148.out))) (g := gb105) (o := .cells #[.int .i64 a1_0, .int .i64 a1_1] 29 (0, 0)) (by (with_reducible repeat (first | refine blk_drewN ?_ _ | refine blk_drew ?_ | refine blk_alloc ?_ _)); exact BK105.out)) (below_size (by repeat (first | (with_reducible first | exact HB.out | apply below_alloc | apply pw_below_drewN | apply below_drew1 | refine below_set ?_ GE104.out | refine below_set ?_ GE105.out | refine below_set ?_ GE106.out) | exact HB.out))))
                  have n2_ := Aside0.mk (blk_below (g := gb104) (o := .cells #[.bool a0_0, .slice A0_1 l0_1.length c0_1] 27 (0, 0)) (by (with_reducible repeat (first | refine blk_drewN ?_ _ | refine blk_drew ?_ | refine blk_alloc ?_ _)); exact BK104.out) hb)
                  have n3_ := Aside0.mk (blk_below (g := gb105) (o := .cells #[.int .i64 a1_0, .int .i64 a1_1] 29 (0, 0)) (by (with_reducible repeat (first | refine blk_drewN ?_ _ | refine blk_drew ?_ | refine blk_alloc ?_ _)); exact BK105.out) hb)
                  have n4_ := Aside0.mk (blk_below (g := gb106) (o := .cells #[.bool false, .slice none 0 0] 27 (0, 0)) (by (with_reducible repeat (first | refine blk_drewN ?_ _ | refine blk_drew ?_ | refine blk_alloc ?_ _)); exact BK106.out) hb)
                  have n5_ := Aside0.mk (below_step (by repeat (first | (with_reducible first | exact HB.out | apply below_alloc | apply pw_below_drewN | apply below_drew1 | refine below_set ?_ GE104.out | refine below_set ?_ GE105.out | refine below_set ?_ GE106.out) | exact HB.out)) hb)
                  clear HO148
                  clear BK104
                  clear BK105
                  clear BK106
                  clear HB
                  have HO148 := n0_
                  have HO138 := n1_
                  have BK104 := n2_
                  have BK105 := n3_
                  have BK106 := n4_
                  have HB := n5_
                  clear n0_ n1_ n2_ n3_ n4_ n5_
                  clear hb ho60
                  refine hK.out _ _ ⟨(blk_cell BK104.out 0).trans rfl, (blk_cell BK104.out 1).trans rfl, (blk_cell BK105.out 0).trans rfl, (blk_cell BK105.out 1).trans rfl⟩ (fun hHeld => ?_)
                  clear hK K
                  refine norm_ (a' := ?_) ?_ ?_
                  rotate_left
                  · show Act.put _ (some 22) _ = _
                    simp only [Act.put, List.setIfInBounds_toArray, List.set_cons_zero, List.set_cons_succ, i64_w, i32_w]
                    rfl
                  refine one_ (i := 5) (N := some 27) #[true, true, true, true, true, true, true, true, false, true, false, false, false] rfl rfl (one_of HT_.out (by kernel_rfl)) (by decide) (fun K hK => ?_)
                  refine Kd.R_append_rows_step k29 (w0 := w) w.heap.size (by rfl) (.tmp 22) (.tmp 26) 25 29 (.agg #[(.int .i64 0), (.int .i64 0)]) 16 rfl Try.underlying25 info29 rfl (by decide) (by omega) v137 y136 y139 _ _ _ (fun k_ => some k_ ≠ (v147 : Value).ownBlock ∧ k_ ≠ gb105) (fun _ => False) rfl rfl ?aO ?aR (fun _ _ h => h) (fun _ h => h.elim) ?aF ?aB ?aS ?aL ?_
                  (case aR => repeat (first | exact (Kd.C_below HR142.out HB.out) | (with_reducible refine Kd.C_alloc ?_ _) | (with_reducible refine Kd.C_drewN ?_ _) | (with_reducible refine Kd.C_drew ?_)))
                  (case aB => exact (by repeat (first | (with_reducible first | exact HB.out | apply below_alloc | apply pw_below_drewN | apply below_drew1 | refine below_set ?_ GE104.out | refine below_set ?_ GE105.out | refine below_set ?_ GE106.out) | exact HB.out)))
                  (case aF => exact (fun k_ hk => ⟨Kd.fresh' (Kd.R_lt (by (with_reducible repeat (first | apply Kd.R_alloc | apply Kd.R_drewN | apply Kd.R_drew)); exact HO148.out)) k_ hk, Kd.freshB (g := gb105) (o := .cells #[.int .i64 a1_0, .int .i64 a1_1] 29 (0, 0)) (by (with_reducible repeat (first | refine blk_drewN ?_ _ | refine blk_drew ?_ | refine blk_alloc ?_ _)); exact BK105.out) k_ hk⟩))
                  (case aO => exact (by (with_reducible repeat (first | apply Kd.R_alloc | apply Kd.R_drewN | apply Kd.R_drew)); exact Kd.R_mono HO138.out (fun _ hk => ⟨hk.1.2, hk.2⟩)))
                  (case aS => exact (below_size (by repeat (first | (with_reducible first | exact HB.out | apply below_alloc | apply pw_below_drewN | apply below_drew1 | refine below_set ?_ GE104.out | refine below_set ?_ GE105.out | refine below_set ?_ GE106.out) | exact HB.out))))
                  (case aL => have := LMc41.out; first | omega | exact this | exact Nat.le_of_lt this)
                  intro v144 w61 ho hb hg hat
                  rw [← Ny143.out] at ho
                  have n0_ := Aside0.mk (blk_grown (g := gb104) (o := .cells #[.bool a0_0, .slice A0_1 l0_1.length c0_1] 27 (0, 0)) (by (with_reducible repeat (first | refine blk_drewN ?_ _ | refine blk_drew ?_ | refine blk_alloc ?_ _)); exact BK104.out) hg (Kd.R_ne HO138.out BK104.out (by decide)))
                  have n1_ := Aside0.mk (blk_grown (g := gb105) (o := .cells #[.int .i64 a1_0, .int .i64 a1_1] 29 (0, 0)) (by (with_reducible repeat (first | refine blk_drewN ?_ _ | refine blk_drew ?_ | refine blk_alloc ?_ _)); exact BK105.out) hg (Kd.R_away HO138.out (fun _ hk => hk.2)))
                  have n2_ := Aside0.mk (blk_grown (g := gb106) (o := .cells #[.bool false, .slice none 0 0] 27 (0, 0)) (by (with_reducible repeat (first | refine blk_drewN ?_ _ | refine blk_drew ?_ | refine blk_alloc ?_ _)); exact BK106.out) hg (Kd.R_ne HO138.out BK106.out (by decide)))
                  have n3_ := Aside0.mk (Kd.R_after (ok := (fun k_ => k_ ≠ gb105)) (by (with_reducible repeat (first | apply Kd.R_alloc | apply Kd.R_drewN | apply Kd.R_drew)); exact Kd.R_mono HO148.out (fun _ hk => ⟨hk.1.2, hk.2⟩)) hg hat)
                  have n4_ := Aside0.mk (hb)
                  have n5_ := Aside0.mk (ho)
                  clear BK104
                  clear BK105
                  clear BK106
                  clear HO148
                  clear HB
                  clear HO138
                  have BK104 := n0_
                  have BK105 := n1_
                  have BK106 := n2_
                  have HO148 := n3_
                  have HB := n4_
                  have HO145 := n5_
                  clear n0_ n1_ n2_ n3_ n4_ n5_
                  clear ho hb hg hat
                  refine hK.out _ _ ⟨(blk_cell BK104.out 0).trans rfl, (blk_cell BK104.out 1).trans rfl, (blk_cell BK105.out 0).trans rfl, (blk_cell BK105.out 1).trans rfl⟩ (fun hHeld => ?_)
                  clear hK K
                  refine norm_ (a' := ?_) ?_ ?_
                  rotate_left
                  · show Act.put _ (some 27) _ = _
                    simp only [Act.put, List.setIfInBounds_toArray, List.set_cons_zero, List.set_cons_succ, i64_w, i32_w]
                    rfl
                  exact norm_ (by simp only [putAll, Act.put, List.setIfInBounds_toArray, List.set_cons_zero, List.set_cons_succ]) (hCont (v137, v144, v147) _ ⟨hHeld, (by (with_reducible repeat (first | apply Kd.R_alloc | apply Kd.R_drewN | apply Kd.R_drew)); exact HO145.out), (by (with_reducible repeat (first | apply Kd.R_alloc | apply Kd.R_drewN | apply Kd.R_drew)); exact Kd.R_mono HO148.out (fun _ hk => ⟨hk.2, hk.1⟩)), (by (with_reducible repeat (first | refine blk_drewN ?_ _ | refine blk_drew ?_ | refine blk_alloc ?_ _)); exact BK104.out), (by (with_reducible repeat (first | refine blk_drewN ?_ _ | refine blk_drew ?_ | refine blk_alloc ?_ _)); exact BK105.out), (by (with_reducible repeat (first | refine blk_drewN ?_ _ | refine blk_drew ?_ | refine blk_alloc ?_ _)); exact BK106.out), (by repeat (first | (with_reducible first | exact HB.out | apply below_alloc | apply pw_below_drewN | apply below_drew1 | refine below_set ?_ GE104.out | refine below_set ?_ GE105.out | refine below_set ?_ GE106.out) | exact HB.out))⟩)
              rintro ⟨v137, v144, v147⟩ w62 ⟨hS_, h0_, h1_, h2_, h3_, h4_, h5_⟩
              have n0_ : Aside0 (Kd.R k29 29 w62 w.heap.size (fun k_ => some k_ ≠ (v147 : Value).ownBlock ∧ k_ ≠ gb105) v144 y143) := ⟨h0_⟩
              have n1_ : Aside0 (Kd.R k29 29 w62 w.heap.size (fun k_ => some k_ ≠ (v144 : Value).ownBlock ∧ k_ ≠ gb105) v147 y146) := ⟨h1_⟩
              have n2_ : Aside0 (w62.heap[gb104]? = some (.cells #[.bool a0_0, .slice A0_1 l0_1.length c0_1] 27 (0, 0))) := ⟨h2_⟩
              have n3_ : Aside0 (w62.heap[gb105]? = some (.cells #[.int .i64 a1_0, .int .i64 a1_1] 29 (0, 0))) := ⟨h3_⟩
              have n4_ : Aside0 (w62.heap[gb106]? = some (.cells #[.bool false, .slice none 0 0] 27 (0, 0))) := ⟨h4_⟩
              have n5_ : Aside0 (Below w.heap.size w w62) := ⟨h5_⟩
              clear BK104
              clear BK105
              clear BK106
              clear HB
              clear h0_ h1_ h2_ h3_ h4_ h5_
              have HO145 := n0_
              have HO148 := n1_
              have BK104 := n2_
              have BK105 := n3_
              have BK106 := n4_
              have HB := n5_
              clear n0_ n1_ n2_ n3_ n4_ n5_
              have hHeld : w62.cell? ⟨gb104, 0, none⟩ = some (.bool a0_0) ∧ w62.cell? ⟨gb104, 1, none⟩ = some (.slice A0_1 l0_1.length c0_1) ∧ w62.cell? ⟨gb105, 0, none⟩ = some (.int .i64 a1_0) ∧ w62.cell? ⟨gb105, 1, none⟩ = some (.int .i64 a1_1) := hS_
              obtain ⟨Ao64, co64, eo64⟩ := Kd.R_slice HO148.out
              (first | subst eo64 | (injection eo64 with f1_ f2_ f3_; have f4_ := f1_.symm; have f5_ := f3_.symm; clear f1_ f2_ f3_; subst f4_; subst f5_))
              refine norm_ (a' := ?_) ?_ ?_
              rotate_left
              · simp only [putAll, Act.put, List.setIfInBounds_toArray, List.set_cons_zero, List.set_cons_succ]
                rfl
              refine one_ (i := 8) (N := some 30) #[true, true, true, true, true, true, true, true, true, true, false, false, false] rfl rfl (one_of HT_.out (by kernel_rfl)) (by decide) (fun K hK => ?_)
              refine Kd.R_append_rows_step k29 (w0 := w) w.heap.size (by rfl) (.tmp 27) (.tmp 29) 25 29 (.agg #[(.int .i64 0), (.int .i64 0)]) 16 rfl Try.underlying25 info29 rfl (by decide) (by omega) v144 y143 y146 _ _ _ (fun k_ => some k_ ≠ (.slice Ao64 y146.length co64 : Value).ownBlock ∧ k_ ≠ gb105) (fun _ => False) rfl rfl ?aO ?aR (fun _ _ h => h) (fun _ h => h.elim) ?aF ?aB ?aS ?aL ?_
              (case aR => repeat (first | exact (Kd.R_reads' HO148.out).2.2 | (with_reducible refine Kd.C_alloc ?_ _) | (with_reducible refine Kd.C_drewN ?_ _) | (with_reducible refine Kd.C_drew ?_)))
              (case aB => exact (by repeat (first | (with_reducible first | exact HB.out | apply below_alloc | apply pw_below_drewN | apply below_drew1 | refine below_set ?_ GE104.out | refine below_set ?_ GE105.out | refine below_set ?_ GE106.out) | exact HB.out)))
              (case aF => exact (fun k_ hk => ⟨Kd.fresh' (Kd.R_lt (by (with_reducible repeat (first | apply Kd.R_alloc | apply Kd.R_drewN | apply Kd.R_drew)); exact HO148.out)) k_ hk, Kd.freshB (g := gb105) (o := .cells #[.int .i64 a1_0, .int .i64 a1_1] 29 (0, 0)) (by (with_reducible repeat (first | refine blk_drewN ?_ _ | refine blk_drew ?_ | refine blk_alloc ?_ _)); exact BK105.out) k_ hk⟩))
              (case aO => exact (by (with_reducible repeat (first | apply Kd.R_alloc | apply Kd.R_drewN | apply Kd.R_drew)); exact HO145.out))
              (case aS => exact (below_size (by repeat (first | (with_reducible first | exact HB.out | apply below_alloc | apply pw_below_drewN | apply below_drew1 | refine below_set ?_ GE104.out | refine below_set ?_ GE105.out | refine below_set ?_ GE106.out) | exact HB.out))))
              (case aL => have := LMc42.out; first | omega | exact this | exact Nat.le_of_lt this)
              intro v150 w63 ho hb hg hat
              rw [← Ny149.out] at ho
              have n0_ := Aside0.mk (blk_grown (g := gb104) (o := .cells #[.bool a0_0, .slice A0_1 l0_1.length c0_1] 27 (0, 0)) (by (with_reducible repeat (first | refine blk_drewN ?_ _ | refine blk_drew ?_ | refine blk_alloc ?_ _)); exact BK104.out) hg (Kd.R_ne HO145.out BK104.out (by decide)))
              have n1_ := Aside0.mk (blk_grown (g := gb105) (o := .cells #[.int .i64 a1_0, .int .i64 a1_1] 29 (0, 0)) (by (with_reducible repeat (first | refine blk_drewN ?_ _ | refine blk_drew ?_ | refine blk_alloc ?_ _)); exact BK105.out) hg (Kd.R_away HO145.out (fun _ hk => hk.2)))
              have n2_ := Aside0.mk (blk_grown (g := gb106) (o := .cells #[.bool false, .slice none 0 0] 27 (0, 0)) (by (with_reducible repeat (first | refine blk_drewN ?_ _ | refine blk_drew ?_ | refine blk_alloc ?_ _)); exact BK106.out) hg (Kd.R_ne HO145.out BK106.out (by decide)))
              have n3_ := Aside0.mk (Kd.R_after (ok := (fun k_ => k_ ≠ gb105)) (by (with_reducible repeat (first | apply Kd.R_alloc | apply Kd.R_drewN | apply Kd.R_drew)); exact Kd.R_mono HO148.out (fun _ hk => ⟨hk.2, hk.1⟩)) hg hat)
              have n4_ := Aside0.mk (hb)
              have n5_ := Aside0.mk (ho)
              clear BK104
              clear BK105
              clear BK106
              clear HO148
              clear HB
              clear HO145
              have BK104 := n0_
              have BK105 := n1_
              have BK106 := n2_
              have HO148 := n3_
              have HB := n4_
              have HO151 := n5_
              clear n0_ n1_ n2_ n3_ n4_ n5_
              clear ho hb hg hat
              refine hK.out _ _ ⟨(blk_cell BK104.out 0).trans rfl, (blk_cell BK104.out 1).trans rfl, (blk_cell BK105.out 0).trans rfl, (blk_cell BK105.out 1).trans rfl⟩ (fun hHeld => ?_)
              clear hK K
              refine norm_ (a' := ?_) ?_ ?_
              rotate_left
              · show Act.put _ (some 30) _ = _
                simp only [Act.put, List.setIfInBounds_toArray, List.set_cons_zero, List.set_cons_succ, i64_w, i32_w]
                rfl
              refine one_ (i := 10) (N := some 32) #[true, true, true, true, true, true, true, true, true, true, true, false, false] rfl rfl (one_of HT_.out (by kernel_rfl)) (by decide) (fun K hK => ?_)
              refine Kd.R_append_rows_step k29 (w0 := w) w.heap.size (by rfl) (.tmp 30) (.tmp 31) 25 29 (.agg #[(.int .i64 0), (.int .i64 0)]) 16 rfl Try.underlying25 info29 rfl (by decide) (by omega) v150 y149 y109 _ _ _ (fun k_ => some k_ ≠ (.slice Ao64 y146.length co64 : Value).ownBlock ∧ k_ ≠ gb105) (fun _ => False) rfl rfl ?aO ?aR (fun _ _ h => h) (fun _ h => h.elim) ?aF ?aB ?aS ?aL ?_
              (case aR => repeat (first | exact (Kd.C_below HR112.out HB.out) | (with_reducible refine Kd.C_alloc ?_ _) | (with_reducible refine Kd.C_drewN ?_ _) | (with_reducible refine Kd.C_drew ?_)))
              (case aB => exact (by repeat (first | (with_reducible first | exact HB.out | apply below_alloc | apply pw_below_drewN | apply below_drew1 | refine below_set ?_ GE104.out | refine below_set ?_ GE105.out | refine below_set ?_ GE106.out) | exact HB.out)))
              (case aF => exact (fun k_ hk => ⟨Kd.fresh' (Kd.R_lt (by (with_reducible repeat (first | apply Kd.R_alloc | apply Kd.R_drewN | apply Kd.R_drew)); exact HO148.out)) k_ hk, Kd.freshB (g := gb105) (o := .cells #[.int .i64 a1_0, .int .i64 a1_1] 29 (0, 0)) (by (with_reducible repeat (first | refine blk_drewN ?_ _ | refine blk_drew ?_ | refine blk_alloc ?_ _)); exact BK105.out) k_ hk⟩))
              (case aO => exact (by (with_reducible repeat (first | apply Kd.R_alloc | apply Kd.R_drewN | apply Kd.R_drew)); exact HO151.out))
              (case aS => exact (below_size (by repeat (first | (with_reducible first | exact HB.out | apply below_alloc | apply pw_below_drewN | apply below_drew1 | refine below_set ?_ GE104.out | refine below_set ?_ GE105.out | refine below_set ?_ GE106.out) | exact HB.out))))
              (case aL => have := LMc43.out; first | omega | exact this | exact Nat.le_of_lt this)
              intro v153 w65 ho hb hg hat
              rw [← Ny152.out] at ho
              have n0_ := Aside0.mk (blk_grown (g := gb104) (o := .cells #[.bool a0_0, .slice A0_1 l0_1.length c0_1] 27 (0, 0)) (by (with_reducible repeat (first | refine blk_drewN ?_ _ | refine blk_drew ?_ | refine blk_alloc ?_ _)); exact BK104.out) hg (Kd.R_ne HO151.out BK104.out (by decide)))
              have n1_ := Aside0.mk (blk_grown (g := gb105) (o := .cells #[.int .i64 a1_0, .int .i64 a1_1] 29 (0, 0)) (by (with_reducible repeat (first | refine blk_drewN ?_ _ | refine blk_drew ?_ | refine blk_alloc ?_ _)); exact BK105.out) hg (Kd.R_away HO151.out (fun _ hk => hk.2)))
              have n2_ := Aside0.mk (blk_grown (g := gb106) (o := .cells #[.bool false, .slice none 0 0] 27 (0, 0)) (by (with_reducible repeat (first | refine blk_drewN ?_ _ | refine blk_drew ?_ | refine blk_alloc ?_ _)); exact BK106.out) hg (Kd.R_ne HO151.out BK106.out (by decide)))
              have n3_ := Aside0.mk (Kd.R_after (ok := (fun k_ => k_ ≠ gb105)) (by (with_reducible repeat (first | apply Kd.R_alloc | apply Kd.R_drewN | apply Kd.R_drew)); exact HO148.out) hg hat)
              have n4_ := Aside0.mk (hb)
              have n5_ := Aside0.mk (ho)
              clear BK104
              clear BK105
              clear BK106
              clear HO148
              clear HB
              clear HO151
              have BK104 := n0_
              have BK105 := n1_
              have BK106 := n2_
              have HO148 := n3_
              have HB := n4_
              have HO154 := n5_
              clear n0_ n1_ n2_ n3_ n4_ n5_
              clear ho hb hg hat
              obtain ⟨Ao66, co66, eo66⟩ := Kd.R_slice HO154.out
              (first | subst eo66 | (injection eo66 with f1_ f2_ f3_; have f4_ := f1_.symm; have f5_ := f3_.symm; clear f1_ f2_ f3_; subst f4_; subst f5_))
              refine hK.out _ _ ⟨(blk_cell BK104.out 0).trans rfl, (blk_cell BK104.out 1).trans rfl, (blk_cell BK105.out 0).trans rfl, (blk_cell BK105.out 1).trans rfl⟩ (fun hHeld => ?_)
              clear hK K
              refine norm_ (a' := ?_) ?_ ?_
              rotate_left
              · show Act.put _ (some 32) _ = _
                simp only [Act.put, List.setIfInBounds_toArray, List.set_cons_zero, List.set_cons_succ, i64_w, i32_w]
                rfl
              refine pure_ (i := 11) (N := some 33) (v := ?_) (a' := ?_) #[true, true, true, true, true, true, true, true, true, true, true, true, false] rfl rfl (any_of HT_.out (by kernel_rfl)) (fun _ _ _ h => h) (Or.inl ⟨by rfl, ?_⟩) ?_ ?_
              rotate_left
              · intro w'
                go_simp
                with_reducible rfl
              rotate_left
              · simp only [Act.put, List.setIfInBounds_toArray, List.set_cons_zero, List.set_cons_succ, i64_w, i32_w]
                rfl
              refine one_ (i := 12) (N := none) #[true, true, true, true, true, true, true, true, true, true, true, true, true] rfl rfl (one_of HT_.out (by kernel_rfl)) (by decide) (fun K hK => ?_)
              have hs67 : w65.cell? ⟨gb106, 0, none⟩ = some (.bool false) := (blk_cell BK106.out 0).trans rfl
              have hfs67 := blk_frozen BK106.out 0
              have hns67_0 := NB104_106.out
              have hns67_1 := NB105_106.out
              have hms67_0 := NB106_104.out
              have hms67_1 := NB106_105.out
              have hs68 : w65.cell? ⟨gb106, 1, none⟩ = some (.slice none 0 0) := (blk_cell BK106.out 1).trans rfl
              have hfs68 := blk_frozen BK106.out 1
              have hns68_0 := NB104_106.out
              have hns68_1 := NB105_106.out
              have hms68_0 := NB106_104.out
              have hms68_1 := NB106_105.out
              refine skip_ (w1 := ?_) (by rfl) rfl ?_ ?_
              rotate_left
              · go_simp
                rfl
              refine hK.out _ _ ⟨((cell_far (p := ⟨gb106, _, none⟩) NB104_106.out _).trans (((cell_far (p := ⟨gb106, _, none⟩) NB104_106.out _).trans (hHeld.1)))), ((cell_far (p := ⟨gb106, _, none⟩) NB104_106.out _).trans (((cell_far (p := ⟨gb106, _, none⟩) NB104_106.out _).trans (hHeld.2.1)))), ((cell_far (p := ⟨gb106, _, none⟩) NB105_106.out _).trans (((cell_far (p := ⟨gb106, _, none⟩) NB105_106.out _).trans (hHeld.2.2.1)))), ((cell_far (p := ⟨gb106, _, none⟩) NB105_106.out _).trans (((cell_far (p := ⟨gb106, _, none⟩) NB105_106.out _).trans (hHeld.2.2.2))))⟩ (fun hHeld => ?_)
              clear hK K
              refine done_ (done_of HT_.out (by kernel_rfl)) ?_
              try go_wp2
              refine bodyPost_ret (results_cell_row rfl _ _ gb106 27 #[.bool false, .slice Ao66 y152.length co66] (0, 0) _ rfl (by (with_reducible repeat (first | refine blk_drewN ?_ _ | refine blk_drew ?_ | refine blk_alloc ?_ _)); refine blk_put (cs := #[.bool false, .slice none 0 0]) ?_ 1 _ rfl; (with_reducible repeat (first | refine blk_drewN ?_ _ | refine blk_drew ?_ | refine blk_alloc ?_ _)); refine blk_put (cs := #[.bool false, .slice none 0 0]) ?_ 0 _ rfl; (with_reducible repeat (first | refine blk_drewN ?_ _ | refine blk_drew ?_ | refine blk_alloc ?_ _)); exact BK106.out) Try.underlying27 rfl (by kernel_rfl)) rfl ?_
              exact ⟨_, by first | rfl | (simp [errW_none, errW_some] <;> rfl) | (simp [*, errW_none, errW_some] <;> rfl), by (with_reducible repeat (first | apply Kd.R_alloc | apply Kd.R_drewN | apply Kd.R_drew)); exact Kd.R_mono (Kd.R_far (p := ⟨gb106, 1, none⟩) (Kd.R_far (p := ⟨gb106, 0, none⟩) (Kd.R_types HO154.out BK106.out (by decide)) (fun _ hk => hk.2) (.bool false)) (fun _ hk => hk.2) (.slice Ao66 y152.length co66)) (fun _ hk => trivial), by repeat (first | (with_reducible first | exact HB.out | apply below_alloc | apply pw_below_drewN | apply below_drew1 | refine below_set ?_ GE104.out | refine below_set ?_ GE105.out | refine below_set ?_ GE106.out) | exact HB.out)⟩
            · rw [if_neg c43] at H
              exact absurd H (by simp)
          · rw [if_neg c42] at H
            exact absurd H (by simp)
        · rw [if_neg c41] at H
          exact absurd H (by simp)
    · rw [if_neg c5] at H
      exact absurd H (by simp)
  · rw [if_neg c4] at H
    exact absurd H (by simp)

end Go.Proofs.Ytokdamfalhcnnaa.GMpBody
