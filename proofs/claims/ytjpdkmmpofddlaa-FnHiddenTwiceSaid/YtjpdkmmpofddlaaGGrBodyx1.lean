-- Written by gprint.py, a program of this session over the kit's printer, with contracts of its own for what the printer does not take. Not trusted: Lean checks it.
import Derived.Test.YtjpdkmmpofddlaaGGrBodyx0
namespace Go.Proofs.Ytjpdkmmpofddlaa.GGrBody
open Go.RowKit Go.Proofs.Ytjpdkmmpofddlaa.Itr Go.Proofs.YtjpdkmmpofddlaaW.PrintWords Go.Proofs.YtjpdkmmpofddlaaW.PrintLast Go.Proofs.YtjpdkmmpofddlaaW.PrintMore
attribute [local go_sem] max2_int min2_int max_two min_two max_three min_three max_four min_four   -- for this text's walks alone
set_option linter.unusedVariables false
set_option linter.unusedSimpArgs false

/-! ### spec_at: function 15 -/
def spec_at.f (l0 : List Int) (a1 : Int) : Option (Int) := if a1 < (l0.length : Int) then (if 0 ≤ a1 then (some (rd l0 a1)) else (none)) else (some 0)
set_option maxHeartbeats 8000000 in
set_option maxRecDepth 100000 in
theorem spec_at.calls (A0 : Option Addr) (c0 : Nat) (l0 : List Int) (a1 : Int) (r : Int) (w : World) (hr0 : Kd.C (Kd.int .i64) w A0 l0.length l0) (hc0 : l0.length ≤ c0) (h : spec_at.f l0 a1 = some r) :
    Calls Try.prog 15 #[.slice A0 l0.length c0, .int .i64 a1] w fun e w' => e = .returned (.int .i64 r) ∧ Drawn0 w w' := by
  have HR0 := Aside0.mk hr0
  have HC0 := Aside0.mk hc0
  clear hr0 hc0
  have H : (if a1 < (l0.length : Int) then (if 0 ≤ a1 then (some (rd l0 a1)) else (none)) else (some 0)) = some r := h
  clear h
  by_cases c3 : a1 < (l0.length : Int)
  · rw [if_pos c3] at H
    have c3b0 : decide (a1 < (l0.length : Int)) = true := decide_eq_true c3
    clear c3
    by_cases c4 : 0 ≤ a1
    · rw [if_pos c4] at H
      have c4b0 : decide (0 ≤ a1) = true := decide_eq_true c4
      clear c4
      obtain rfl := Option.some.inj H
      have p101 : 0 ≤ (a1 : Int) := of_decide_eq_true (by first | (with_reducible assumption) | assumption)
      have q101 : a1 < (l0.length : Int) := of_decide_eq_true (by first | (with_reducible assumption) | assumption)
      obtain ⟨ad101, e101, hx101_0⟩ := Kd.at_int HR0.out a1 p101 q101
      cases e101
      replace p101 := eq_true p101
      replace q101 := eq_true q101
      go_enter Try.func15, Try.ntmps15
      go_wp2
      go_ret
      exact ⟨by first | rfl | (simp; done) | (simp [*]; done), by repeat (first | exact Drawn0.refl _ | apply Drawn0.step)⟩
    · rw [if_neg c4] at H
      exact absurd H (by simp)
  · rw [if_neg c3] at H
    have c3b0 : decide (a1 < (l0.length : Int)) = false := decide_eq_false c3
    clear c3
    obtain rfl := Option.some.inj H
    go_enter Try.func15, Try.ntmps15
    go_wp2
    go_ret
    exact ⟨by first | rfl | (simp; done) | (simp [*]; done), by repeat (first | exact Drawn0.refl _ | apply Drawn0.step)⟩

/-! ### spec_Grown: function 8 -/
mutual
def spec_Grown.l0 : Nat → List Int → List Int → Int → Option (List Int)
  | 0, _, _, _ => none
  | k + 1, x1, x9, x10 => if x10 > 0 then (spec_Grown.l1 k x1 x9 x10 false 0) else (some x9)
def spec_Grown.l1 : Nat → List Int → List Int → Int → Bool → Int → Option (List Int)
  | 0, _, _, _, _, _ => none
  | k + 1, x1, x9, x10, x11, x12 => if x12 < (x9.length : Int) then (spec_Grown.j2 k x1 x9 x10 x11 x12 (decide (x10 > 0))) else (spec_Grown.j2 k x1 x9 x10 x11 x12 false)
def spec_Grown.j2 : Nat → List Int → List Int → Int → Bool → Int → Bool → Option (List Int)
  | 0, _, _, _, _, _, _ => none
  | k + 1, x1, x9, x10, x11, x12, x29 => if x29 = true then ((spec_at.f x1 x12).bind fun t108 => (if t108 = 0 then (if 0 ≤ x12 then (if x12 < (x9.length : Int) then (spec_Grown.l1 k x1 (x9.set (x12 : Int).toNat (wrap64 ((rd x9 x12) + 1))) (wrap64 (x10 - 1)) true (wrap64 (x12 + 1))) else (none)) else (none)) else (if 0 ≤ x12 then (if x12 < (x9.length : Int) then (if (rd x9 x12) < t108 then (spec_Grown.l1 k x1 (x9.set (x12 : Int).toNat (wrap64 ((rd x9 x12) + 1))) (wrap64 (x10 - 1)) true (wrap64 (x12 + 1))) else (spec_Grown.l1 k x1 x9 x10 x11 (wrap64 (x12 + 1)))) else (none)) else (none)))) else (if x11 = true then (spec_Grown.l0 k x1 x9 x10) else (some x9))
end
def spec_Grown.f (k : Nat) (l0 : List Int) (l1 : List Int) (a2 : Int) (a3 : Int) : Option (List Int) := (some (([] : List Int) : List Int)).bind fun y102 => (if y102.length + l0.length < 17592186044416 then (spec_Grown.l0 k l1 (y102 ++ l0) (wrap64 (a3 - a2))) else (none))
theorem spec_Grown.mono_l : ∀ k, (∀ y0 y1 y2, LeO (spec_Grown.l0 k y0 y1 y2) (spec_Grown.l0 (k + 1) y0 y1 y2)) ∧ (∀ y0 y1 y2 y3 y4, LeO (spec_Grown.l1 k y0 y1 y2 y3 y4) (spec_Grown.l1 (k + 1) y0 y1 y2 y3 y4)) ∧ (∀ y0 y1 y2 y3 y4 y5, LeO (spec_Grown.j2 k y0 y1 y2 y3 y4 y5) (spec_Grown.j2 (k + 1) y0 y1 y2 y3 y4 y5))
  | 0 => ⟨fun _ _ _ r h => by simp [spec_Grown.l0] at h, fun _ _ _ _ _ r h => by simp [spec_Grown.l1] at h, fun _ _ _ _ _ _ r h => by simp [spec_Grown.j2] at h⟩
  | k + 1 => by
    obtain ⟨ih0, ih1, ih2⟩ := spec_Grown.mono_l k
    refine ⟨?_, ?_, ?_⟩
    · intro y0 y1 y2
      unfold spec_Grown.l0
      repeat' first
      | (with_reducible exact ih0 _ _ _)
      | (with_reducible exact ih1 _ _ _ _ _)
      | (with_reducible exact ih2 _ _ _ _ _ _)
      | (with_reducible exact LeO.refl _)
      | (with_reducible exact LeO.none _)
      | (with_reducible refine LeO.ite ?_ ?_)
      | (with_reducible refine LeO.bind ?_ (fun _ => ?_))
      | exact ih0 _ _ _
      | exact ih1 _ _ _ _ _
      | exact ih2 _ _ _ _ _ _
      | exact LeO.none _
      | refine LeO.ite ?_ ?_
      | refine LeO.bind ?_ (fun _ => ?_)
    · intro y0 y1 y2 y3 y4
      unfold spec_Grown.l1
      repeat' first
      | (with_reducible exact ih0 _ _ _)
      | (with_reducible exact ih1 _ _ _ _ _)
      | (with_reducible exact ih2 _ _ _ _ _ _)
      | (with_reducible exact LeO.refl _)
      | (with_reducible exact LeO.none _)
      | (with_reducible refine LeO.ite ?_ ?_)
      | (with_reducible refine LeO.bind ?_ (fun _ => ?_))
      | exact ih0 _ _ _
      | exact ih1 _ _ _ _ _
      | exact ih2 _ _ _ _ _ _
      | exact LeO.none _
      | refine LeO.ite ?_ ?_
      | refine LeO.bind ?_ (fun _ => ?_)
    · intro y0 y1 y2 y3 y4 y5
      unfold spec_Grown.j2
      repeat' first
      | (with_reducible exact ih0 _ _ _)
      | (with_reducible exact ih1 _ _ _ _ _)
      | (with_reducible exact ih2 _ _ _ _ _ _)
      | (with_reducible exact LeO.refl _)
      | (with_reducible exact LeO.none _)
      | (with_reducible refine LeO.ite ?_ ?_)
      | (with_reducible refine LeO.bind ?_ (fun _ => ?_))
      | exact ih0 _ _ _
      | exact ih1 _ _ _ _ _
      | exact ih2 _ _ _ _ _ _
      | exact LeO.none _
      | refine LeO.ite ?_ ?_
      | refine LeO.bind ?_ (fun _ => ?_)
theorem spec_Grown.mono : ∀ a0 a1 a2 a3 k, LeO (spec_Grown.f k a0 a1 a2 a3) (spec_Grown.f (k + 1) a0 a1 a2 a3) := by
  intro a0 a1 a2 a3 k
  obtain ⟨ih0, ih1, ih2⟩ := spec_Grown.mono_l k
  unfold spec_Grown.f
  repeat' first
      | (with_reducible exact ih0 _ _ _)
      | (with_reducible exact ih1 _ _ _ _ _)
      | (with_reducible exact ih2 _ _ _ _ _ _)
      | (with_reducible exact LeO.refl _)
      | (with_reducible exact LeO.none _)
      | (with_reducible refine LeO.ite ?_ ?_)
      | (with_reducible refine LeO.bind ?_ (fun _ => ?_))
      | exact ih0 _ _ _
      | exact ih1 _ _ _ _ _
      | exact ih2 _ _ _ _ _ _
      | exact LeO.none _
      | refine LeO.ite ?_ ?_
      | refine LeO.bind ?_ (fun _ => ?_)
set_option maxHeartbeats 8000000 in
set_option maxRecDepth 100000 in
theorem spec_Grown.calls (k : Nat) (A0 : Option Addr) (c0 : Nat) (l0 : List Int) (A1 : Option Addr) (c1 : Nat) (l1 : List Int) (a2 : Int) (a3 : Int) (r : List Int) (w : World) (hr0 : Kd.C (Kd.int .i64) w A0 l0.length l0) (hc0 : l0.length ≤ c0) (hr1 : Kd.C (Kd.int .i64) w A1 l1.length l1) (hc1 : l1.length ≤ c1) (h : spec_Grown.f k l0 l1 a2 a3 = some r) :
    Calls Try.prog 8 #[.slice A0 l0.length c0, .slice A1 l1.length c1, .int .i64 a2, .int .i64 a3] w fun e w' => ∃ v0_ : Value, e = .returned (v0_) ∧ Kd.R (Kd.int .i64) 3 w' w.heap.size (fun _ => True) v0_ r ∧ Below w.heap.size w w' := by
  have HR0 := Aside0.mk hr0
  have HC0 := Aside0.mk hc0
  clear hr0 hc0
  have HR1 := Aside0.mk hr1
  have HC1 := Aside0.mk hc1
  clear hr1 hc1
  have HB := Aside0.mk (Below.refl w.heap.size w)
  have H : ((some (([] : List Int) : List Int)).bind fun y102 => (if y102.length + l0.length < 17592186044416 then (spec_Grown.l0 k l1 (y102 ++ l0) (wrap64 (a3 - a2))) else (none))) = some r := h
  clear h
  obtain ⟨y102, hy102⟩ : ∃ y_ : List Int, y_ = (([] : List Int)) := ⟨_, rfl⟩
  replace H : (if y102.length + l0.length < 17592186044416 then (spec_Grown.l0 k l1 (y102 ++ l0) (wrap64 (a3 - a2))) else (none)) = some r := by first | (rw [hy102]; with_reducible exact H) | (have H2_ := (Option.bind_some _ _).symm.trans H; rw [hy102]; with_reducible exact H2_) | (have H2_ := (Option.bind_some _ _).symm.trans H; with_reducible exact H2_) | with_reducible exact H | (rw [hy102]; exact H) | exact H
  have Ny102 := Aside0.mk hy102
  clear hy102
  by_cases c5 : y102.length + l0.length < 17592186044416
  · rw [if_pos c5] at H
    have LMc5 := Aside0.mk c5
    clear c5
    obtain ⟨y105, hy105⟩ : ∃ y_ : List Int, y_ = (y102 ++ l0) := ⟨_, rfl⟩
    replace H : (spec_Grown.l0 k l1 y105 (wrap64 (a3 - a2))) = some r := by first | (rw [hy105]; with_reducible exact H) | (have H2_ := (Option.bind_some _ _).symm.trans H; rw [hy105]; with_reducible exact H2_) | (have H2_ := (Option.bind_some _ _).symm.trans H; with_reducible exact H2_) | with_reducible exact H | (rw [hy105]; exact H) | exact H
    have Ny105 := Aside0.mk hy105
    clear hy105
    have H' := Aside0.mk H
    clear H
    go_enter Try.func8, Try.ntmps8
    go_wp2_with (first | ((with_reducible refine gate_dst (N := 14) rfl ?_); refine Kd.R_lit (Kd.int .i64) _ 3 ?hg (N := 14) ?hd (xs := ([] : List Int)) (inner := []) (ok := fun _ => True) (okp := fun _ => True) ?hr ?hp (fun _ hk => hk) trivial (Below.refl _ _) (Nat.le_refl _) (by simp) ?_; (case hd => rfl); (case hg => rfl); (case hr => first | (go_simp; done) | (go_simp; rfl)); (case hp => exact (Reps.none _ _)); intro v103 w6 ho7 hb hg_ hnew_; clear hg_ hnew_; (first | rw [← Ny102.out] at ho7 | (simp only [Int.reduceToNat] at ho7; rw [← Ny102.out] at ho7)); have n0_ := Aside0.mk (Kd.R_lower ho7 (below_size (by repeat (first | (with_reducible first | exact HB.out | apply below_alloc | apply pw_below_drewN | apply below_drew1) | exact HB.out)))); have n1_ := Aside0.mk (below_step (by repeat (first | (with_reducible first | exact HB.out | apply below_alloc | apply pw_below_drewN | apply below_drew1) | exact HB.out)) hb); clear HB; have HO104 := n0_; have HB := n1_; clear n0_ n1_; clear hb ho7) | ((with_reducible refine gate_builtin (b := .append) (xs := #[.tmp 14, .tmp 15]) rfl ?_); at_builtin; refine Kd.R_append_rows (Kd.int .i64) (w0 := w) w.heap.size rfl (.tmp 14) (.tmp 15) 22 3 (.int .i64 0) 8 rfl Try.underlying22 info3 rfl (by decide) (by omega) v103 y102 l0 _ _ _ (fun _ => True) (fun _ => False) rfl rfl ?aO ?aR (fun _ _ h => h) (fun _ h => h.elim) ?aF ?aB ?aS ?aL ?_; (case aR => repeat (first | exact (Kd.C_below HR0.out HB.out) | (with_reducible refine Kd.C_alloc ?_ _) | (with_reducible refine Kd.C_drewN ?_ _) | (with_reducible refine Kd.C_drew ?_))); (case aB => exact (by repeat (first | (with_reducible first | exact HB.out | apply below_alloc | apply pw_below_drewN | apply below_drew1) | exact HB.out))); (case aF => exact (fun _ _ => trivial)); (case aO => exact (by (with_reducible repeat (first | apply Kd.R_alloc | apply Kd.R_drewN | apply Kd.R_drew)); exact HO104.out)); (case aS => exact (below_size (by repeat (first | (with_reducible first | exact HB.out | apply below_alloc | apply pw_below_drewN | apply below_drew1) | exact HB.out)))); (case aL => have := LMc5.out; omega); intro v106 w8 ho hb hg hat; rw [← Ny105.out] at ho; have n0_ := Aside0.mk (hb); have n1_ := Aside0.mk (ho); clear HB; clear HO104; have HB := n0_; have HO107 := n1_; clear n0_ n1_; clear ho hb hg hat))
    (try simp only [Act.put, List.setIfInBounds_toArray, List.set_cons_zero, List.set_cons_succ])
    go_loopg [10] k (fun kq v10 w' => ∃ (x9_1 : List Int) (x10_1 : Int), v10 = .int .i64 x10_1 ∧ Aside0 (spec_Grown.l0 kq l1 x9_1 x10_1 = some r) ∧ Aside0 (kq ≤ k) ∧ Aside0 (Kd.R (Kd.int .i64) 3 w' w.heap.size (fun _ => True) v106 x9_1) ∧ Aside0 (Below w.heap.size w w'))
    case atStart => exact ⟨(y105), (wrap64 (a3 - a2)), (by first | rfl | (simp; done) | (simp [*]; done)), H', ⟨Nat.le_refl _⟩, ⟨by (with_reducible repeat (first | apply Kd.R_alloc | apply Kd.R_drewN | apply Kd.R_drew)); exact HO107.out⟩, ⟨by repeat (first | (with_reducible first | exact HB.out | apply below_alloc | apply pw_below_drewN | apply below_drew1) | exact HB.out)⟩⟩
    case round =>
      clear H'
      try clear c1
      try clear p2
      try clear c5
      try clear p6
      try clear c8
      obtain ⟨x9_1, x10_1, rfl, HA, HK1, HO_9, HB⟩ := hrel
      cases gk with
      | zero => exact absurd HA.out (by simp [spec_Grown.l0])
      | succ k1 =>
        have H := HA.out
        clear HA
        simp only [spec_Grown.l0] at H
        by_cases c9 : x10_1 > 0
        · rw [if_pos c9] at H
          have c9b0 : decide (0 < x10_1) = true := decide_eq_true c9
          clear c9
          have H' := Aside0.mk H
          clear H
          go_wp2
          (try simp only [Act.put, List.setIfInBounds_toArray, List.set_cons_zero, List.set_cons_succ])
          go_loopg [10, 11, 12] k1 (fun kq v10 v11 v12 w' => ∃ (x9_2 : List Int) (x10_2 : Int) (x11_2 : Bool) (x12_2 : Int), v10 = .int .i64 x10_2 ∧ v11 = .bool x11_2 ∧ v12 = .int .i64 x12_2 ∧ Aside0 (spec_Grown.l1 kq l1 x9_2 x10_2 x11_2 x12_2 = some r) ∧ Aside0 (kq ≤ k1) ∧ Aside0 (Kd.R (Kd.int .i64) 3 w' w.heap.size (fun _ => True) v106 x9_2) ∧ Aside0 (Below w.heap.size w w'))
          case atStart => exact ⟨(x9_1), (x10_1), (false), (0), (by first | rfl | (simp; done) | (simp [*]; done)), (by first | rfl | (simp; done) | (simp [*]; done)), (by first | rfl | (simp; done) | (simp [*]; done)), H', ⟨Nat.le_refl _⟩, ⟨by (with_reducible repeat (first | apply Kd.R_alloc | apply Kd.R_drewN | apply Kd.R_drew)); exact HO_9.out⟩, ⟨by repeat (first | (with_reducible first | exact HB.out | apply below_alloc | apply pw_below_drewN | apply below_drew1) | exact HB.out)⟩⟩
          case round =>
            clear H'
            try clear c1
            try clear p2
            try clear c5
            try clear p6
            try clear c8
            try clear c9
            try clear c9b0
            try clear p2
            try clear p6
            obtain ⟨x9_2, x10_2, x11_2, x12_2, rfl, rfl, rfl, HA, HK2, HO_9, HB⟩ := hrel
            cases gk with
            | zero => exact absurd HA.out (by simp [spec_Grown.l1])
            | succ k2 =>
              have H := HA.out
              clear HA
              simp only [spec_Grown.l1] at H
              have HC10 := Aside0.mk H
              clear H
              go_upto_region 6 with (fail)
              go_cut [29] (fun v29 wc => ∃ (kq : Nat) (x29_9 : Bool), v29 = .bool x29_9 ∧ Aside0 (spec_Grown.j2 kq l1 x9_2 x10_2 x11_2 x12_2 x29_9 = some r) ∧ Aside0 (kq ≤ k2) ∧ Aside0 (Kd.R (Kd.int .i64) 3 wc w.heap.size (fun _ => True) v106 x9_2) ∧ Aside0 (Below w.heap.size w wc))
              case first =>
                have H := HC10.out
                clear HC10
                by_cases c11 : x12_2 < (x9_2.length : Int)
                · rw [if_pos c11] at H
                  have c11b0 : decide (x12_2 < (x9_2.length : Int)) = true := decide_eq_true c11
                  clear c11
                  (first | rw [c11b0] | (simp only [i64_w, i32_w]; rw [c11b0]) | skip)
                  have H' := Aside0.mk H
                  clear H
                  obtain ⟨Ao12, co12, eo12⟩ := Kd.R_slice HO_9.out
                  subst eo12
                  go_wp2
                  go_meet
                  case rel => exact ⟨_, (decide (x10_2 > 0)), (by first | rfl | (simp; done) | (simp [*]; done)), H', ⟨by have := HK1.out; have := HK2.out; first | omega | exact Nat.le_refl _⟩, ⟨by (with_reducible repeat (first | apply Kd.R_alloc | apply Kd.R_drewN | apply Kd.R_drew)); exact HO_9.out⟩, ⟨by repeat (first | (with_reducible first | exact HB.out | apply below_alloc | apply pw_below_drewN | apply below_drew1) | exact HB.out)⟩⟩
                · rw [if_neg c11] at H
                  have c11b0 : decide (x12_2 < (x9_2.length : Int)) = false := decide_eq_false c11
                  clear c11
                  (first | rw [c11b0] | (simp only [i64_w, i32_w]; rw [c11b0]) | skip)
                  have H' := Aside0.mk H
                  clear H
                  obtain ⟨Ao13, co13, eo13⟩ := Kd.R_slice HO_9.out
                  subst eo13
                  go_wp2
                  go_meet
                  case rel => exact ⟨_, (false), (by first | rfl | (simp; done) | (simp [*]; done)), H', ⟨by have := HK1.out; have := HK2.out; first | omega | exact Nat.le_refl _⟩, ⟨by (with_reducible repeat (first | apply Kd.R_alloc | apply Kd.R_drewN | apply Kd.R_drew)); exact HO_9.out⟩, ⟨by repeat (first | (with_reducible first | exact HB.out | apply below_alloc | apply pw_below_drewN | apply below_drew1) | exact HB.out)⟩⟩
              case rest =>
                clear HC10
                try clear c1
                try clear p2
                try clear c5
                try clear p6
                try clear c8
                try clear c9
                try clear c9b0
                try clear c11
                try clear c11b0
                try clear p2
                try clear p6
                obtain ⟨kq, x29_9, rfl, HA, HJ9, HO_9, HB⟩ := hcut
                cases kq with
                | zero => exact absurd HA.out (by simp [spec_Grown.j2])
                | succ kj9 =>
                  have H := HA.out
                  clear HA
                  simp only [spec_Grown.j2] at H
                  by_cases c14 : x29_9 = true
                  · subst c14
                    have H1 : ((spec_at.f l1 x12_2).bind fun t108 => (if t108 = 0 then (if 0 ≤ x12_2 then (if x12_2 < (x9_2.length : Int) then (spec_Grown.l1 kj9 l1 (x9_2.set (x12_2 : Int).toNat (wrap64 ((rd x9_2 x12_2) + 1))) (wrap64 (x10_2 - 1)) true (wrap64 (x12_2 + 1))) else (none)) else (none)) else (if 0 ≤ x12_2 then (if x12_2 < (x9_2.length : Int) then (if (rd x9_2 x12_2) < t108 then (spec_Grown.l1 kj9 l1 (x9_2.set (x12_2 : Int).toNat (wrap64 ((rd x9_2 x12_2) + 1))) (wrap64 (x10_2 - 1)) true (wrap64 (x12_2 + 1))) else (spec_Grown.l1 kj9 l1 x9_2 x10_2 x11_2 (wrap64 (x12_2 + 1)))) else (none)) else (none)))) = some r := by rw [if_pos rfl] at H; exact H
                    clear H
                    have H := H1
                    clear H1
                    replace H := Option.bind_eq_some_iff.mp H
                    obtain ⟨t108, A150, H⟩ := H
                    replace H : (if t108 = 0 then (if 0 ≤ x12_2 then (if x12_2 < (x9_2.length : Int) then (spec_Grown.l1 kj9 l1 (x9_2.set (x12_2 : Int).toNat (wrap64 ((rd x9_2 x12_2) + 1))) (wrap64 (x10_2 - 1)) true (wrap64 (x12_2 + 1))) else (none)) else (none)) else (if 0 ≤ x12_2 then (if x12_2 < (x9_2.length : Int) then (if (rd x9_2 x12_2) < t108 then (spec_Grown.l1 kj9 l1 (x9_2.set (x12_2 : Int).toNat (wrap64 ((rd x9_2 x12_2) + 1))) (wrap64 (x10_2 - 1)) true (wrap64 (x12_2 + 1))) else (spec_Grown.l1 kj9 l1 x9_2 x10_2 x11_2 (wrap64 (x12_2 + 1)))) else (none)) else (none))) = some r := H
                    have A15 := Aside0.mk A150
                    clear A150
                    by_cases c16 : t108 = 0
                    · rw [if_pos c16] at H
                      have c16b0 : (t108 == 0) = true := beq_iff_eq.mpr c16
                      have c16b1 : (t108 != 0) = false := bne_eq_false_iff_eq.mpr c16
                      clear c16
                      by_cases c17 : 0 ≤ x12_2
                      · rw [if_pos c17] at H
                        have c17b0 : decide (0 ≤ x12_2) = true := decide_eq_true c17
                        clear c17
                        by_cases c18 : x12_2 < (x9_2.length : Int)
                        · rw [if_pos c18] at H
                          have c18b0 : decide (x12_2 < (x9_2.length : Int)) = true := decide_eq_true c18
                          clear c18
                          obtain ⟨y110, hy110⟩ : ∃ y_ : List Int, y_ = (x9_2.set (x12_2 : Int).toNat (wrap64 ((rd x9_2 x12_2) + 1))) := ⟨_, rfl⟩
                          replace H : (spec_Grown.l1 kj9 l1 y110 (wrap64 (x10_2 - 1)) true (wrap64 (x12_2 + 1))) = some r := by first | (rw [hy110]; with_reducible exact H) | (have H2_ := (Option.bind_some _ _).symm.trans H; rw [hy110]; with_reducible exact H2_) | (have H2_ := (Option.bind_some _ _).symm.trans H; with_reducible exact H2_) | with_reducible exact H | (rw [hy110]; exact H) | exact H
                          have Ny110 := Aside0.mk hy110
                          clear hy110
                          have H' := Aside0.mk H
                          clear H
                          go_wp2_with (first | ((with_reducible refine gate_callee (f := 15) rfl ?_); refine goesL_ (some 34) rfl rfl Try.func15 (by kernel_rfl) rfl #[.slice A1 l1.length c1, .int .i64 x12_2] rfl (by (try simp only [List.map_toArray, List.map_cons, List.map_nil]); first | done | rfl | (simp only [List.length_drop, List.length_take]; rfl)) ?_; (with_reducible refine (spec_at.calls _ _ l1 x12_2 t108 _ ?side1 ?side2 A15.out).mono ?_); (case side1 => repeat (first | exact (Kd.C_below HR1.out HB.out) | (with_reducible refine Kd.C_alloc ?_ _) | (with_reducible refine Kd.C_drewN ?_ _) | (with_reducible refine Kd.C_drew ?_))); (case side2 => exact HC1.out); rintro e w' ⟨rfl, ⟨nd, rfl⟩⟩; refine ⟨_, rfl, ?_⟩; (try (rw [drewN_self wc]; generalize hq_ : World.drewN wc _ = wc; have n0_ : Aside0 (Kd.R (Kd.int .i64) 3 wc w.heap.size (fun _ => True) v106 x9_2) := ⟨by rw [← hq_]; exact (by (with_reducible repeat (first | apply Kd.R_alloc | apply Kd.R_drewN | apply Kd.R_drew)); exact HO_9.out)⟩; have n1_ : Aside0 (Below w.heap.size w wc) := ⟨by rw [← hq_]; exact (by repeat (first | (with_reducible first | exact HB.out | apply below_alloc | apply pw_below_drewN | apply below_drew1) | exact HB.out))⟩; clear HO_9 HB hq_; have HO_9 := n0_; have HB := n1_; clear n0_ n1_)); obtain ⟨Ao20, co20, eo20⟩ := Kd.R_slice HO_9.out; subst eo20; have p109 : 0 ≤ (x12_2 : Int) := of_decide_eq_true (by first | (with_reducible assumption) | assumption); have q109 : x12_2 < (x9_2.length : Int) := of_decide_eq_true (by first | (with_reducible assumption) | assumption); obtain ⟨ad109, e109, hx109_0⟩ := Kd.at_int (Kd.R_reads' HO_9.out).2.2 x12_2 p109 q109; cases e109; replace p109 := eq_true p109; replace q109 := eq_true q109; have p19 : 0 ≤ (x12_2 : Int) := of_decide_eq_true (by first | (with_reducible assumption) | assumption); have q19 : (x12_2 : Int) < ((x9_2.length : Int) : Int) := of_decide_eq_true (by first | (with_reducible assumption) | assumption); obtain ⟨go19, co19, eo19, gb19, gl19, cl19, HG19⟩ := Kd.R_form HO_9.out (by omega); (first | cases eo19 | (injection eo19 with ea_ en_ ec_; (first | subst ea_ | (injection ea_ with ea_; subst ea_)); subst ec_; clear en_)); have GB19 := Aside0.mk gb19; have GG19 := Aside0.mk HG19; clear gb19 gl19 HG19; (first | simp only [add_plain] at hx109_0 | skip); obtain ⟨hx19_0, hf19_0⟩ := Kd.R_celln 0 HO_9.out (x12_2 : Int) p19 q19; replace p19 := eq_true p19; replace q19 := eq_true q19; obtain ⟨hy21_, hz21_⟩ := Kd.R_celln 0 HO_9.out (x12_2 : Int) (of_decide_eq_true (by first | (with_reducible assumption) | assumption)) (of_decide_eq_true (by first | (with_reducible assumption) | assumption)); have HP21 := Kd.R_putg HO_9.out (x12_2 : Int) (wrap64 ((rd x9_2 x12_2) + 1))) | ((with_reducible refine gate_store (t := 3) (p := 50) rfl ?_); refine store_event (t := 3) (p := 50) (v := ?vo_w22) (w1 := (wc.setCell ⟨go19, (x12_2 : Int).toNat, none⟩ (.int .i64 (wrap64 ((rd x9_2 x12_2) + 1))))) ?hg ?ho ?hn ?hr ?_; (case ho => rfl); (case hg => rfl); (case hn => rfl); (case hr => first | (go_simp; done) | (go_simp; rfl)); intro w22 hw; have hg : wc.grownBy w22 (some go19) := (by rw [hw]; exact HP21.2); have hp_ : Kd.R (Kd.int .i64) 3 w22 w.heap.size (fun _ => True) (.slice (some ⟨go19, 0, none⟩) x9_2.length co20) y110 := (by rw [hw, Ny110.out]; exact HP21.1); clear HP21; have n0_ := Aside0.mk (hp_); have n1_ := Aside0.mk ((by rw [hw]; exact below_set (HB.out) GB19.out : Below w.heap.size w w22)); clear HO_9; clear HB; have HO_9 := n0_; have HB := n1_; clear n0_ n1_; clear hg hw hp_))
                          go_roundg kj9
                          case measure => have := HK1.out; have := HK2.out; have := HJ9.out; omega
                          case rel => exact ⟨(y110), (wrap64 (x10_2 - 1)), (true), (wrap64 (x12_2 + 1)), (by first | rfl | (simp; done) | (simp [*]; done)), (by first | rfl | (simp; done) | (simp [*]; done)), (by first | rfl | (simp; done) | (simp [*]; done)), H', ⟨by have := HK1.out; have := HK2.out; have := HJ9.out; omega⟩, ⟨by (with_reducible repeat (first | apply Kd.R_alloc | apply Kd.R_drewN | apply Kd.R_drew)); exact HO_9.out⟩, ⟨by repeat (first | (with_reducible first | exact HB.out | apply below_alloc | apply pw_below_drewN | apply below_drew1) | exact HB.out)⟩⟩
                        · rw [if_neg c18] at H
                          exact absurd H (by simp)
                      · rw [if_neg c17] at H
                        exact absurd H (by simp)
                    · rw [if_neg c16] at H
                      have c16b0 : (t108 == 0) = false := beq_eq_false_iff_ne.mpr c16
                      have c16b1 : (t108 != 0) = true := bne_iff_ne.mpr c16
                      by_cases c23 : 0 ≤ x12_2
                      · rw [if_pos c23] at H
                        have c23b0 : decide (0 ≤ x12_2) = true := decide_eq_true c23
                        clear c23
                        by_cases c24 : x12_2 < (x9_2.length : Int)
                        · rw [if_pos c24] at H
                          have c24b0 : decide (x12_2 < (x9_2.length : Int)) = true := decide_eq_true c24
                          clear c24
                          by_cases c25 : (rd x9_2 x12_2) < t108
                          · rw [if_pos c25] at H
                            have c25b0 : decide ((rd x9_2 x12_2) < t108) = true := decide_eq_true c25
                            clear c25
                            obtain ⟨y113, hy113⟩ : ∃ y_ : List Int, y_ = (x9_2.set (x12_2 : Int).toNat (wrap64 ((rd x9_2 x12_2) + 1))) := ⟨_, rfl⟩
                            replace H : (spec_Grown.l1 kj9 l1 y113 (wrap64 (x10_2 - 1)) true (wrap64 (x12_2 + 1))) = some r := by first | (rw [hy113]; with_reducible exact H) | (have H2_ := (Option.bind_some _ _).symm.trans H; rw [hy113]; with_reducible exact H2_) | (have H2_ := (Option.bind_some _ _).symm.trans H; with_reducible exact H2_) | with_reducible exact H | (rw [hy113]; exact H) | exact H
                            have Ny113 := Aside0.mk hy113
                            clear hy113
                            have H' := Aside0.mk H
                            clear H
                            go_wp2_with (first | ((with_reducible refine gate_callee (f := 15) rfl ?_); refine goesL_ (some 34) rfl rfl Try.func15 (by kernel_rfl) rfl #[.slice A1 l1.length c1, .int .i64 x12_2] rfl (by (try simp only [List.map_toArray, List.map_cons, List.map_nil]); first | done | rfl | (simp only [List.length_drop, List.length_take]; rfl)) ?_; (with_reducible refine (spec_at.calls _ _ l1 x12_2 t108 _ ?side1 ?side2 A15.out).mono ?_); (case side1 => repeat (first | exact (Kd.C_below HR1.out HB.out) | (with_reducible refine Kd.C_alloc ?_ _) | (with_reducible refine Kd.C_drewN ?_ _) | (with_reducible refine Kd.C_drew ?_))); (case side2 => exact HC1.out); rintro e w' ⟨rfl, ⟨nd, rfl⟩⟩; refine ⟨_, rfl, ?_⟩; (try (rw [drewN_self wc]; generalize hq_ : World.drewN wc _ = wc; have n0_ : Aside0 (Kd.R (Kd.int .i64) 3 wc w.heap.size (fun _ => True) v106 x9_2) := ⟨by rw [← hq_]; exact (by (with_reducible repeat (first | apply Kd.R_alloc | apply Kd.R_drewN | apply Kd.R_drew)); exact HO_9.out)⟩; have n1_ : Aside0 (Below w.heap.size w wc) := ⟨by rw [← hq_]; exact (by repeat (first | (with_reducible first | exact HB.out | apply below_alloc | apply pw_below_drewN | apply below_drew1) | exact HB.out))⟩; clear HO_9 HB hq_; have HO_9 := n0_; have HB := n1_; clear n0_ n1_)); obtain ⟨Ao27, co27, eo27⟩ := Kd.R_slice HO_9.out; subst eo27; have p111 : 0 ≤ (x12_2 : Int) := of_decide_eq_true (by first | (with_reducible assumption) | assumption); have q111 : x12_2 < (x9_2.length : Int) := of_decide_eq_true (by first | (with_reducible assumption) | assumption); obtain ⟨ad111, e111, hx111_0⟩ := Kd.at_int (Kd.R_reads' HO_9.out).2.2 x12_2 p111 q111; cases e111; replace p111 := eq_true p111; replace q111 := eq_true q111; have p112 : 0 ≤ (x12_2 : Int) := of_decide_eq_true (by first | (with_reducible assumption) | assumption); have q112 : x12_2 < (x9_2.length : Int) := of_decide_eq_true (by first | (with_reducible assumption) | assumption); obtain ⟨ad112, e112, hx112_0⟩ := Kd.at_int (Kd.R_reads' HO_9.out).2.2 x12_2 p112 q112; obtain rfl : ad111 = ad112 := (by injection e112); replace p112 := eq_true p112; replace q112 := eq_true q112; have p26 : 0 ≤ (x12_2 : Int) := of_decide_eq_true (by first | (with_reducible assumption) | assumption); have q26 : (x12_2 : Int) < ((x9_2.length : Int) : Int) := of_decide_eq_true (by first | (with_reducible assumption) | assumption); obtain ⟨go26, co26, eo26, gb26, gl26, cl26, HG26⟩ := Kd.R_form HO_9.out (by omega); (first | cases eo26 | (injection eo26 with ea_ en_ ec_; (first | subst ea_ | (injection ea_ with ea_; subst ea_)); subst ec_; clear en_)); have GB26 := Aside0.mk gb26; have GG26 := Aside0.mk HG26; clear gb26 gl26 HG26; (first | simp only [add_plain] at hx111_0 | skip); (first | simp only [add_plain] at hx112_0 | skip); obtain ⟨hx26_0, hf26_0⟩ := Kd.R_celln 0 HO_9.out (x12_2 : Int) p26 q26; replace p26 := eq_true p26; replace q26 := eq_true q26; obtain ⟨hy28_, hz28_⟩ := Kd.R_celln 0 HO_9.out (x12_2 : Int) (of_decide_eq_true (by first | (with_reducible assumption) | assumption)) (of_decide_eq_true (by first | (with_reducible assumption) | assumption)); have HP28 := Kd.R_putg HO_9.out (x12_2 : Int) (wrap64 ((rd x9_2 x12_2) + 1))) | ((with_reducible refine gate_store (t := 3) (p := 50) rfl ?_); refine store_event (t := 3) (p := 50) (v := ?vo_w29) (w1 := (wc.setCell ⟨go26, (x12_2 : Int).toNat, none⟩ (.int .i64 (wrap64 ((rd x9_2 x12_2) + 1))))) ?hg ?ho ?hn ?hr ?_; (case ho => rfl); (case hg => rfl); (case hn => rfl); (case hr => first | (go_simp; done) | (go_simp; rfl)); intro w29 hw; have hg : wc.grownBy w29 (some go26) := (by rw [hw]; exact HP28.2); have hp_ : Kd.R (Kd.int .i64) 3 w29 w.heap.size (fun _ => True) (.slice (some ⟨go26, 0, none⟩) x9_2.length co27) y113 := (by rw [hw, Ny113.out]; exact HP28.1); clear HP28; have n0_ := Aside0.mk (hp_); have n1_ := Aside0.mk ((by rw [hw]; exact below_set (HB.out) GB26.out : Below w.heap.size w w29)); clear HO_9; clear HB; have HO_9 := n0_; have HB := n1_; clear n0_ n1_; clear hg hw hp_))
                            go_roundg kj9
                            case measure => have := HK1.out; have := HK2.out; have := HJ9.out; omega
                            case rel => exact ⟨(y113), (wrap64 (x10_2 - 1)), (true), (wrap64 (x12_2 + 1)), (by first | rfl | (simp; done) | (simp [*]; done)), (by first | rfl | (simp; done) | (simp [*]; done)), (by first | rfl | (simp; done) | (simp [*]; done)), H', ⟨by have := HK1.out; have := HK2.out; have := HJ9.out; omega⟩, ⟨by (with_reducible repeat (first | apply Kd.R_alloc | apply Kd.R_drewN | apply Kd.R_drew)); exact HO_9.out⟩, ⟨by repeat (first | (with_reducible first | exact HB.out | apply below_alloc | apply pw_below_drewN | apply below_drew1) | exact HB.out)⟩⟩
                          · rw [if_neg c25] at H
                            have c25b0 : decide ((rd x9_2 x12_2) < t108) = false := decide_eq_false c25
                            clear c25
                            have H' := Aside0.mk H
                            clear H
                            go_wp2_with (first | ((with_reducible refine gate_callee (f := 15) rfl ?_); refine goesL_ (some 34) rfl rfl Try.func15 (by kernel_rfl) rfl #[.slice A1 l1.length c1, .int .i64 x12_2] rfl (by (try simp only [List.map_toArray, List.map_cons, List.map_nil]); first | done | rfl | (simp only [List.length_drop, List.length_take]; rfl)) ?_; (with_reducible refine (spec_at.calls _ _ l1 x12_2 t108 _ ?side1 ?side2 A15.out).mono ?_); (case side1 => repeat (first | exact (Kd.C_below HR1.out HB.out) | (with_reducible refine Kd.C_alloc ?_ _) | (with_reducible refine Kd.C_drewN ?_ _) | (with_reducible refine Kd.C_drew ?_))); (case side2 => exact HC1.out); rintro e w' ⟨rfl, ⟨nd, rfl⟩⟩; refine ⟨_, rfl, ?_⟩; obtain ⟨Ao30, co30, eo30⟩ := Kd.R_slice HO_9.out; subst eo30; have p111 : 0 ≤ (x12_2 : Int) := of_decide_eq_true (by first | (with_reducible assumption) | assumption); have q111 : x12_2 < (x9_2.length : Int) := of_decide_eq_true (by first | (with_reducible assumption) | assumption); obtain ⟨ad111, e111, hx111_0⟩ := Kd.at_int (Kd.R_reads' HO_9.out).2.2 x12_2 p111 q111; cases e111; replace p111 := eq_true p111; replace q111 := eq_true q111))
                            go_roundg kj9
                            case measure => have := HK1.out; have := HK2.out; have := HJ9.out; omega
                            case rel => exact ⟨(x9_2), (x10_2), (x11_2), (wrap64 (x12_2 + 1)), (by first | rfl | (simp; done) | (simp [*]; done)), (by first | rfl | (simp; done) | (simp [*]; done)), (by first | rfl | (simp; done) | (simp [*]; done)), H', ⟨by have := HK1.out; have := HK2.out; have := HJ9.out; omega⟩, ⟨by (with_reducible repeat (first | apply Kd.R_alloc | apply Kd.R_drewN | apply Kd.R_drew)); exact HO_9.out⟩, ⟨by repeat (first | (with_reducible first | exact HB.out | apply below_alloc | apply pw_below_drewN | apply below_drew1) | exact HB.out)⟩⟩
                        · rw [if_neg c24] at H
                          exact absurd H (by simp)
                      · rw [if_neg c23] at H
                        exact absurd H (by simp)
                  · replace c14 := Bool.eq_false_iff.mpr c14
                    subst c14
                    have H1 : (if x11_2 = true then (spec_Grown.l0 kj9 l1 x9_2 x10_2) else (some x9_2)) = some r := by rw [if_neg (show ¬ (false = true) by decide)] at H; exact H
                    clear H
                    have H := H1
                    clear H1
                    by_cases c31 : x11_2 = true
                    · subst c31
                      have H1 : (spec_Grown.l0 kj9 l1 x9_2 x10_2) = some r := by rw [if_pos rfl] at H; exact H
                      clear H
                      have H := H1
                      clear H1
                      have H' := Aside0.mk H
                      clear H
                      go_wp2
                      go_roundg kj9
                      case measure => have := HK1.out; have := HK2.out; have := HJ9.out; omega
                      case rel => exact ⟨(x9_2), (x10_2), (by first | rfl | (simp; done) | (simp [*]; done)), H', ⟨by have := HK1.out; have := HK2.out; have := HJ9.out; omega⟩, ⟨by (with_reducible repeat (first | apply Kd.R_alloc | apply Kd.R_drewN | apply Kd.R_drew)); exact HO_9.out⟩, ⟨by repeat (first | (with_reducible first | exact HB.out | apply below_alloc | apply pw_below_drewN | apply below_drew1) | exact HB.out)⟩⟩
                    · replace c31 := Bool.eq_false_iff.mpr c31
                      subst c31
                      have H1 : (some x9_2) = some r := by rw [if_neg (show ¬ (false = true) by decide)] at H; exact H
                      clear H
                      have H := H1
                      clear H1
                      obtain rfl := Option.some.inj H
                      go_wp2
                      go_ret
                      exact ⟨_, by first | rfl | (simp [errW_none, errW_some] <;> rfl) | (simp [*, errW_none, errW_some] <;> rfl), by (with_reducible repeat (first | apply Kd.R_alloc | apply Kd.R_drewN | apply Kd.R_drew)); exact HO_9.out, by repeat (first | (with_reducible first | exact HB.out | apply below_alloc | apply pw_below_drewN | apply below_drew1) | exact HB.out)⟩
        · rw [if_neg c9] at H
          have c9b0 : decide (0 < x10_1) = false := decide_eq_false c9
          clear c9
          obtain rfl := Option.some.inj H
          go_wp2
          go_ret
          exact ⟨_, by first | rfl | (simp [errW_none, errW_some] <;> rfl) | (simp [*, errW_none, errW_some] <;> rfl), by (with_reducible repeat (first | apply Kd.R_alloc | apply Kd.R_drewN | apply Kd.R_drew)); exact HO_9.out, by repeat (first | (with_reducible first | exact HB.out | apply below_alloc | apply pw_below_drewN | apply below_drew1) | exact HB.out)⟩
  · rw [if_neg c5] at H
    exact absurd H (by simp)

/-! ### impl_at: function 13 -/
def impl_at.f (l0 : List Int) (a1 : Int) : Option (Int) := if a1 < (l0.length : Int) then (if 0 ≤ a1 then (some (rd l0 a1)) else (none)) else (some 0)
set_option maxHeartbeats 8000000 in
set_option maxRecDepth 100000 in
theorem impl_at.calls (A0 : Option Addr) (c0 : Nat) (l0 : List Int) (a1 : Int) (r : Int) (w : World) (hr0 : Kd.C (Kd.int .i64) w A0 l0.length l0) (hc0 : l0.length ≤ c0) (h : impl_at.f l0 a1 = some r) :
    Calls Try.prog 13 #[.slice A0 l0.length c0, .int .i64 a1] w fun e w' => e = .returned (.int .i64 r) ∧ Drawn0 w w' := by
  have HR0 := Aside0.mk hr0
  have HC0 := Aside0.mk hc0
  clear hr0 hc0
  have H : (if a1 < (l0.length : Int) then (if 0 ≤ a1 then (some (rd l0 a1)) else (none)) else (some 0)) = some r := h
  clear h
  by_cases c3 : a1 < (l0.length : Int)
  · rw [if_pos c3] at H
    have c3b0 : decide (a1 < (l0.length : Int)) = true := decide_eq_true c3
    clear c3
    by_cases c4 : 0 ≤ a1
    · rw [if_pos c4] at H
      have c4b0 : decide (0 ≤ a1) = true := decide_eq_true c4
      clear c4
      obtain rfl := Option.some.inj H
      have p114 : 0 ≤ (a1 : Int) := of_decide_eq_true (by first | (with_reducible assumption) | assumption)
      have q114 : a1 < (l0.length : Int) := of_decide_eq_true (by first | (with_reducible assumption) | assumption)
      obtain ⟨ad114, e114, hx114_0⟩ := Kd.at_int HR0.out a1 p114 q114
      cases e114
      replace p114 := eq_true p114
      replace q114 := eq_true q114
      go_enter Try.func13, Try.ntmps13
      go_wp2
      go_ret
      exact ⟨by first | rfl | (simp; done) | (simp [*]; done), by repeat (first | exact Drawn0.refl _ | apply Drawn0.step)⟩
    · rw [if_neg c4] at H
      exact absurd H (by simp)
  · rw [if_neg c3] at H
    have c3b0 : decide (a1 < (l0.length : Int)) = false := decide_eq_false c3
    clear c3
    obtain rfl := Option.some.inj H
    go_enter Try.func13, Try.ntmps13
    go_wp2
    go_ret
    exact ⟨by first | rfl | (simp; done) | (simp [*]; done), by repeat (first | exact Drawn0.refl _ | apply Drawn0.step)⟩

end Go.Proofs.Ytjpdkmmpofddlaa.GGrBody
