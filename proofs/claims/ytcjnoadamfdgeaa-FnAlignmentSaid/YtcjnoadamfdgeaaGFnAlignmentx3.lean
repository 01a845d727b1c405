-- Written by gprint.py, a program of this session over the kit's printer, with contracts of its own for what the printer does not take. Not trusted: Lean checks it.
import Derived.Test.YtcjnoadamfdgeaaGFnAlignmentx0
import Derived.Test.YtcjnoadamfdgeaaGFnAlignmentx1
import Derived.Test.YtcjnoadamfdgeaaGFnAlignmentx2
namespace Go.Proofs.Ytcjnoadamfdgeaa.GFnAlignment
open Go.RowKit Go.Proofs.YtcjnoadamfdgeaaW.PrintWords Go.Proofs.YtcjnoadamfdgeaaW.PrintLast Go.Proofs.YtcjnoadamfdgeaaW.PrintMore
attribute [local go_sem] max2_int min2_int max_two min_two max_three min_three max_four min_four   -- for this text's walks alone
set_option linter.unusedVariables false
set_option linter.unusedSimpArgs false

/-! ### laws_FnAlignment: function 5 -/
mutual
def laws_FnAlignment.j0 : Nat → Int → ByteArray → List (S30) → Bool → Option (Bool)
  | 0, _, _, _, _ => none
  | k + 1, x0, x1, x2, x18 => if x18 = true then (some true) else (if (x2.length : Int) > 60 then (some true) else (laws_FnAlignment.l0 k x1 x2 (Int.tmod (wrap64 (x0)) 20) ([] : List ByteArray) (Int.tmod (wrap64 (x0)) 20) 0))
def laws_FnAlignment.l0 : Nat → ByteArray → List (S30) → Int → List ByteArray → Int → Int → Option (Bool)
  | 0, _, _, _, _, _, _ => none
  | k + 1, x1, x2, x7, x8, x25, x26 => if x26 < x25 then (if x8.length < 8796093022208 then (laws_FnAlignment.l0 k x1 x2 x7 (x8 ++ [x1]) x25 (wrap64 (x26 + 1))) else (none)) else (laws_FnAlignment.l1 k x1 x2 x7 x8 0)
def laws_FnAlignment.l1 : Nat → ByteArray → List (S30) → Int → List ByteArray → Int → Option (Bool)
  | 0, _, _, _, _, _ => none
  | k + 1, x1, x2, x7, x8, x9 => if x9 < (x2.length : Int) then (if 0 ≤ x9 then (if ((rd_T30 x2 x9).f0) = 1 then (if ((rd_T30 x2 x9).f1) < 0 then (some true) else (if ((rd_T30 x2 x9).f1) ≥ (x8.length : Int) then (some true) else (if (((rd_T30 x2 x9).f2).length : Int) = 0 then (some true) else ((some (([] : List ByteArray) : List ByteArray)).bind fun y150 => (if y150.length + x8.length < 8796093022208 then ((some (y150 ++ x8 : List ByteArray)).bind fun y153 => (if 0 < (((rd_T30 x2 x9).f2).length : Int) then (if 0 ≤ ((rd_T30 x2 x9).f1) then (if ((rd_T30 x2 x9).f1) < (y153.length : Int) then (laws_FnAlignment.l1 k x1 x2 x7 (y153.set (((rd_T30 x2 x9).f1) : Int).toNat (rdOf ByteArray.empty ((rd_T30 x2 x9).f2) 0)) (wrap64 (x9 + 1))) else (none)) else (none)) else (none))) else (none)))))) else (if ((rd_T30 x2 x9).f0) = 2 then (laws_FnAlignment.l1 k x1 x2 x7 x8 (wrap64 (x9 + 1))) else (some true))) else (none)) else ((impl_TwAlignment.f k x7 x1 x2).bind fun t144 => ((spec_TwTexts.f k t144 x8).bind fun t147 => (some t147)))
end
def laws_FnAlignment.f (k : Nat) (a0 : Int) (a1 : ByteArray) (l2 : List (S30)) : Option (Bool) := if (a1.size : Int) > 2147483647 then (laws_FnAlignment.j0 k a0 a1 l2 true) else ((laws_zzFits24.f k l2).bind fun t140 => (laws_FnAlignment.j0 k a0 a1 l2 (!t140)))
theorem laws_FnAlignment.mono_l : ∀ k, (∀ y0 y1 y2 y3, LeO (laws_FnAlignment.j0 k y0 y1 y2 y3) (laws_FnAlignment.j0 (k + 1) y0 y1 y2 y3)) ∧ (∀ y0 y1 y2 y3 y4 y5, LeO (laws_FnAlignment.l0 k y0 y1 y2 y3 y4 y5) (laws_FnAlignment.l0 (k + 1) y0 y1 y2 y3 y4 y5)) ∧ (∀ y0 y1 y2 y3 y4, LeO (laws_FnAlignment.l1 k y0 y1 y2 y3 y4) (laws_FnAlignment.l1 (k + 1) y0 y1 y2 y3 y4))
  | 0 => ⟨fun _ _ _ _ r h => by simp [laws_FnAlignment.j0] at h, fun _ _ _ _ _ _ r h => by simp [laws_FnAlignment.l0] at h, fun _ _ _ _ _ r h => by simp [laws_FnAlignment.l1] at h⟩
  | k + 1 => by
    obtain ⟨ih0, ih1, ih2⟩ := laws_FnAlignment.mono_l k
    refine ⟨?_, ?_, ?_⟩
    · intro y0 y1 y2 y3
      unfold laws_FnAlignment.j0
      repeat' first
      | (with_reducible exact ih0 _ _ _ _)
      | (with_reducible exact ih1 _ _ _ _ _ _)
      | (with_reducible exact ih2 _ _ _ _ _)
      | (with_reducible exact impl_TwAlignment.mono _ _ _ _)
      | (with_reducible exact laws_zzFits24.mono _ _)
      | (with_reducible exact spec_TwTexts.mono _ _ _)
      | (with_reducible exact LeO.refl _)
      | (with_reducible exact LeO.none _)
      | (with_reducible refine LeO.ite ?_ ?_)
      | (with_reducible refine LeO.bind ?_ (fun _ => ?_))
      | exact ih0 _ _ _ _
      | exact ih1 _ _ _ _ _ _
      | exact ih2 _ _ _ _ _
      | exact impl_TwAlignment.mono _ _ _ _
      | exact laws_zzFits24.mono _ _
      | exact spec_TwTexts.mono _ _ _
      | exact LeO.none _
      | refine LeO.ite ?_ ?_
      | refine LeO.bind ?_ (fun _ => ?_)
    · intro y0 y1 y2 y3 y4 y5
      unfold laws_FnAlignment.l0
      repeat' first
      | (with_reducible exact ih0 _ _ _ _)
      | (with_reducible exact ih1 _ _ _ _ _ _)
      | (with_reducible exact ih2 _ _ _ _ _)
      | (with_reducible exact impl_TwAlignment.mono _ _ _ _)
      | (with_reducible exact laws_zzFits24.mono _ _)
      | (with_reducible exact spec_TwTexts.mono _ _ _)
      | (with_reducible exact LeO.refl _)
      | (with_reducible exact LeO.none _)
      | (with_reducible refine LeO.ite ?_ ?_)
      | (with_reducible refine LeO.bind ?_ (fun _ => ?_))
      | exact ih0 _ _ _ _
      | exact ih1 _ _ _ _ _ _
      | exact ih2 _ _ _ _ _
      | exact impl_TwAlignment.mono _ _ _ _
      | exact laws_zzFits24.mono _ _
      | exact spec_TwTexts.mono _ _ _
      | exact LeO.none _
      | refine LeO.ite ?_ ?_
      | refine LeO.bind ?_ (fun _ => ?_)
    · intro y0 y1 y2 y3 y4
      unfold laws_FnAlignment.l1
      repeat' first
      | (with_reducible exact ih0 _ _ _ _)
      | (with_reducible exact ih1 _ _ _ _ _ _)
      | (with_reducible exact ih2 _ _ _ _ _)
      | (with_reducible exact impl_TwAlignment.mono _ _ _ _)
      | (with_reducible exact laws_zzFits24.mono _ _)
      | (with_reducible exact spec_TwTexts.mono _ _ _)
      | (with_reducible exact LeO.refl _)
      | (with_reducible exact LeO.none _)
      | (with_reducible refine LeO.ite ?_ ?_)
      | (with_reducible refine LeO.bind ?_ (fun _ => ?_))
      | exact ih0 _ _ _ _
      | exact ih1 _ _ _ _ _ _
      | exact ih2 _ _ _ _ _
      | exact impl_TwAlignment.mono _ _ _ _
      | exact laws_zzFits24.mono _ _
      | exact spec_TwTexts.mono _ _ _
      | exact LeO.none _
      | refine LeO.ite ?_ ?_
      | refine LeO.bind ?_ (fun _ => ?_)
theorem laws_FnAlignment.mono : ∀ a0 a1 a2 k, LeO (laws_FnAlignment.f k a0 a1 a2) (laws_FnAlignment.f (k + 1) a0 a1 a2) := by
  intro a0 a1 a2 k
  obtain ⟨ih0, ih1, ih2⟩ := laws_FnAlignment.mono_l k
  unfold laws_FnAlignment.f
  repeat' first
      | (with_reducible exact ih0 _ _ _ _)
      | (with_reducible exact ih1 _ _ _ _ _ _)
      | (with_reducible exact ih2 _ _ _ _ _)
      | (with_reducible exact impl_TwAlignment.mono _ _ _ _)
      | (with_reducible exact laws_zzFits24.mono _ _)
      | (with_reducible exact spec_TwTexts.mono _ _ _)
      | (with_reducible exact LeO.refl _)
      | (with_reducible exact LeO.none _)
      | (with_reducible refine LeO.ite ?_ ?_)
      | (with_reducible refine LeO.bind ?_ (fun _ => ?_))
      | exact ih0 _ _ _ _
      | exact ih1 _ _ _ _ _ _
      | exact ih2 _ _ _ _ _
      | exact impl_TwAlignment.mono _ _ _ _
      | exact laws_zzFits24.mono _ _
      | exact spec_TwTexts.mono _ _ _
      | exact LeO.none _
      | refine LeO.ite ?_ ?_
      | refine LeO.bind ?_ (fun _ => ?_)
def laws_FnAlignment.T21 : Bool × List (List Nat × List Nat) := (true, [([], []), ([], []), ([1], [1]), ([], []), ([3], [3]), ([4], [4]), ([5], [5]), ([0, 2, 0, 1, 2, 3, 4, 5, 6], [0, 2]), ([7, 6, 0, 1, 2, 3, 4, 5, 6], [6, 7])])
def laws_FnAlignment.B21 : List Nat := [0, 0, 2, 0, 8, 24, 56, 127, 255]
theorem laws_FnAlignment.tab21 : rtab .any (opsOf Try.f5 21) = laws_FnAlignment.T21 := by kernel_rfl
theorem laws_FnAlignment.bits21 : waitsOk laws_FnAlignment.T21.2 laws_FnAlignment.B21 = true := by kernel_rfl
set_option maxHeartbeats 8000000 in
set_option maxRecDepth 100000 in
theorem laws_FnAlignment.calls (k : Nat) (a0 : Int) (a1 : ByteArray) (A2 : Option Addr) (c2 : Nat) (l2 : List (S30)) (r : Bool) (w : World) (hr2 : Kd.C k30 w A2 l2.length l2) (hc2 : l2.length ≤ c2) (h : laws_FnAlignment.f k a0 a1 l2 = some r) :
    Calls Try.prog 5 #[.int .u8 a0, .string a1, .slice A2 l2.length c2] w fun e w' => e = .returned (.bool r) ∧ Below w.heap.size w w' := by
  have hu30 := Try.underlying30
  have HR2 := Aside0.mk hr2
  have HC2 := Aside0.mk hc2
  clear hr2 hc2
  have HB := Aside0.mk (Below.refl w.heap.size w)
  have H : (if (a1.size : Int) > 2147483647 then (laws_FnAlignment.j0 k a0 a1 l2 true) else ((laws_zzFits24.f k l2).bind fun t140 => (laws_FnAlignment.j0 k a0 a1 l2 (!t140)))) = some r := h
  clear h
  have HC4 := Aside0.mk H
  clear H
  go_enter Try.func5, Try.ntmps5
  go_upto_region 1 with (fail)
  go_cut [18] (fun v18 wc => ∃ (kq : Nat) (x18_3 : Bool), v18 = .bool x18_3 ∧ Aside0 (laws_FnAlignment.j0 kq a0 a1 l2 x18_3 = some r) ∧ Aside0 (kq ≤ k) ∧ Aside0 (Below w.heap.size w wc))
  case first =>
    have H := HC4.out
    clear HC4
    by_cases c5 : (a1.size : Int) > 2147483647
    · rw [if_pos c5] at H
      have c5b0 : decide (2147483647 < (a1.size : Int)) = true := decide_eq_true c5
      have c5b1 : decide (2147483647 < a1.size) = true := decide_eq_true (by omega)
      clear c5
      (first | rw [c5b0] | (simp only [i64_w, i32_w]; rw [c5b0]) | skip)
      have H' := Aside0.mk H
      clear H
      go_wp2
      go_meet
      case rel => exact ⟨_, (true), (by first | rfl | (simp; done) | (simp [*]; done)), H', ⟨by first | omega | exact Nat.le_refl _⟩, ⟨by repeat (first | (with_reducible first | exact HB.out | apply below_alloc | apply pw_below_drewN | apply below_drew1) | exact HB.out)⟩⟩
    · rw [if_neg c5] at H
      have c5b0 : decide (2147483647 < (a1.size : Int)) = false := decide_eq_false c5
      have c5b1 : decide (2147483647 < a1.size) = false := decide_eq_false (by omega)
      clear c5
      (first | rw [c5b0] | (simp only [i64_w, i32_w]; rw [c5b0]) | skip)
      replace H := Option.bind_eq_some_iff.mp H
      obtain ⟨t140, A60, H⟩ := H
      replace H : (laws_FnAlignment.j0 k a0 a1 l2 (!t140)) = some r := H
      have A6 := Aside0.mk A60
      clear A60
      have H' := Aside0.mk H
      clear H
      go_wp2_with (first | (go_at_call 11; (with_reducible refine (laws_zzFits24.calls k _ _ l2 t140 _ ?side1 ?side2 A6.out).mono ?_); (case side1 => repeat (first | exact (Kd.C_below HR2.out HB.out) | (with_reducible refine Kd.C_alloc ?_ _) | (with_reducible refine Kd.C_drewN ?_ _) | (with_reducible refine Kd.C_drew ?_))); (case side2 => exact HC2.out); rintro e w7 ⟨rfl, hb⟩; have n0_ := Aside0.mk (below_step (by repeat (first | (with_reducible first | exact HB.out | apply below_alloc | apply pw_below_drewN | apply below_drew1) | exact HB.out)) hb); clear HB; have HB := n0_; clear n0_; (try clear hb); (try clear hb2); (try clear hk); (try clear hi)))
      go_meet
      case rel => exact ⟨_, (!t140), (by first | rfl | (simp; done) | (simp [*]; done)), H', ⟨by first | omega | exact Nat.le_refl _⟩, ⟨by repeat (first | (with_reducible first | exact HB.out | apply below_alloc | apply pw_below_drewN | apply below_drew1) | exact HB.out)⟩⟩
  case rest =>
    clear HC4
    try clear c2
    try clear p2
    try clear c5
    try clear c5b0
    try clear c5b1
    obtain ⟨kq, x18_3, rfl, HA, HJ3, HB⟩ := hcut
    cases kq with
    | zero => exact absurd HA.out (by simp [laws_FnAlignment.j0])
    | succ kj3 =>
      have H := HA.out
      clear HA
      simp only [laws_FnAlignment.j0] at H
      by_cases c8 : x18_3 = true
      · subst c8
        have H1 : (some true) = some r := by rw [if_pos rfl] at H; exact H
        clear H
        have H := H1
        clear H1
        obtain rfl := Option.some.inj H
        go_wp2
        go_ret
        exact ⟨by first | rfl | (simp [errW_none, errW_some] <;> rfl) | (simp [*, errW_none, errW_some] <;> rfl), by repeat (first | (with_reducible first | exact HB.out | apply below_alloc | apply pw_below_drewN | apply below_drew1) | exact HB.out)⟩
      · replace c8 := Bool.eq_false_iff.mpr c8
        subst c8
        have H1 : (if (l2.length : Int) > 60 then (some true) else (laws_FnAlignment.l0 kj3 a1 l2 (Int.tmod (wrap64 (a0)) 20) ([] : List ByteArray) (Int.tmod (wrap64 (a0)) 20) 0)) = some r := by rw [if_neg (show ¬ (false = true) by decide)] at H; exact H
        clear H
        have H := H1
        clear H1
        by_cases c9 : (l2.length : Int) > 60
        · rw [if_pos c9] at H
          have c9b0 : decide (60 < (l2.length : Int)) = true := decide_eq_true c9
          have c9b1 : decide (60 < l2.length) = true := decide_eq_true (by omega)
          clear c9
          obtain rfl := Option.some.inj H
          go_wp2
          go_ret
          exact ⟨by first | rfl | (simp [errW_none, errW_some] <;> rfl) | (simp [*, errW_none, errW_some] <;> rfl), by repeat (first | (with_reducible first | exact HB.out | apply below_alloc | apply pw_below_drewN | apply below_drew1) | exact HB.out)⟩
        · rw [if_neg c9] at H
          have c9b0 : decide (60 < (l2.length : Int)) = false := decide_eq_false c9
          have c9b1 : decide (60 < l2.length) = false := decide_eq_false (by omega)
          clear c9
          have H' := Aside0.mk H
          clear H
          go_wp2
          go_loopg [8, 26] kj3 (fun kq v8 v26 w' => ∃ (x8_2 : List ByteArray) (x26_2 : Int), v26 = .int .i64 x26_2 ∧ Aside0 (laws_FnAlignment.l0 kq a1 l2 (Int.tmod (wrap64 (a0)) 20) x8_2 (Int.tmod (wrap64 (a0)) 20) x26_2 = some r) ∧ Aside0 (kq ≤ kj3) ∧ Aside0 (Kd.R Kd.string 9 w' w.heap.size (fun _ => True) v8 x8_2) ∧ Aside0 (Below w.heap.size w w'))
          case atStart => exact ⟨(([] : List ByteArray)), (0), (by first | rfl | (simp; done) | (simp [*]; done)), H', ⟨Nat.le_refl _⟩, ⟨by first | exact Kd.R_nil _ _ _ _ _ | exact Kd.N_nil _ _ _ _ _ | exact Kd.V_nil _ _ _ _ _ | exact Kd.Q_nil _ _ _ _ _ | exact Kd.S_nil _ _ _ _ _⟩, ⟨by repeat (first | (with_reducible first | exact HB.out | apply below_alloc | apply pw_below_drewN | apply below_drew1) | exact HB.out)⟩⟩
          case round =>
            clear H'
            try clear c2
            try clear p2
            try clear c5
            try clear c5b0
            try clear c5b1
            try clear p6
            try clear c8
            try clear c9
            try clear c9b0
            try clear c9b1
            try clear p2
            obtain ⟨x8_2, x26_2, rfl, HA, HK2, HO_8, HB⟩ := hrel
            cases gk with
            | zero => exact absurd HA.out (by simp [laws_FnAlignment.l0])
            | succ k2 =>
              have H := HA.out
              clear HA
              simp only [laws_FnAlignment.l0] at H
              by_cases c10 : x26_2 < (Int.tmod (wrap64 (a0)) 20)
              · rw [if_pos c10] at H
                have c10b0 : decide (x26_2 < (Int.tmod (wrap64 (a0)) 20)) = true := decide_eq_true c10
                clear c10
                by_cases c11 : x8_2.length < 8796093022208
                · rw [if_pos c11] at H
                  have LMc11 := Aside0.mk c11
                  clear c11
                  obtain ⟨y141, hy141⟩ : ∃ y_ : List ByteArray, y_ = (x8_2 ++ [a1]) := ⟨_, rfl⟩
                  replace H : (laws_FnAlignment.l0 k2 a1 l2 (Int.tmod (wrap64 (a0)) 20) y141 (Int.tmod (wrap64 (a0)) 20) (wrap64 (x26_2 + 1))) = some r := by first | (rw [hy141]; with_reducible exact H) | (have H2_ := (Option.bind_some _ _).symm.trans H; rw [hy141]; with_reducible exact H2_) | (have H2_ := (Option.bind_some _ _).symm.trans H; with_reducible exact H2_) | with_reducible exact H | (rw [hy141]; exact H) | exact H
                  have Ny141 := Aside0.mk hy141
                  clear hy141
                  have H' := Aside0.mk H
                  clear H
                  go_wp2_with (first | ((with_reducible refine gate_builtin (b := .append) (xs := #[.tmp 28, .tmp 30]) rfl ?_); (try (refine gate_guard (by rfl) ?_; dsimp only)); at_builtin; refine Kd.R_append Kd.string (w0 := w) w.heap.size rfl (.tmp 28) (.tmp 30) 28 9 (.string ⟨#[]⟩) 16 rfl Try.underlying28 info9 rfl (by decide) (by omega) u8 x8_2 a1 [.string a1] (fun _ => True) (fun _ => False) rfl rfl ?aP (fun _ hk => hk.elim) ?aF ?aO ?aB ?aS ?aL ?_; (case aP => exact rfl); (case aB => exact (by repeat (first | (with_reducible first | exact HB.out | apply below_alloc | apply pw_below_drewN | apply below_drew1) | exact HB.out))); (case aF => exact (fun _ _ => trivial)); (case aO => exact (by (with_reducible repeat (first | apply Kd.R_alloc | apply Kd.R_drewN | apply Kd.R_drew)); exact HO_8.out)); (case aS => exact (below_size (by repeat (first | (with_reducible first | exact HB.out | apply below_alloc | apply pw_below_drewN | apply below_drew1) | exact HB.out)))); (case aL => have := LMc11.out; omega); intro v142 w12 ho hb hg hat; rw [← Ny141.out] at ho; have n0_ := Aside0.mk (hb); have n1_ := Aside0.mk (ho); clear HB; clear HO_8; have HB := n0_; have HO143 := n1_; clear n0_ n1_; clear ho hb hg hat))
                  go_roundg k2
                  case measure => have := HJ3.out; have := HK2.out; omega
                  case rel => exact ⟨(y141), (wrap64 (x26_2 + 1)), (by first | rfl | (simp; done) | (simp [*]; done)), H', ⟨by have := HJ3.out; have := HK2.out; omega⟩, ⟨by (with_reducible repeat (first | apply Kd.R_alloc | apply Kd.R_drewN | apply Kd.R_drew)); exact HO143.out⟩, ⟨by repeat (first | (with_reducible first | exact HB.out | apply below_alloc | apply pw_below_drewN | apply below_drew1) | exact HB.out)⟩⟩
                · rw [if_neg c11] at H
                  exact absurd H (by simp)
              · rw [if_neg c10] at H
                have c10b0 : decide (x26_2 < (Int.tmod (wrap64 (a0)) 20)) = false := decide_eq_false c10
                clear c10
                have H' := Aside0.mk H
                clear H
                go_wp2
                go_loopg [8, 9] k2 (fun kq v8 v9 w' => ∃ (x8_3 : List ByteArray) (x9_3 : Int), v9 = .int .i64 x9_3 ∧ Aside0 (laws_FnAlignment.l1 kq a1 l2 (Int.tmod (wrap64 (a0)) 20) x8_3 x9_3 = some r) ∧ Aside0 (kq ≤ k2) ∧ Aside0 (Kd.R Kd.string 9 w' w.heap.size (fun _ => True) v8 x8_3) ∧ Aside0 (Below w.heap.size w w'))
                case atStart => exact ⟨(x8_2), (0), (by first | rfl | (simp; done) | (simp [*]; done)), H', ⟨Nat.le_refl _⟩, ⟨by (with_reducible repeat (first | apply Kd.R_alloc | apply Kd.R_drewN | apply Kd.R_drew)); exact HO_8.out⟩, ⟨by repeat (first | (with_reducible first | exact HB.out | apply below_alloc | apply pw_below_drewN | apply below_drew1) | exact HB.out)⟩⟩
                case round =>
                  clear H'
                  try clear c1
                  try clear c2
                  try clear p2
                  try clear c5
                  try clear c5b0
                  try clear c5b1
                  try clear p6
                  try clear c8
                  try clear c9
                  try clear c9b0
                  try clear c9b1
                  try clear c10
                  try clear c10b0
                  try clear c11
                  try clear p2
                  try clear p6
                  obtain ⟨x8_3, x9_3, rfl, HA, HK3, HO_8, HB⟩ := hrel
                  cases gk with
                  | zero => exact absurd HA.out (by simp [laws_FnAlignment.l1])
                  | succ k3 =>
                    have H := HA.out
                    clear HA
                    simp only [laws_FnAlignment.l1] at H
                    by_cases c13 : x9_3 < (l2.length : Int)
                    · rw [if_pos c13] at H
                      have c13b0 : decide (x9_3 < (l2.length : Int)) = true := decide_eq_true c13
                      clear c13
                      by_cases c14 : 0 ≤ x9_3
                      · rw [if_pos c14] at H
                        have c14b0 : decide (0 ≤ x9_3) = true := decide_eq_true c14
                        clear c14
                        by_cases c15 : ((rd_T30 l2 x9_3).f0) = 1
                        · rw [if_pos c15] at H
                          have c15b0 : (((rd_T30 l2 x9_3).f0) == 1) = true := beq_iff_eq.mpr c15
                          have c15b1 : (((rd_T30 l2 x9_3).f0) != 1) = false := bne_eq_false_iff_eq.mpr c15
                          clear c15
                          by_cases c16 : ((rd_T30 l2 x9_3).f1) < 0
                          · rw [if_pos c16] at H
                            have c16b0 : decide (((rd_T30 l2 x9_3).f1) < 0) = true := decide_eq_true c16
                            clear c16
                            obtain rfl := Option.some.inj H
                            have p148 : 0 ≤ (x9_3 : Int) := of_decide_eq_true (by first | (with_reducible assumption) | assumption)
                            have q148 : x9_3 < (l2.length : Int) := of_decide_eq_true (by first | (with_reducible assumption) | assumption)
                            obtain ⟨ad148, A148_2, c148_2, e148, hx148_0, hx148_1, hx148_2, hl148_2, hi148_2⟩ := at_T30 HR2.out x9_3 p148 q148
                            cases e148
                            replace hx148_0 := (HB.out.cell (World.block_lt_of_cell? w _ hx148_0)).trans hx148_0
                            replace hx148_1 := (HB.out.cell (World.block_lt_of_cell? w _ hx148_1)).trans hx148_1
                            replace hx148_2 := (HB.out.cell (World.block_lt_of_cell? w _ hx148_2)).trans hx148_2
                            have HR148_2 := Aside0.mk hi148_2
                            have HC148_2 := Aside0.mk hl148_2
                            clear hi148_2 hl148_2
                            replace p148 := eq_true p148
                            replace q148 := eq_true q148
                            go_wp2_with (first | ((with_reducible refine gate_dst (N := 10) rfl ?_); (try (refine gate_guard (by rfl) ?_; dsimp only)); refine box_event ?hg (N := 10) ?hd (cs := #[.int .i64 0, .int .i64 0, .slice none 0 0]) (t := 30) ?hr ?_; (case hd => rfl); (case hg => rfl); (case hr => first | (go_simp; done) | (go_simp; rfl)); intro gb149 hg w17 hbox hb; have n0_ := Aside0.mk (Kd.R_below (by (with_reducible repeat (first | apply Kd.R_alloc | apply Kd.R_drewN | apply Kd.R_drew)); exact HO_8.out) hb); have n1_ := Aside0.mk (below_step (by repeat (first | (with_reducible first | exact HB.out | apply below_alloc | apply pw_below_drewN | apply below_drew1) | exact HB.out)) hb); have n2_ := Aside0.mk (hbox); have n3_ := Aside0.mk ((by rw [hg]; exact (below_size (by repeat (first | (with_reducible first | exact HB.out | apply below_alloc | apply pw_below_drewN | apply below_drew1) | exact HB.out))) : w.heap.size ≤ gb149)); have n4_ := Aside0.mk ((by rw [hg]; exact (below_size (by repeat (first | (with_reducible first | exact HB.out | apply below_alloc | apply pw_below_drewN | apply below_drew1) | exact HB.out))) : w.heap.size ≤ gb149)); clear HO_8; clear HB; have HO_8 := n0_; have HB := n1_; have BK149 := n2_; have GW149 := n3_; have GE149 := n4_; clear n0_ n1_ n2_ n3_ n4_; clear hb hbox hg; have hcz18_0 : w17.cell? ⟨gb149, 0, none⟩ = some (.int .i64 0) := (blk_cell BK149.out 0).trans rfl; have hcz18_1 : w17.cell? ⟨gb149, 1, none⟩ = some (.int .i64 0) := (blk_cell BK149.out 1).trans rfl; have hcz18_2 : w17.cell? ⟨gb149, 2, none⟩ = some (.slice none 0 0) := (blk_cell BK149.out 2).trans rfl; have hfz18_0 := blk_frozen BK149.out 0; have hfz18_1 := blk_frozen BK149.out 1; have hfz18_2 := blk_frozen BK149.out 2))
                            go_ret
                            exact ⟨by first | rfl | (simp [errW_none, errW_some] <;> rfl) | (simp [*, errW_none, errW_some] <;> rfl), by repeat (first | (with_reducible first | exact HB.out | apply below_alloc | apply pw_below_drewN | apply below_drew1 | refine below_set ?_ GE149.out) | exact HB.out)⟩
                          · rw [if_neg c16] at H
                            have c16b0 : decide (((rd_T30 l2 x9_3).f1) < 0) = false := decide_eq_false c16
                            clear c16
                            by_cases c19 : ((rd_T30 l2 x9_3).f1) ≥ (x8_3.length : Int)
                            · rw [if_pos c19] at H
                              have c19b0 : decide ((x8_3.length : Int) ≤ ((rd_T30 l2 x9_3).f1)) = true := decide_eq_true c19
                              clear c19
                              obtain rfl := Option.some.inj H
                              have p148 : 0 ≤ (x9_3 : Int) := of_decide_eq_true (by first | (with_reducible assumption) | assumption)
                              have q148 : x9_3 < (l2.length : Int) := of_decide_eq_true (by first | (with_reducible assumption) | assumption)
                              obtain ⟨ad148, A148_2, c148_2, e148, hx148_0, hx148_1, hx148_2, hl148_2, hi148_2⟩ := at_T30 HR2.out x9_3 p148 q148
                              cases e148
                              replace hx148_0 := (HB.out.cell (World.block_lt_of_cell? w _ hx148_0)).trans hx148_0
                              replace hx148_1 := (HB.out.cell (World.block_lt_of_cell? w _ hx148_1)).trans hx148_1
                              replace hx148_2 := (HB.out.cell (World.block_lt_of_cell? w _ hx148_2)).trans hx148_2
                              have HR148_2 := Aside0.mk hi148_2
                              have HC148_2 := Aside0.mk hl148_2
                              clear hi148_2 hl148_2
                              replace p148 := eq_true p148
                              replace q148 := eq_true q148
                              go_wp2_with (first | ((with_reducible refine gate_dst (N := 10) rfl ?_); (try (refine gate_guard (by rfl) ?_; dsimp only)); refine box_event ?hg (N := 10) ?hd (cs := #[.int .i64 0, .int .i64 0, .slice none 0 0]) (t := 30) ?hr ?_; (case hd => rfl); (case hg => rfl); (case hr => first | (go_simp; done) | (go_simp; rfl)); intro gb149 hg w20 hbox hb; have n0_ := Aside0.mk (Kd.R_below (by (with_reducible repeat (first | apply Kd.R_alloc | apply Kd.R_drewN | apply Kd.R_drew)); exact HO_8.out) hb); have n1_ := Aside0.mk (below_step (by repeat (first | (with_reducible first | exact HB.out | apply below_alloc | apply pw_below_drewN | apply below_drew1) | exact HB.out)) hb); have n2_ := Aside0.mk (hbox); have n3_ := Aside0.mk ((by rw [hg]; exact (below_size (by repeat (first | (with_reducible first | exact HB.out | apply below_alloc | apply pw_below_drewN | apply below_drew1) | exact HB.out))) : w.heap.size ≤ gb149)); have n4_ := Aside0.mk ((by rw [hg]; exact (below_size (by repeat (first | (with_reducible first | exact HB.out | apply below_alloc | apply pw_below_drewN | apply below_drew1) | exact HB.out))) : w.heap.size ≤ gb149)); clear HO_8; clear HB; have HO_8 := n0_; have HB := n1_; have BK149 := n2_; have GW149 := n3_; have GE149 := n4_; clear n0_ n1_ n2_ n3_ n4_; clear hb hbox hg; have hcz21_0 : w20.cell? ⟨gb149, 0, none⟩ = some (.int .i64 0) := (blk_cell BK149.out 0).trans rfl; have hcz21_1 : w20.cell? ⟨gb149, 1, none⟩ = some (.int .i64 0) := (blk_cell BK149.out 1).trans rfl; have hcz21_2 : w20.cell? ⟨gb149, 2, none⟩ = some (.slice none 0 0) := (blk_cell BK149.out 2).trans rfl; have hfz21_0 := blk_frozen BK149.out 0; have hfz21_1 := blk_frozen BK149.out 1; have hfz21_2 := blk_frozen BK149.out 2; obtain ⟨Ao22, co22, eo22⟩ := Kd.R_slice HO_8.out; subst eo22))
                              go_ret
                              exact ⟨by first | rfl | (simp [errW_none, errW_some] <;> rfl) | (simp [*, errW_none, errW_some] <;> rfl), by repeat (first | (with_reducible first | exact HB.out | apply below_alloc | apply pw_below_drewN | apply below_drew1 | refine below_set ?_ GE149.out) | exact HB.out)⟩
                            · rw [if_neg c19] at H
                              have c19b0 : decide ((x8_3.length : Int) ≤ ((rd_T30 l2 x9_3).f1)) = false := decide_eq_false c19
                              clear c19
                              by_cases c23 : (((rd_T30 l2 x9_3).f2).length : Int) = 0
                              · rw [if_pos c23] at H
                                have c23b0 : ((((rd_T30 l2 x9_3).f2).length : Int) == 0) = true := beq_iff_eq.mpr c23
                                have c23b1 : ((((rd_T30 l2 x9_3).f2).length : Int) != 0) = false := bne_eq_false_iff_eq.mpr c23
                                clear c23
                                obtain rfl := Option.some.inj H
                                have p148 : 0 ≤ (x9_3 : Int) := of_decide_eq_true (by first | (with_reducible assumption) | assumption)
                                have q148 : x9_3 < (l2.length : Int) := of_decide_eq_true (by first | (with_reducible assumption) | assumption)
                                obtain ⟨ad148, A148_2, c148_2, e148, hx148_0, hx148_1, hx148_2, hl148_2, hi148_2⟩ := at_T30 HR2.out x9_3 p148 q148
                                cases e148
                                replace hx148_0 := (HB.out.cell (World.block_lt_of_cell? w _ hx148_0)).trans hx148_0
                                replace hx148_1 := (HB.out.cell (World.block_lt_of_cell? w _ hx148_1)).trans hx148_1
                                replace hx148_2 := (HB.out.cell (World.block_lt_of_cell? w _ hx148_2)).trans hx148_2
                                have HR148_2 := Aside0.mk hi148_2
                                have HC148_2 := Aside0.mk hl148_2
                                clear hi148_2 hl148_2
                                replace p148 := eq_true p148
                                replace q148 := eq_true q148
                                go_wp2_with (first | ((with_reducible refine gate_dst (N := 10) rfl ?_); (try (refine gate_guard (by rfl) ?_; dsimp only)); refine box_event ?hg (N := 10) ?hd (cs := #[.int .i64 0, .int .i64 0, .slice none 0 0]) (t := 30) ?hr ?_; (case hd => rfl); (case hg => rfl); (case hr => first | (go_simp; done) | (go_simp; rfl)); intro gb149 hg w24 hbox hb; have n0_ := Aside0.mk (Kd.R_below (by (with_reducible repeat (first | apply Kd.R_alloc | apply Kd.R_drewN | apply Kd.R_drew)); exact HO_8.out) hb); have n1_ := Aside0.mk (below_step (by repeat (first | (with_reducible first | exact HB.out | apply below_alloc | apply pw_below_drewN | apply below_drew1) | exact HB.out)) hb); have n2_ := Aside0.mk (hbox); have n3_ := Aside0.mk ((by rw [hg]; exact (below_size (by repeat (first | (with_reducible first | exact HB.out | apply below_alloc | apply pw_below_drewN | apply below_drew1) | exact HB.out))) : w.heap.size ≤ gb149)); have n4_ := Aside0.mk ((by rw [hg]; exact (below_size (by repeat (first | (with_reducible first | exact HB.out | apply below_alloc | apply pw_below_drewN | apply below_drew1) | exact HB.out))) : w.heap.size ≤ gb149)); clear HO_8; clear HB; have HO_8 := n0_; have HB := n1_; have BK149 := n2_; have GW149 := n3_; have GE149 := n4_; clear n0_ n1_ n2_ n3_ n4_; clear hb hbox hg; have hcz25_0 : w24.cell? ⟨gb149, 0, none⟩ = some (.int .i64 0) := (blk_cell BK149.out 0).trans rfl; have hcz25_1 : w24.cell? ⟨gb149, 1, none⟩ = some (.int .i64 0) := (blk_cell BK149.out 1).trans rfl; have hcz25_2 : w24.cell? ⟨gb149, 2, none⟩ = some (.slice none 0 0) := (blk_cell BK149.out 2).trans rfl; have hfz25_0 := blk_frozen BK149.out 0; have hfz25_1 := blk_frozen BK149.out 1; have hfz25_2 := blk_frozen BK149.out 2; obtain ⟨Ao26, co26, eo26⟩ := Kd.R_slice HO_8.out; subst eo26))
                                go_ret
                                exact ⟨by first | rfl | (simp [errW_none, errW_some] <;> rfl) | (simp [*, errW_none, errW_some] <;> rfl), by repeat (first | (with_reducible first | exact HB.out | apply below_alloc | apply pw_below_drewN | apply below_drew1 | refine below_set ?_ GE149.out) | exact HB.out)⟩
                              · rw [if_neg c23] at H
                                have c23b0 : ((((rd_T30 l2 x9_3).f2).length : Int) == 0) = false := beq_eq_false_iff_ne.mpr c23
                                have c23b1 : ((((rd_T30 l2 x9_3).f2).length : Int) != 0) = true := bne_iff_ne.mpr c23
                                have c23b2 : ¬ (((rd_T30 l2 x9_3).f2) = []) := fun h_ => c23 (by rw [h_]; rfl)
                                obtain ⟨y150, hy150⟩ : ∃ y_ : List ByteArray, y_ = (([] : List ByteArray)) := ⟨_, rfl⟩
                                replace H : (if y150.length + x8_3.length < 8796093022208 then ((some (y150 ++ x8_3 : List ByteArray)).bind fun y153 => (if 0 < (((rd_T30 l2 x9_3).f2).length : Int) then (if 0 ≤ ((rd_T30 l2 x9_3).f1) then (if ((rd_T30 l2 x9_3).f1) < (y153.length : Int) then (laws_FnAlignment.l1 k3 a1 l2 (Int.tmod (wrap64 (a0)) 20) (y153.set (((rd_T30 l2 x9_3).f1) : Int).toNat (rdOf ByteArray.empty ((rd_T30 l2 x9_3).f2) 0)) (wrap64 (x9_3 + 1))) else (none)) else (none)) else (none))) else (none)) = some r := by first | (rw [hy150]; with_reducible exact H) | (have H2_ := (Option.bind_some _ _).symm.trans H; rw [hy150]; with_reducible exact H2_) | (have H2_ := (Option.bind_some _ _).symm.trans H; with_reducible exact H2_) | with_reducible exact H | (rw [hy150]; exact H) | exact H
                                have Ny150 := Aside0.mk hy150
                                clear hy150
                                by_cases c27 : y150.length + x8_3.length < 8796093022208
                                · rw [if_pos c27] at H
                                  have LMc27 := Aside0.mk c27
                                  clear c27
                                  obtain ⟨y153, hy153⟩ : ∃ y_ : List ByteArray, y_ = (y150 ++ x8_3) := ⟨_, rfl⟩
                                  replace H : (if 0 < (((rd_T30 l2 x9_3).f2).length : Int) then (if 0 ≤ ((rd_T30 l2 x9_3).f1) then (if ((rd_T30 l2 x9_3).f1) < (y153.length : Int) then (laws_FnAlignment.l1 k3 a1 l2 (Int.tmod (wrap64 (a0)) 20) (y153.set (((rd_T30 l2 x9_3).f1) : Int).toNat (rdOf ByteArray.empty ((rd_T30 l2 x9_3).f2) 0)) (wrap64 (x9_3 + 1))) else (none)) else (none)) else (none)) = some r := by first | (rw [hy153]; with_reducible exact H) | (have H2_ := (Option.bind_some _ _).symm.trans H; rw [hy153]; with_reducible exact H2_) | (have H2_ := (Option.bind_some _ _).symm.trans H; with_reducible exact H2_) | with_reducible exact H | (rw [hy153]; exact H) | exact H
                                  have Ny153 := Aside0.mk hy153
                                  clear hy153
                                  by_cases c28 : 0 < (((rd_T30 l2 x9_3).f2).length : Int)
                                  · rw [if_pos c28] at H
                                    have c28b0 : decide (0 < (((rd_T30 l2 x9_3).f2).length : Int)) = true := decide_eq_true c28
                                    have c28b1 : decide (0 < ((rd_T30 l2 x9_3).f2).length) = true := decide_eq_true (by omega)
                                    clear c28
                                    by_cases c29 : 0 ≤ ((rd_T30 l2 x9_3).f1)
                                    · rw [if_pos c29] at H
                                      have c29b0 : decide (0 ≤ ((rd_T30 l2 x9_3).f1)) = true := decide_eq_true c29
                                      clear c29
                                      by_cases c30 : ((rd_T30 l2 x9_3).f1) < (y153.length : Int)
                                      · rw [if_pos c30] at H
                                        have c30b0 : decide (((rd_T30 l2 x9_3).f1) < (y153.length : Int)) = true := decide_eq_true c30
                                        clear c30
                                        obtain ⟨y157, hy157⟩ : ∃ y_ : List ByteArray, y_ = (y153.set (((rd_T30 l2 x9_3).f1) : Int).toNat (rdOf ByteArray.empty ((rd_T30 l2 x9_3).f2) 0)) := ⟨_, rfl⟩
                                        replace H : (laws_FnAlignment.l1 k3 a1 l2 (Int.tmod (wrap64 (a0)) 20) y157 (wrap64 (x9_3 + 1))) = some r := by first | (rw [hy157]; with_reducible exact H) | (have H2_ := (Option.bind_some _ _).symm.trans H; rw [hy157]; with_reducible exact H2_) | (have H2_ := (Option.bind_some _ _).symm.trans H; with_reducible exact H2_) | with_reducible exact H | (rw [hy157]; exact H) | exact H
                                        have Ny157 := Aside0.mk hy157
                                        clear hy157
                                        have H' := Aside0.mk H
                                        clear H
                                        have p148 : 0 ≤ (x9_3 : Int) := of_decide_eq_true (by first | (with_reducible assumption) | assumption)
                                        have q148 : x9_3 < (l2.length : Int) := of_decide_eq_true (by first | (with_reducible assumption) | assumption)
                                        obtain ⟨ad148, A148_2, c148_2, e148, hx148_0, hx148_1, hx148_2, hl148_2, hi148_2⟩ := at_T30 HR2.out x9_3 p148 q148
                                        cases e148
                                        replace hx148_0 := (HB.out.cell (World.block_lt_of_cell? w _ hx148_0)).trans hx148_0
                                        replace hx148_1 := (HB.out.cell (World.block_lt_of_cell? w _ hx148_1)).trans hx148_1
                                        replace hx148_2 := (HB.out.cell (World.block_lt_of_cell? w _ hx148_2)).trans hx148_2
                                        have HR148_2 := Aside0.mk hi148_2
                                        have HC148_2 := Aside0.mk hl148_2
                                        clear hi148_2 hl148_2
                                        replace p148 := eq_true p148
                                        replace q148 := eq_true q148
                                        try go_wp2_with (first | ((with_reducible refine gate_dst (N := 10) rfl ?_); (try (refine gate_guard (by rfl) ?_; dsimp only)); refine box_event ?hg (N := 10) ?hd (cs := #[.int .i64 0, .int .i64 0, .slice none 0 0]) (t := 30) ?hr ?_; (case hd => rfl); (case hg => rfl); (case hr => first | (go_simp; done) | (go_simp; rfl)); intro gb149 hg w32 hbox hb; have n0_ := Aside0.mk (Kd.R_below (by (with_reducible repeat (first | apply Kd.R_alloc | apply Kd.R_drewN | apply Kd.R_drew)); exact HO_8.out) hb); have n1_ := Aside0.mk (below_step (by repeat (first | (with_reducible first | exact HB.out | apply below_alloc | apply pw_below_drewN | apply below_drew1) | exact HB.out)) hb); have n2_ := Aside0.mk (hbox); have n3_ := Aside0.mk ((by rw [hg]; exact (below_size (by repeat (first | (with_reducible first | exact HB.out | apply below_alloc | apply pw_below_drewN | apply below_drew1) | exact HB.out))) : w.heap.size ≤ gb149)); have n4_ := Aside0.mk ((by rw [hg]; exact (below_size (by repeat (first | (with_reducible first | exact HB.out | apply below_alloc | apply pw_below_drewN | apply below_drew1) | exact HB.out))) : w.heap.size ≤ gb149)); clear HO_8; clear HB; have HO_8 := n0_; have HB := n1_; have BK149 := n2_; have GW149 := n3_; have GE149 := n4_; clear n0_ n1_ n2_ n3_ n4_; clear hb hbox hg; have hcz33_0 : w32.cell? ⟨gb149, 0, none⟩ = some (.int .i64 0) := (blk_cell BK149.out 0).trans rfl; have hcz33_1 : w32.cell? ⟨gb149, 1, none⟩ = some (.int .i64 0) := (blk_cell BK149.out 1).trans rfl; have hcz33_2 : w32.cell? ⟨gb149, 2, none⟩ = some (.slice none 0 0) := (blk_cell BK149.out 2).trans rfl; have hfz33_0 := blk_frozen BK149.out 0; have hfz33_1 := blk_frozen BK149.out 1; have hfz33_2 := blk_frozen BK149.out 2; obtain ⟨Ao34, co34, eo34⟩ := Kd.R_slice HO_8.out; subst eo34) | ((with_reducible refine gate_dst (N := 63) rfl ?_); (try (refine gate_guard (by rfl) ?_; dsimp only)); refine Kd.R_lit Kd.string _ 9 ?hg (N := 63) ?hd (xs := ([] : List ByteArray)) (inner := []) (ok := fun _ => True) (okp := fun _ => True) ?hr ?hp (fun _ hk => hk) trivial (Below.refl _ _) (Nat.le_refl _) (by simp) ?_; (case hd => rfl); (case hg => rfl); (case hr => first | (go_simp; done) | (go_simp; rfl)); (case hp => exact (Reps.none _ _)); intro v151 w35 ho36 hb hg_ hnew_; clear hg_ hnew_; (first | rw [← Ny150.out] at ho36 | (simp only [Int.reduceToNat] at ho36; rw [← Ny150.out] at ho36)); have n0_ := Aside0.mk (Kd.R_elder' (by (with_reducible repeat (first | apply Kd.R_alloc | apply Kd.R_drewN | apply Kd.R_drew)); exact (Kd.R_mono (Kd.R_far (p := ⟨gb149, 2, none⟩) (Kd.R_far (p := ⟨gb149, 1, none⟩) (Kd.R_far (p := ⟨gb149, 0, none⟩) (Kd.R_types HO_8.out BK149.out (by decide)) (fun _ hk => hk.2) (.int .i64 ((rd_T30 l2 x9_3).f0))) (fun _ hk => hk.2) (.int .i64 ((rd_T30 l2 x9_3).f1))) (fun _ hk => hk.2) (.slice A148_2 ((rd_T30 l2 x9_3).f2).length c148_2)) (fun _ h_ => h_.1))) (Kd.R_base ho36) hb); have n1_ := Aside0.mk (Kd.R_lower (Kd.R_new' ho36 (Kd.R_lt (by (with_reducible repeat (first | apply Kd.R_alloc | apply Kd.R_drewN | apply Kd.R_drew)); exact (Kd.R_mono (Kd.R_far (p := ⟨gb149, 2, none⟩) (Kd.R_far (p := ⟨gb149, 1, none⟩) (Kd.R_far (p := ⟨gb149, 0, none⟩) (Kd.R_types HO_8.out BK149.out (by decide)) (fun _ hk => hk.2) (.int .i64 ((rd_T30 l2 x9_3).f0))) (fun _ hk => hk.2) (.int .i64 ((rd_T30 l2 x9_3).f1))) (fun _ hk => hk.2) (.slice A148_2 ((rd_T30 l2 x9_3).f2).length c148_2)) (fun _ h_ => h_.1))))) (below_size (by repeat (first | (with_reducible first | exact HB.out | apply below_alloc | apply pw_below_drewN | apply below_drew1 | refine below_set ?_ GE149.out) | exact HB.out)))); have n2_ := Aside0.mk (blk_below (g := gb149) (o := .cells #[.int .i64 ((rd_T30 l2 x9_3).f0), .int .i64 ((rd_T30 l2 x9_3).f1), .slice A148_2 ((rd_T30 l2 x9_3).f2).length c148_2] 30 (0, 0)) (by (with_reducible repeat (first | refine blk_drewN ?_ _ | refine blk_drew ?_ | refine blk_alloc ?_ _)); refine blk_put (cs := #[.int .i64 ((rd_T30 l2 x9_3).f0), .int .i64 ((rd_T30 l2 x9_3).f1), .slice none 0 0]) ?_ 2 _ rfl; (with_reducible repeat (first | refine blk_drewN ?_ _ | refine blk_drew ?_ | refine blk_alloc ?_ _)); refine blk_put (cs := #[.int .i64 ((rd_T30 l2 x9_3).f0), .int .i64 0, .slice none 0 0]) ?_ 1 _ rfl; (with_reducible repeat (first | refine blk_drewN ?_ _ | refine blk_drew ?_ | refine blk_alloc ?_ _)); refine blk_put (cs := #[.int .i64 0, .int .i64 0, .slice none 0 0]) ?_ 0 _ rfl; (with_reducible repeat (first | refine blk_drewN ?_ _ | refine blk_drew ?_ | refine blk_alloc ?_ _)); exact BK149.out) hb); have n3_ := Aside0.mk (below_step (by repeat (first | (with_reducible first | exact HB.out | apply below_alloc | apply pw_below_drewN | apply below_drew1 | refine below_set ?_ GE149.out) | exact HB.out)) hb); clear HO_8; clear BK149; clear HB; have HO_8 := n0_; have HO152 := n1_; have BK149 := n2_; have HB := n3_; clear n0_ n1_ n2_ n3_; clear hb ho36) | ((with_reducible refine gate_builtin (b := .append) (xs := #[.tmp 63, .tmp 64]) rfl ?_); (try (refine gate_guard (by rfl) ?_; dsimp only)); at_builtin; refine Kd.R_append_rows Kd.string (w0 := w) w.heap.size rfl (.tmp 63) (.tmp 64) 28 9 (.string ⟨#[]⟩) 16 rfl Try.underlying28 info9 rfl (by decide) (by omega) v151 y150 x8_3 _ _ _ (fun k_ => some k_ ≠ (.slice Ao34 x8_3.length co34 : Value).ownBlock) (fun _ => False) rfl rfl ?aO ?aR (fun _ _ h => h) (fun _ h => h.elim) ?aF ?aB ?aS ?aL ?_; (case aR => repeat (first | exact (Kd.R_reads' HO_8.out).2.2 | (with_reducible refine Kd.C_alloc ?_ _) | (with_reducible refine Kd.C_drewN ?_ _) | (with_reducible refine Kd.C_drew ?_))); (case aB => exact (by repeat (first | (with_reducible first | exact HB.out | apply below_alloc | apply pw_below_drewN | apply below_drew1 | refine below_set ?_ GE149.out) | exact HB.out))); (case aF => exact (fun k_ hk => Kd.fresh' (Kd.R_lt (by (with_reducible repeat (first | apply Kd.R_alloc | apply Kd.R_drewN | apply Kd.R_drew)); exact HO_8.out)) k_ hk)); (case aO => exact (by (with_reducible repeat (first | apply Kd.R_alloc | apply Kd.R_drewN | apply Kd.R_drew)); exact Kd.R_mono HO152.out (fun _ hk => hk.2))); (case aS => exact (below_size (by repeat (first | (with_reducible first | exact HB.out | apply below_alloc | apply pw_below_drewN | apply below_drew1 | refine below_set ?_ GE149.out) | exact HB.out)))); (case aL => have := LMc27.out; omega); intro v154 w37 ho hb hg hat; rw [← Ny153.out] at ho; have n0_ := Aside0.mk (Kd.R_after (ok := (fun _ => True)) (by (with_reducible repeat (first | apply Kd.R_alloc | apply Kd.R_drewN | apply Kd.R_drew)); exact HO_8.out) hg hat); have n1_ := Aside0.mk (blk_grown (g := gb149) (o := .cells #[.int .i64 ((rd_T30 l2 x9_3).f0), .int .i64 ((rd_T30 l2 x9_3).f1), .slice A148_2 ((rd_T30 l2 x9_3).f2).length c148_2] 30 (0, 0)) (by (with_reducible repeat (first | refine blk_drewN ?_ _ | refine blk_drew ?_ | refine blk_alloc ?_ _)); exact BK149.out) hg (Kd.R_ne HO152.out BK149.out (by decide))); have n2_ := Aside0.mk (hb); have n3_ := Aside0.mk (ho); clear HO_8; clear BK149; clear HB; clear HO152; have HO_8 := n0_; have BK149 := n1_; have HB := n2_; have HO155 := n3_; clear n0_ n1_ n2_ n3_; clear ho hb hg hat))
                                        have n0_ := Aside0.mk (Kd.R_drew HO_8.out)
                                        have n1_ := Aside0.mk (Kd.R_drew HO155.out)
                                        have n2_ := Aside0.mk (blk_drew BK149.out)
                                        have n3_ := Aside0.mk (below_drew1 HB.out)
                                        clear HO_8
                                        clear HO155
                                        clear BK149
                                        clear HB
                                        have HO_8 := n0_
                                        have HO155 := n1_
                                        have BK149 := n2_
                                        have HB := n3_
                                        clear n0_ n1_ n2_ n3_
                                        have p156 : 0 ≤ (0 : Int) := (by omega)
                                        have q156 : 0 < (((rd_T30 l2 x9_3).f2).length : Int) := of_decide_eq_true (by first | (with_reducible assumption) | assumption)
                                        obtain ⟨ad156, e156, hx156_0⟩ := Kd.at_string HR148_2.out 0 p156 q156
                                        have hw156_0 := hx156_0
                                        (try rw [show ((0 : Int)).toNat = 0 from rfl] at hw156_0)
                                        (try rw [show 0 * 1 = 0 from rfl] at hw156_0)
                                        (try rw [Addr.add_zero'] at hw156_0)
                                        cases e156
                                        have qi156 : (0 < ((rd_T30 l2 x9_3).f2).length) = True := eq_true (by omega)
                                        (try rw [show ((0 : Int)).toNat = 0 from rfl] at hx156_0)
                                        (try rw [Addr.add_zero'] at hx156_0)
                                        replace hx156_0 := (HB.out.cell (World.block_lt_of_cell? w _ hx156_0)).trans hx156_0
                                        replace p156 := eq_true p156
                                        replace q156 := eq_true q156
                                        have p31 : 0 ≤ (((rd_T30 l2 x9_3).f1) : Int) := of_decide_eq_true (by first | (with_reducible assumption) | assumption)
                                        have q31 : (((rd_T30 l2 x9_3).f1) : Int) < ((y153.length : Int) : Int) := of_decide_eq_true (by first | (with_reducible assumption) | assumption)
                                        obtain ⟨go31, co31, eo31, gb31, gl31, cl31, HG31⟩ := Kd.R_form HO155.out (by omega)
                                        (first | cases eo31 | (injection eo31 with ea_ en_ ec_; (first | subst ea_ | (injection ea_ with ea_; subst ea_)); subst ec_; clear en_))
                                        have GB31 := Aside0.mk gb31
                                        have GG31 := Aside0.mk HG31
                                        clear gb31 gl31 HG31
                                        obtain ⟨hx31_0, hf31_0⟩ := Kd.R_celln (⟨#[]⟩ : ByteArray) HO155.out (((rd_T30 l2 x9_3).f1) : Int) p31 q31
                                        replace p31 := eq_true p31
                                        replace q31 := eq_true q31
                                        have HP39 := Kd.R_putn HO155.out (((rd_T30 l2 x9_3).f1) : Int) (rdOf ByteArray.empty ((rd_T30 l2 x9_3).f2) 0)
                                        rw [← Ny157.out] at HP39
                                        have HQ39 := Aside0.mk HP39
                                        clear HP39
                                        refine start_ (n := 9) (S := fun w' => w'.cell? ⟨gb149, 0, none⟩ = some (.int .i64 ((rd_T30 l2 x9_3).f0)) ∧ w'.cell? ⟨gb149, 1, none⟩ = some (.int .i64 ((rd_T30 l2 x9_3).f1)) ∧ w'.cell? ⟨gb149, 2, none⟩ = some (.slice (some ad156) ((rd_T30 l2 x9_3).f2).length c148_2) ∧ w'.cell? ad156 = some (.string (rdOf ByteArray.empty ((rd_T30 l2 x9_3).f2) 0))) (ds := [8]) #[false, false, false, false, false, false, false, false, false] (by kernel_rfl) rfl rfl ⟨(blk_cell BK149.out 0).trans rfl, (blk_cell BK149.out 1).trans rfl, (blk_cell BK149.out 2).trans rfl, ((HB.out.cell (World.block_lt_of_cell? w _ hw156_0)).trans hw156_0)⟩ (fun hHeld => ?_); refine with_tabW laws_FnAlignment.tab21 laws_FnAlignment.bits21 (fun HT_ HW_ => ?_)
                                        generalize w37.drew = w38 at HO_8 HO155 BK149 HB GG31 HQ39 hf31_0 hx156_0 hx31_0 hHeld ⊢
                                        refine pure_ (i := 0) (N := some 66) (v := ?_) (a' := ?_) #[true, false, false, false, false, false, false, false, false] rfl rfl (any_of HT_.out (by kernel_rfl)) (fun _ _ _ h => h) (Or.inl ⟨by rfl, ?_⟩) ?_ ?_
                                        rotate_left
                                        · intro w'
                                          go_simp
                                          with_reducible rfl
                                        rotate_left
                                        · simp only [Act.put, List.setIfInBounds_toArray, List.set_cons_zero, List.set_cons_succ, i64_w, i32_w]
                                          rfl
                                        refine pure_ (i := 1) (N := some 67) (v := ?_) (a' := ?_) #[true, true, false, false, false, false, false, false, false] rfl rfl (any_of HT_.out (by kernel_rfl)) (fun _ _ _ h => h) (Or.inl ⟨by rfl, ?_⟩) ?_ ?_
                                        rotate_left
                                        · intro w'
                                          go_simp
                                          with_reducible rfl
                                        rotate_left
                                        · simp only [Act.put, List.setIfInBounds_toArray, List.set_cons_zero, List.set_cons_succ, i64_w, i32_w]
                                          rfl
                                        refine pure_ (i := 3) (N := some 69) (v := ?_) (a' := ?_) #[true, true, false, true, false, false, false, false, false] rfl rfl (any_of HT_.out (by kernel_rfl)) (fun _ _ _ h => h) (Or.inl ⟨by rfl, ?_⟩) ?_ ?_
                                        rotate_left
                                        · intro w'
                                          go_simp
                                          with_reducible rfl
                                        rotate_left
                                        · simp only [Act.put, List.setIfInBounds_toArray, List.set_cons_zero, List.set_cons_succ, i64_w, i32_w]
                                          rfl
                                        refine take_ (i := 2) (N := some 68) (v := ?_) (a' := ?_) #[true, true, true, true, false, false, false, false, false] rfl rfl (take_ofW HT_.out HW_.out (by kernel_rfl)) (fun _ _ _ h => h) (Or.inl ⟨by rfl, ?_⟩) hHeld ?_ ?_
                                        rotate_left
                                        · rintro w' ⟨s0, s1, s2, s3⟩
                                          go_simp
                                          with_reducible rfl
                                        rotate_left
                                        · simp only [Act.put, List.setIfInBounds_toArray, List.set_cons_zero, List.set_cons_succ, i64_w, i32_w]
                                          rfl
                                        refine take_ (i := 4) (N := some 70) (v := ?_) (a' := ?_) #[true, true, true, true, true, false, false, false, false] rfl rfl (take_ofW HT_.out HW_.out (by kernel_rfl)) (fun _ _ _ h => h) (Or.inl ⟨by rfl, ?_⟩) hHeld ?_ ?_
                                        rotate_left
                                        · rintro w' ⟨s0, s1, s2, s3⟩
                                          go_simp
                                          with_reducible rfl
                                        rotate_left
                                        · simp only [Act.put, List.setIfInBounds_toArray, List.set_cons_zero, List.set_cons_succ, i64_w, i32_w]
                                          rfl
                                        refine pure_ (i := 5) (N := some 71) (v := ?_) (a' := ?_) #[true, true, true, true, true, true, false, false, false] rfl rfl (any_of HT_.out (by kernel_rfl)) (fun _ _ _ h => h) (Or.inl ⟨by rfl, ?_⟩) ?_ ?_
                                        rotate_left
                                        · intro w'
                                          go_simp
                                          with_reducible rfl
                                        rotate_left
                                        · simp only [Act.put, List.setIfInBounds_toArray, List.set_cons_zero, List.set_cons_succ, i64_w, i32_w]
                                          rfl
                                        refine take_ (i := 6) (N := some 72) (v := ?_) (a' := ?_) #[true, true, true, true, true, true, true, false, false] rfl rfl (take_ofW HT_.out HW_.out (by kernel_rfl)) (fun _ _ _ h => h) (Or.inl ⟨by rfl, ?_⟩) hHeld ?_ ?_
                                        rotate_left
                                        · rintro w' ⟨s0, s1, s2, s3⟩
                                          go_simp
                                          with_reducible rfl
                                        rotate_left
                                        · simp only [Act.put, List.setIfInBounds_toArray, List.set_cons_zero, List.set_cons_succ, i64_w, i32_w]
                                          rfl
                                        refine pure_ (i := 7) (N := some 73) (v := ?_) (a' := ?_) #[true, true, true, true, true, true, true, true, false] rfl rfl (any_of HT_.out (by kernel_rfl)) (fun _ _ _ h => h) (Or.inl ⟨by rfl, ?_⟩) ?_ ?_
                                        rotate_left
                                        · intro w'
                                          go_simp
                                          with_reducible rfl
                                        rotate_left
                                        · simp only [Act.put, List.setIfInBounds_toArray, List.set_cons_zero, List.set_cons_succ, i64_w, i32_w]
                                          rfl
                                        refine last_ (i := 8) (N := none) #[true, true, true, true, true, true, true, true, true] rfl rfl (one_of HT_.out (by kernel_rfl)) (by decide) (fun K hK => ?_)
                                        refine skip_ (w1 := ?_) (by rfl) rfl ?_ ?_
                                        rotate_left
                                        · go_simp
                                          rfl
                                        refine hK.out _ _ ?_
                                        clear hK K
                                        refine done_ (done_of HT_.out (by kernel_rfl)) ?_
                                        try go_wp2
                                        go_roundg k3
                                        case measure => have := HJ3.out; have := HK2.out; have := HK3.out; omega
                                        case rel => exact ⟨(y157), (wrap64 (x9_3 + 1)), (by first | rfl | (simp; done) | (simp [*]; done)), H', ⟨by have := HJ3.out; have := HK2.out; have := HK3.out; omega⟩, ⟨by (with_reducible repeat (first | apply Kd.R_alloc | apply Kd.R_drewN | apply Kd.R_drew)); exact Kd.R_mono HQ39.out (fun _ hk => trivial)⟩, ⟨by repeat (first | (with_reducible first | exact HB.out | apply below_alloc | apply pw_below_drewN | apply below_drew1 | refine below_set ?_ GB31.out | refine below_set ?_ GE149.out) | exact HB.out)⟩⟩
                                      · rw [if_neg c30] at H
                                        exact absurd H (by simp)
                                    · rw [if_neg c29] at H
                                      exact absurd H (by simp)
                                  · rw [if_neg c28] at H
                                    exact absurd H (by simp)
                                · rw [if_neg c27] at H
                                  exact absurd H (by simp)
                        · rw [if_neg c15] at H
                          have c15b0 : (((rd_T30 l2 x9_3).f0) == 1) = false := beq_eq_false_iff_ne.mpr c15
                          have c15b1 : (((rd_T30 l2 x9_3).f0) != 1) = true := bne_iff_ne.mpr c15
                          by_cases c40 : ((rd_T30 l2 x9_3).f0) = 2
                          · rw [if_pos c40] at H
                            have c40b0 : (((rd_T30 l2 x9_3).f0) == 2) = true := beq_iff_eq.mpr c40
                            have c40b1 : (((rd_T30 l2 x9_3).f0) != 2) = false := bne_eq_false_iff_eq.mpr c40
                            clear c40
                            have H' := Aside0.mk H
                            clear H
                            have p148 : 0 ≤ (x9_3 : Int) := of_decide_eq_true (by first | (with_reducible assumption) | assumption)
                            have q148 : x9_3 < (l2.length : Int) := of_decide_eq_true (by first | (with_reducible assumption) | assumption)
                            obtain ⟨ad148, A148_2, c148_2, e148, hx148_0, hx148_1, hx148_2, hl148_2, hi148_2⟩ := at_T30 HR2.out x9_3 p148 q148
                            cases e148
                            replace hx148_0 := (HB.out.cell (World.block_lt_of_cell? w _ hx148_0)).trans hx148_0
                            replace hx148_1 := (HB.out.cell (World.block_lt_of_cell? w _ hx148_1)).trans hx148_1
                            replace hx148_2 := (HB.out.cell (World.block_lt_of_cell? w _ hx148_2)).trans hx148_2
                            have HR148_2 := Aside0.mk hi148_2
                            have HC148_2 := Aside0.mk hl148_2
                            clear hi148_2 hl148_2
                            replace p148 := eq_true p148
                            replace q148 := eq_true q148
                            go_wp2_with (first | ((with_reducible refine gate_dst (N := 10) rfl ?_); (try (refine gate_guard (by rfl) ?_; dsimp only)); refine box_event ?hg (N := 10) ?hd (cs := #[.int .i64 0, .int .i64 0, .slice none 0 0]) (t := 30) ?hr ?_; (case hd => rfl); (case hg => rfl); (case hr => first | (go_simp; done) | (go_simp; rfl)); intro gb149 hg w41 hbox hb; have n0_ := Aside0.mk (Kd.R_below (by (with_reducible repeat (first | apply Kd.R_alloc | apply Kd.R_drewN | apply Kd.R_drew)); exact HO_8.out) hb); have n1_ := Aside0.mk (below_step (by repeat (first | (with_reducible first | exact HB.out | apply below_alloc | apply pw_below_drewN | apply below_drew1) | exact HB.out)) hb); have n2_ := Aside0.mk (hbox); have n3_ := Aside0.mk ((by rw [hg]; exact (below_size (by repeat (first | (with_reducible first | exact HB.out | apply below_alloc | apply pw_below_drewN | apply below_drew1) | exact HB.out))) : w.heap.size ≤ gb149)); have n4_ := Aside0.mk ((by rw [hg]; exact (below_size (by repeat (first | (with_reducible first | exact HB.out | apply below_alloc | apply pw_below_drewN | apply below_drew1) | exact HB.out))) : w.heap.size ≤ gb149)); clear HO_8; clear HB; have HO_8 := n0_; have HB := n1_; have BK149 := n2_; have GW149 := n3_; have GE149 := n4_; clear n0_ n1_ n2_ n3_ n4_; clear hb hbox hg; have hcz42_0 : w41.cell? ⟨gb149, 0, none⟩ = some (.int .i64 0) := (blk_cell BK149.out 0).trans rfl; have hcz42_1 : w41.cell? ⟨gb149, 1, none⟩ = some (.int .i64 0) := (blk_cell BK149.out 1).trans rfl; have hcz42_2 : w41.cell? ⟨gb149, 2, none⟩ = some (.slice none 0 0) := (blk_cell BK149.out 2).trans rfl; have hfz42_0 := blk_frozen BK149.out 0; have hfz42_1 := blk_frozen BK149.out 1; have hfz42_2 := blk_frozen BK149.out 2))
                            go_roundg k3
                            case measure => have := HJ3.out; have := HK2.out; have := HK3.out; omega
                            case rel => exact ⟨(x8_3), (wrap64 (x9_3 + 1)), (by first | rfl | (simp; done) | (simp [*]; done)), H', ⟨by have := HJ3.out; have := HK2.out; have := HK3.out; omega⟩, ⟨by (with_reducible repeat (first | apply Kd.R_alloc | apply Kd.R_drewN | apply Kd.R_drew)); exact Kd.R_mono (Kd.R_far (p := ⟨gb149, 2, none⟩) (Kd.R_far (p := ⟨gb149, 1, none⟩) (Kd.R_far (p := ⟨gb149, 0, none⟩) (Kd.R_types HO_8.out BK149.out (by decide)) (fun _ hk => hk.2) (.int .i64 ((rd_T30 l2 x9_3).f0))) (fun _ hk => hk.2) (.int .i64 ((rd_T30 l2 x9_3).f1))) (fun _ hk => hk.2) (.slice A148_2 ((rd_T30 l2 x9_3).f2).length c148_2)) (fun _ hk => trivial)⟩, ⟨by repeat (first | (with_reducible first | exact HB.out | apply below_alloc | apply pw_below_drewN | apply below_drew1 | refine below_set ?_ GE149.out) | exact HB.out)⟩⟩
                          · rw [if_neg c40] at H
                            have c40b0 : (((rd_T30 l2 x9_3).f0) == 2) = false := beq_eq_false_iff_ne.mpr c40
                            have c40b1 : (((rd_T30 l2 x9_3).f0) != 2) = true := bne_iff_ne.mpr c40
                            obtain rfl := Option.some.inj H
                            have p148 : 0 ≤ (x9_3 : Int) := of_decide_eq_true (by first | (with_reducible assumption) | assumption)
                            have q148 : x9_3 < (l2.length : Int) := of_decide_eq_true (by first | (with_reducible assumption) | assumption)
                            obtain ⟨ad148, A148_2, c148_2, e148, hx148_0, hx148_1, hx148_2, hl148_2, hi148_2⟩ := at_T30 HR2.out x9_3 p148 q148
                            cases e148
                            replace hx148_0 := (HB.out.cell (World.block_lt_of_cell? w _ hx148_0)).trans hx148_0
                            replace hx148_1 := (HB.out.cell (World.block_lt_of_cell? w _ hx148_1)).trans hx148_1
                            replace hx148_2 := (HB.out.cell (World.block_lt_of_cell? w _ hx148_2)).trans hx148_2
                            have HR148_2 := Aside0.mk hi148_2
                            have HC148_2 := Aside0.mk hl148_2
                            clear hi148_2 hl148_2
                            replace p148 := eq_true p148
                            replace q148 := eq_true q148
                            go_wp2_with (first | ((with_reducible refine gate_dst (N := 10) rfl ?_); (try (refine gate_guard (by rfl) ?_; dsimp only)); refine box_event ?hg (N := 10) ?hd (cs := #[.int .i64 0, .int .i64 0, .slice none 0 0]) (t := 30) ?hr ?_; (case hd => rfl); (case hg => rfl); (case hr => first | (go_simp; done) | (go_simp; rfl)); intro gb149 hg w43 hbox hb; have n0_ := Aside0.mk (Kd.R_below (by (with_reducible repeat (first | apply Kd.R_alloc | apply Kd.R_drewN | apply Kd.R_drew)); exact HO_8.out) hb); have n1_ := Aside0.mk (below_step (by repeat (first | (with_reducible first | exact HB.out | apply below_alloc | apply pw_below_drewN | apply below_drew1) | exact HB.out)) hb); have n2_ := Aside0.mk (hbox); have n3_ := Aside0.mk ((by rw [hg]; exact (below_size (by repeat (first | (with_reducible first | exact HB.out | apply below_alloc | apply pw_below_drewN | apply below_drew1) | exact HB.out))) : w.heap.size ≤ gb149)); have n4_ := Aside0.mk ((by rw [hg]; exact (below_size (by repeat (first | (with_reducible first | exact HB.out | apply below_alloc | apply pw_below_drewN | apply below_drew1) | exact HB.out))) : w.heap.size ≤ gb149)); clear HO_8; clear HB; have HO_8 := n0_; have HB := n1_; have BK149 := n2_; have GW149 := n3_; have GE149 := n4_; clear n0_ n1_ n2_ n3_ n4_; clear hb hbox hg; have hcz44_0 : w43.cell? ⟨gb149, 0, none⟩ = some (.int .i64 0) := (blk_cell BK149.out 0).trans rfl; have hcz44_1 : w43.cell? ⟨gb149, 1, none⟩ = some (.int .i64 0) := (blk_cell BK149.out 1).trans rfl; have hcz44_2 : w43.cell? ⟨gb149, 2, none⟩ = some (.slice none 0 0) := (blk_cell BK149.out 2).trans rfl; have hfz44_0 := blk_frozen BK149.out 0; have hfz44_1 := blk_frozen BK149.out 1; have hfz44_2 := blk_frozen BK149.out 2))
                            go_ret
                            exact ⟨by first | rfl | (simp [errW_none, errW_some] <;> rfl) | (simp [*, errW_none, errW_some] <;> rfl), by repeat (first | (with_reducible first | exact HB.out | apply below_alloc | apply pw_below_drewN | apply below_drew1 | refine below_set ?_ GE149.out) | exact HB.out)⟩
                      · rw [if_neg c14] at H
                        exact absurd H (by simp)
                    · rw [if_neg c13] at H
                      have c13b0 : decide (x9_3 < (l2.length : Int)) = false := decide_eq_false c13
                      clear c13
                      replace H := Option.bind_eq_some_iff.mp H
                      obtain ⟨t144, A450, H⟩ := H
                      replace H : ((spec_TwTexts.f k3 t144 x8_3).bind fun t147 => (some t147)) = some r := H
                      have A45 := Aside0.mk A450
                      clear A450
                      replace H := Option.bind_eq_some_iff.mp H
                      obtain ⟨t147, A460, H⟩ := H
                      replace H : (some t147) = some r := H
                      have A46 := Aside0.mk A460
                      clear A460
                      obtain rfl := Option.some.inj H
                      go_wp2_with (first | ((with_reducible refine gate_callee (f := 13) rfl ?_); refine goesL_ (some 79) rfl rfl Try.func13 (by kernel_rfl) rfl #[.int .i64 (Int.tmod (wrap64 (a0)) 20), .string a1, .slice A2 l2.length c2] rfl (by (try simp only [List.map_toArray, List.map_cons, List.map_nil]); first | done | rfl | (simp only [List.length_drop, List.length_take]; rfl)) ?_; (with_reducible refine (impl_TwAlignment.calls k3 (Int.tmod (wrap64 (a0)) 20) a1 _ _ l2 t144 _ ?side1 ?side2 A45.out).mono ?_); (case side1 => repeat (first | exact (Kd.C_below HR2.out HB.out) | (with_reducible refine Kd.C_alloc ?_ _) | (with_reducible refine Kd.C_drewN ?_ _) | (with_reducible refine Kd.C_drew ?_))); (case side2 => exact HC2.out); rintro e w47 ⟨v145, rfl, ho0, hb⟩; refine ⟨_, rfl, ?_⟩; have n0_ := Aside0.mk (Kd.R_elder' (by (with_reducible repeat (first | apply Kd.R_alloc | apply Kd.R_drewN | apply Kd.R_drew)); exact HO_8.out) (Kd.R_base ho0) hb); have n1_ := Aside0.mk (Kd.R_lower (Kd.R_new' ho0 (Kd.R_lt (by (with_reducible repeat (first | apply Kd.R_alloc | apply Kd.R_drewN | apply Kd.R_drew)); exact HO_8.out))) (below_size (by repeat (first | (with_reducible first | exact HB.out | apply below_alloc | apply pw_below_drewN | apply below_drew1) | exact HB.out)))); have n2_ := Aside0.mk (below_step (by repeat (first | (with_reducible first | exact HB.out | apply below_alloc | apply pw_below_drewN | apply below_drew1) | exact HB.out)) hb); clear HO_8; clear HB; have HO_8 := n0_; have HO146 := n1_; have HB := n2_; clear n0_ n1_ n2_; (try clear hb); (try clear hb2); (try clear hk); (try clear hi); (try clear ho0); obtain ⟨Ao48, co48, eo48⟩ := Kd.R_slice HO146.out; subst eo48; obtain ⟨Ao49, co49, eo49⟩ := Kd.R_slice HO_8.out; subst eo49) | ((with_reducible refine gate_callee (f := 12) rfl ?_); refine goesL_ (some 81) rfl rfl Try.func12 (by kernel_rfl) rfl #[.slice Ao48 t144.length co48, .slice Ao49 x8_3.length co49] rfl (by (try simp only [List.map_toArray, List.map_cons, List.map_nil]); first | done | rfl | (simp only [List.length_drop, List.length_take]; rfl)) ?_; (with_reducible refine (spec_TwTexts.calls k3 _ _ t144 _ _ x8_3 t147 _ ?side1 ?side2 ?side3 ?side4 A46.out).mono ?_); (case side1 => repeat (first | exact (Kd.R_reads' HO146.out).2.2 | (with_reducible refine Kd.C_alloc ?_ _) | (with_reducible refine Kd.C_drewN ?_ _) | (with_reducible refine Kd.C_drew ?_))); (case side2 => exact (Kd.R_reads' HO146.out).2.1); (case side3 => repeat (first | exact (Kd.R_reads' HO_8.out).2.2 | (with_reducible refine Kd.C_alloc ?_ _) | (with_reducible refine Kd.C_drewN ?_ _) | (with_reducible refine Kd.C_drew ?_))); (case side4 => exact (Kd.R_reads' HO_8.out).2.1); rintro e w' ⟨rfl, ⟨nd, rfl⟩⟩; refine ⟨_, rfl, ?_⟩))
                      go_ret
                      exact ⟨by first | rfl | (simp [errW_none, errW_some] <;> rfl) | (simp [*, errW_none, errW_some] <;> rfl), by repeat (first | (with_reducible first | exact HB.out | apply below_alloc | apply pw_below_drewN | apply below_drew1) | exact HB.out)⟩

end Go.Proofs.Ytcjnoadamfdgeaa.GFnAlignment
