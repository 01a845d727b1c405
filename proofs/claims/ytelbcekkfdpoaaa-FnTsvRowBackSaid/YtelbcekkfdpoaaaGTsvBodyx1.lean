-- Written by gprint.py, a program of this session over the kit's printer, with contracts of its own for what the printer does not take. Not trusted: Lean checks it.
import Derived.Test.YtelbcekkfdpoaaaGTsvBodyx0
namespace Go.Proofs.Ytelbcekkfdpoaaa.GTsvBody
open Go.RowKit Go.Proofs.Ytelbcekkfdpoaaa.Itr Go.Proofs.YtelbcekkfdpoaaaW.PrintWords Go.Proofs.YtelbcekkfdpoaaaW.PrintLast Go.Proofs.YtelbcekkfdpoaaaW.PrintMore
attribute [local go_sem] max2_int min2_int max_two min_two max_three min_three max_four min_four   -- for this text's walks alone
set_option linter.unusedVariables false
set_option linter.unusedSimpArgs false
noncomputable section

/-! ### laws_zzFits4: function 7 -/
def laws_zzFits4.l0 : Nat → List ByteArray → Int → Int → Option (Bool)
  | 0, _, _, _ => none
  | k + 1, x8, x9, x10 => if x10 < x9 then (if 0 ≤ x10 then (if x10 < (x8.length : Int) then (if ((rdOf ByteArray.empty x8 x10).size : Int) > 2147483647 then (some false) else (laws_zzFits4.l0 k x8 x9 (wrap64 (x10 + 1)))) else (none)) else (none)) else (some true)
def laws_zzFits4.f (k : Nat) (l0 : List ByteArray) : Option (Bool) := if (l0.length : Int) > 2147483647 then (some false) else (laws_zzFits4.l0 k l0 (l0.length : Int) 0)
theorem laws_zzFits4.mono_l : ∀ k, (∀ y0 y1 y2, LeO (laws_zzFits4.l0 k y0 y1 y2) (laws_zzFits4.l0 (k + 1) y0 y1 y2))
  | 0 => fun _ _ _ r h => by simp [laws_zzFits4.l0] at h
  | k + 1 => by
    have ih0 := laws_zzFits4.mono_l k
    · intro y0 y1 y2
      unfold laws_zzFits4.l0
      repeat' first
      | (with_reducible exact ih0 _ _ _)
      | (with_reducible exact LeO.refl _)
      | (with_reducible exact LeO.none _)
      | (with_reducible refine LeO.ite ?_ ?_)
      | (with_reducible refine LeO.bind ?_ (fun _ => ?_))
      | exact ih0 _ _ _
      | exact LeO.none _
      | refine LeO.ite ?_ ?_
      | refine LeO.bind ?_ (fun _ => ?_)
theorem laws_zzFits4.mono : ∀ a0 k, LeO (laws_zzFits4.f k a0) (laws_zzFits4.f (k + 1) a0) := by
  intro a0 k
  have ih0 := laws_zzFits4.mono_l k
  unfold laws_zzFits4.f
  repeat' first
      | (with_reducible exact ih0 _ _ _)
      | (with_reducible exact LeO.refl _)
      | (with_reducible exact LeO.none _)
      | (with_reducible refine LeO.ite ?_ ?_)
      | (with_reducible refine LeO.bind ?_ (fun _ => ?_))
      | exact ih0 _ _ _
      | exact LeO.none _
      | refine LeO.ite ?_ ?_
      | refine LeO.bind ?_ (fun _ => ?_)
set_option maxHeartbeats 8000000 in
set_option maxRecDepth 100000 in
theorem laws_zzFits4.calls (k : Nat) (A0 : Option Addr) (c0 : Nat) (l0 : List ByteArray) (r : Bool) (w : World) (hr0 : Kd.C Kd.string w A0 l0.length l0) (hc0 : l0.length ≤ c0) (h : laws_zzFits4.f k l0 = some r) :
    Calls Try.prog 7 #[.slice A0 l0.length c0] w fun e w' => e = .returned (.bool r) ∧ Drawn0 w w' := by
  have HR0 := Aside0.mk hr0
  have HC0 := Aside0.mk hc0
  clear hr0 hc0
  have H : (if (l0.length : Int) > 2147483647 then (some false) else (laws_zzFits4.l0 k l0 (l0.length : Int) 0)) = some r := h
  clear h
  by_cases c2 : (l0.length : Int) > 2147483647
  · rw [if_pos c2] at H
    have c2b0 : decide (2147483647 < (l0.length : Int)) = true := decide_eq_true c2
    have c2b1 : decide (2147483647 < l0.length) = true := decide_eq_true (by omega)
    clear c2
    obtain rfl := Option.some.inj H
    go_enter Try.func7, Try.ntmps7
    go_wp2
    go_ret
    exact ⟨by first | rfl | (simp; done) | (simp [*]; done), by repeat (first | exact Drawn0.refl _ | apply Drawn0.step)⟩
  · rw [if_neg c2] at H
    have c2b0 : decide (2147483647 < (l0.length : Int)) = false := decide_eq_false c2
    have c2b1 : decide (2147483647 < l0.length) = false := decide_eq_false (by omega)
    clear c2
    have H' := Aside0.mk H
    clear H
    go_enter Try.func7, Try.ntmps7
    go_wp2
    (try simp only [Act.put, List.setIfInBounds_toArray, List.set_cons_zero, List.set_cons_succ])
    go_loopg [10] k (fun kq v10 w' => ∃ (x10_1 : Int), v10 = .int .i64 x10_1 ∧ Aside0 (laws_zzFits4.l0 kq l0 (l0.length : Int) x10_1 = some r) ∧ Aside0 (kq ≤ k) ∧ Drawn0 w w')
    case atStart => exact ⟨(0), (by first | rfl | (simp; done) | (simp [*]; done)), H', ⟨Nat.le_refl _⟩, by repeat (first | exact Drawn0.refl _ | apply Drawn0.step)⟩
    case round =>
      clear H'
      try clear c2
      try clear c2b0
      try clear c2b1
      try clear p2
      obtain ⟨x10_1, rfl, HA, HK1, ⟨m1, rfl⟩⟩ := hrel
      cases gk with
      | zero => exact absurd HA.out (by simp [laws_zzFits4.l0])
      | succ k1 =>
        have H := HA.out
        clear HA
        simp only [laws_zzFits4.l0] at H
        by_cases c3 : x10_1 < (l0.length : Int)
        · rw [if_pos c3] at H
          have c3b0 : decide (x10_1 < (l0.length : Int)) = true := decide_eq_true c3
          clear c3
          by_cases c4 : 0 ≤ x10_1
          · rw [if_pos c4] at H
            have c4b0 : decide (0 ≤ x10_1) = true := decide_eq_true c4
            clear c4
            by_cases c5 : x10_1 < (l0.length : Int)
            · rw [if_pos c5] at H
              have c5b0 : decide (x10_1 < (l0.length : Int)) = true := decide_eq_true c5
              clear c5
              by_cases c6 : ((rdOf ByteArray.empty l0 x10_1).size : Int) > 2147483647
              · rw [if_pos c6] at H
                have c6b0 : decide (2147483647 < ((rdOf ByteArray.empty l0 x10_1).size : Int)) = true := decide_eq_true c6
                have c6b1 : decide (2147483647 < (rdOf ByteArray.empty l0 x10_1).size) = true := decide_eq_true (by omega)
                clear c6
                obtain rfl := Option.some.inj H
                have p101 : 0 ≤ (x10_1 : Int) := of_decide_eq_true (by first | (with_reducible assumption) | assumption)
                have q101 : x10_1 < (l0.length : Int) := of_decide_eq_true (by first | (with_reducible assumption) | assumption)
                obtain ⟨ad101, e101, hx101_0⟩ := Kd.at_string HR0.out x10_1 p101 q101
                cases e101
                replace p101 := eq_true p101
                replace q101 := eq_true q101
                go_wp2
                go_ret
                exact ⟨by first | rfl | (simp; done) | (simp [*]; done), by repeat (first | exact Drawn0.refl _ | apply Drawn0.step)⟩
              · rw [if_neg c6] at H
                have c6b0 : decide (2147483647 < ((rdOf ByteArray.empty l0 x10_1).size : Int)) = false := decide_eq_false c6
                have c6b1 : decide (2147483647 < (rdOf ByteArray.empty l0 x10_1).size) = false := decide_eq_false (by omega)
                clear c6
                have H' := Aside0.mk H
                clear H
                have p101 : 0 ≤ (x10_1 : Int) := of_decide_eq_true (by first | (with_reducible assumption) | assumption)
                have q101 : x10_1 < (l0.length : Int) := of_decide_eq_true (by first | (with_reducible assumption) | assumption)
                obtain ⟨ad101, e101, hx101_0⟩ := Kd.at_string HR0.out x10_1 p101 q101
                cases e101
                replace p101 := eq_true p101
                replace q101 := eq_true q101
                go_wp2
                go_roundg k1
                case measure => have := HK1.out; omega
                case rel => exact ⟨(wrap64 (x10_1 + 1)), (by first | rfl | (simp; done) | (simp [*]; done)), H', ⟨by have := HK1.out; omega⟩, by repeat (first | exact Drawn0.refl _ | apply Drawn0.step)⟩
            · rw [if_neg c5] at H
              exact absurd H (by simp)
          · rw [if_neg c4] at H
            exact absurd H (by simp)
        · rw [if_neg c3] at H
          have c3b0 : decide (x10_1 < (l0.length : Int)) = false := decide_eq_false c3
          clear c3
          obtain rfl := Option.some.inj H
          go_wp2
          go_ret
          exact ⟨by first | rfl | (simp; done) | (simp [*]; done), by repeat (first | exact Drawn0.refl _ | apply Drawn0.step)⟩

/-! ### laws_texts: function 8 -/
def laws_texts.l0 : Nat → List ByteArray → Int → Int → Int → Option (Bool)
  | 0, _, _, _, _ => none
  | k + 1, x0, x1, x5, x6 => if x6 < (x0.length : Int) then (if x5 ≤ x1 then (if 0 ≤ x6 then (laws_texts.l0 k x0 x1 (wrap64 (x5 + (wrap64 (((rdOf ByteArray.empty x0 x6).size : Int) + 1)))) (wrap64 (x6 + 1))) else (none)) else (some (decide (x5 ≤ x1)))) else (some (decide (x5 ≤ x1)))
def laws_texts.f (k : Nat) (l0 : List ByteArray) (a1 : Int) : Option (Bool) := laws_texts.l0 k l0 a1 0 0
theorem laws_texts.mono_l : ∀ k, (∀ y0 y1 y2 y3, LeO (laws_texts.l0 k y0 y1 y2 y3) (laws_texts.l0 (k + 1) y0 y1 y2 y3))
  | 0 => fun _ _ _ _ r h => by simp [laws_texts.l0] at h
  | k + 1 => by
    have ih0 := laws_texts.mono_l k
    · intro y0 y1 y2 y3
      unfold laws_texts.l0
      repeat' first
      | (with_reducible exact ih0 _ _ _ _)
      | (with_reducible exact LeO.refl _)
      | (with_reducible exact LeO.none _)
      | (with_reducible refine LeO.ite ?_ ?_)
      | (with_reducible refine LeO.bind ?_ (fun _ => ?_))
      | exact ih0 _ _ _ _
      | exact LeO.none _
      | refine LeO.ite ?_ ?_
      | refine LeO.bind ?_ (fun _ => ?_)
theorem laws_texts.mono : ∀ a0 a1 k, LeO (laws_texts.f k a0 a1) (laws_texts.f (k + 1) a0 a1) := by
  intro a0 a1 k
  have ih0 := laws_texts.mono_l k
  unfold laws_texts.f
  repeat' first
      | (with_reducible exact ih0 _ _ _ _)
      | (with_reducible exact LeO.refl _)
      | (with_reducible exact LeO.none _)
      | (with_reducible refine LeO.ite ?_ ?_)
      | (with_reducible refine LeO.bind ?_ (fun _ => ?_))
      | exact ih0 _ _ _ _
      | exact LeO.none _
      | refine LeO.ite ?_ ?_
      | refine LeO.bind ?_ (fun _ => ?_)
set_option maxHeartbeats 8000000 in
set_option maxRecDepth 100000 in
theorem laws_texts.calls (k : Nat) (A0 : Option Addr) (c0 : Nat) (l0 : List ByteArray) (a1 : Int) (r : Bool) (w : World) (hr0 : Kd.C Kd.string w A0 l0.length l0) (hc0 : l0.length ≤ c0) (h : laws_texts.f k l0 a1 = some r) :
    Calls Try.prog 8 #[.slice A0 l0.length c0, .int .i64 a1] w fun e w' => e = .returned (.bool r) ∧ Drawn0 w w' := by
  have HR0 := Aside0.mk hr0
  have HC0 := Aside0.mk hc0
  clear hr0 hc0
  have H : (laws_texts.l0 k l0 a1 0 0) = some r := h
  clear h
  have H' := Aside0.mk H
  clear H
  go_enter Try.func8, Try.ntmps8
  go_wp2
  (try simp only [Act.put, List.setIfInBounds_toArray, List.set_cons_zero, List.set_cons_succ])
  go_loopg [5, 6] k (fun kq v5 v6 w' => ∃ (x5_1 : Int) (x6_1 : Int), v5 = .int .i64 x5_1 ∧ v6 = .int .i64 x6_1 ∧ Aside0 (laws_texts.l0 kq l0 a1 x5_1 x6_1 = some r) ∧ Aside0 (kq ≤ k) ∧ Drawn0 w w')
  case atStart => exact ⟨(0), (0), (by first | rfl | (simp; done) | (simp [*]; done)), (by first | rfl | (simp; done) | (simp [*]; done)), H', ⟨Nat.le_refl _⟩, by repeat (first | exact Drawn0.refl _ | apply Drawn0.step)⟩
  case round =>
    clear H'
    try clear p2
    obtain ⟨x5_1, x6_1, rfl, rfl, HA, HK1, ⟨m1, rfl⟩⟩ := hrel
    cases gk with
    | zero => exact absurd HA.out (by simp [laws_texts.l0])
    | succ k1 =>
      have H := HA.out
      clear HA
      simp only [laws_texts.l0] at H
      by_cases c3 : x6_1 < (l0.length : Int)
      · rw [if_pos c3] at H
        have c3b0 : decide (x6_1 < (l0.length : Int)) = true := decide_eq_true c3
        clear c3
        by_cases c4 : x5_1 ≤ a1
        · rw [if_pos c4] at H
          have c4b0 : decide (x5_1 ≤ a1) = true := decide_eq_true c4
          clear c4
          by_cases c5 : 0 ≤ x6_1
          · rw [if_pos c5] at H
            have c5b0 : decide (0 ≤ x6_1) = true := decide_eq_true c5
            clear c5
            have H' := Aside0.mk H
            clear H
            have p102 : 0 ≤ (x6_1 : Int) := of_decide_eq_true (by first | (with_reducible assumption) | assumption)
            have q102 : x6_1 < (l0.length : Int) := of_decide_eq_true (by first | (with_reducible assumption) | assumption)
            obtain ⟨ad102, e102, hx102_0⟩ := Kd.at_string HR0.out x6_1 p102 q102
            cases e102
            replace p102 := eq_true p102
            replace q102 := eq_true q102
            go_wp2
            go_roundg k1
            case measure => have := HK1.out; omega
            case rel => exact ⟨(wrap64 (x5_1 + (wrap64 (((rdOf ByteArray.empty l0 x6_1).size : Int) + 1)))), (wrap64 (x6_1 + 1)), (by first | rfl | (simp; done) | (simp [*]; done)), (by first | rfl | (simp; done) | (simp [*]; done)), H', ⟨by have := HK1.out; omega⟩, by repeat (first | exact Drawn0.refl _ | apply Drawn0.step)⟩
          · rw [if_neg c5] at H
            exact absurd H (by simp)
        · rw [if_neg c4] at H
          have c4b0 : decide (x5_1 ≤ a1) = false := decide_eq_false c4
          clear c4
          obtain rfl := Option.some.inj H
          go_wp2
          go_ret
          exact ⟨by first | rfl | (simp; done) | (simp [*]; done), by repeat (first | exact Drawn0.refl _ | apply Drawn0.step)⟩
      · rw [if_neg c3] at H
        have c3b0 : decide (x6_1 < (l0.length : Int)) = false := decide_eq_false c3
        clear c3
        obtain rfl := Option.some.inj H
        go_wp2
        go_ret
        exact ⟨by first | rfl | (simp; done) | (simp [*]; done), by repeat (first | exact Drawn0.refl _ | apply Drawn0.step)⟩

/-! ### spec_field: function 21 -/
mutual
def spec_field.j0 : Nat → ByteArray → Int → Int → List Int → Bool → Option (ByteArray × Int × Bool)
  | 0, _, _, _, _, _ => none
  | k + 1, x0, x1, x2, x9, x19 => if x19 = true then (spec_field.l0 k x0 x1 x2 x9) else (spec_field.l1 k x0 (wrap64 (x1 + 1)) x9)
def spec_field.l0 : Nat → ByteArray → Int → Int → List Int → Option (ByteArray × Int × Bool)
  | 0, _, _, _, _ => none
  | k + 1, x0, x1, x2, x9 => if x1 < (x0.size : Int) then (if 0 ≤ x1 then (if (bt x0 x1) = x2 then (spec_field.j2 k x0 x1 x2 x9 false) else (spec_field.j2 k x0 x1 x2 x9 ((bt x0 x1) != 10))) else (none)) else (spec_field.j2 k x0 x1 x2 x9 false)
def spec_field.j2 : Nat → ByteArray → Int → Int → List Int → Bool → Option (ByteArray × Int × Bool)
  | 0, _, _, _, _, _ => none
  | k + 1, x0, x1, x2, x9, x36 => if x36 = true then (if 0 ≤ x1 then (if x1 < (x0.size : Int) then (if (bt x0 x1) = 34 then (some ((⟨#[]⟩ : ByteArray), 0, false)) else (if x9.length < 140737488355328 then (spec_field.l0 k x0 (wrap64 (x1 + 1)) x2 (x9 ++ [bt x0 x1])) else (none))) else (none)) else (none)) else (some (strOfNums x9, x1, true))
def spec_field.l1 : Nat → ByteArray → Int → List Int → Option (ByteArray × Int × Bool)
  | 0, _, _, _ => none
  | k + 1, x0, x1, x9 => if x1 < (x0.size : Int) then (if 0 ≤ x1 then (if (bt x0 x1) = 34 then (if (wrap64 (x1 + 1)) < (x0.size : Int) then (if 0 ≤ (wrap64 (x1 + 1)) then (if (bt x0 (wrap64 (x1 + 1))) = 34 then (if x9.length < 140737488355328 then (spec_field.l1 k x0 (wrap64 ((wrap64 (x1 + 1)) + 1)) (x9 ++ [34])) else (none)) else (some (strOfNums x9, wrap64 (x1 + 1), true))) else (none)) else (some (strOfNums x9, wrap64 (x1 + 1), true))) else (if x9.length < 140737488355328 then (spec_field.l1 k x0 (wrap64 (x1 + 1)) (x9 ++ [bt x0 x1])) else (none))) else (none)) else (some ((⟨#[]⟩ : ByteArray), 0, false))
end
def spec_field.f (k : Nat) (a0 : ByteArray) (a1 : Int) (a2 : Int) : Option (ByteArray × Int × Bool) := if a1 ≥ (a0.size : Int) then (spec_field.j0 k a0 a1 a2 ([] : List Int) true) else (if 0 ≤ a1 then (if a1 < (a0.size : Int) then (spec_field.j0 k a0 a1 a2 ([] : List Int) ((bt a0 a1) != 34)) else (none)) else (none))
theorem spec_field.mono_l : ∀ k, (∀ y0 y1 y2 y3 y4, LeO (spec_field.j0 k y0 y1 y2 y3 y4) (spec_field.j0 (k + 1) y0 y1 y2 y3 y4)) ∧ (∀ y0 y1 y2 y3, LeO (spec_field.l0 k y0 y1 y2 y3) (spec_field.l0 (k + 1) y0 y1 y2 y3)) ∧ (∀ y0 y1 y2 y3 y4, LeO (spec_field.j2 k y0 y1 y2 y3 y4) (spec_field.j2 (k + 1) y0 y1 y2 y3 y4)) ∧ (∀ y0 y1 y2, LeO (spec_field.l1 k y0 y1 y2) (spec_field.l1 (k + 1) y0 y1 y2))
  | 0 => ⟨fun _ _ _ _ _ r h => by simp [spec_field.j0] at h, fun _ _ _ _ r h => by simp [spec_field.l0] at h, fun _ _ _ _ _ r h => by simp [spec_field.j2] at h, fun _ _ _ r h => by simp [spec_field.l1] at h⟩
  | k + 1 => by
    obtain ⟨ih0, ih1, ih2, ih3⟩ := spec_field.mono_l k
    refine ⟨?_, ?_, ?_, ?_⟩
    · intro y0 y1 y2 y3 y4
      unfold spec_field.j0
      repeat' first
      | (with_reducible exact ih0 _ _ _ _ _)
      | (with_reducible exact ih1 _ _ _ _)
      | (with_reducible exact ih2 _ _ _ _ _)
      | (with_reducible exact ih3 _ _ _)
      | (with_reducible exact LeO.refl _)
      | (with_reducible exact LeO.none _)
      | (with_reducible refine LeO.ite ?_ ?_)
      | (with_reducible refine LeO.bind ?_ (fun _ => ?_))
      | exact ih0 _ _ _ _ _
      | exact ih1 _ _ _ _
      | exact ih2 _ _ _ _ _
      | exact ih3 _ _ _
      | exact LeO.none _
      | refine LeO.ite ?_ ?_
      | refine LeO.bind ?_ (fun _ => ?_)
    · intro y0 y1 y2 y3
      unfold spec_field.l0
      repeat' first
      | (with_reducible exact ih0 _ _ _ _ _)
      | (with_reducible exact ih1 _ _ _ _)
      | (with_reducible exact ih2 _ _ _ _ _)
      | (with_reducible exact ih3 _ _ _)
      | (with_reducible exact LeO.refl _)
      | (with_reducible exact LeO.none _)
      | (with_reducible refine LeO.ite ?_ ?_)
      | (with_reducible refine LeO.bind ?_ (fun _ => ?_))
      | exact ih0 _ _ _ _ _
      | exact ih1 _ _ _ _
      | exact ih2 _ _ _ _ _
      | exact ih3 _ _ _
      | exact LeO.none _
      | refine LeO.ite ?_ ?_
      | refine LeO.bind ?_ (fun _ => ?_)
    · intro y0 y1 y2 y3 y4
      unfold spec_field.j2
      repeat' first
      | (with_reducible exact ih0 _ _ _ _ _)
      | (with_reducible exact ih1 _ _ _ _)
      | (with_reducible exact ih2 _ _ _ _ _)
      | (with_reducible exact ih3 _ _ _)
      | (with_reducible exact LeO.refl _)
      | (with_reducible exact LeO.none _)
      | (with_reducible refine LeO.ite ?_ ?_)
      | (with_reducible refine LeO.bind ?_ (fun _ => ?_))
      | exact ih0 _ _ _ _ _
      | exact ih1 _ _ _ _
      | exact ih2 _ _ _ _ _
      | exact ih3 _ _ _
      | exact LeO.none _
      | refine LeO.ite ?_ ?_
      | refine LeO.bind ?_ (fun _ => ?_)
    · intro y0 y1 y2
      unfold spec_field.l1
      repeat' first
      | (with_reducible exact ih0 _ _ _ _ _)
      | (with_reducible exact ih1 _ _ _ _)
      | (with_reducible exact ih2 _ _ _ _ _)
      | (with_reducible exact ih3 _ _ _)
      | (with_reducible exact LeO.refl _)
      | (with_reducible exact LeO.none _)
      | (with_reducible refine LeO.ite ?_ ?_)
      | (with_reducible refine LeO.bind ?_ (fun _ => ?_))
      | exact ih0 _ _ _ _ _
      | exact ih1 _ _ _ _
      | exact ih2 _ _ _ _ _
      | exact ih3 _ _ _
      | exact LeO.none _
      | refine LeO.ite ?_ ?_
      | refine LeO.bind ?_ (fun _ => ?_)
theorem spec_field.mono : ∀ a0 a1 a2 k, LeO (spec_field.f k a0 a1 a2) (spec_field.f (k + 1) a0 a1 a2) := by
  intro a0 a1 a2 k
  obtain ⟨ih0, ih1, ih2, ih3⟩ := spec_field.mono_l k
  unfold spec_field.f
  repeat' first
      | (with_reducible exact ih0 _ _ _ _ _)
      | (with_reducible exact ih1 _ _ _ _)
      | (with_reducible exact ih2 _ _ _ _ _)
      | (with_reducible exact ih3 _ _ _)
      | (with_reducible exact LeO.refl _)
      | (with_reducible exact LeO.none _)
      | (with_reducible refine LeO.ite ?_ ?_)
      | (with_reducible refine LeO.bind ?_ (fun _ => ?_))
      | exact ih0 _ _ _ _ _
      | exact ih1 _ _ _ _
      | exact ih2 _ _ _ _ _
      | exact ih3 _ _ _
      | exact LeO.none _
      | refine LeO.ite ?_ ?_
      | refine LeO.bind ?_ (fun _ => ?_)
set_option maxHeartbeats 8000000 in
set_option maxRecDepth 100000 in
theorem spec_field.calls (k : Nat) (a0 : ByteArray) (a1 : Int) (a2 : Int) (r1 : ByteArray) (r2 : Int) (r3 : Bool) (w : World) (h : spec_field.f k a0 a1 a2 = some (r1, r2, r3)) :
    Calls Try.prog 21 #[.string a0, .int .i64 a1, .int .u8 a2] w fun e w' => e = .returned (.tuple #[.string r1, .int .i64 r2, .bool r3]) ∧ Below w.heap.size w w' := by
  have HB := Aside0.mk (Below.refl w.heap.size w)
  have H : (if a1 ≥ (a0.size : Int) then (spec_field.j0 k a0 a1 a2 ([] : List Int) true) else (if 0 ≤ a1 then (if a1 < (a0.size : Int) then (spec_field.j0 k a0 a1 a2 ([] : List Int) ((bt a0 a1) != 34)) else (none)) else (none))) = some (r1, r2, r3) := h
  clear h
  have HC4 := Aside0.mk H
  clear H
  go_enter Try.func21, Try.ntmps21
  go_upto_region 2 with (fail)
  go_cut [19] (fun v19 wc => ∃ (kq : Nat) (x19_3 : Bool), v19 = .bool x19_3 ∧ Aside0 (spec_field.j0 kq a0 a1 a2 ([] : List Int) x19_3 = some (r1, r2, r3)) ∧ Aside0 (kq ≤ k) ∧ Aside0 (Kd.R (Kd.int .u8) 5 wc w.heap.size (fun _ => True) (.slice none 0 0) ([] : List Int)) ∧ Aside0 (Below w.heap.size w wc))
  case first =>
    have H := HC4.out
    clear HC4
    by_cases c5 : a1 ≥ (a0.size : Int)
    · rw [if_pos c5] at H
      have c5b0 : decide ((a0.size : Int) ≤ a1) = true := decide_eq_true c5
      clear c5
      (first | rw [c5b0] | (simp only [i64_w, i32_w]; rw [c5b0]) | skip)
      have H' := Aside0.mk H
      clear H
      go_wp2
      go_meet
      case rel => exact ⟨_, (true), (by first | rfl | (simp; done) | (simp [*]; done)), H', ⟨by first | omega | exact Nat.le_refl _⟩, ⟨by first | exact Kd.R_nil _ _ _ _ _ | exact Kd.N_nil _ _ _ _ _ | exact Kd.V_nil _ _ _ _ _ | exact Kd.Q_nil _ _ _ _ _ | exact Kd.S_nil _ _ _ _ _⟩, ⟨by repeat (first | (with_reducible first | exact HB.out | apply below_alloc | apply pw_below_drewN | apply below_drew1) | exact HB.out)⟩⟩
    · rw [if_neg c5] at H
      have c5b0 : decide ((a0.size : Int) ≤ a1) = false := decide_eq_false c5
      clear c5
      (first | rw [c5b0] | (simp only [i64_w, i32_w]; rw [c5b0]) | skip)
      by_cases c6 : 0 ≤ a1
      · rw [if_pos c6] at H
        have c6b0 : decide (0 ≤ a1) = true := decide_eq_true c6
        clear c6
        by_cases c7 : a1 < (a0.size : Int)
        · rw [if_pos c7] at H
          have c7b0 : decide (a1 < (a0.size : Int)) = true := decide_eq_true c7
          clear c7
          have H' := Aside0.mk H
          clear H
          have p8 : 0 ≤ (a1 : Int) := of_decide_eq_true (by first | (with_reducible assumption) | assumption)
          have q8 : a1 < (a0.size : Int) := of_decide_eq_true (by first | (with_reducible assumption) | assumption)
          have hx8 := bt_at a0 a1
          replace p8 := eq_true p8
          replace q8 := eq_true q8
          go_wp2
          go_meet
          case rel => exact ⟨_, (((bt a0 a1) != 34)), (by first | rfl | (simp; done) | (simp [*]; done)), H', ⟨by first | omega | exact Nat.le_refl _⟩, ⟨by first | exact Kd.R_nil _ _ _ _ _ | exact Kd.N_nil _ _ _ _ _ | exact Kd.V_nil _ _ _ _ _ | exact Kd.Q_nil _ _ _ _ _ | exact Kd.S_nil _ _ _ _ _⟩, ⟨by repeat (first | (with_reducible first | exact HB.out | apply below_alloc | apply pw_below_drewN | apply below_drew1) | exact HB.out)⟩⟩
        · rw [if_neg c7] at H
          exact absurd H (by simp)
      · rw [if_neg c6] at H
        exact absurd H (by simp)
  case rest =>
    clear HC4
    try clear c2
    try clear p2
    try clear c5
    try clear c5b0
    try clear c6
    try clear c6b0
    try clear c7
    try clear c7b0
    try clear p8
    try clear q8
    try clear hx8
    try clear p8
    try clear q8
    obtain ⟨kq, x19_3, rfl, HA, HJ3, HO_9, HB⟩ := hcut
    cases kq with
    | zero => exact absurd HA.out (by simp [spec_field.j0])
    | succ kj3 =>
      have H := HA.out
      clear HA
      simp only [spec_field.j0] at H
      by_cases c9 : x19_3 = true
      · subst c9
        have H1 : (spec_field.l0 kj3 a0 a1 a2 ([] : List Int)) = some (r1, r2, r3) := by rw [if_pos rfl] at H; exact H
        clear H
        have H := H1
        clear H1
        have H' := Aside0.mk H
        clear H
        go_wp2
        (try simp only [Act.put, List.setIfInBounds_toArray, List.set_cons_zero, List.set_cons_succ])
        go_loopg [1, 9] kj3 (fun kq v1 v9 w' => ∃ (x1_2 : Int) (x9_2 : List Int), v1 = .int .i64 x1_2 ∧ Aside0 (spec_field.l0 kq a0 x1_2 a2 x9_2 = some (r1, r2, r3)) ∧ Aside0 (kq ≤ kj3) ∧ Aside0 (Kd.R (Kd.int .u8) 5 w' w.heap.size (fun _ => True) v9 x9_2) ∧ Aside0 (Below w.heap.size w w'))
        case atStart => exact ⟨(a1), (([] : List Int)), (by first | rfl | (simp; done) | (simp [*]; done)), H', ⟨Nat.le_refl _⟩, ⟨by (with_reducible repeat (first | apply Kd.R_alloc | apply Kd.R_drewN | apply Kd.R_drew)); exact HO_9.out⟩, ⟨by repeat (first | (with_reducible first | exact HB.out | apply below_alloc | apply pw_below_drewN | apply below_drew1) | exact HB.out)⟩⟩
        case round =>
          clear H'
          try clear c2
          try clear p2
          try clear c5
          try clear c5b0
          try clear c6
          try clear c6b0
          try clear c7
          try clear c7b0
          try clear p8
          try clear q8
          try clear hx8
          try clear c9
          try clear p2
          try clear p8
          try clear q8
          obtain ⟨x1_2, x9_2, rfl, HA, HK2, HO_9, HB⟩ := hrel
          cases gk with
          | zero => exact absurd HA.out (by simp [spec_field.l0])
          | succ k2 =>
            have H := HA.out
            clear HA
            simp only [spec_field.l0] at H
            have HC10 := Aside0.mk H
            clear H
            go_upto_region 3 with (fail)
            go_cut [36] (fun v36 wc => ∃ (kq : Nat) (x36_9 : Bool), v36 = .bool x36_9 ∧ Aside0 (spec_field.j2 kq a0 x1_2 a2 x9_2 x36_9 = some (r1, r2, r3)) ∧ Aside0 (kq ≤ k2) ∧ Aside0 (Kd.R (Kd.int .u8) 5 wc w.heap.size (fun _ => True) u9 x9_2) ∧ Aside0 (Below w.heap.size w wc))
            case first =>
              have H := HC10.out
              clear HC10
              by_cases c11 : x1_2 < (a0.size : Int)
              · rw [if_pos c11] at H
                have c11b0 : decide (x1_2 < (a0.size : Int)) = true := decide_eq_true c11
                clear c11
                (first | rw [c11b0] | (simp only [i64_w, i32_w]; rw [c11b0]) | skip)
                by_cases c12 : 0 ≤ x1_2
                · rw [if_pos c12] at H
                  have c12b0 : decide (0 ≤ x1_2) = true := decide_eq_true c12
                  clear c12
                  by_cases c14 : (bt a0 x1_2) = a2
                  · rw [if_pos c14] at H
                    have c14b0 : ((bt a0 x1_2) == a2) = true := beq_iff_eq.mpr c14
                    have c14b1 : ((bt a0 x1_2) != a2) = false := bne_eq_false_iff_eq.mpr c14
                    clear c14
                    have H' := Aside0.mk H
                    clear H
                    have p13 : 0 ≤ (x1_2 : Int) := of_decide_eq_true (by first | (with_reducible assumption) | assumption)
                    have q13 : x1_2 < (a0.size : Int) := of_decide_eq_true (by first | (with_reducible assumption) | assumption)
                    have hx13 := bt_at a0 x1_2
                    replace p13 := eq_true p13
                    replace q13 := eq_true q13
                    go_wp2
                    go_meet
                    case rel => exact ⟨_, (false), (by first | rfl | (simp; done) | (simp [*]; done)), H', ⟨by have := HJ3.out; have := HK2.out; first | omega | exact Nat.le_refl _⟩, ⟨by (with_reducible repeat (first | apply Kd.R_alloc | apply Kd.R_drewN | apply Kd.R_drew)); exact HO_9.out⟩, ⟨by repeat (first | (with_reducible first | exact HB.out | apply below_alloc | apply pw_below_drewN | apply below_drew1) | exact HB.out)⟩⟩
                  · rw [if_neg c14] at H
                    have c14b0 : ((bt a0 x1_2) == a2) = false := beq_eq_false_iff_ne.mpr c14
                    have c14b1 : ((bt a0 x1_2) != a2) = true := bne_iff_ne.mpr c14
                    have H' := Aside0.mk H
                    clear H
                    have p13 : 0 ≤ (x1_2 : Int) := of_decide_eq_true (by first | (with_reducible assumption) | assumption)
                    have q13 : x1_2 < (a0.size : Int) := of_decide_eq_true (by first | (with_reducible assumption) | assumption)
                    have hx13 := bt_at a0 x1_2
                    replace p13 := eq_true p13
                    replace q13 := eq_true q13
                    have p15 : 0 ≤ (x1_2 : Int) := of_decide_eq_true (by first | (with_reducible assumption) | assumption)
                    have q15 : x1_2 < (a0.size : Int) := of_decide_eq_true (by first | (with_reducible assumption) | assumption)
                    have hx15 := bt_at a0 x1_2
                    replace p15 := eq_true p15
                    replace q15 := eq_true q15
                    go_wp2
                    go_meet
                    case rel => exact ⟨_, (((bt a0 x1_2) != 10)), (by first | rfl | (simp; done) | (simp [*]; done)), H', ⟨by have := HJ3.out; have := HK2.out; first | omega | exact Nat.le_refl _⟩, ⟨by (with_reducible repeat (first | apply Kd.R_alloc | apply Kd.R_drewN | apply Kd.R_drew)); exact HO_9.out⟩, ⟨by repeat (first | (with_reducible first | exact HB.out | apply below_alloc | apply pw_below_drewN | apply below_drew1) | exact HB.out)⟩⟩
                · rw [if_neg c12] at H
                  exact absurd H (by simp)
              · rw [if_neg c11] at H
                have c11b0 : decide (x1_2 < (a0.size : Int)) = false := decide_eq_false c11
                clear c11
                (first | rw [c11b0] | (simp only [i64_w, i32_w]; rw [c11b0]) | skip)
                have H' := Aside0.mk H
                clear H
                go_wp2
                go_meet
                case rel => exact ⟨_, (false), (by first | rfl | (simp; done) | (simp [*]; done)), H', ⟨by have := HJ3.out; have := HK2.out; first | omega | exact Nat.le_refl _⟩, ⟨by (with_reducible repeat (first | apply Kd.R_alloc | apply Kd.R_drewN | apply Kd.R_drew)); exact HO_9.out⟩, ⟨by repeat (first | (with_reducible first | exact HB.out | apply below_alloc | apply pw_below_drewN | apply below_drew1) | exact HB.out)⟩⟩
            case rest =>
              clear HC10
              try clear c1
              try clear p1
              try clear q1
              try clear hx1
              try clear c2
              try clear p2
              try clear c5
              try clear c5b0
              try clear c6
              try clear c6b0
              try clear c7
              try clear c7b0
              try clear p8
              try clear q8
              try clear hx8
              try clear c9
              try clear c11
              try clear c11b0
              try clear c12
              try clear c12b0
              try clear p13
              try clear q13
              try clear hx13
              try clear c14
              try clear c14b0
              try clear c14b1
              try clear p15
              try clear q15
              try clear hx15
              try clear p13
              try clear p15
              try clear p2
              try clear p8
              try clear q13
              try clear q15
              try clear q8
              obtain ⟨kq, x36_9, rfl, HA, HJ9, HO_9, HB⟩ := hcut
              cases kq with
              | zero => exact absurd HA.out (by simp [spec_field.j2])
              | succ kj9 =>
                have H := HA.out
                clear HA
                simp only [spec_field.j2] at H
                by_cases c16 : x36_9 = true
                · subst c16
                  have H1 : (if 0 ≤ x1_2 then (if x1_2 < (a0.size : Int) then (if (bt a0 x1_2) = 34 then (some ((⟨#[]⟩ : ByteArray), 0, false)) else (if x9_2.length < 140737488355328 then (spec_field.l0 kj9 a0 (wrap64 (x1_2 + 1)) a2 (x9_2 ++ [bt a0 x1_2])) else (none))) else (none)) else (none)) = some (r1, r2, r3) := by rw [if_pos rfl] at H; exact H
                  clear H
                  have H := H1
                  clear H1
                  by_cases c17 : 0 ≤ x1_2
                  · rw [if_pos c17] at H
                    have c17b0 : decide (0 ≤ x1_2) = true := decide_eq_true c17
                    clear c17
                    by_cases c18 : x1_2 < (a0.size : Int)
                    · rw [if_pos c18] at H
                      have c18b0 : decide (x1_2 < (a0.size : Int)) = true := decide_eq_true c18
                      clear c18
                      by_cases c20 : (bt a0 x1_2) = 34
                      · rw [if_pos c20] at H
                        have c20b0 : ((bt a0 x1_2) == 34) = true := beq_iff_eq.mpr c20
                        have c20b1 : ((bt a0 x1_2) != 34) = false := bne_eq_false_iff_eq.mpr c20
                        clear c20
                        simp only [Option.some.injEq, Prod.mk.injEq] at H
                        obtain ⟨rfl, rfl, rfl⟩ := H
                        have p19 : 0 ≤ (x1_2 : Int) := of_decide_eq_true (by first | (with_reducible assumption) | assumption)
                        have q19 : x1_2 < (a0.size : Int) := of_decide_eq_true (by first | (with_reducible assumption) | assumption)
                        have hx19 := bt_at a0 x1_2
                        replace p19 := eq_true p19
                        replace q19 := eq_true q19
                        go_wp2
                        go_ret3
                        exact ⟨by first | rfl | (simp [errW_none, errW_some] <;> rfl) | (simp [*, errW_none, errW_some] <;> rfl), by repeat (first | (with_reducible first | exact HB.out | apply below_alloc | apply pw_below_drewN | apply below_drew1) | exact HB.out)⟩
                      · rw [if_neg c20] at H
                        have c20b0 : ((bt a0 x1_2) == 34) = false := beq_eq_false_iff_ne.mpr c20
                        have c20b1 : ((bt a0 x1_2) != 34) = true := bne_iff_ne.mpr c20
                        by_cases c22 : x9_2.length < 140737488355328
                        · rw [if_pos c22] at H
                          have LMc22 := Aside0.mk c22
                          clear c22
                          obtain ⟨y103, hy103⟩ : ∃ y_ : List Int, y_ = (x9_2 ++ [bt a0 x1_2]) := ⟨_, rfl⟩
                          replace H : (spec_field.l0 kj9 a0 (wrap64 (x1_2 + 1)) a2 y103) = some (r1, r2, r3) := by first | (rw [hy103]; with_reducible exact H) | (have H2_ := (Option.bind_some _ _).symm.trans H; rw [hy103]; with_reducible exact H2_) | (have H2_ := (Option.bind_some _ _).symm.trans H; with_reducible exact H2_) | with_reducible exact H | (rw [hy103]; exact H) | exact H
                          have Ny103 := Aside0.mk hy103
                          clear hy103
                          have H' := Aside0.mk H
                          clear H
                          have p19 : 0 ≤ (x1_2 : Int) := of_decide_eq_true (by first | (with_reducible assumption) | assumption)
                          have q19 : x1_2 < (a0.size : Int) := of_decide_eq_true (by first | (with_reducible assumption) | assumption)
                          have hx19 := bt_at a0 x1_2
                          replace p19 := eq_true p19
                          replace q19 := eq_true q19
                          have p21 : 0 ≤ (x1_2 : Int) := of_decide_eq_true (by first | (with_reducible assumption) | assumption)
                          have q21 : x1_2 < (a0.size : Int) := of_decide_eq_true (by first | (with_reducible assumption) | assumption)
                          have hx21 := bt_at a0 x1_2
                          replace p21 := eq_true p21
                          replace q21 := eq_true q21
                          go_wp2_with (first | ((with_reducible refine gate_builtin (b := .append) (xs := #[.tmp 41, .tmp 45]) rfl ?_); at_builtin; refine Kd.R_append (Kd.int .u8) (w0 := w) w.heap.size rfl (.tmp 41) (.tmp 45) 46 5 (.int .u8 0) 1 rfl Try.underlying46 info5 rfl (by decide) (by omega) u9 x9_2 (bt a0 x1_2) [.int .u8 (bt a0 x1_2)] (fun _ => True) (fun _ => False) rfl rfl ?aP (fun _ hk => hk.elim) ?aF ?aO ?aB ?aS ?aL ?_; (case aP => exact rfl); (case aB => exact (by repeat (first | (with_reducible first | exact HB.out | apply below_alloc | apply pw_below_drewN | apply below_drew1) | exact HB.out))); (case aF => exact (fun _ _ => trivial)); (case aO => exact (by (with_reducible repeat (first | apply Kd.R_alloc | apply Kd.R_drewN | apply Kd.R_drew)); exact HO_9.out)); (case aS => exact (below_size (by repeat (first | (with_reducible first | exact HB.out | apply below_alloc | apply pw_below_drewN | apply below_drew1) | exact HB.out)))); (case aL => have := LMc22.out; omega); intro v104 w23 ho hb hg hat; rw [← Ny103.out] at ho; have n0_ := Aside0.mk (hb); have n1_ := Aside0.mk (ho); clear HB; clear HO_9; have HB := n0_; have HO105 := n1_; clear n0_ n1_; clear ho hb hg hat))
                          go_roundg kj9
                          case measure => have := HJ3.out; have := HK2.out; have := HJ9.out; omega
                          case rel => exact ⟨(wrap64 (x1_2 + 1)), (y103), (by first | rfl | (simp; done) | (simp [*]; done)), H', ⟨by have := HJ3.out; have := HK2.out; have := HJ9.out; omega⟩, ⟨by (with_reducible repeat (first | apply Kd.R_alloc | apply Kd.R_drewN | apply Kd.R_drew)); exact HO105.out⟩, ⟨by repeat (first | (with_reducible first | exact HB.out | apply below_alloc | apply pw_below_drewN | apply below_drew1) | exact HB.out)⟩⟩
                        · rw [if_neg c22] at H
                          exact absurd H (by simp)
                    · rw [if_neg c18] at H
                      exact absurd H (by simp)
                  · rw [if_neg c17] at H
                    exact absurd H (by simp)
                · replace c16 := Bool.eq_false_iff.mpr c16
                  subst c16
                  have H1 : (some (strOfNums x9_2, x1_2, true)) = some (r1, r2, r3) := by rw [if_neg (show ¬ (false = true) by decide)] at H; exact H
                  clear H
                  have H := H1
                  clear H1
                  simp only [Option.some.injEq, Prod.mk.injEq] at H
                  obtain ⟨rfl, rfl, rfl⟩ := H
                  have hcv24 := own_string (P := Try.prog) Try.underlying46 Try.underlying5 Try.underlying9 (Kd.own_of_R HO_9.out)
                  go_wp2
                  go_ret3
                  exact ⟨by first | rfl | (simp [errW_none, errW_some] <;> rfl) | (simp [*, errW_none, errW_some] <;> rfl), by repeat (first | (with_reducible first | exact HB.out | apply below_alloc | apply pw_below_drewN | apply below_drew1) | exact HB.out)⟩
      · replace c9 := Bool.eq_false_iff.mpr c9
        subst c9
        have H1 : (spec_field.l1 kj3 a0 (wrap64 (a1 + 1)) ([] : List Int)) = some (r1, r2, r3) := by rw [if_neg (show ¬ (false = true) by decide)] at H; exact H
        clear H
        have H := H1
        clear H1
        have H' := Aside0.mk H
        clear H
        go_wp2
        (try simp only [Act.put, List.setIfInBounds_toArray, List.set_cons_zero, List.set_cons_succ])
        go_loopg [1, 9] kj3 (fun kq v1 v9 w' => ∃ (x1_2 : Int) (x9_2 : List Int), v1 = .int .i64 x1_2 ∧ Aside0 (spec_field.l1 kq a0 x1_2 x9_2 = some (r1, r2, r3)) ∧ Aside0 (kq ≤ kj3) ∧ Aside0 (Kd.R (Kd.int .u8) 5 w' w.heap.size (fun _ => True) v9 x9_2) ∧ Aside0 (Below w.heap.size w w'))
        case atStart => exact ⟨(wrap64 (a1 + 1)), (([] : List Int)), (by first | rfl | (simp; done) | (simp [*]; done)), H', ⟨Nat.le_refl _⟩, ⟨by (with_reducible repeat (first | apply Kd.R_alloc | apply Kd.R_drewN | apply Kd.R_drew)); exact HO_9.out⟩, ⟨by repeat (first | (with_reducible first | exact HB.out | apply below_alloc | apply pw_below_drewN | apply below_drew1) | exact HB.out)⟩⟩
        case round =>
          clear H'
          try clear c1
          try clear p1
          try clear q1
          try clear hx1
          try clear c2
          try clear p2
          try clear q2
          try clear hx2
          try clear hcv2
          try clear c5
          try clear c5b0
          try clear c6
          try clear c6b0
          try clear p6
          try clear c7
          try clear c7b0
          try clear p8
          try clear q8
          try clear hx8
          try clear c9
          try clear c11
          try clear c11b0
          try clear c12
          try clear c12b0
          try clear p13
          try clear q13
          try clear hx13
          try clear c14
          try clear c14b0
          try clear c14b1
          try clear p15
          try clear q15
          try clear hx15
          try clear c16
          try clear c17
          try clear c17b0
          try clear c18
          try clear c18b0
          try clear p19
          try clear q19
          try clear hx19
          try clear c20
          try clear c20b0
          try clear c20b1
          try clear c21
          try clear p21
          try clear q21
          try clear hx21
          try clear c22
          try clear hcv24
          try clear p1
          try clear p13
          try clear p15
          try clear p19
          try clear p2
          try clear p21
          try clear p8
          try clear q1
          try clear q13
          try clear q15
          try clear q19
          try clear q21
          try clear q8
          obtain ⟨x1_2, x9_2, rfl, HA, HK2, HO_9, HB⟩ := hrel
          cases gk with
          | zero => exact absurd HA.out (by simp [spec_field.l1])
          | succ k2 =>
            have H := HA.out
            clear HA
            simp only [spec_field.l1] at H
            by_cases c25 : x1_2 < (a0.size : Int)
            · rw [if_pos c25] at H
              have c25b0 : decide (x1_2 < (a0.size : Int)) = true := decide_eq_true c25
              clear c25
              by_cases c26 : 0 ≤ x1_2
              · rw [if_pos c26] at H
                have c26b0 : decide (0 ≤ x1_2) = true := decide_eq_true c26
                clear c26
                by_cases c28 : (bt a0 x1_2) = 34
                · rw [if_pos c28] at H
                  have c28b0 : ((bt a0 x1_2) == 34) = true := beq_iff_eq.mpr c28
                  have c28b1 : ((bt a0 x1_2) != 34) = false := bne_eq_false_iff_eq.mpr c28
                  clear c28
                  by_cases c29 : (wrap64 (x1_2 + 1)) < (a0.size : Int)
                  · rw [if_pos c29] at H
                    have c29b0 : decide ((wrap64 (x1_2 + 1)) < (a0.size : Int)) = true := decide_eq_true c29
                    clear c29
                    obtain ⟨ji30, hji30⟩ : ∃ j_ : Int, (wrap64 (x1_2 + 1)) = j_ := ⟨_, rfl⟩
                    replace H : (if 0 ≤ (ji30) then (if (bt a0 (ji30)) = 34 then (if x9_2.length < 140737488355328 then (spec_field.l1 k2 a0 (wrap64 ((ji30) + 1)) (x9_2 ++ [34])) else (none)) else (some (strOfNums x9_2, ji30, true))) else (none)) = some (r1, r2, r3) := by first | (rw [hji30] at H; exact H) | (simp only [hji30] at H ⊢; exact H)
                    (try rw [hji30] at c29b0)
                    have hji30w : (IntKind.i64.wrap (x1_2 + 1)) = ji30 := (i64_w _).trans hji30
                    by_cases c31 : 0 ≤ (ji30)
                    · rw [if_pos c31] at H
                      have c31b0 : decide (0 ≤ (ji30)) = true := decide_eq_true c31
                      clear c31
                      by_cases c33 : (bt a0 (ji30)) = 34
                      · rw [if_pos c33] at H
                        have c33b0 : ((bt a0 (ji30)) == 34) = true := beq_iff_eq.mpr c33
                        have c33b1 : ((bt a0 (ji30)) != 34) = false := bne_eq_false_iff_eq.mpr c33
                        clear c33
                        by_cases c34 : x9_2.length < 140737488355328
                        · rw [if_pos c34] at H
                          have LMc34 := Aside0.mk c34
                          clear c34
                          obtain ⟨y106, hy106⟩ : ∃ y_ : List Int, y_ = (x9_2 ++ [34]) := ⟨_, rfl⟩
                          replace H : (spec_field.l1 k2 a0 (wrap64 ((ji30) + 1)) y106) = some (r1, r2, r3) := by first | (rw [hy106]; with_reducible exact H) | (have H2_ := (Option.bind_some _ _).symm.trans H; rw [hy106]; with_reducible exact H2_) | (have H2_ := (Option.bind_some _ _).symm.trans H; with_reducible exact H2_) | with_reducible exact H | (rw [hy106]; exact H) | exact H
                          have Ny106 := Aside0.mk hy106
                          clear hy106
                          have H' := Aside0.mk H
                          clear H
                          have p27 : 0 ≤ (x1_2 : Int) := of_decide_eq_true (by first | (with_reducible assumption) | assumption)
                          have q27 : x1_2 < (a0.size : Int) := of_decide_eq_true (by first | (with_reducible assumption) | assumption)
                          have hx27 := bt_at a0 x1_2
                          replace p27 := eq_true p27
                          replace q27 := eq_true q27
                          have p32 : 0 ≤ ((ji30) : Int) := of_decide_eq_true (by first | (with_reducible assumption) | assumption)
                          have q32 : (ji30) < (a0.size : Int) := of_decide_eq_true (by first | (with_reducible assumption) | assumption)
                          have hx32 := bt_at a0 (ji30)
                          replace p32 := eq_true p32
                          replace q32 := eq_true q32
                          go_wp2_with (first | ((with_reducible refine gate_builtin (b := .append) (xs := #[.tmp 82, .tmp 83]) rfl ?_); at_builtin; refine Kd.R_append (Kd.int .u8) (w0 := w) w.heap.size rfl (.tmp 82) (.tmp 83) 46 5 (.int .u8 0) 1 rfl Try.underlying46 info5 rfl (by decide) (by omega) u9 x9_2 34 [.int .u8 34] (fun _ => True) (fun _ => False) rfl rfl ?aP (fun _ hk => hk.elim) ?aF ?aO ?aB ?aS ?aL ?_; (case aP => exact rfl); (case aB => exact (by repeat (first | (with_reducible first | exact HB.out | apply below_alloc | apply pw_below_drewN | apply below_drew1) | exact HB.out))); (case aF => exact (fun _ _ => trivial)); (case aO => exact (by (with_reducible repeat (first | apply Kd.R_alloc | apply Kd.R_drewN | apply Kd.R_drew)); exact HO_9.out)); (case aS => exact (below_size (by repeat (first | (with_reducible first | exact HB.out | apply below_alloc | apply pw_below_drewN | apply below_drew1) | exact HB.out)))); (case aL => have := LMc34.out; omega); intro v107 w35 ho hb hg hat; rw [← Ny106.out] at ho; have n0_ := Aside0.mk (hb); have n1_ := Aside0.mk (ho); clear HB; clear HO_9; have HB := n0_; have HO108 := n1_; clear n0_ n1_; clear ho hb hg hat))
                          go_roundg k2
                          case measure => have := HJ3.out; have := HK2.out; omega
                          case rel => exact ⟨(wrap64 ((ji30) + 1)), (y106), (by first | rfl | (simp; done) | (simp only [← hji30] <;> (first | rfl | simp)) | (simp [*]; done)), H', ⟨by have := HJ3.out; have := HK2.out; omega⟩, ⟨by (with_reducible repeat (first | apply Kd.R_alloc | apply Kd.R_drewN | apply Kd.R_drew)); exact HO108.out⟩, ⟨by repeat (first | (with_reducible first | exact HB.out | apply below_alloc | apply pw_below_drewN | apply below_drew1) | exact HB.out)⟩⟩
                        · rw [if_neg c34] at H
                          exact absurd H (by simp)
                      · rw [if_neg c33] at H
                        have c33b0 : ((bt a0 (ji30)) == 34) = false := beq_eq_false_iff_ne.mpr c33
                        have c33b1 : ((bt a0 (ji30)) != 34) = true := bne_iff_ne.mpr c33
                        simp only [Option.some.injEq, Prod.mk.injEq] at H
                        obtain ⟨rfl, rfl, rfl⟩ := H
                        have p27 : 0 ≤ (x1_2 : Int) := of_decide_eq_true (by first | (with_reducible assumption) | assumption)
                        have q27 : x1_2 < (a0.size : Int) := of_decide_eq_true (by first | (with_reducible assumption) | assumption)
                        have hx27 := bt_at a0 x1_2
                        replace p27 := eq_true p27
                        replace q27 := eq_true q27
                        have p32 : 0 ≤ ((ji30) : Int) := of_decide_eq_true (by first | (with_reducible assumption) | assumption)
                        have q32 : (ji30) < (a0.size : Int) := of_decide_eq_true (by first | (with_reducible assumption) | assumption)
                        have hx32 := bt_at a0 (ji30)
                        replace p32 := eq_true p32
                        replace q32 := eq_true q32
                        have hcv36 := own_string (P := Try.prog) Try.underlying46 Try.underlying5 Try.underlying9 (Kd.own_of_R HO_9.out)
                        go_wp2
                        go_ret3
                        exact ⟨by first | rfl | (simp [errW_none, errW_some] <;> rfl) | (simp only [← hji30]; first | rfl | (simp [errW_none, errW_some] <;> rfl)) | (simp [*, errW_none, errW_some] <;> rfl), by repeat (first | (with_reducible first | exact HB.out | apply below_alloc | apply pw_below_drewN | apply below_drew1) | exact HB.out)⟩
                    · rw [if_neg c31] at H
                      exact absurd H (by simp)
                  · rw [if_neg c29] at H
                    have c29b0 : decide ((wrap64 (x1_2 + 1)) < (a0.size : Int)) = false := decide_eq_false c29
                    clear c29
                    simp only [Option.some.injEq, Prod.mk.injEq] at H
                    obtain ⟨rfl, rfl, rfl⟩ := H
                    have p27 : 0 ≤ (x1_2 : Int) := of_decide_eq_true (by first | (with_reducible assumption) | assumption)
                    have q27 : x1_2 < (a0.size : Int) := of_decide_eq_true (by first | (with_reducible assumption) | assumption)
                    have hx27 := bt_at a0 x1_2
                    replace p27 := eq_true p27
                    replace q27 := eq_true q27
                    have hcv37 := own_string (P := Try.prog) Try.underlying46 Try.underlying5 Try.underlying9 (Kd.own_of_R HO_9.out)
                    go_wp2
                    go_ret3
                    exact ⟨by first | rfl | (simp [errW_none, errW_some] <;> rfl) | (simp [*, errW_none, errW_some] <;> rfl), by repeat (first | (with_reducible first | exact HB.out | apply below_alloc | apply pw_below_drewN | apply below_drew1) | exact HB.out)⟩
                · rw [if_neg c28] at H
                  have c28b0 : ((bt a0 x1_2) == 34) = false := beq_eq_false_iff_ne.mpr c28
                  have c28b1 : ((bt a0 x1_2) != 34) = true := bne_iff_ne.mpr c28
                  by_cases c39 : x9_2.length < 140737488355328
                  · rw [if_pos c39] at H
                    have LMc39 := Aside0.mk c39
                    clear c39
                    obtain ⟨y109, hy109⟩ : ∃ y_ : List Int, y_ = (x9_2 ++ [bt a0 x1_2]) := ⟨_, rfl⟩
                    replace H : (spec_field.l1 k2 a0 (wrap64 (x1_2 + 1)) y109) = some (r1, r2, r3) := by first | (rw [hy109]; with_reducible exact H) | (have H2_ := (Option.bind_some _ _).symm.trans H; rw [hy109]; with_reducible exact H2_) | (have H2_ := (Option.bind_some _ _).symm.trans H; with_reducible exact H2_) | with_reducible exact H | (rw [hy109]; exact H) | exact H
                    have Ny109 := Aside0.mk hy109
                    clear hy109
                    have H' := Aside0.mk H
                    clear H
                    have p27 : 0 ≤ (x1_2 : Int) := of_decide_eq_true (by first | (with_reducible assumption) | assumption)
                    have q27 : x1_2 < (a0.size : Int) := of_decide_eq_true (by first | (with_reducible assumption) | assumption)
                    have hx27 := bt_at a0 x1_2
                    replace p27 := eq_true p27
                    replace q27 := eq_true q27
                    have p38 : 0 ≤ (x1_2 : Int) := of_decide_eq_true (by first | (with_reducible assumption) | assumption)
                    have q38 : x1_2 < (a0.size : Int) := of_decide_eq_true (by first | (with_reducible assumption) | assumption)
                    have hx38 := bt_at a0 x1_2
                    replace p38 := eq_true p38
                    replace q38 := eq_true q38
                    go_wp2_with (first | ((with_reducible refine gate_builtin (b := .append) (xs := #[.tmp 64, .tmp 68]) rfl ?_); at_builtin; refine Kd.R_append (Kd.int .u8) (w0 := w) w.heap.size rfl (.tmp 64) (.tmp 68) 46 5 (.int .u8 0) 1 rfl Try.underlying46 info5 rfl (by decide) (by omega) u9 x9_2 (bt a0 x1_2) [.int .u8 (bt a0 x1_2)] (fun _ => True) (fun _ => False) rfl rfl ?aP (fun _ hk => hk.elim) ?aF ?aO ?aB ?aS ?aL ?_; (case aP => exact rfl); (case aB => exact (by repeat (first | (with_reducible first | exact HB.out | apply below_alloc | apply pw_below_drewN | apply below_drew1) | exact HB.out))); (case aF => exact (fun _ _ => trivial)); (case aO => exact (by (with_reducible repeat (first | apply Kd.R_alloc | apply Kd.R_drewN | apply Kd.R_drew)); exact HO_9.out)); (case aS => exact (below_size (by repeat (first | (with_reducible first | exact HB.out | apply below_alloc | apply pw_below_drewN | apply below_drew1) | exact HB.out)))); (case aL => have := LMc39.out; omega); intro v110 w40 ho hb hg hat; rw [← Ny109.out] at ho; have n0_ := Aside0.mk (hb); have n1_ := Aside0.mk (ho); clear HB; clear HO_9; have HB := n0_; have HO111 := n1_; clear n0_ n1_; clear ho hb hg hat))
                    go_roundg k2
                    case measure => have := HJ3.out; have := HK2.out; omega
                    case rel => exact ⟨(wrap64 (x1_2 + 1)), (y109), (by first | rfl | (simp; done) | (simp [*]; done)), H', ⟨by have := HJ3.out; have := HK2.out; omega⟩, ⟨by (with_reducible repeat (first | apply Kd.R_alloc | apply Kd.R_drewN | apply Kd.R_drew)); exact HO111.out⟩, ⟨by repeat (first | (with_reducible first | exact HB.out | apply below_alloc | apply pw_below_drewN | apply below_drew1) | exact HB.out)⟩⟩
                  · rw [if_neg c39] at H
                    exact absurd H (by simp)
              · rw [if_neg c26] at H
                exact absurd H (by simp)
            · rw [if_neg c25] at H
              have c25b0 : decide (x1_2 < (a0.size : Int)) = false := decide_eq_false c25
              clear c25
              simp only [Option.some.injEq, Prod.mk.injEq] at H
              obtain ⟨rfl, rfl, rfl⟩ := H
              go_wp2
              go_ret3
              exact ⟨by first | rfl | (simp [errW_none, errW_some] <;> rfl) | (simp [*, errW_none, errW_some] <;> rfl), by repeat (first | (with_reducible first | exact HB.out | apply below_alloc | apply pw_below_drewN | apply below_drew1) | exact HB.out)⟩

end
end Go.Proofs.Ytelbcekkfdpoaaa.GTsvBody
