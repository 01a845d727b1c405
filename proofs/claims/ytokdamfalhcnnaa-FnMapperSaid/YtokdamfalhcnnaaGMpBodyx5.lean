-- Written by gprint.py, a program of this session over the kit's printer, with contracts of its own for what the printer does not take. Not trusted: Lean checks it.
import Derived.Test.YtokdamfalhcnnaaGMpBodyx0
import Derived.Test.YtokdamfalhcnnaaGMpBodyx1
namespace Go.Proofs.Ytokdamfalhcnnaa.GMpBody
open Go.RowKit Go.Proofs.Ytokdamfalhcnnaa.Itr Go.Proofs.YtokdamfalhcnnaaW.PrintWords Go.Proofs.YtokdamfalhcnnaaW.PrintLast Go.Proofs.YtokdamfalhcnnaaW.PrintMore
attribute [local go_sem] max2_int min2_int max_two min_two max_three min_three max_four min_four   -- for this text's walks alone
set_option linter.unusedVariables false
set_option linter.unusedSimpArgs false

attribute [local go_sem high] eqA29
-- NOT PRINTED: function 28 (impl_paired)

/-! ### impl_within: function 37 -/
def impl_within.l0 : Nat → Int → List Int → Int → Int → Option (Bool)
  | 0, _, _, _, _ => none
  | k + 1, x1, x7, x8, x9 => if x9 < x8 then (if 0 ≤ x9 then (if x9 < (x7.length : Int) then (if (rd x7 x9) = x1 then (some true) else (impl_within.l0 k x1 x7 x8 (wrap64 (x9 + 1)))) else (none)) else (none)) else (some false)
def impl_within.f (k : Nat) (l0 : List Int) (a1 : Int) : Option (Bool) := impl_within.l0 k a1 l0 (l0.length : Int) 0
theorem impl_within.mono_l : ∀ k, (∀ y0 y1 y2 y3, LeO (impl_within.l0 k y0 y1 y2 y3) (impl_within.l0 (k + 1) y0 y1 y2 y3))
  | 0 => fun _ _ _ _ r h => by simp [impl_within.l0] at h
  | k + 1 => by
    have ih0 := impl_within.mono_l k
    · intro y0 y1 y2 y3
      unfold impl_within.l0
      repeat' first
      | (with_reducible exact ih0 _ _ _ _)
      | (with_reducible exact LeO.refl _)
      | (with_reducible exact LeO.none _)
      | (with_reducible refine LeO.ite ?_ ?_)
      | (with_reducible refine LeO.bind ?_ (fun _ => ?_))
      | exact ih0 _ _ _ _
      | exact LeO.none _
      | refine LeO.ite ?_ ?_
      | refine LeO.bind ?_ (fun _ => ?_)
theorem impl_within.mono : ∀ a0 a1 k, LeO (impl_within.f k a0 a1) (impl_within.f (k + 1) a0 a1) := by
  intro a0 a1 k
  have ih0 := impl_within.mono_l k
  unfold impl_within.f
  repeat' first
      | (with_reducible exact ih0 _ _ _ _)
      | (with_reducible exact LeO.refl _)
      | (with_reducible exact LeO.none _)
      | (with_reducible refine LeO.ite ?_ ?_)
      | (with_reducible refine LeO.bind ?_ (fun _ => ?_))
      | exact ih0 _ _ _ _
      | exact LeO.none _
      | refine LeO.ite ?_ ?_
      | refine LeO.bind ?_ (fun _ => ?_)
set_option maxHeartbeats 8000000 in
set_option maxRecDepth 100000 in
theorem impl_within.calls (k : Nat) (A0 : Option Addr) (c0 : Nat) (l0 : List Int) (a1 : Int) (r : Bool) (w : World) (hr0 : Kd.C (Kd.int .i64) w A0 l0.length l0) (hc0 : l0.length ≤ c0) (h : impl_within.f k l0 a1 = some r) :
    Calls Try.prog 37 #[.slice A0 l0.length c0, .int .i64 a1] w fun e w' => e = .returned (.bool r) ∧ Drawn0 w w' := by
  have HR0 := Aside0.mk hr0
  have HC0 := Aside0.mk hc0
  clear hr0 hc0
  have H : (impl_within.l0 k a1 l0 (l0.length : Int) 0) = some r := h
  clear h
  have H' := Aside0.mk H
  clear H
  go_enter Try.func37, Try.ntmps37
  go_wp2
  (try simp only [Act.put, List.setIfInBounds_toArray, List.set_cons_zero, List.set_cons_succ])
  go_loopg [9] k (fun kq v9 w' => ∃ (x9_1 : Int), v9 = .int .i64 x9_1 ∧ Aside0 (impl_within.l0 kq a1 l0 (l0.length : Int) x9_1 = some r) ∧ Aside0 (kq ≤ k) ∧ Drawn0 w w')
  case atStart => exact ⟨(0), (by first | rfl | (simp; done) | (simp [*]; done)), H', ⟨Nat.le_refl _⟩, by repeat (first | exact Drawn0.refl _ | apply Drawn0.step)⟩
  case round =>
    clear H'
    try clear p2
    obtain ⟨x9_1, rfl, HA, HK1, ⟨m1, rfl⟩⟩ := hrel
    cases gk with
    | zero => exact absurd HA.out (by simp [impl_within.l0])
    | succ k1 =>
      have H := HA.out
      clear HA
      simp only [impl_within.l0] at H
      by_cases c3 : x9_1 < (l0.length : Int)
      · rw [if_pos c3] at H
        have c3b0 : decide (x9_1 < (l0.length : Int)) = true := decide_eq_true c3
        clear c3
        by_cases c4 : 0 ≤ x9_1
        · rw [if_pos c4] at H
          have c4b0 : decide (0 ≤ x9_1) = true := decide_eq_true c4
          clear c4
          by_cases c5 : x9_1 < (l0.length : Int)
          · rw [if_pos c5] at H
            have c5b0 : decide (x9_1 < (l0.length : Int)) = true := decide_eq_true c5
            clear c5
            by_cases c6 : (rd l0 x9_1) = a1
            · rw [if_pos c6] at H
              have c6b0 : ((rd l0 x9_1) == a1) = true := beq_iff_eq.mpr c6
              have c6b1 : ((rd l0 x9_1) != a1) = false := bne_eq_false_iff_eq.mpr c6
              clear c6
              obtain rfl := Option.some.inj H
              have p210 : 0 ≤ (x9_1 : Int) := of_decide_eq_true (by first | (with_reducible assumption) | assumption)
              have q210 : x9_1 < (l0.length : Int) := of_decide_eq_true (by first | (with_reducible assumption) | assumption)
              obtain ⟨ad210, e210, hx210_0⟩ := Kd.at_int HR0.out x9_1 p210 q210
              cases e210
              replace p210 := eq_true p210
              replace q210 := eq_true q210
              go_wp2
              go_ret
              exact ⟨by first | rfl | (simp; done) | (simp [*]; done), by repeat (first | exact Drawn0.refl _ | apply Drawn0.step)⟩
            · rw [if_neg c6] at H
              have c6b0 : ((rd l0 x9_1) == a1) = false := beq_eq_false_iff_ne.mpr c6
              have c6b1 : ((rd l0 x9_1) != a1) = true := bne_iff_ne.mpr c6
              have H' := Aside0.mk H
              clear H
              have p210 : 0 ≤ (x9_1 : Int) := of_decide_eq_true (by first | (with_reducible assumption) | assumption)
              have q210 : x9_1 < (l0.length : Int) := of_decide_eq_true (by first | (with_reducible assumption) | assumption)
              obtain ⟨ad210, e210, hx210_0⟩ := Kd.at_int HR0.out x9_1 p210 q210
              cases e210
              replace p210 := eq_true p210
              replace q210 := eq_true q210
              go_wp2
              go_roundg k1
              case measure => have := HK1.out; omega
              case rel => exact ⟨(wrap64 (x9_1 + 1)), (by first | rfl | (simp; done) | (simp [*]; done)), H', ⟨by have := HK1.out; omega⟩, by repeat (first | exact Drawn0.refl _ | apply Drawn0.step)⟩
          · rw [if_neg c5] at H
            exact absurd H (by simp)
        · rw [if_neg c4] at H
          exact absurd H (by simp)
      · rw [if_neg c3] at H
        have c3b0 : decide (x9_1 < (l0.length : Int)) = false := decide_eq_false c3
        clear c3
        obtain rfl := Option.some.inj H
        go_wp2
        go_ret
        exact ⟨by first | rfl | (simp; done) | (simp [*]; done), by repeat (first | exact Drawn0.refl _ | apply Drawn0.step)⟩

/-- THE ONE PURE STATEMENT of impl_within: yours. -/
def impl_within.Pure : Prop := ∀ (l0 : List Int) (a1 : Int), l0.length ≤ maxLen → l0.length * 8 ≤ 140737488351232 → (∀ x ∈ l0, (Lit.int .i64 x).wf = true) → (Lit.int .i64 a1).wf = true → ∃ k, impl_within.f k l0 a1 = some true
theorem impl_within.walk (P : impl_within.Pure) (a0 : Option Addr) (len0 cap0 : Nat) (z0 : List Int) (a1 : Int) (w : World) (w0 : (a0 = none ∧ len0 = 0 ∧ cap0 = 0 ∧ z0 = []) ∨ ∃ x, a0 = some x ∧ len0 ≤ cap0 ∧ cap0 ≤ maxLen ∧ z0.length = cap0 ∧ (∀ i, i < z0.length → w.cell? (x.add i) = some (.int .i64 (z0.getD i 0))) ∧ ∀ n ∈ z0, (Lit.int .i64 n).wf = true) (y0 : len0 * 8 ≤ 140737488351232) (w1 : (Lit.int .i64 a1).wf = true) :
    Calls Try.prog 37 #[.slice a0 len0 cap0, .int .i64 a1] w fun e w' => e = .returned (.bool true) ∧ Below w.heap.size w w' := by
  obtain ⟨l0, rfl, hr0, hm0, hw0, hc0⟩ := ReadsInt.ofRowC w0
  obtain ⟨k, h⟩ := P l0 a1 hm0 y0 hw0 w1
  refine (impl_within.calls k _ _ l0 a1 true w (Kd.C_of_reads (d := (0 : Int)) (h1 := fun _ => rfl) hr0) hc0 h).mono ?_
  rintro e w' ⟨rfl, hd⟩
  exact ⟨rfl, hd.below⟩

/-! ### spec_TwInts: function 13 -/
def spec_TwInts.l0 : Nat → List Int → List Int → Int → Option (Bool)
  | 0, _, _, _ => none
  | k + 1, x0, x1, x5 => if x5 < (x0.length : Int) then (if 0 ≤ x5 then (if x5 < (x1.length : Int) then (if (rd x0 x5) = (rd x1 x5) then (spec_TwInts.l0 k x0 x1 (wrap64 (x5 + 1))) else (some false)) else (none)) else (none)) else (some true)
def spec_TwInts.f (k : Nat) (l0 : List Int) (l1 : List Int) : Option (Bool) := if (l0.length : Int) = (l1.length : Int) then (spec_TwInts.l0 k l0 l1 0) else (some false)
theorem spec_TwInts.mono_l : ∀ k, (∀ y0 y1 y2, LeO (spec_TwInts.l0 k y0 y1 y2) (spec_TwInts.l0 (k + 1) y0 y1 y2))
  | 0 => fun _ _ _ r h => by simp [spec_TwInts.l0] at h
  | k + 1 => by
    have ih0 := spec_TwInts.mono_l k
    · intro y0 y1 y2
      unfold spec_TwInts.l0
      repeat' first
      | (with_reducible exact ih0 _ _ _)
      | (with_reducible exact LeO.refl _)
      | (with_reducible exact LeO.none _)
      | (with_reducible refine LeO.ite ?_ ?_)
      | (with_reducible refine LeO.bind ?_ (fun _ => ?_))
      | exact ih0 _ _ _
      | exact LeO.none _
      | refine LeO.ite ?_ ?_
      | refine LeO.bind ?_ (fun _ => ?_)
theorem spec_TwInts.mono : ∀ a0 a1 k, LeO (spec_TwInts.f k a0 a1) (spec_TwInts.f (k + 1) a0 a1) := by
  intro a0 a1 k
  have ih0 := spec_TwInts.mono_l k
  unfold spec_TwInts.f
  repeat' first
      | (with_reducible exact ih0 _ _ _)
      | (with_reducible exact LeO.refl _)
      | (with_reducible exact LeO.none _)
      | (with_reducible refine LeO.ite ?_ ?_)
      | (with_reducible refine LeO.bind ?_ (fun _ => ?_))
      | exact ih0 _ _ _
      | exact LeO.none _
      | refine LeO.ite ?_ ?_
      | refine LeO.bind ?_ (fun _ => ?_)
set_option maxHeartbeats 8000000 in
set_option maxRecDepth 100000 in
theorem spec_TwInts.calls (k : Nat) (A0 : Option Addr) (c0 : Nat) (l0 : List Int) (A1 : Option Addr) (c1 : Nat) (l1 : List Int) (r : Bool) (w : World) (hr0 : Kd.C (Kd.int .i64) w A0 l0.length l0) (hc0 : l0.length ≤ c0) (hr1 : Kd.C (Kd.int .i64) w A1 l1.length l1) (hc1 : l1.length ≤ c1) (h : spec_TwInts.f k l0 l1 = some r) :
    Calls Try.prog 13 #[.slice A0 l0.length c0, .slice A1 l1.length c1] w fun e w' => e = .returned (.bool r) ∧ Drawn0 w w' := by
  have HR0 := Aside0.mk hr0
  have HC0 := Aside0.mk hc0
  clear hr0 hc0
  have HR1 := Aside0.mk hr1
  have HC1 := Aside0.mk hc1
  clear hr1 hc1
  have H : (if (l0.length : Int) = (l1.length : Int) then (spec_TwInts.l0 k l0 l1 0) else (some false)) = some r := h
  clear h
  by_cases c3 : (l0.length : Int) = (l1.length : Int)
  · rw [if_pos c3] at H
    have c3b0 : ((l0.length : Int) == (l1.length : Int)) = true := beq_iff_eq.mpr c3
    have c3b1 : ((l0.length : Int) != (l1.length : Int)) = false := bne_eq_false_iff_eq.mpr c3
    have c3b2 : (l0.length == l1.length) = true := by first | simpa using c3 | (simp at c3 ⊢; omega)
    clear c3
    have H' := Aside0.mk H
    clear H
    go_enter Try.func13, Try.ntmps13
    go_wp2
    repeat (go_quiet (fail); try go_wp2)
    (try simp only [Act.put, List.setIfInBounds_toArray, List.set_cons_zero, List.set_cons_succ])
    go_loopg [5] k (fun kq v5 w' => ∃ (x5_1 : Int), v5 = .int .i64 x5_1 ∧ Aside0 (spec_TwInts.l0 kq l0 l1 x5_1 = some r) ∧ Aside0 (kq ≤ k) ∧ Drawn0 w w')
    case atStart => exact ⟨(0), (by first | rfl | (simp; done) | (simp [*]; done)), H', ⟨Nat.le_refl _⟩, by repeat (first | exact Drawn0.refl _ | apply Drawn0.step)⟩
    case round =>
      clear H'
      try clear c1
      try clear p2
      try clear c3
      try clear c3b0
      try clear c3b1
      try clear c3b2
      obtain ⟨x5_1, rfl, HA, HK1, ⟨m1, rfl⟩⟩ := hrel
      cases gk with
      | zero => exact absurd HA.out (by simp [spec_TwInts.l0])
      | succ k1 =>
        have H := HA.out
        clear HA
        simp only [spec_TwInts.l0] at H
        by_cases c4 : x5_1 < (l0.length : Int)
        · rw [if_pos c4] at H
          have c4b0 : decide (x5_1 < (l0.length : Int)) = true := decide_eq_true c4
          clear c4
          by_cases c5 : 0 ≤ x5_1
          · rw [if_pos c5] at H
            have c5b0 : decide (0 ≤ x5_1) = true := decide_eq_true c5
            clear c5
            by_cases c6 : x5_1 < (l1.length : Int)
            · rw [if_pos c6] at H
              have c6b0 : decide (x5_1 < (l1.length : Int)) = true := decide_eq_true c6
              clear c6
              by_cases c7 : (rd l0 x5_1) = (rd l1 x5_1)
              · rw [if_pos c7] at H
                have c7b0 : ((rd l0 x5_1) == (rd l1 x5_1)) = true := beq_iff_eq.mpr c7
                have c7b1 : ((rd l0 x5_1) != (rd l1 x5_1)) = false := bne_eq_false_iff_eq.mpr c7
                clear c7
                have H' := Aside0.mk H
                clear H
                have p211 : 0 ≤ (x5_1 : Int) := of_decide_eq_true (by first | (with_reducible assumption) | assumption)
                have q211 : x5_1 < (l0.length : Int) := of_decide_eq_true (by first | (with_reducible assumption) | assumption)
                obtain ⟨ad211, e211, hx211_0⟩ := Kd.at_int HR0.out x5_1 p211 q211
                cases e211
                replace p211 := eq_true p211
                replace q211 := eq_true q211
                have p212 : 0 ≤ (x5_1 : Int) := of_decide_eq_true (by first | (with_reducible assumption) | assumption)
                have q212 : x5_1 < (l1.length : Int) := of_decide_eq_true (by first | (with_reducible assumption) | assumption)
                obtain ⟨ad212, e212, hx212_0⟩ := Kd.at_int HR1.out x5_1 p212 q212
                cases e212
                replace p212 := eq_true p212
                replace q212 := eq_true q212
                go_wp2
                repeat (go_quiet (fail); try go_wp2)
                go_roundg k1
                case measure => have := HK1.out; omega
                case rel => exact ⟨(wrap64 (x5_1 + 1)), (by first | rfl | (simp; done) | (simp [*]; done)), H', ⟨by have := HK1.out; omega⟩, by repeat (first | exact Drawn0.refl _ | apply Drawn0.step)⟩
              · rw [if_neg c7] at H
                have c7b0 : ((rd l0 x5_1) == (rd l1 x5_1)) = false := beq_eq_false_iff_ne.mpr c7
                have c7b1 : ((rd l0 x5_1) != (rd l1 x5_1)) = true := bne_iff_ne.mpr c7
                obtain rfl := Option.some.inj H
                have p211 : 0 ≤ (x5_1 : Int) := of_decide_eq_true (by first | (with_reducible assumption) | assumption)
                have q211 : x5_1 < (l0.length : Int) := of_decide_eq_true (by first | (with_reducible assumption) | assumption)
                obtain ⟨ad211, e211, hx211_0⟩ := Kd.at_int HR0.out x5_1 p211 q211
                cases e211
                replace p211 := eq_true p211
                replace q211 := eq_true q211
                have p212 : 0 ≤ (x5_1 : Int) := of_decide_eq_true (by first | (with_reducible assumption) | assumption)
                have q212 : x5_1 < (l1.length : Int) := of_decide_eq_true (by first | (with_reducible assumption) | assumption)
                obtain ⟨ad212, e212, hx212_0⟩ := Kd.at_int HR1.out x5_1 p212 q212
                cases e212
                replace p212 := eq_true p212
                replace q212 := eq_true q212
                go_wp2
                repeat (go_quiet (fail); try go_wp2)
                go_ret
                exact ⟨by first | rfl | (simp; done) | (simp [*]; done), by repeat (first | exact Drawn0.refl _ | apply Drawn0.step)⟩
            · rw [if_neg c6] at H
              exact absurd H (by simp)
          · rw [if_neg c5] at H
            exact absurd H (by simp)
        · rw [if_neg c4] at H
          have c4b0 : decide (x5_1 < (l0.length : Int)) = false := decide_eq_false c4
          clear c4
          obtain rfl := Option.some.inj H
          go_wp2
          repeat (go_quiet (fail); try go_wp2)
          go_ret
          exact ⟨by first | rfl | (simp; done) | (simp [*]; done), by repeat (first | exact Drawn0.refl _ | apply Drawn0.step)⟩
  · rw [if_neg c3] at H
    have c3b0 : ((l0.length : Int) == (l1.length : Int)) = false := beq_eq_false_iff_ne.mpr c3
    have c3b1 : ((l0.length : Int) != (l1.length : Int)) = true := bne_iff_ne.mpr c3
    have c3b2 : (l0.length == l1.length) = false := by first | simpa using c3 | (simp at c3 ⊢; omega)
    obtain rfl := Option.some.inj H
    go_enter Try.func13, Try.ntmps13
    go_wp2
    repeat (go_quiet (fail); try go_wp2)
    go_ret
    exact ⟨by first | rfl | (simp; done) | (simp [*]; done), by repeat (first | exact Drawn0.refl _ | apply Drawn0.step)⟩

/-! ### spec_TwPairs: function 14 -/
def spec_TwPairs.l0 : Nat → List (S29) → List (S29) → Int → Option (Bool)
  | 0, _, _, _ => none
  | k + 1, x0, x1, x5 => if x5 < (x0.length : Int) then (if 0 ≤ x5 then (if x5 < (x1.length : Int) then (if (!(((rd_T29 x0 x5).f0) == ((rd_T29 x1 x5).f0)) || (!(((rd_T29 x0 x5).f1) == ((rd_T29 x1 x5).f1)))) = true then (some false) else (spec_TwPairs.l0 k x0 x1 (wrap64 (x5 + 1)))) else (none)) else (none)) else (some true)
def spec_TwPairs.f (k : Nat) (l0 : List (S29)) (l1 : List (S29)) : Option (Bool) := if (l0.length : Int) = (l1.length : Int) then (spec_TwPairs.l0 k l0 l1 0) else (some false)
theorem spec_TwPairs.mono_l : ∀ k, (∀ y0 y1 y2, LeO (spec_TwPairs.l0 k y0 y1 y2) (spec_TwPairs.l0 (k + 1) y0 y1 y2))
  | 0 => fun _ _ _ r h => by simp [spec_TwPairs.l0] at h
  | k + 1 => by
    have ih0 := spec_TwPairs.mono_l k
    · intro y0 y1 y2
      unfold spec_TwPairs.l0
      repeat' first
      | (with_reducible exact ih0 _ _ _)
      | (with_reducible exact LeO.refl _)
      | (with_reducible exact LeO.none _)
      | (with_reducible refine LeO.ite ?_ ?_)
      | (with_reducible refine LeO.bind ?_ (fun _ => ?_))
      | exact ih0 _ _ _
      | exact LeO.none _
      | refine LeO.ite ?_ ?_
      | refine LeO.bind ?_ (fun _ => ?_)
theorem spec_TwPairs.mono : ∀ a0 a1 k, LeO (spec_TwPairs.f k a0 a1) (spec_TwPairs.f (k + 1) a0 a1) := by
  intro a0 a1 k
  have ih0 := spec_TwPairs.mono_l k
  unfold spec_TwPairs.f
  repeat' first
      | (with_reducible exact ih0 _ _ _)
      | (with_reducible exact LeO.refl _)
      | (with_reducible exact LeO.none _)
      | (with_reducible refine LeO.ite ?_ ?_)
      | (with_reducible refine LeO.bind ?_ (fun _ => ?_))
      | exact ih0 _ _ _
      | exact LeO.none _
      | refine LeO.ite ?_ ?_
      | refine LeO.bind ?_ (fun _ => ?_)
set_option maxHeartbeats 8000000 in
set_option maxRecDepth 100000 in
theorem spec_TwPairs.calls (k : Nat) (A0 : Option Addr) (c0 : Nat) (l0 : List (S29)) (A1 : Option Addr) (c1 : Nat) (l1 : List (S29)) (r : Bool) (w : World) (hr0 : Kd.C k29 w A0 l0.length l0) (hc0 : l0.length ≤ c0) (hr1 : Kd.C k29 w A1 l1.length l1) (hc1 : l1.length ≤ c1) (h : spec_TwPairs.f k l0 l1 = some r) :
    Calls Try.prog 14 #[.slice A0 l0.length c0, .slice A1 l1.length c1] w fun e w' => e = .returned (.bool r) ∧ Drawn0 w w' := by
  have hu29 := Try.underlying29
  have HR0 := Aside0.mk hr0
  have HC0 := Aside0.mk hc0
  clear hr0 hc0
  have HR1 := Aside0.mk hr1
  have HC1 := Aside0.mk hc1
  clear hr1 hc1
  have H : (if (l0.length : Int) = (l1.length : Int) then (spec_TwPairs.l0 k l0 l1 0) else (some false)) = some r := h
  clear h
  by_cases c3 : (l0.length : Int) = (l1.length : Int)
  · rw [if_pos c3] at H
    have c3b0 : ((l0.length : Int) == (l1.length : Int)) = true := beq_iff_eq.mpr c3
    have c3b1 : ((l0.length : Int) != (l1.length : Int)) = false := bne_eq_false_iff_eq.mpr c3
    have c3b2 : (l0.length == l1.length) = true := by first | simpa using c3 | (simp at c3 ⊢; omega)
    clear c3
    have H' := Aside0.mk H
    clear H
    go_enter Try.func14, Try.ntmps14
    go_wp2
    repeat (go_quiet (fail); try go_wp2)
    (try simp only [Act.put, List.setIfInBounds_toArray, List.set_cons_zero, List.set_cons_succ])
    go_loopg [5] k (fun kq v5 w' => ∃ (x5_1 : Int), v5 = .int .i64 x5_1 ∧ Aside0 (spec_TwPairs.l0 kq l0 l1 x5_1 = some r) ∧ Aside0 (kq ≤ k) ∧ Drawn0 w w')
    case atStart => exact ⟨(0), (by first | rfl | (simp; done) | (simp [*]; done)), H', ⟨Nat.le_refl _⟩, by repeat (first | exact Drawn0.refl _ | apply Drawn0.step)⟩
    case round =>
      clear H'
      try clear c1
      try clear p2
      try clear c3
      try clear c3b0
      try clear c3b1
      try clear c3b2
      obtain ⟨x5_1, rfl, HA, HK1, ⟨m1, rfl⟩⟩ := hrel
      cases gk with
      | zero => exact absurd HA.out (by simp [spec_TwPairs.l0])
      | succ k1 =>
        have H := HA.out
        clear HA
        simp only [spec_TwPairs.l0] at H
        by_cases c4 : x5_1 < (l0.length : Int)
        · rw [if_pos c4] at H
          have c4b0 : decide (x5_1 < (l0.length : Int)) = true := decide_eq_true c4
          clear c4
          by_cases c5 : 0 ≤ x5_1
          · rw [if_pos c5] at H
            have c5b0 : decide (0 ≤ x5_1) = true := decide_eq_true c5
            clear c5
            by_cases c6 : x5_1 < (l1.length : Int)
            · rw [if_pos c6] at H
              have c6b0 : decide (x5_1 < (l1.length : Int)) = true := decide_eq_true c6
              clear c6
              by_cases c7 : (!(((rd_T29 l0 x5_1).f0) == ((rd_T29 l1 x5_1).f0)) || (!(((rd_T29 l0 x5_1).f1) == ((rd_T29 l1 x5_1).f1)))) = true
              · rw [if_pos c7] at H
                have c7b0 : (!(((rd_T29 l0 x5_1).f0) == ((rd_T29 l1 x5_1).f0)) || (!(((rd_T29 l0 x5_1).f1) == ((rd_T29 l1 x5_1).f1)))) = true := c7
                clear c7
                obtain rfl := Option.some.inj H
                have p213 : 0 ≤ (x5_1 : Int) := of_decide_eq_true (by first | (with_reducible assumption) | assumption)
                have q213 : x5_1 < (l0.length : Int) := of_decide_eq_true (by first | (with_reducible assumption) | assumption)
                obtain ⟨ad213, e213, hx213_0, hx213_1⟩ := at_T29 HR0.out x5_1 p213 q213
                cases e213
                replace p213 := eq_true p213
                replace q213 := eq_true q213
                have p214 : 0 ≤ (x5_1 : Int) := of_decide_eq_true (by first | (with_reducible assumption) | assumption)
                have q214 : x5_1 < (l1.length : Int) := of_decide_eq_true (by first | (with_reducible assumption) | assumption)
                obtain ⟨ad214, e214, hx214_0, hx214_1⟩ := at_T29 HR1.out x5_1 p214 q214
                cases e214
                replace p214 := eq_true p214
                replace q214 := eq_true q214
                go_wp2
                repeat (go_quiet (fail); try go_wp2)
                go_ret
                exact ⟨by first | rfl | (simp; done) | (simp [*]; done), by repeat (first | exact Drawn0.refl _ | apply Drawn0.step)⟩
              · rw [if_neg c7] at H
                have c7b0 : (!(((rd_T29 l0 x5_1).f0) == ((rd_T29 l1 x5_1).f0)) || (!(((rd_T29 l0 x5_1).f1) == ((rd_T29 l1 x5_1).f1)))) = false := by simpa using c7
                clear c7
                have H' := Aside0.mk H
                clear H
                have p213 : 0 ≤ (x5_1 : Int) := of_decide_eq_true (by first | (with_reducible assumption) | assumption)
                have q213 : x5_1 < (l0.length : Int) := of_decide_eq_true (by first | (with_reducible assumption) | assumption)
                obtain ⟨ad213, e213, hx213_0, hx213_1⟩ := at_T29 HR0.out x5_1 p213 q213
                cases e213
                replace p213 := eq_true p213
                replace q213 := eq_true q213
                have p214 : 0 ≤ (x5_1 : Int) := of_decide_eq_true (by first | (with_reducible assumption) | assumption)
                have q214 : x5_1 < (l1.length : Int) := of_decide_eq_true (by first | (with_reducible assumption) | assumption)
                obtain ⟨ad214, e214, hx214_0, hx214_1⟩ := at_T29 HR1.out x5_1 p214 q214
                cases e214
                replace p214 := eq_true p214
                replace q214 := eq_true q214
                go_wp2
                repeat (go_quiet (fail); try go_wp2)
                go_roundg k1
                case measure => have := HK1.out; omega
                case rel => exact ⟨(wrap64 (x5_1 + 1)), (by first | rfl | (simp; done) | (simp [*]; done)), H', ⟨by have := HK1.out; omega⟩, by repeat (first | exact Drawn0.refl _ | apply Drawn0.step)⟩
            · rw [if_neg c6] at H
              exact absurd H (by simp)
          · rw [if_neg c5] at H
            exact absurd H (by simp)
        · rw [if_neg c4] at H
          have c4b0 : decide (x5_1 < (l0.length : Int)) = false := decide_eq_false c4
          clear c4
          obtain rfl := Option.some.inj H
          go_wp2
          repeat (go_quiet (fail); try go_wp2)
          go_ret
          exact ⟨by first | rfl | (simp; done) | (simp [*]; done), by repeat (first | exact Drawn0.refl _ | apply Drawn0.step)⟩
  · rw [if_neg c3] at H
    have c3b0 : ((l0.length : Int) == (l1.length : Int)) = false := beq_eq_false_iff_ne.mpr c3
    have c3b1 : ((l0.length : Int) != (l1.length : Int)) = true := bne_iff_ne.mpr c3
    have c3b2 : (l0.length == l1.length) = false := by first | simpa using c3 | (simp at c3 ⊢; omega)
    obtain rfl := Option.some.inj H
    go_enter Try.func14, Try.ntmps14
    go_wp2
    repeat (go_quiet (fail); try go_wp2)
    go_ret
    exact ⟨by first | rfl | (simp; done) | (simp [*]; done), by repeat (first | exact Drawn0.refl _ | apply Drawn0.step)⟩

/-! ### laws_twFacts: function 7 -/
def laws_twFacts.f (k : Nat) (a0_0 : Int) (l0_1 : List Int) (l0_2 : List Int) (a0_3 : Int) (a0_4 : Int) (a0_5 : Bool) (a0_6 : Bool) (l0_7 : List (S29)) (l0_8 : List (S29)) (l0_9 : List Int) (a1_0 : Int) (l1_1 : List Int) (l1_2 : List Int) (a1_3 : Int) (a1_4 : Int) (a1_5 : Bool) (a1_6 : Bool) (l1_7 : List (S29)) (l1_8 : List (S29)) (l1_9 : List Int) : Option (Bool) := if a0_0 = a1_0 then ((spec_TwInts.f k l0_1 l1_1).bind fun t217 => (if t217 = true then ((spec_TwInts.f k l0_2 l1_2).bind fun t218 => (if t218 = true then (if a0_3 = a1_3 then (if a0_4 = a1_4 then (if (a0_5 == a1_5) = true then (if (a0_6 == a1_6) = true then ((spec_TwPairs.f k l0_7 l1_7).bind fun t219 => (if t219 = true then ((spec_TwPairs.f k l0_8 l1_8).bind fun t220 => (if t220 = true then ((spec_TwInts.f k l0_9 l1_9).bind fun t221 => (some t221)) else (some false))) else (some false))) else (some false)) else (some false)) else (some false)) else (some false)) else (some false))) else (some false))) else (some false)
theorem laws_twFacts.mono : ∀ a0 a1 a2 a3 a4 a5 a6 a7 a8 a9 a10 a11 a12 a13 a14 a15 a16 a17 a18 a19 k, LeO (laws_twFacts.f k a0 a1 a2 a3 a4 a5 a6 a7 a8 a9 a10 a11 a12 a13 a14 a15 a16 a17 a18 a19) (laws_twFacts.f (k + 1) a0 a1 a2 a3 a4 a5 a6 a7 a8 a9 a10 a11 a12 a13 a14 a15 a16 a17 a18 a19) := by
  intro a0 a1 a2 a3 a4 a5 a6 a7 a8 a9 a10 a11 a12 a13 a14 a15 a16 a17 a18 a19 k
  unfold laws_twFacts.f
  repeat' first
      | (with_reducible exact spec_TwInts.mono _ _ _)
      | (with_reducible exact spec_TwPairs.mono _ _ _)
      | (with_reducible exact LeO.refl _)
      | (with_reducible exact LeO.none _)
      | (with_reducible refine LeO.ite ?_ ?_)
      | (with_reducible refine LeO.bind ?_ (fun _ => ?_))
      | exact spec_TwInts.mono _ _ _
      | exact spec_TwPairs.mono _ _ _
      | exact LeO.none _
      | refine LeO.ite ?_ ?_
      | refine LeO.bind ?_ (fun _ => ?_)
set_option maxHeartbeats 8000000 in
set_option maxRecDepth 100000 in
theorem laws_twFacts.calls (k : Nat) (a0_0 : Int) (A0_1 : Option Addr) (c0_1 : Nat) (l0_1 : List Int) (A0_2 : Option Addr) (c0_2 : Nat) (l0_2 : List Int) (a0_3 : Int) (a0_4 : Int) (a0_5 : Bool) (a0_6 : Bool) (A0_7 : Option Addr) (c0_7 : Nat) (l0_7 : List (S29)) (A0_8 : Option Addr) (c0_8 : Nat) (l0_8 : List (S29)) (A0_9 : Option Addr) (c0_9 : Nat) (l0_9 : List Int) (a1_0 : Int) (A1_1 : Option Addr) (c1_1 : Nat) (l1_1 : List Int) (A1_2 : Option Addr) (c1_2 : Nat) (l1_2 : List Int) (a1_3 : Int) (a1_4 : Int) (a1_5 : Bool) (a1_6 : Bool) (A1_7 : Option Addr) (c1_7 : Nat) (l1_7 : List (S29)) (A1_8 : Option Addr) (c1_8 : Nat) (l1_8 : List (S29)) (A1_9 : Option Addr) (c1_9 : Nat) (l1_9 : List Int) (r : Bool) (w : World) (hr0_1 : Kd.C (Kd.int .i64) w A0_1 l0_1.length l0_1) (hc0_1 : l0_1.length ≤ c0_1) (hr0_2 : Kd.C (Kd.int .i64) w A0_2 l0_2.length l0_2) (hc0_2 : l0_2.length ≤ c0_2) (hr0_7 : Kd.C k29 w A0_7 l0_7.length l0_7) (hc0_7 : l0_7.length ≤ c0_7) (hr0_8 : Kd.C k29 w A0_8 l0_8.length l0_8) (hc0_8 : l0_8.length ≤ c0_8) (hr0_9 : Kd.C (Kd.int .i64) w A0_9 l0_9.length l0_9) (hc0_9 : l0_9.length ≤ c0_9) (hr1_1 : Kd.C (Kd.int .i64) w A1_1 l1_1.length l1_1) (hc1_1 : l1_1.length ≤ c1_1) (hr1_2 : Kd.C (Kd.int .i64) w A1_2 l1_2.length l1_2) (hc1_2 : l1_2.length ≤ c1_2) (hr1_7 : Kd.C k29 w A1_7 l1_7.length l1_7) (hc1_7 : l1_7.length ≤ c1_7) (hr1_8 : Kd.C k29 w A1_8 l1_8.length l1_8) (hc1_8 : l1_8.length ≤ c1_8) (hr1_9 : Kd.C (Kd.int .i64) w A1_9 l1_9.length l1_9) (hc1_9 : l1_9.length ≤ c1_9) (h : laws_twFacts.f k a0_0 l0_1 l0_2 a0_3 a0_4 a0_5 a0_6 l0_7 l0_8 l0_9 a1_0 l1_1 l1_2 a1_3 a1_4 a1_5 a1_6 l1_7 l1_8 l1_9 = some r) :
    Calls Try.prog 7 #[.agg #[.int .i64 a0_0, .slice A0_1 l0_1.length c0_1, .slice A0_2 l0_2.length c0_2, .int .i64 a0_3, .int .i64 a0_4, .bool a0_5, .bool a0_6, .slice A0_7 l0_7.length c0_7, .slice A0_8 l0_8.length c0_8, .slice A0_9 l0_9.length c0_9], .agg #[.int .i64 a1_0, .slice A1_1 l1_1.length c1_1, .slice A1_2 l1_2.length c1_2, .int .i64 a1_3, .int .i64 a1_4, .bool a1_5, .bool a1_6, .slice A1_7 l1_7.length c1_7, .slice A1_8 l1_8.length c1_8, .slice A1_9 l1_9.length c1_9]] w fun e w' => e = .returned (.bool r) ∧ Below w.heap.size w w' := by
  have hu36 := Try.underlying36
  have HR0_1 := Aside0.mk hr0_1
  have HC0_1 := Aside0.mk hc0_1
  clear hr0_1 hc0_1
  have HR0_2 := Aside0.mk hr0_2
  have HC0_2 := Aside0.mk hc0_2
  clear hr0_2 hc0_2
  have HR0_7 := Aside0.mk hr0_7
  have HC0_7 := Aside0.mk hc0_7
  clear hr0_7 hc0_7
  have HR0_8 := Aside0.mk hr0_8
  have HC0_8 := Aside0.mk hc0_8
  clear hr0_8 hc0_8
  have HR0_9 := Aside0.mk hr0_9
  have HC0_9 := Aside0.mk hc0_9
  clear hr0_9 hc0_9
  have HR1_1 := Aside0.mk hr1_1
  have HC1_1 := Aside0.mk hc1_1
  clear hr1_1 hc1_1
  have HR1_2 := Aside0.mk hr1_2
  have HC1_2 := Aside0.mk hc1_2
  clear hr1_2 hc1_2
  have HR1_7 := Aside0.mk hr1_7
  have HC1_7 := Aside0.mk hc1_7
  clear hr1_7 hc1_7
  have HR1_8 := Aside0.mk hr1_8
  have HC1_8 := Aside0.mk hc1_8
  clear hr1_8 hc1_8
  have HR1_9 := Aside0.mk hr1_9
  have HC1_9 := Aside0.mk hc1_9
  clear hr1_9 hc1_9
  have HB := Aside0.mk (Below.refl w.heap.size w)
  have H : (if a0_0 = a1_0 then ((spec_TwInts.f k l0_1 l1_1).bind fun t217 => (if t217 = true then ((spec_TwInts.f k l0_2 l1_2).bind fun t218 => (if t218 = true then (if a0_3 = a1_3 then (if a0_4 = a1_4 then (if (a0_5 == a1_5) = true then (if (a0_6 == a1_6) = true then ((spec_TwPairs.f k l0_7 l1_7).bind fun t219 => (if t219 = true then ((spec_TwPairs.f k l0_8 l1_8).bind fun t220 => (if t220 = true then ((spec_TwInts.f k l0_9 l1_9).bind fun t221 => (some t221)) else (some false))) else (some false))) else (some false)) else (some false)) else (some false)) else (some false)) else (some false))) else (some false))) else (some false)) = some r := h
  clear h
  by_cases c3 : a0_0 = a1_0
  · rw [if_pos c3] at H
    have c3b0 : (a0_0 == a1_0) = true := beq_iff_eq.mpr c3
    have c3b1 : (a0_0 != a1_0) = false := bne_eq_false_iff_eq.mpr c3
    clear c3
    replace H := Option.bind_eq_some_iff.mp H
    obtain ⟨t217, A40, H⟩ := H
    replace H : (if t217 = true then ((spec_TwInts.f k l0_2 l1_2).bind fun t218 => (if t218 = true then (if a0_3 = a1_3 then (if a0_4 = a1_4 then (if (a0_5 == a1_5) = true then (if (a0_6 == a1_6) = true then ((spec_TwPairs.f k l0_7 l1_7).bind fun t219 => (if t219 = true then ((spec_TwPairs.f k l0_8 l1_8).bind fun t220 => (if t220 = true then ((spec_TwInts.f k l0_9 l1_9).bind fun t221 => (some t221)) else (some false))) else (some false))) else (some false)) else (some false)) else (some false)) else (some false)) else (some false))) else (some false)) = some r := H
    have A4 := Aside0.mk A40
    clear A40
    by_cases c5 : t217 = true
    · subst c5
      have H1 : ((spec_TwInts.f k l0_2 l1_2).bind fun t218 => (if t218 = true then (if a0_3 = a1_3 then (if a0_4 = a1_4 then (if (a0_5 == a1_5) = true then (if (a0_6 == a1_6) = true then ((spec_TwPairs.f k l0_7 l1_7).bind fun t219 => (if t219 = true then ((spec_TwPairs.f k l0_8 l1_8).bind fun t220 => (if t220 = true then ((spec_TwInts.f k l0_9 l1_9).bind fun t221 => (some t221)) else (some false))) else (some false))) else (some false)) else (some false)) else (some false)) else (some false)) else (some false))) = some r := by rw [if_pos rfl] at H; exact H
      clear H
      have H := H1
      clear H1
      replace H := Option.bind_eq_some_iff.mp H
      obtain ⟨t218, A60, H⟩ := H
      replace H : (if t218 = true then (if a0_3 = a1_3 then (if a0_4 = a1_4 then (if (a0_5 == a1_5) = true then (if (a0_6 == a1_6) = true then ((spec_TwPairs.f k l0_7 l1_7).bind fun t219 => (if t219 = true then ((spec_TwPairs.f k l0_8 l1_8).bind fun t220 => (if t220 = true then ((spec_TwInts.f k l0_9 l1_9).bind fun t221 => (some t221)) else (some false))) else (some false))) else (some false)) else (some false)) else (some false)) else (some false)) else (some false)) = some r := H
      have A6 := Aside0.mk A60
      clear A60
      by_cases c7 : t218 = true
      · subst c7
        have H1 : (if a0_3 = a1_3 then (if a0_4 = a1_4 then (if (a0_5 == a1_5) = true then (if (a0_6 == a1_6) = true then ((spec_TwPairs.f k l0_7 l1_7).bind fun t219 => (if t219 = true then ((spec_TwPairs.f k l0_8 l1_8).bind fun t220 => (if t220 = true then ((spec_TwInts.f k l0_9 l1_9).bind fun t221 => (some t221)) else (some false))) else (some false))) else (some false)) else (some false)) else (some false)) else (some false)) = some r := by rw [if_pos rfl] at H; exact H
        clear H
        have H := H1
        clear H1
        by_cases c8 : a0_3 = a1_3
        · rw [if_pos c8] at H
          have c8b0 : (a0_3 == a1_3) = true := beq_iff_eq.mpr c8
          have c8b1 : (a0_3 != a1_3) = false := bne_eq_false_iff_eq.mpr c8
          clear c8
          by_cases c9 : a0_4 = a1_4
          · rw [if_pos c9] at H
            have c9b0 : (a0_4 == a1_4) = true := beq_iff_eq.mpr c9
            have c9b1 : (a0_4 != a1_4) = false := bne_eq_false_iff_eq.mpr c9
            clear c9
            by_cases c10 : (a0_5 == a1_5) = true
            · rw [if_pos c10] at H
              have c10b0 : (a0_5 == a1_5) = true := c10
              (try (have c10b1 : decide (a0_5 = a1_5) = true := by simpa using c10))
              (try (have c10b2 : (a0_5 == a1_5) = true := by simpa using c10))
              clear c10
              by_cases c11 : (a0_6 == a1_6) = true
              · rw [if_pos c11] at H
                have c11b0 : (a0_6 == a1_6) = true := c11
                (try (have c11b1 : decide (a0_6 = a1_6) = true := by simpa using c11))
                (try (have c11b2 : (a0_6 == a1_6) = true := by simpa using c11))
                clear c11
                replace H := Option.bind_eq_some_iff.mp H
                obtain ⟨t219, A120, H⟩ := H
                replace H : (if t219 = true then ((spec_TwPairs.f k l0_8 l1_8).bind fun t220 => (if t220 = true then ((spec_TwInts.f k l0_9 l1_9).bind fun t221 => (some t221)) else (some false))) else (some false)) = some r := H
                have A12 := Aside0.mk A120
                clear A120
                by_cases c13 : t219 = true
                · subst c13
                  have H1 : ((spec_TwPairs.f k l0_8 l1_8).bind fun t220 => (if t220 = true then ((spec_TwInts.f k l0_9 l1_9).bind fun t221 => (some t221)) else (some false))) = some r := by rw [if_pos rfl] at H; exact H
                  clear H
                  have H := H1
                  clear H1
                  replace H := Option.bind_eq_some_iff.mp H
                  obtain ⟨t220, A140, H⟩ := H
                  replace H : (if t220 = true then ((spec_TwInts.f k l0_9 l1_9).bind fun t221 => (some t221)) else (some false)) = some r := H
                  have A14 := Aside0.mk A140
                  clear A140
                  by_cases c15 : t220 = true
                  · subst c15
                    have H1 : ((spec_TwInts.f k l0_9 l1_9).bind fun t221 => (some t221)) = some r := by rw [if_pos rfl] at H; exact H
                    clear H
                    have H := H1
                    clear H1
                    replace H := Option.bind_eq_some_iff.mp H
                    obtain ⟨t221, A160, H⟩ := H
                    replace H : (some t221) = some r := H
                    have A16 := Aside0.mk A160
                    clear A160
                    obtain rfl := Option.some.inj H
                    go_enter Try.func7, Try.ntmps7
                    go_wp2_with (first | ((with_reducible refine gate_dst (N := 2) rfl ?_); refine box_event ?hg (N := 2) ?hd (cs := #[.int .i64 a0_0, .slice A0_1 l0_1.length c0_1, .slice A0_2 l0_2.length c0_2, .int .i64 a0_3, .int .i64 a0_4, .bool a0_5, .bool a0_6, .slice A0_7 l0_7.length c0_7, .slice A0_8 l0_8.length c0_8, .slice A0_9 l0_9.length c0_9]) (t := 36) ?hr ?_; (case hd => rfl); (case hg => rfl); (case hr => first | (go_simp; done) | (go_simp; rfl)); intro gb215 hg w17 hbox hb; have n0_ := Aside0.mk (below_step (by repeat (first | (with_reducible first | exact HB.out | apply below_alloc | apply pw_below_drewN | apply below_drew1) | exact HB.out)) hb); have n1_ := Aside0.mk (hbox); have n2_ := Aside0.mk ((by rw [hg]; exact (below_size (by repeat (first | (with_reducible first | exact HB.out | apply below_alloc | apply pw_below_drewN | apply below_drew1) | exact HB.out))) : w.heap.size ≤ gb215)); have n3_ := Aside0.mk ((by rw [hg]; exact (below_size (by repeat (first | (with_reducible first | exact HB.out | apply below_alloc | apply pw_below_drewN | apply below_drew1) | exact HB.out))) : w.heap.size ≤ gb215)); clear HB; have HB := n0_; have BK215 := n1_; have GW215 := n2_; have GE215 := n3_; clear n0_ n1_ n2_ n3_; clear hb hbox hg) | ((with_reducible refine gate_dst (N := 3) rfl ?_); refine box_event ?hg (N := 3) ?hd (cs := #[.int .i64 a1_0, .slice A1_1 l1_1.length c1_1, .slice A1_2 l1_2.length c1_2, .int .i64 a1_3, .int .i64 a1_4, .bool a1_5, .bool a1_6, .slice A1_7 l1_7.length c1_7, .slice A1_8 l1_8.length c1_8, .slice A1_9 l1_9.length c1_9]) (t := 36) ?hr ?_; (case hd => rfl); (case hg => rfl); (case hr => first | (go_simp; done) | (go_simp; rfl)); intro gb216 hg w18 hbox hb; have n0_ := Aside0.mk (blk_below (g := gb215) (o := .cells #[.int .i64 a0_0, .slice A0_1 l0_1.length c0_1, .slice A0_2 l0_2.length c0_2, .int .i64 a0_3, .int .i64 a0_4, .bool a0_5, .bool a0_6, .slice A0_7 l0_7.length c0_7, .slice A0_8 l0_8.length c0_8, .slice A0_9 l0_9.length c0_9] 36 (0, 0)) (by (with_reducible repeat (first | refine blk_drewN ?_ _ | refine blk_drew ?_ | refine blk_alloc ?_ _)); exact BK215.out) hb); have n1_ := Aside0.mk (below_step (by repeat (first | (with_reducible first | exact HB.out | apply below_alloc | apply pw_below_drewN | apply below_drew1 | refine below_set ?_ GE215.out) | exact HB.out)) hb); have n2_ := Aside0.mk (hbox); have n3_ := Aside0.mk ((by rw [hg]; exact (below_size (by repeat (first | (with_reducible first | exact HB.out | apply below_alloc | apply pw_below_drewN | apply below_drew1 | refine below_set ?_ GE215.out) | exact HB.out))) : w.heap.size ≤ gb216)); have n4_ := Aside0.mk ((by rw [hg]; exact (below_size (by repeat (first | (with_reducible first | exact HB.out | apply below_alloc | apply pw_below_drewN | apply below_drew1 | refine below_set ?_ GE215.out) | exact HB.out))) : w.heap.size ≤ gb216)); have n5_ := Aside0.mk ((by rw [hg]; exact Nat.ne_of_lt (blk_lt (g := gb215) (o := .cells #[.int .i64 a0_0, .slice A0_1 l0_1.length c0_1, .slice A0_2 l0_2.length c0_2, .int .i64 a0_3, .int .i64 a0_4, .bool a0_5, .bool a0_6, .slice A0_7 l0_7.length c0_7, .slice A0_8 l0_8.length c0_8, .slice A0_9 l0_9.length c0_9] 36 (0, 0)) (by (with_reducible repeat (first | refine blk_drewN ?_ _ | refine blk_drew ?_ | refine blk_alloc ?_ _)); exact BK215.out)) : gb215 ≠ gb216)); have n6_ := Aside0.mk ((by rw [hg]; exact Nat.ne_of_gt (blk_lt (g := gb215) (o := .cells #[.int .i64 a0_0, .slice A0_1 l0_1.length c0_1, .slice A0_2 l0_2.length c0_2, .int .i64 a0_3, .int .i64 a0_4, .bool a0_5, .bool a0_6, .slice A0_7 l0_7.length c0_7, .slice A0_8 l0_8.length c0_8, .slice A0_9 l0_9.length c0_9] 36 (0, 0)) (by (with_reducible repeat (first | refine blk_drewN ?_ _ | refine blk_drew ?_ | refine blk_alloc ?_ _)); exact BK215.out)) : gb216 ≠ gb215)); clear BK215; clear HB; have BK215 := n0_; have HB := n1_; have BK216 := n2_; have GW216 := n3_; have GE216 := n4_; have NB215_216 := n5_; have NB216_215 := n6_; clear n0_ n1_ n2_ n3_ n4_ n5_ n6_; clear hb hbox hg; have hnb19 := NB215_216.out; have hnc19 := NB216_215.out; have hcz20_0 : w18.cell? ⟨gb215, 0, none⟩ = some (.int .i64 a0_0) := (blk_cell BK215.out 0).trans rfl; have hcz20_1 : w18.cell? ⟨gb215, 1, none⟩ = some (.slice A0_1 l0_1.length c0_1) := (blk_cell BK215.out 1).trans rfl; have hcz20_2 : w18.cell? ⟨gb215, 2, none⟩ = some (.slice A0_2 l0_2.length c0_2) := (blk_cell BK215.out 2).trans rfl; have hcz20_3 : w18.cell? ⟨gb215, 3, none⟩ = some (.int .i64 a0_3) := (blk_cell BK215.out 3).trans rfl; have hcz20_4 : w18.cell? ⟨gb215, 4, none⟩ = some (.int .i64 a0_4) := (blk_cell BK215.out 4).trans rfl; have hcz20_5 : w18.cell? ⟨gb215, 5, none⟩ = some (.bool a0_5) := (blk_cell BK215.out 5).trans rfl; have hcz20_6 : w18.cell? ⟨gb215, 6, none⟩ = some (.bool a0_6) := (blk_cell BK215.out 6).trans rfl; have hcz20_7 : w18.cell? ⟨gb215, 7, none⟩ = some (.slice A0_7 l0_7.length c0_7) := (blk_cell BK215.out 7).trans rfl; have hcz20_8 : w18.cell? ⟨gb215, 8, none⟩ = some (.slice A0_8 l0_8.length c0_8) := (blk_cell BK215.out 8).trans rfl; have hcz20_9 : w18.cell? ⟨gb215, 9, none⟩ = some (.slice A0_9 l0_9.length c0_9) := (blk_cell BK215.out 9).trans rfl; have hfz20_0 := blk_frozen BK215.out 0; have hfz20_1 := blk_frozen BK215.out 1; have hfz20_2 := blk_frozen BK215.out 2; have hfz20_3 := blk_frozen BK215.out 3; have hfz20_4 := blk_frozen BK215.out 4; have hfz20_5 := blk_frozen BK215.out 5; have hfz20_6 := blk_frozen BK215.out 6; have hfz20_7 := blk_frozen BK215.out 7; have hfz20_8 := blk_frozen BK215.out 8; have hfz20_9 := blk_frozen BK215.out 9; have hcz21_0 : w18.cell? ⟨gb216, 0, none⟩ = some (.int .i64 a1_0) := (blk_cell BK216.out 0).trans rfl; have hcz21_1 : w18.cell? ⟨gb216, 1, none⟩ = some (.slice A1_1 l1_1.length c1_1) := (blk_cell BK216.out 1).trans rfl; have hcz21_2 : w18.cell? ⟨gb216, 2, none⟩ = some (.slice A1_2 l1_2.length c1_2) := (blk_cell BK216.out 2).trans rfl; have hcz21_3 : w18.cell? ⟨gb216, 3, none⟩ = some (.int .i64 a1_3) := (blk_cell BK216.out 3).trans rfl; have hcz21_4 : w18.cell? ⟨gb216, 4, none⟩ = some (.int .i64 a1_4) := (blk_cell BK216.out 4).trans rfl; have hcz21_5 : w18.cell? ⟨gb216, 5, none⟩ = some (.bool a1_5) := (blk_cell BK216.out 5).trans rfl; have hcz21_6 : w18.cell? ⟨gb216, 6, none⟩ = some (.bool a1_6) := (blk_cell BK216.out 6).trans rfl; have hcz21_7 : w18.cell? ⟨gb216, 7, none⟩ = some (.slice A1_7 l1_7.length c1_7) := (blk_cell BK216.out 7).trans rfl; have hcz21_8 : w18.cell? ⟨gb216, 8, none⟩ = some (.slice A1_8 l1_8.length c1_8) := (blk_cell BK216.out 8).trans rfl; have hcz21_9 : w18.cell? ⟨gb216, 9, none⟩ = some (.slice A1_9 l1_9.length c1_9) := (blk_cell BK216.out 9).trans rfl; have hfz21_0 := blk_frozen BK216.out 0; have hfz21_1 := blk_frozen BK216.out 1; have hfz21_2 := blk_frozen BK216.out 2; have hfz21_3 := blk_frozen BK216.out 3; have hfz21_4 := blk_frozen BK216.out 4; have hfz21_5 := blk_frozen BK216.out 5; have hfz21_6 := blk_frozen BK216.out 6; have hfz21_7 := blk_frozen BK216.out 7; have hfz21_8 := blk_frozen BK216.out 8; have hfz21_9 := blk_frozen BK216.out 9) | (go_at_call 13; (with_reducible refine (spec_TwInts.calls k _ _ l0_1 _ _ l1_1 true _ ?side1 ?side2 ?side3 ?side4 A4.out).mono ?_); (case side1 => repeat (first | exact (Kd.C_below HR0_1.out HB.out) | (with_reducible refine Kd.C_alloc ?_ _) | (with_reducible refine Kd.C_drewN ?_ _) | (with_reducible refine Kd.C_drew ?_))); (case side2 => exact HC0_1.out); (case side3 => repeat (first | exact (Kd.C_below HR1_1.out HB.out) | (with_reducible refine Kd.C_alloc ?_ _) | (with_reducible refine Kd.C_drewN ?_ _) | (with_reducible refine Kd.C_drew ?_))); (case side4 => exact HC1_1.out); rintro e w' ⟨rfl, ⟨nd, rfl⟩⟩) | (go_at_call 13; (with_reducible refine (spec_TwInts.calls k _ _ l0_2 _ _ l1_2 true _ ?side1 ?side2 ?side3 ?side4 A6.out).mono ?_); (case side1 => repeat (first | exact (Kd.C_below HR0_2.out (by repeat (first | (with_reducible first | exact HB.out | apply below_alloc | apply pw_below_drewN | apply below_drew1 | refine below_set ?_ GE215.out | refine below_set ?_ GE216.out) | exact HB.out))) | (with_reducible refine Kd.C_alloc ?_ _) | (with_reducible refine Kd.C_drewN ?_ _) | (with_reducible refine Kd.C_drew ?_))); (case side2 => exact HC0_2.out); (case side3 => repeat (first | exact (Kd.C_below HR1_2.out (by repeat (first | (with_reducible first | exact HB.out | apply below_alloc | apply pw_below_drewN | apply below_drew1 | refine below_set ?_ GE215.out | refine below_set ?_ GE216.out) | exact HB.out))) | (with_reducible refine Kd.C_alloc ?_ _) | (with_reducible refine Kd.C_drewN ?_ _) | (with_reducible refine Kd.C_drew ?_))); (case side4 => exact HC1_2.out); rintro e w' ⟨rfl, ⟨nd, rfl⟩⟩) | (go_at_call 14; (with_reducible refine (spec_TwPairs.calls k _ _ l0_7 _ _ l1_7 true _ ?side1 ?side2 ?side3 ?side4 A12.out).mono ?_); (case side1 => repeat (first | exact (Kd.C_below HR0_7.out (by repeat (first | (with_reducible first | exact HB.out | apply below_alloc | apply pw_below_drewN | apply below_drew1 | refine below_set ?_ GE215.out | refine below_set ?_ GE216.out) | exact HB.out))) | (with_reducible refine Kd.C_alloc ?_ _) | (with_reducible refine Kd.C_drewN ?_ _) | (with_reducible refine Kd.C_drew ?_))); (case side2 => exact HC0_7.out); (case side3 => repeat (first | exact (Kd.C_below HR1_7.out (by repeat (first | (with_reducible first | exact HB.out | apply below_alloc | apply pw_below_drewN | apply below_drew1 | refine below_set ?_ GE215.out | refine below_set ?_ GE216.out) | exact HB.out))) | (with_reducible refine Kd.C_alloc ?_ _) | (with_reducible refine Kd.C_drewN ?_ _) | (with_reducible refine Kd.C_drew ?_))); (case side4 => exact HC1_7.out); rintro e w' ⟨rfl, ⟨nd, rfl⟩⟩) | (go_at_call 14; (with_reducible refine (spec_TwPairs.calls k _ _ l0_8 _ _ l1_8 true _ ?side1 ?side2 ?side3 ?side4 A14.out).mono ?_); (case side1 => repeat (first | exact (Kd.C_below HR0_8.out (by repeat (first | (with_reducible first | exact HB.out | apply below_alloc | apply pw_below_drewN | apply below_drew1 | refine below_set ?_ GE215.out | refine below_set ?_ GE216.out) | exact HB.out))) | (with_reducible refine Kd.C_alloc ?_ _) | (with_reducible refine Kd.C_drewN ?_ _) | (with_reducible refine Kd.C_drew ?_))); (case side2 => exact HC0_8.out); (case side3 => repeat (first | exact (Kd.C_below HR1_8.out (by repeat (first | (with_reducible first | exact HB.out | apply below_alloc | apply pw_below_drewN | apply below_drew1 | refine below_set ?_ GE215.out | refine below_set ?_ GE216.out) | exact HB.out))) | (with_reducible refine Kd.C_alloc ?_ _) | (with_reducible refine Kd.C_drewN ?_ _) | (with_reducible refine Kd.C_drew ?_))); (case side4 => exact HC1_8.out); rintro e w' ⟨rfl, ⟨nd, rfl⟩⟩) | (go_at_call 13; (with_reducible refine (spec_TwInts.calls k _ _ l0_9 _ _ l1_9 t221 _ ?side1 ?side2 ?side3 ?side4 A16.out).mono ?_); (case side1 => repeat (first | exact (Kd.C_below HR0_9.out (by repeat (first | (with_reducible first | exact HB.out | apply below_alloc | apply pw_below_drewN | apply below_drew1 | refine below_set ?_ GE215.out | refine below_set ?_ GE216.out) | exact HB.out))) | (with_reducible refine Kd.C_alloc ?_ _) | (with_reducible refine Kd.C_drewN ?_ _) | (with_reducible refine Kd.C_drew ?_))); (case side2 => exact HC0_9.out); (case side3 => repeat (first | exact (Kd.C_below HR1_9.out (by repeat (first | (with_reducible first | exact HB.out | apply below_alloc | apply pw_below_drewN | apply below_drew1 | refine below_set ?_ GE215.out | refine below_set ?_ GE216.out) | exact HB.out))) | (with_reducible refine Kd.C_alloc ?_ _) | (with_reducible refine Kd.C_drewN ?_ _) | (with_reducible refine Kd.C_drew ?_))); (case side4 => exact HC1_9.out); rintro e w' ⟨rfl, ⟨nd, rfl⟩⟩))
                    go_ret
                    exact ⟨by first | rfl | (simp [errW_none, errW_some] <;> rfl) | (simp [*, errW_none, errW_some] <;> rfl), by repeat (first | (with_reducible first | exact HB.out | apply below_alloc | apply pw_below_drewN | apply below_drew1 | refine below_set ?_ GE215.out | refine below_set ?_ GE216.out) | exact HB.out)⟩
                  · replace c15 := Bool.eq_false_iff.mpr c15
                    subst c15
                    have H1 : (some false) = some r := by rw [if_neg (show ¬ (false = true) by decide)] at H; exact H
                    clear H
                    have H := H1
                    clear H1
                    obtain rfl := Option.some.inj H
                    go_enter Try.func7, Try.ntmps7
                    go_wp2_with (first | ((with_reducible refine gate_dst (N := 2) rfl ?_); refine box_event ?hg (N := 2) ?hd (cs := #[.int .i64 a0_0, .slice A0_1 l0_1.length c0_1, .slice A0_2 l0_2.length c0_2, .int .i64 a0_3, .int .i64 a0_4, .bool a0_5, .bool a0_6, .slice A0_7 l0_7.length c0_7, .slice A0_8 l0_8.length c0_8, .slice A0_9 l0_9.length c0_9]) (t := 36) ?hr ?_; (case hd => rfl); (case hg => rfl); (case hr => first | (go_simp; done) | (go_simp; rfl)); intro gb215 hg w22 hbox hb; have n0_ := Aside0.mk (below_step (by repeat (first | (with_reducible first | exact HB.out | apply below_alloc | apply pw_below_drewN | apply below_drew1) | exact HB.out)) hb); have n1_ := Aside0.mk (hbox); have n2_ := Aside0.mk ((by rw [hg]; exact (below_size (by repeat (first | (with_reducible first | exact HB.out | apply below_alloc | apply pw_below_drewN | apply below_drew1) | exact HB.out))) : w.heap.size ≤ gb215)); have n3_ := Aside0.mk ((by rw [hg]; exact (below_size (by repeat (first | (with_reducible first | exact HB.out | apply below_alloc | apply pw_below_drewN | apply below_drew1) | exact HB.out))) : w.heap.size ≤ gb215)); clear HB; have HB := n0_; have BK215 := n1_; have GW215 := n2_; have GE215 := n3_; clear n0_ n1_ n2_ n3_; clear hb hbox hg) | ((with_reducible refine gate_dst (N := 3) rfl ?_); refine box_event ?hg (N := 3) ?hd (cs := #[.int .i64 a1_0, .slice A1_1 l1_1.length c1_1, .slice A1_2 l1_2.length c1_2, .int .i64 a1_3, .int .i64 a1_4, .bool a1_5, .bool a1_6, .slice A1_7 l1_7.length c1_7, .slice A1_8 l1_8.length c1_8, .slice A1_9 l1_9.length c1_9]) (t := 36) ?hr ?_; (case hd => rfl); (case hg => rfl); (case hr => first | (go_simp; done) | (go_simp; rfl)); intro gb216 hg w23 hbox hb; have n0_ := Aside0.mk (blk_below (g := gb215) (o := .cells #[.int .i64 a0_0, .slice A0_1 l0_1.length c0_1, .slice A0_2 l0_2.length c0_2, .int .i64 a0_3, .int .i64 a0_4, .bool a0_5, .bool a0_6, .slice A0_7 l0_7.length c0_7, .slice A0_8 l0_8.length c0_8, .slice A0_9 l0_9.length c0_9] 36 (0, 0)) (by (with_reducible repeat (first | refine blk_drewN ?_ _ | refine blk_drew ?_ | refine blk_alloc ?_ _)); exact BK215.out) hb); have n1_ := Aside0.mk (below_step (by repeat (first | (with_reducible first | exact HB.out | apply below_alloc | apply pw_below_drewN | apply below_drew1 | refine below_set ?_ GE215.out) | exact HB.out)) hb); have n2_ := Aside0.mk (hbox); have n3_ := Aside0.mk ((by rw [hg]; exact (below_size (by repeat (first | (with_reducible first | exact HB.out | apply below_alloc | apply pw_below_drewN | apply below_drew1 | refine below_set ?_ GE215.out) | exact HB.out))) : w.heap.size ≤ gb216)); have n4_ := Aside0.mk ((by rw [hg]; exact (below_size (by repeat (first | (with_reducible first | exact HB.out | apply below_alloc | apply pw_below_drewN | apply below_drew1 | refine below_set ?_ GE215.out) | exact HB.out))) : w.heap.size ≤ gb216)); have n5_ := Aside0.mk ((by rw [hg]; exact Nat.ne_of_lt (blk_lt (g := gb215) (o := .cells #[.int .i64 a0_0, .slice A0_1 l0_1.length c0_1, .slice A0_2 l0_2.length c0_2, .int .i64 a0_3, .int .i64 a0_4, .bool a0_5, .bool a0_6, .slice A0_7 l0_7.length c0_7, .slice A0_8 l0_8.length c0_8, .slice A0_9 l0_9.length c0_9] 36 (0, 0)) (by (with_reducible repeat (first | refine blk_drewN ?_ _ | refine blk_drew ?_ | refine blk_alloc ?_ _)); exact BK215.out)) : gb215 ≠ gb216)); have n6_ := Aside0.mk ((by rw [hg]; exact Nat.ne_of_gt (blk_lt (g := gb215) (o := .cells #[.int .i64 a0_0, .slice A0_1 l0_1.length c0_1, .slice A0_2 l0_2.length c0_2, .int .i64 a0_3, .int .i64 a0_4, .bool a0_5, .bool a0_6, .slice A0_7 l0_7.length c0_7, .slice A0_8 l0_8.length c0_8, .slice A0_9 l0_9.length c0_9] 36 (0, 0)) (by (with_reducible repeat (first | refine blk_drewN ?_ _ | refine blk_drew ?_ | refine blk_alloc ?_ _)); exact BK215.out)) : gb216 ≠ gb215)); clear BK215; clear HB; have BK215 := n0_; have HB := n1_; have BK216 := n2_; have GW216 := n3_; have GE216 := n4_; have NB215_216 := n5_; have NB216_215 := n6_; clear n0_ n1_ n2_ n3_ n4_ n5_ n6_; clear hb hbox hg; have hnb24 := NB215_216.out; have hnc24 := NB216_215.out; have hcz25_0 : w23.cell? ⟨gb215, 0, none⟩ = some (.int .i64 a0_0) := (blk_cell BK215.out 0).trans rfl; have hcz25_1 : w23.cell? ⟨gb215, 1, none⟩ = some (.slice A0_1 l0_1.length c0_1) := (blk_cell BK215.out 1).trans rfl; have hcz25_2 : w23.cell? ⟨gb215, 2, none⟩ = some (.slice A0_2 l0_2.length c0_2) := (blk_cell BK215.out 2).trans rfl; have hcz25_3 : w23.cell? ⟨gb215, 3, none⟩ = some (.int .i64 a0_3) := (blk_cell BK215.out 3).trans rfl; have hcz25_4 : w23.cell? ⟨gb215, 4, none⟩ = some (.int .i64 a0_4) := (blk_cell BK215.out 4).trans rfl; have hcz25_5 : w23.cell? ⟨gb215, 5, none⟩ = some (.bool a0_5) := (blk_cell BK215.out 5).trans rfl; have hcz25_6 : w23.cell? ⟨gb215, 6, none⟩ = some (.bool a0_6) := (blk_cell BK215.out 6).trans rfl; have hcz25_7 : w23.cell? ⟨gb215, 7, none⟩ = some (.slice A0_7 l0_7.length c0_7) := (blk_cell BK215.out 7).trans rfl; have hcz25_8 : w23.cell? ⟨gb215, 8, none⟩ = some (.slice A0_8 l0_8.length c0_8) := (blk_cell BK215.out 8).trans rfl; have hcz25_9 : w23.cell? ⟨gb215, 9, none⟩ = some (.slice A0_9 l0_9.length c0_9) := (blk_cell BK215.out 9).trans rfl; have hfz25_0 := blk_frozen BK215.out 0; have hfz25_1 := blk_frozen BK215.out 1; have hfz25_2 := blk_frozen BK215.out 2; have hfz25_3 := blk_frozen BK215.out 3; have hfz25_4 := blk_frozen BK215.out 4; have hfz25_5 := blk_frozen BK215.out 5; have hfz25_6 := blk_frozen BK215.out 6; have hfz25_7 := blk_frozen BK215.out 7; have hfz25_8 := blk_frozen BK215.out 8; have hfz25_9 := blk_frozen BK215.out 9; have hcz26_0 : w23.cell? ⟨gb216, 0, none⟩ = some (.int .i64 a1_0) := (blk_cell BK216.out 0).trans rfl; have hcz26_1 : w23.cell? ⟨gb216, 1, none⟩ = some (.slice A1_1 l1_1.length c1_1) := (blk_cell BK216.out 1).trans rfl; have hcz26_2 : w23.cell? ⟨gb216, 2, none⟩ = some (.slice A1_2 l1_2.length c1_2) := (blk_cell BK216.out 2).trans rfl; have hcz26_3 : w23.cell? ⟨gb216, 3, none⟩ = some (.int .i64 a1_3) := (blk_cell BK216.out 3).trans rfl; have hcz26_4 : w23.cell? ⟨gb216, 4, none⟩ = some (.int .i64 a1_4) := (blk_cell BK216.out 4).trans rfl; have hcz26_5 : w23.cell? ⟨gb216, 5, none⟩ = some (.bool a1_5) := (blk_cell BK216.out 5).trans rfl; have hcz26_6 : w23.cell? ⟨gb216, 6, none⟩ = some (.bool a1_6) := (blk_cell BK216.out 6).trans rfl; have hcz26_7 : w23.cell? ⟨gb216, 7, none⟩ = some (.slice A1_7 l1_7.length c1_7) := (blk_cell BK216.out 7).trans rfl; have hcz26_8 : w23.cell? ⟨gb216, 8, none⟩ = some (.slice A1_8 l1_8.length c1_8) := (blk_cell BK216.out 8).trans rfl; have hcz26_9 : w23.cell? ⟨gb216, 9, none⟩ = some (.slice A1_9 l1_9.length c1_9) := (blk_cell BK216.out 9).trans rfl; have hfz26_0 := blk_frozen BK216.out 0; have hfz26_1 := blk_frozen BK216.out 1; have hfz26_2 := blk_frozen BK216.out 2; have hfz26_3 := blk_frozen BK216.out 3; have hfz26_4 := blk_frozen BK216.out 4; have hfz26_5 := blk_frozen BK216.out 5; have hfz26_6 := blk_frozen BK216.out 6; have hfz26_7 := blk_frozen BK216.out 7; have hfz26_8 := blk_frozen BK216.out 8; have hfz26_9 := blk_frozen BK216.out 9) | (go_at_call 13; (with_reducible refine (spec_TwInts.calls k _ _ l0_1 _ _ l1_1 true _ ?side1 ?side2 ?side3 ?side4 A4.out).mono ?_); (case side1 => repeat (first | exact (Kd.C_below HR0_1.out HB.out) | (with_reducible refine Kd.C_alloc ?_ _) | (with_reducible refine Kd.C_drewN ?_ _) | (with_reducible refine Kd.C_drew ?_))); (case side2 => exact HC0_1.out); (case side3 => repeat (first | exact (Kd.C_below HR1_1.out HB.out) | (with_reducible refine Kd.C_alloc ?_ _) | (with_reducible refine Kd.C_drewN ?_ _) | (with_reducible refine Kd.C_drew ?_))); (case side4 => exact HC1_1.out); rintro e w' ⟨rfl, ⟨nd, rfl⟩⟩) | (go_at_call 13; (with_reducible refine (spec_TwInts.calls k _ _ l0_2 _ _ l1_2 true _ ?side1 ?side2 ?side3 ?side4 A6.out).mono ?_); (case side1 => repeat (first | exact (Kd.C_below HR0_2.out (by repeat (first | (with_reducible first | exact HB.out | apply below_alloc | apply pw_below_drewN | apply below_drew1 | refine below_set ?_ GE215.out | refine below_set ?_ GE216.out) | exact HB.out))) | (with_reducible refine Kd.C_alloc ?_ _) | (with_reducible refine Kd.C_drewN ?_ _) | (with_reducible refine Kd.C_drew ?_))); (case side2 => exact HC0_2.out); (case side3 => repeat (first | exact (Kd.C_below HR1_2.out (by repeat (first | (with_reducible first | exact HB.out | apply below_alloc | apply pw_below_drewN | apply below_drew1 | refine below_set ?_ GE215.out | refine below_set ?_ GE216.out) | exact HB.out))) | (with_reducible refine Kd.C_alloc ?_ _) | (with_reducible refine Kd.C_drewN ?_ _) | (with_reducible refine Kd.C_drew ?_))); (case side4 => exact HC1_2.out); rintro e w' ⟨rfl, ⟨nd, rfl⟩⟩) | (go_at_call 14; (with_reducible refine (spec_TwPairs.calls k _ _ l0_7 _ _ l1_7 true _ ?side1 ?side2 ?side3 ?side4 A12.out).mono ?_); (case side1 => repeat (first | exact (Kd.C_below HR0_7.out (by repeat (first | (with_reducible first | exact HB.out | apply below_alloc | apply pw_below_drewN | apply below_drew1 | refine below_set ?_ GE215.out | refine below_set ?_ GE216.out) | exact HB.out))) | (with_reducible refine Kd.C_alloc ?_ _) | (with_reducible refine Kd.C_drewN ?_ _) | (with_reducible refine Kd.C_drew ?_))); (case side2 => exact HC0_7.out); (case side3 => repeat (first | exact (Kd.C_below HR1_7.out (by repeat (first | (with_reducible first | exact HB.out | apply below_alloc | apply pw_below_drewN | apply below_drew1 | refine below_set ?_ GE215.out | refine below_set ?_ GE216.out) | exact HB.out))) | (with_reducible refine Kd.C_alloc ?_ _) | (with_reducible refine Kd.C_drewN ?_ _) | (with_reducible refine Kd.C_drew ?_))); (case side4 => exact HC1_7.out); rintro e w' ⟨rfl, ⟨nd, rfl⟩⟩) | (go_at_call 14; (with_reducible refine (spec_TwPairs.calls k _ _ l0_8 _ _ l1_8 false _ ?side1 ?side2 ?side3 ?side4 A14.out).mono ?_); (case side1 => repeat (first | exact (Kd.C_below HR0_8.out (by repeat (first | (with_reducible first | exact HB.out | apply below_alloc | apply pw_below_drewN | apply below_drew1 | refine below_set ?_ GE215.out | refine below_set ?_ GE216.out) | exact HB.out))) | (with_reducible refine Kd.C_alloc ?_ _) | (with_reducible refine Kd.C_drewN ?_ _) | (with_reducible refine Kd.C_drew ?_))); (case side2 => exact HC0_8.out); (case side3 => repeat (first | exact (Kd.C_below HR1_8.out (by repeat (first | (with_reducible first | exact HB.out | apply below_alloc | apply pw_below_drewN | apply below_drew1 | refine below_set ?_ GE215.out | refine below_set ?_ GE216.out) | exact HB.out))) | (with_reducible refine Kd.C_alloc ?_ _) | (with_reducible refine Kd.C_drewN ?_ _) | (with_reducible refine Kd.C_drew ?_))); (case side4 => exact HC1_8.out); rintro e w' ⟨rfl, ⟨nd, rfl⟩⟩))
                    go_ret
                    exact ⟨by first | rfl | (simp [errW_none, errW_some] <;> rfl) | (simp [*, errW_none, errW_some] <;> rfl), by repeat (first | (with_reducible first | exact HB.out | apply below_alloc | apply pw_below_drewN | apply below_drew1 | refine below_set ?_ GE215.out | refine below_set ?_ GE216.out) | exact HB.out)⟩
                · replace c13 := Bool.eq_false_iff.mpr c13
                  subst c13
                  have H1 : (some false) = some r := by rw [if_neg (show ¬ (false = true) by decide)] at H; exact H
                  clear H
                  have H := H1
                  clear H1
                  obtain rfl := Option.some.inj H
                  go_enter Try.func7, Try.ntmps7
                  go_wp2_with (first | ((with_reducible refine gate_dst (N := 2) rfl ?_); refine box_event ?hg (N := 2) ?hd (cs := #[.int .i64 a0_0, .slice A0_1 l0_1.length c0_1, .slice A0_2 l0_2.length c0_2, .int .i64 a0_3, .int .i64 a0_4, .bool a0_5, .bool a0_6, .slice A0_7 l0_7.length c0_7, .slice A0_8 l0_8.length c0_8, .slice A0_9 l0_9.length c0_9]) (t := 36) ?hr ?_; (case hd => rfl); (case hg => rfl); (case hr => first | (go_simp; done) | (go_simp; rfl)); intro gb215 hg w27 hbox hb; have n0_ := Aside0.mk (below_step (by repeat (first | (with_reducible first | exact HB.out | apply below_alloc | apply pw_below_drewN | apply below_drew1) | exact HB.out)) hb); have n1_ := Aside0.mk (hbox); have n2_ := Aside0.mk ((by rw [hg]; exact (below_size (by repeat (first | (with_reducible first | exact HB.out | apply below_alloc | apply pw_below_drewN | apply below_drew1) | exact HB.out))) : w.heap.size ≤ gb215)); have n3_ := Aside0.mk ((by rw [hg]; exact (below_size (by repeat (first | (with_reducible first | exact HB.out | apply below_alloc | apply pw_below_drewN | apply below_drew1) | exact HB.out))) : w.heap.size ≤ gb215)); clear HB; have HB := n0_; have BK215 := n1_; have GW215 := n2_; have GE215 := n3_; clear n0_ n1_ n2_ n3_; clear hb hbox hg) | ((with_reducible refine gate_dst (N := 3) rfl ?_); refine box_event ?hg (N := 3) ?hd (cs := #[.int .i64 a1_0, .slice A1_1 l1_1.length c1_1, .slice A1_2 l1_2.length c1_2, .int .i64 a1_3, .int .i64 a1_4, .bool a1_5, .bool a1_6, .slice A1_7 l1_7.length c1_7, .slice A1_8 l1_8.length c1_8, .slice A1_9 l1_9.length c1_9]) (t := 36) ?hr ?_; (case hd => rfl); (case hg => rfl); (case hr => first | (go_simp; done) | (go_simp; rfl)); intro gb216 hg w28 hbox hb; have n0_ := Aside0.mk (blk_below (g := gb215) (o := .cells #[.int .i64 a0_0, .slice A0_1 l0_1.length c0_1, .slice A0_2 l0_2.length c0_2, .int .i64 a0_3, .int .i64 a0_4, .bool a0_5, .bool a0_6, .slice A0_7 l0_7.length c0_7, .slice A0_8 l0_8.length c0_8, .slice A0_9 l0_9.length c0_9] 36 (0, 0)) (by (with_reducible repeat (first | refine blk_drewN ?_ _ | refine blk_drew ?_ | refine blk_alloc ?_ _)); exact BK215.out) hb); have n1_ := Aside0.mk (below_step (by repeat (first | (with_reducible first | exact HB.out | apply below_alloc | apply pw_below_drewN | apply below_drew1 | refine below_set ?_ GE215.out) | exact HB.out)) hb); have n2_ := Aside0.mk (hbox); have n3_ := Aside0.mk ((by rw [hg]; exact (below_size (by repeat (first | (with_reducible first | exact HB.out | apply below_alloc | apply pw_below_drewN | apply below_drew1 | refine below_set ?_ GE215.out) | exact HB.out))) : w.heap.size ≤ gb216)); have n4_ := Aside0.mk ((by rw [hg]; exact (below_size (by repeat (first | (with_reducible first | exact HB.out | apply below_alloc | apply pw_below_drewN | apply below_drew1 | refine below_set ?_ GE215.out) | exact HB.out))) : w.heap.size ≤ gb216)); have n5_ := Aside0.mk ((by rw [hg]; exact Nat.ne_of_lt (blk_lt (g := gb215) (o := .cells #[.int .i64 a0_0, .slice A0_1 l0_1.length c0_1, .slice A0_2 l0_2.length c0_2, .int .i64 a0_3, .int .i64 a0_4, .bool a0_5, .bool a0_6, .slice A0_7 l0_7.length c0_7, .slice A0_8 l0_8.length c0_8, .slice A0_9 l0_9.length c0_9] 36 (0, 0)) (by (with_reducible repeat (first | refine blk_drewN ?_ _ | refine blk_drew ?_ | refine blk_alloc ?_ _)); exact BK215.out)) : gb215 ≠ gb216)); have n6_ := Aside0.mk ((by rw [hg]; exact Nat.ne_of_gt (blk_lt (g := gb215) (o := .cells #[.int .i64 a0_0, .slice A0_1 l0_1.length c0_1, .slice A0_2 l0_2.length c0_2, .int .i64 a0_3, .int .i64 a0_4, .bool a0_5, .bool a0_6, .slice A0_7 l0_7.length c0_7, .slice A0_8 l0_8.length c0_8, .slice A0_9 l0_9.length c0_9] 36 (0, 0)) (by (with_reducible repeat (first | refine blk_drewN ?_ _ | refine blk_drew ?_ | refine blk_alloc ?_ _)); exact BK215.out)) : gb216 ≠ gb215)); clear BK215; clear HB; have BK215 := n0_; have HB := n1_; have BK216 := n2_; have GW216 := n3_; have GE216 := n4_; have NB215_216 := n5_; have NB216_215 := n6_; clear n0_ n1_ n2_ n3_ n4_ n5_ n6_; clear hb hbox hg; have hnb29 := NB215_216.out; have hnc29 := NB216_215.out; have hcz30_0 : w28.cell? ⟨gb215, 0, none⟩ = some (.int .i64 a0_0) := (blk_cell BK215.out 0).trans rfl; have hcz30_1 : w28.cell? ⟨gb215, 1, none⟩ = some (.slice A0_1 l0_1.length c0_1) := (blk_cell BK215.out 1).trans rfl; have hcz30_2 : w28.cell? ⟨gb215, 2, none⟩ = some (.slice A0_2 l0_2.length c0_2) := (blk_cell BK215.out 2).trans rfl; have hcz30_3 : w28.cell? ⟨gb215, 3, none⟩ = some (.int .i64 a0_3) := (blk_cell BK215.out 3).trans rfl; have hcz30_4 : w28.cell? ⟨gb215, 4, none⟩ = some (.int .i64 a0_4) := (blk_cell BK215.out 4).trans rfl; have hcz30_5 : w28.cell? ⟨gb215, 5, none⟩ = some (.bool a0_5) := (blk_cell BK215.out 5).trans rfl; have hcz30_6 : w28.cell? ⟨gb215, 6, none⟩ = some (.bool a0_6) := (blk_cell BK215.out 6).trans rfl; have hcz30_7 : w28.cell? ⟨gb215, 7, none⟩ = some (.slice A0_7 l0_7.length c0_7) := (blk_cell BK215.out 7).trans rfl; have hcz30_8 : w28.cell? ⟨gb215, 8, none⟩ = some (.slice A0_8 l0_8.length c0_8) := (blk_cell BK215.out 8).trans rfl; have hcz30_9 : w28.cell? ⟨gb215, 9, none⟩ = some (.slice A0_9 l0_9.length c0_9) := (blk_cell BK215.out 9).trans rfl; have hfz30_0 := blk_frozen BK215.out 0; have hfz30_1 := blk_frozen BK215.out 1; have hfz30_2 := blk_frozen BK215.out 2; have hfz30_3 := blk_frozen BK215.out 3; have hfz30_4 := blk_frozen BK215.out 4; have hfz30_5 := blk_frozen BK215.out 5; have hfz30_6 := blk_frozen BK215.out 6; have hfz30_7 := blk_frozen BK215.out 7; have hfz30_8 := blk_frozen BK215.out 8; have hfz30_9 := blk_frozen BK215.out 9; have hcz31_0 : w28.cell? ⟨gb216, 0, none⟩ = some (.int .i64 a1_0) := (blk_cell BK216.out 0).trans rfl; have hcz31_1 : w28.cell? ⟨gb216, 1, none⟩ = some (.slice A1_1 l1_1.length c1_1) := (blk_cell BK216.out 1).trans rfl; have hcz31_2 : w28.cell? ⟨gb216, 2, none⟩ = some (.slice A1_2 l1_2.length c1_2) := (blk_cell BK216.out 2).trans rfl; have hcz31_3 : w28.cell? ⟨gb216, 3, none⟩ = some (.int .i64 a1_3) := (blk_cell BK216.out 3).trans rfl; have hcz31_4 : w28.cell? ⟨gb216, 4, none⟩ = some (.int .i64 a1_4) := (blk_cell BK216.out 4).trans rfl; have hcz31_5 : w28.cell? ⟨gb216, 5, none⟩ = some (.bool a1_5) := (blk_cell BK216.out 5).trans rfl; have hcz31_6 : w28.cell? ⟨gb216, 6, none⟩ = some (.bool a1_6) := (blk_cell BK216.out 6).trans rfl; have hcz31_7 : w28.cell? ⟨gb216, 7, none⟩ = some (.slice A1_7 l1_7.length c1_7) := (blk_cell BK216.out 7).trans rfl; have hcz31_8 : w28.cell? ⟨gb216, 8, none⟩ = some (.slice A1_8 l1_8.length c1_8) := (blk_cell BK216.out 8).trans rfl; have hcz31_9 : w28.cell? ⟨gb216, 9, none⟩ = some (.slice A1_9 l1_9.length c1_9) := (blk_cell BK216.out 9).trans rfl; have hfz31_0 := blk_frozen BK216.out 0; have hfz31_1 := blk_frozen BK216.out 1; have hfz31_2 := blk_frozen BK216.out 2; have hfz31_3 := blk_frozen BK216.out 3; have hfz31_4 := blk_frozen BK216.out 4; have hfz31_5 := blk_frozen BK216.out 5; have hfz31_6 := blk_frozen BK216.out 6; have hfz31_7 := blk_frozen BK216.out 7; have hfz31_8 := blk_frozen BK216.out 8; have hfz31_9 := blk_frozen BK216.out 9) | (go_at_call 13; (with_reducible refine (spec_TwInts.calls k _ _ l0_1 _ _ l1_1 true _ ?side1 ?side2 ?side3 ?side4 A4.out).mono ?_); (case side1 => repeat (first | exact (Kd.C_below HR0_1.out HB.out) | (with_reducible refine Kd.C_alloc ?_ _) | (with_reducible refine Kd.C_drewN ?_ _) | (with_reducible refine Kd.C_drew ?_))); (case side2 => exact HC0_1.out); (case side3 => repeat (first | exact (Kd.C_below HR1_1.out HB.out) | (with_reducible refine Kd.C_alloc ?_ _) | (with_reducible refine Kd.C_drewN ?_ _) | (with_reducible refine Kd.C_drew ?_))); (case side4 => exact HC1_1.out); rintro e w' ⟨rfl, ⟨nd, rfl⟩⟩) | (go_at_call 13; (with_reducible refine (spec_TwInts.calls k _ _ l0_2 _ _ l1_2 true _ ?side1 ?side2 ?side3 ?side4 A6.out).mono ?_); (case side1 => repeat (first | exact (Kd.C_below HR0_2.out (by repeat (first | (with_reducible first | exact HB.out | apply below_alloc | apply pw_below_drewN | apply below_drew1 | refine below_set ?_ GE215.out | refine below_set ?_ GE216.out) | exact HB.out))) | (with_reducible refine Kd.C_alloc ?_ _) | (with_reducible refine Kd.C_drewN ?_ _) | (with_reducible refine Kd.C_drew ?_))); (case side2 => exact HC0_2.out); (case side3 => repeat (first | exact (Kd.C_below HR1_2.out (by repeat (first | (with_reducible first | exact HB.out | apply below_alloc | apply pw_below_drewN | apply below_drew1 | refine below_set ?_ GE215.out | refine below_set ?_ GE216.out) | exact HB.out))) | (with_reducible refine Kd.C_alloc ?_ _) | (with_reducible refine Kd.C_drewN ?_ _) | (with_reducible refine Kd.C_drew ?_))); (case side4 => exact HC1_2.out); rintro e w' ⟨rfl, ⟨nd, rfl⟩⟩) | (go_at_call 14; (with_reducible refine (spec_TwPairs.calls k _ _ l0_7 _ _ l1_7 false _ ?side1 ?side2 ?side3 ?side4 A12.out).mono ?_); (case side1 => repeat (first | exact (Kd.C_below HR0_7.out (by repeat (first | (with_reducible first | exact HB.out | apply below_alloc | apply pw_below_drewN | apply below_drew1 | refine below_set ?_ GE215.out | refine below_set ?_ GE216.out) | exact HB.out))) | (with_reducible refine Kd.C_alloc ?_ _) | (with_reducible refine Kd.C_drewN ?_ _) | (with_reducible refine Kd.C_drew ?_))); (case side2 => exact HC0_7.out); (case side3 => repeat (first | exact (Kd.C_below HR1_7.out (by repeat (first | (with_reducible first | exact HB.out | apply below_alloc | apply pw_below_drewN | apply below_drew1 | refine below_set ?_ GE215.out | refine below_set ?_ GE216.out) | exact HB.out))) | (with_reducible refine Kd.C_alloc ?_ _) | (with_reducible refine Kd.C_drewN ?_ _) | (with_reducible refine Kd.C_drew ?_))); (case side4 => exact HC1_7.out); rintro e w' ⟨rfl, ⟨nd, rfl⟩⟩))
                  go_ret
                  exact ⟨by first | rfl | (simp [errW_none, errW_some] <;> rfl) | (simp [*, errW_none, errW_some] <;> rfl), by repeat (first | (with_reducible first | exact HB.out | apply below_alloc | apply pw_below_drewN | apply below_drew1 | refine below_set ?_ GE215.out | refine below_set ?_ GE216.out) | exact HB.out)⟩
              · rw [if_neg c11] at H
                have c11b0 : (a0_6 == a1_6) = false := by simpa using c11
                (try (have c11b1 : decide (a0_6 = a1_6) = false := by simpa using c11))
                (try (have c11b2 : (a0_6 == a1_6) = false := by simpa using c11))
                (try (have c11b3 : ¬ (a0_6 = a1_6) := by simpa using c11))
                clear c11
                obtain rfl := Option.some.inj H
                go_enter Try.func7, Try.ntmps7
                go_wp2_with (first | ((with_reducible refine gate_dst (N := 2) rfl ?_); refine box_event ?hg (N := 2) ?hd (cs := #[.int .i64 a0_0, .slice A0_1 l0_1.length c0_1, .slice A0_2 l0_2.length c0_2, .int .i64 a0_3, .int .i64 a0_4, .bool a0_5, .bool a0_6, .slice A0_7 l0_7.length c0_7, .slice A0_8 l0_8.length c0_8, .slice A0_9 l0_9.length c0_9]) (t := 36) ?hr ?_; (case hd => rfl); (case hg => rfl); (case hr => first | (go_simp; done) | (go_simp; rfl)); intro gb215 hg w32 hbox hb; have n0_ := Aside0.mk (below_step (by repeat (first | (with_reducible first | exact HB.out | apply below_alloc | apply pw_below_drewN | apply below_drew1) | exact HB.out)) hb); have n1_ := Aside0.mk (hbox); have n2_ := Aside0.mk ((by rw [hg]; exact (below_size (by repeat (first | (with_reducible first | exact HB.out | apply below_alloc | apply pw_below_drewN | apply below_drew1) | exact HB.out))) : w.heap.size ≤ gb215)); have n3_ := Aside0.mk ((by rw [hg]; exact (below_size (by repeat (first | (with_reducible first | exact HB.out | apply below_alloc | apply pw_below_drewN | apply below_drew1) | exact HB.out))) : w.heap.size ≤ gb215)); clear HB; have HB := n0_; have BK215 := n1_; have GW215 := n2_; have GE215 := n3_; clear n0_ n1_ n2_ n3_; clear hb hbox hg) | ((with_reducible refine gate_dst (N := 3) rfl ?_); refine box_event ?hg (N := 3) ?hd (cs := #[.int .i64 a1_0, .slice A1_1 l1_1.length c1_1, .slice A1_2 l1_2.length c1_2, .int .i64 a1_3, .int .i64 a1_4, .bool a1_5, .bool a1_6, .slice A1_7 l1_7.length c1_7, .slice A1_8 l1_8.length c1_8, .slice A1_9 l1_9.length c1_9]) (t := 36) ?hr ?_; (case hd => rfl); (case hg => rfl); (case hr => first | (go_simp; done) | (go_simp; rfl)); intro gb216 hg w33 hbox hb; have n0_ := Aside0.mk (blk_below (g := gb215) (o := .cells #[.int .i64 a0_0, .slice A0_1 l0_1.length c0_1, .slice A0_2 l0_2.length c0_2, .int .i64 a0_3, .int .i64 a0_4, .bool a0_5, .bool a0_6, .slice A0_7 l0_7.length c0_7, .slice A0_8 l0_8.length c0_8, .slice A0_9 l0_9.length c0_9] 36 (0, 0)) (by (with_reducible repeat (first | refine blk_drewN ?_ _ | refine blk_drew ?_ | refine blk_alloc ?_ _)); exact BK215.out) hb); have n1_ := Aside0.mk (below_step (by repeat (first | (with_reducible first | exact HB.out | apply below_alloc | apply pw_below_drewN | apply below_drew1 | refine below_set ?_ GE215.out) | exact HB.out)) hb); have n2_ := Aside0.mk (hbox); have n3_ := Aside0.mk ((by rw [hg]; exact (below_size (by repeat (first | (with_reducible first | exact HB.out | apply below_alloc | apply pw_below_drewN | apply below_drew1 | refine below_set ?_ GE215.out) | exact HB.out))) : w.heap.size ≤ gb216)); have n4_ := Aside0.mk ((by rw [hg]; exact (below_size (by repeat (first | (with_reducible first | exact HB.out | apply below_alloc | apply pw_below_drewN | apply below_drew1 | refine below_set ?_ GE215.out) | exact HB.out))) : w.heap.size ≤ gb216)); have n5_ := Aside0.mk ((by rw [hg]; exact Nat.ne_of_lt (blk_lt (g := gb215) (o := .cells #[.int .i64 a0_0, .slice A0_1 l0_1.length c0_1, .slice A0_2 l0_2.length c0_2, .int .i64 a0_3, .int .i64 a0_4, .bool a0_5, .bool a0_6, .slice A0_7 l0_7.length c0_7, .slice A0_8 l0_8.length c0_8, .slice A0_9 l0_9.length c0_9] 36 (0, 0)) (by (with_reducible repeat (first | refine blk_drewN ?_ _ | refine blk_drew ?_ | refine blk_alloc ?_ _)); exact BK215.out)) : gb215 ≠ gb216)); have n6_ := Aside0.mk ((by rw [hg]; exact Nat.ne_of_gt (blk_lt (g := gb215) (o := .cells #[.int .i64 a0_0, .slice A0_1 l0_1.length c0_1, .slice A0_2 l0_2.length c0_2, .int .i64 a0_3, .int .i64 a0_4, .bool a0_5, .bool a0_6, .slice A0_7 l0_7.length c0_7, .slice A0_8 l0_8.length c0_8, .slice A0_9 l0_9.length c0_9] 36 (0, 0)) (by (with_reducible repeat (first | refine blk_drewN ?_ _ | refine blk_drew ?_ | refine blk_alloc ?_ _)); exact BK215.out)) : gb216 ≠ gb215)); clear BK215; clear HB; have BK215 := n0_; have HB := n1_; have BK216 := n2_; have GW216 := n3_; have GE216 := n4_; have NB215_216 := n5_; have NB216_215 := n6_; clear n0_ n1_ n2_ n3_ n4_ n5_ n6_; clear hb hbox hg; have hnb34 := NB215_216.out; have hnc34 := NB216_215.out; have hcz35_0 : w33.cell? ⟨gb215, 0, none⟩ = some (.int .i64 a0_0) := (blk_cell BK215.out 0).trans rfl; have hcz35_1 : w33.cell? ⟨gb215, 1, none⟩ = some (.slice A0_1 l0_1.length c0_1) := (blk_cell BK215.out 1).trans rfl; have hcz35_2 : w33.cell? ⟨gb215, 2, none⟩ = some (.slice A0_2 l0_2.length c0_2) := (blk_cell BK215.out 2).trans rfl; have hcz35_3 : w33.cell? ⟨gb215, 3, none⟩ = some (.int .i64 a0_3) := (blk_cell BK215.out 3).trans rfl; have hcz35_4 : w33.cell? ⟨gb215, 4, none⟩ = some (.int .i64 a0_4) := (blk_cell BK215.out 4).trans rfl; have hcz35_5 : w33.cell? ⟨gb215, 5, none⟩ = some (.bool a0_5) := (blk_cell BK215.out 5).trans rfl; have hcz35_6 : w33.cell? ⟨gb215, 6, none⟩ = some (.bool a0_6) := (blk_cell BK215.out 6).trans rfl; have hcz35_7 : w33.cell? ⟨gb215, 7, none⟩ = some (.slice A0_7 l0_7.length c0_7) := (blk_cell BK215.out 7).trans rfl; have hcz35_8 : w33.cell? ⟨gb215, 8, none⟩ = some (.slice A0_8 l0_8.length c0_8) := (blk_cell BK215.out 8).trans rfl; have hcz35_9 : w33.cell? ⟨gb215, 9, none⟩ = some (.slice A0_9 l0_9.length c0_9) := (blk_cell BK215.out 9).trans rfl; have hfz35_0 := blk_frozen BK215.out 0; have hfz35_1 := blk_frozen BK215.out 1; have hfz35_2 := blk_frozen BK215.out 2; have hfz35_3 := blk_frozen BK215.out 3; have hfz35_4 := blk_frozen BK215.out 4; have hfz35_5 := blk_frozen BK215.out 5; have hfz35_6 := blk_frozen BK215.out 6; have hfz35_7 := blk_frozen BK215.out 7; have hfz35_8 := blk_frozen BK215.out 8; have hfz35_9 := blk_frozen BK215.out 9; have hcz36_0 : w33.cell? ⟨gb216, 0, none⟩ = some (.int .i64 a1_0) := (blk_cell BK216.out 0).trans rfl; have hcz36_1 : w33.cell? ⟨gb216, 1, none⟩ = some (.slice A1_1 l1_1.length c1_1) := (blk_cell BK216.out 1).trans rfl; have hcz36_2 : w33.cell? ⟨gb216, 2, none⟩ = some (.slice A1_2 l1_2.length c1_2) := (blk_cell BK216.out 2).trans rfl; have hcz36_3 : w33.cell? ⟨gb216, 3, none⟩ = some (.int .i64 a1_3) := (blk_cell BK216.out 3).trans rfl; have hcz36_4 : w33.cell? ⟨gb216, 4, none⟩ = some (.int .i64 a1_4) := (blk_cell BK216.out 4).trans rfl; have hcz36_5 : w33.cell? ⟨gb216, 5, none⟩ = some (.bool a1_5) := (blk_cell BK216.out 5).trans rfl; have hcz36_6 : w33.cell? ⟨gb216, 6, none⟩ = some (.bool a1_6) := (blk_cell BK216.out 6).trans rfl; have hcz36_7 : w33.cell? ⟨gb216, 7, none⟩ = some (.slice A1_7 l1_7.length c1_7) := (blk_cell BK216.out 7).trans rfl; have hcz36_8 : w33.cell? ⟨gb216, 8, none⟩ = some (.slice A1_8 l1_8.length c1_8) := (blk_cell BK216.out 8).trans rfl; have hcz36_9 : w33.cell? ⟨gb216, 9, none⟩ = some (.slice A1_9 l1_9.length c1_9) := (blk_cell BK216.out 9).trans rfl; have hfz36_0 := blk_frozen BK216.out 0; have hfz36_1 := blk_frozen BK216.out 1; have hfz36_2 := blk_frozen BK216.out 2; have hfz36_3 := blk_frozen BK216.out 3; have hfz36_4 := blk_frozen BK216.out 4; have hfz36_5 := blk_frozen BK216.out 5; have hfz36_6 := blk_frozen BK216.out 6; have hfz36_7 := blk_frozen BK216.out 7; have hfz36_8 := blk_frozen BK216.out 8; have hfz36_9 := blk_frozen BK216.out 9) | (go_at_call 13; (with_reducible refine (spec_TwInts.calls k _ _ l0_1 _ _ l1_1 true _ ?side1 ?side2 ?side3 ?side4 A4.out).mono ?_); (case side1 => repeat (first | exact (Kd.C_below HR0_1.out HB.out) | (with_reducible refine Kd.C_alloc ?_ _) | (with_reducible refine Kd.C_drewN ?_ _) | (with_reducible refine Kd.C_drew ?_))); (case side2 => exact HC0_1.out); (case side3 => repeat (first | exact (Kd.C_below HR1_1.out HB.out) | (with_reducible refine Kd.C_alloc ?_ _) | (with_reducible refine Kd.C_drewN ?_ _) | (with_reducible refine Kd.C_drew ?_))); (case side4 => exact HC1_1.out); rintro e w' ⟨rfl, ⟨nd, rfl⟩⟩) | (go_at_call 13; (with_reducible refine (spec_TwInts.calls k _ _ l0_2 _ _ l1_2 true _ ?side1 ?side2 ?side3 ?side4 A6.out).mono ?_); (case side1 => repeat (first | exact (Kd.C_below HR0_2.out (by repeat (first | (with_reducible first | exact HB.out | apply below_alloc | apply pw_below_drewN | apply below_drew1 | refine below_set ?_ GE215.out | refine below_set ?_ GE216.out) | exact HB.out))) | (with_reducible refine Kd.C_alloc ?_ _) | (with_reducible refine Kd.C_drewN ?_ _) | (with_reducible refine Kd.C_drew ?_))); (case side2 => exact HC0_2.out); (case side3 => repeat (first | exact (Kd.C_below HR1_2.out (by repeat (first | (with_reducible first | exact HB.out | apply below_alloc | apply pw_below_drewN | apply below_drew1 | refine below_set ?_ GE215.out | refine below_set ?_ GE216.out) | exact HB.out))) | (with_reducible refine Kd.C_alloc ?_ _) | (with_reducible refine Kd.C_drewN ?_ _) | (with_reducible refine Kd.C_drew ?_))); (case side4 => exact HC1_2.out); rintro e w' ⟨rfl, ⟨nd, rfl⟩⟩))
                go_ret
                exact ⟨by first | rfl | (simp [errW_none, errW_some] <;> rfl) | (simp [*, errW_none, errW_some] <;> rfl), by repeat (first | (with_reducible first | exact HB.out | apply below_alloc | apply pw_below_drewN | apply below_drew1 | refine below_set ?_ GE215.out | refine below_set ?_ GE216.out) | exact HB.out)⟩
            · rw [if_neg c10] at H
              have c10b0 : (a0_5 == a1_5) = false := by simpa using c10
              (try (have c10b1 : decide (a0_5 = a1_5) = false := by simpa using c10))
              (try (have c10b2 : (a0_5 == a1_5) = false := by simpa using c10))
              (try (have c10b3 : ¬ (a0_5 = a1_5) := by simpa using c10))
              clear c10
              obtain rfl := Option.some.inj H
              go_enter Try.func7, Try.ntmps7
              go_wp2_with (first | ((with_reducible refine gate_dst (N := 2) rfl ?_); refine box_event ?hg (N := 2) ?hd (cs := #[.int .i64 a0_0, .slice A0_1 l0_1.length c0_1, .slice A0_2 l0_2.length c0_2, .int .i64 a0_3, .int .i64 a0_4, .bool a0_5, .bool a0_6, .slice A0_7 l0_7.length c0_7, .slice A0_8 l0_8.length c0_8, .slice A0_9 l0_9.length c0_9]) (t := 36) ?hr ?_; (case hd => rfl); (case hg => rfl); (case hr => first | (go_simp; done) | (go_simp; rfl)); intro gb215 hg w37 hbox hb; have n0_ := Aside0.mk (below_step (by repeat (first | (with_reducible first | exact HB.out | apply below_alloc | apply pw_below_drewN | apply below_drew1) | exact HB.out)) hb); have n1_ := Aside0.mk (hbox); have n2_ := Aside0.mk ((by rw [hg]; exact (below_size (by repeat (first | (with_reducible first | exact HB.out | apply below_alloc | apply pw_below_drewN | apply below_drew1) | exact HB.out))) : w.heap.size ≤ gb215)); have n3_ := Aside0.mk ((by rw [hg]; exact (below_size (by repeat (first | (with_reducible first | exact HB.out | apply below_alloc | apply pw_below_drewN | apply below_drew1) | exact HB.out))) : w.heap.size ≤ gb215)); clear HB; have HB := n0_; have BK215 := n1_; have GW215 := n2_; have GE215 := n3_; clear n0_ n1_ n2_ n3_; clear hb hbox hg) | ((with_reducible refine gate_dst (N := 3) rfl ?_); refine box_event ?hg (N := 3) ?hd (cs := #[.int .i64 a1_0, .slice A1_1 l1_1.length c1_1, .slice A1_2 l1_2.length c1_2, .int .i64 a1_3, .int .i64 a1_4, .bool a1_5, .bool a1_6, .slice A1_7 l1_7.length c1_7, .slice A1_8 l1_8.length c1_8, .slice A1_9 l1_9.length c1_9]) (t := 36) ?hr ?_; (case hd => rfl); (case hg => rfl); (case hr => first | (go_simp; done) | (go_simp; rfl)); intro gb216 hg w38 hbox hb; have n0_ := Aside0.mk (blk_below (g := gb215) (o := .cells #[.int .i64 a0_0, .slice A0_1 l0_1.length c0_1, .slice A0_2 l0_2.length c0_2, .int .i64 a0_3, .int .i64 a0_4, .bool a0_5, .bool a0_6, .slice A0_7 l0_7.length c0_7, .slice A0_8 l0_8.length c0_8, .slice A0_9 l0_9.length c0_9] 36 (0, 0)) (by (with_reducible repeat (first | refine blk_drewN ?_ _ | refine blk_drew ?_ | refine blk_alloc ?_ _)); exact BK215.out) hb); have n1_ := Aside0.mk (below_step (by repeat (first | (with_reducible first | exact HB.out | apply below_alloc | apply pw_below_drewN | apply below_drew1 | refine below_set ?_ GE215.out) | exact HB.out)) hb); have n2_ := Aside0.mk (hbox); have n3_ := Aside0.mk ((by rw [hg]; exact (below_size (by repeat (first | (with_reducible first | exact HB.out | apply below_alloc | apply pw_below_drewN | apply below_drew1 | refine below_set ?_ GE215.out) | exact HB.out))) : w.heap.size ≤ gb216)); have n4_ := Aside0.mk ((by rw [hg]; exact (below_size (by repeat (first | (with_reducible first | exact HB.out | apply below_alloc | apply pw_below_drewN | apply below_drew1 | refine below_set ?_ GE215.out) | exact HB.out))) : w.heap.size ≤ gb216)); have n5_ := Aside0.mk ((by rw [hg]; exact Nat.ne_of_lt (blk_lt (g := gb215) (o := .cells #[.int .i64 a0_0, .slice A0_1 l0_1.length c0_1, .slice A0_2 l0_2.length c0_2, .int .i64 a0_3, .int .i64 a0_4, .bool a0_5, .bool a0_6, .slice A0_7 l0_7.length c0_7, .slice A0_8 l0_8.length c0_8, .slice A0_9 l0_9.length c0_9] 36 (0, 0)) (by (with_reducible repeat (first | refine blk_drewN ?_ _ | refine blk_drew ?_ | refine blk_alloc ?_ _)); exact BK215.out)) : gb215 ≠ gb216)); have n6_ := Aside0.mk ((by rw [hg]; exact Nat.ne_of_gt (blk_lt (g := gb215) (o := .cells #[.int .i64 a0_0, .slice A0_1 l0_1.length c0_1, .slice A0_2 l0_2.length c0_2, .int .i64 a0_3, .int .i64 a0_4, .bool a0_5, .bool a0_6, .slice A0_7 l0_7.length c0_7, .slice A0_8 l0_8.length c0_8, .slice A0_9 l0_9.length c0_9] 36 (0, 0)) (by (with_reducible repeat (first | refine blk_drewN ?_ _ | refine blk_drew ?_ | refine blk_alloc ?_ _)); exact BK215.out)) : gb216 ≠ gb215)); clear BK215; clear HB; have BK215 := n0_; have HB := n1_; have BK216 := n2_; have GW216 := n3_; have GE216 := n4_; have NB215_216 := n5_; have NB216_215 := n6_; clear n0_ n1_ n2_ n3_ n4_ n5_ n6_; clear hb hbox hg; have hnb39 := NB215_216.out; have hnc39 := NB216_215.out; have hcz40_0 : w38.cell? ⟨gb215, 0, none⟩ = some (.int .i64 a0_0) := (blk_cell BK215.out 0).trans rfl; have hcz40_1 : w38.cell? ⟨gb215, 1, none⟩ = some (.slice A0_1 l0_1.length c0_1) := (blk_cell BK215.out 1).trans rfl; have hcz40_2 : w38.cell? ⟨gb215, 2, none⟩ = some (.slice A0_2 l0_2.length c0_2) := (blk_cell BK215.out 2).trans rfl; have hcz40_3 : w38.cell? ⟨gb215, 3, none⟩ = some (.int .i64 a0_3) := (blk_cell BK215.out 3).trans rfl; have hcz40_4 : w38.cell? ⟨gb215, 4, none⟩ = some (.int .i64 a0_4) := (blk_cell BK215.out 4).trans rfl; have hcz40_5 : w38.cell? ⟨gb215, 5, none⟩ = some (.bool a0_5) := (blk_cell BK215.out 5).trans rfl; have hcz40_6 : w38.cell? ⟨gb215, 6, none⟩ = some (.bool a0_6) := (blk_cell BK215.out 6).trans rfl; have hcz40_7 : w38.cell? ⟨gb215, 7, none⟩ = some (.slice A0_7 l0_7.length c0_7) := (blk_cell BK215.out 7).trans rfl; have hcz40_8 : w38.cell? ⟨gb215, 8, none⟩ = some (.slice A0_8 l0_8.length c0_8) := (blk_cell BK215.out 8).trans rfl; have hcz40_9 : w38.cell? ⟨gb215, 9, none⟩ = some (.slice A0_9 l0_9.length c0_9) := (blk_cell BK215.out 9).trans rfl; have hfz40_0 := blk_frozen BK215.out 0; have hfz40_1 := blk_frozen BK215.out 1; have hfz40_2 := blk_frozen BK215.out 2; have hfz40_3 := blk_frozen BK215.out 3; have hfz40_4 := blk_frozen BK215.out 4; have hfz40_5 := blk_frozen BK215.out 5; have hfz40_6 := blk_frozen BK215.out 6; have hfz40_7 := blk_frozen BK215.out 7; have hfz40_8 := blk_frozen BK215.out 8; have hfz40_9 := blk_frozen BK215.out 9; have hcz41_0 : w38.cell? ⟨gb216, 0, none⟩ = some (.int .i64 a1_0) := (blk_cell BK216.out 0).trans rfl; have hcz41_1 : w38.cell? ⟨gb216, 1, none⟩ = some (.slice A1_1 l1_1.length c1_1) := (blk_cell BK216.out 1).trans rfl; have hcz41_2 : w38.cell? ⟨gb216, 2, none⟩ = some (.slice A1_2 l1_2.length c1_2) := (blk_cell BK216.out 2).trans rfl; have hcz41_3 : w38.cell? ⟨gb216, 3, none⟩ = some (.int .i64 a1_3) := (blk_cell BK216.out 3).trans rfl; have hcz41_4 : w38.cell? ⟨gb216, 4, none⟩ = some (.int .i64 a1_4) := (blk_cell BK216.out 4).trans rfl; have hcz41_5 : w38.cell? ⟨gb216, 5, none⟩ = some (.bool a1_5) := (blk_cell BK216.out 5).trans rfl; have hcz41_6 : w38.cell? ⟨gb216, 6, none⟩ = some (.bool a1_6) := (blk_cell BK216.out 6).trans rfl; have hcz41_7 : w38.cell? ⟨gb216, 7, none⟩ = some (.slice A1_7 l1_7.length c1_7) := (blk_cell BK216.out 7).trans rfl; have hcz41_8 : w38.cell? ⟨gb216, 8, none⟩ = some (.slice A1_8 l1_8.length c1_8) := (blk_cell BK216.out 8).trans rfl; have hcz41_9 : w38.cell? ⟨gb216, 9, none⟩ = some (.slice A1_9 l1_9.length c1_9) := (blk_cell BK216.out 9).trans rfl; have hfz41_0 := blk_frozen BK216.out 0; have hfz41_1 := blk_frozen BK216.out 1; have hfz41_2 := blk_frozen BK216.out 2; have hfz41_3 := blk_frozen BK216.out 3; have hfz41_4 := blk_frozen BK216.out 4; have hfz41_5 := blk_frozen BK216.out 5; have hfz41_6 := blk_frozen BK216.out 6; have hfz41_7 := blk_frozen BK216.out 7; have hfz41_8 := blk_frozen BK216.out 8; have hfz41_9 := blk_frozen BK216.out 9) | (go_at_call 13; (with_reducible refine (spec_TwInts.calls k _ _ l0_1 _ _ l1_1 true _ ?side1 ?side2 ?side3 ?side4 A4.out).mono ?_); (case side1 => repeat (first | exact (Kd.C_below HR0_1.out HB.out) | (with_reducible refine Kd.C_alloc ?_ _) | (with_reducible refine Kd.C_drewN ?_ _) | (with_reducible refine Kd.C_drew ?_))); (case side2 => exact HC0_1.out); (case side3 => repeat (first | exact (Kd.C_below HR1_1.out HB.out) | (with_reducible refine Kd.C_alloc ?_ _) | (with_reducible refine Kd.C_drewN ?_ _) | (with_reducible refine Kd.C_drew ?_))); (case side4 => exact HC1_1.out); rintro e w' ⟨rfl, ⟨nd, rfl⟩⟩) | (go_at_call 13; (with_reducible refine (spec_TwInts.calls k _ _ l0_2 _ _ l1_2 true _ ?side1 ?side2 ?side3 ?side4 A6.out).mono ?_); (case side1 => repeat (first | exact (Kd.C_below HR0_2.out (by repeat (first | (with_reducible first | exact HB.out | apply below_alloc | apply pw_below_drewN | apply below_drew1 | refine below_set ?_ GE215.out | refine below_set ?_ GE216.out) | exact HB.out))) | (with_reducible refine Kd.C_alloc ?_ _) | (with_reducible refine Kd.C_drewN ?_ _) | (with_reducible refine Kd.C_drew ?_))); (case side2 => exact HC0_2.out); (case side3 => repeat (first | exact (Kd.C_below HR1_2.out (by repeat (first | (with_reducible first | exact HB.out | apply below_alloc | apply pw_below_drewN | apply below_drew1 | refine below_set ?_ GE215.out | refine below_set ?_ GE216.out) | exact HB.out))) | (with_reducible refine Kd.C_alloc ?_ _) | (with_reducible refine Kd.C_drewN ?_ _) | (with_reducible refine Kd.C_drew ?_))); (case side4 => exact HC1_2.out); rintro e w' ⟨rfl, ⟨nd, rfl⟩⟩))
              go_ret
              exact ⟨by first | rfl | (simp [errW_none, errW_some] <;> rfl) | (simp [*, errW_none, errW_some] <;> rfl), by repeat (first | (with_reducible first | exact HB.out | apply below_alloc | apply pw_below_drewN | apply below_drew1 | refine below_set ?_ GE215.out | refine below_set ?_ GE216.out) | exact HB.out)⟩
          · rw [if_neg c9] at H
            have c9b0 : (a0_4 == a1_4) = false := beq_eq_false_iff_ne.mpr c9
            have c9b1 : (a0_4 != a1_4) = true := bne_iff_ne.mpr c9
            obtain rfl := Option.some.inj H
            go_enter Try.func7, Try.ntmps7
            go_wp2_with (first | ((with_reducible refine gate_dst (N := 2) rfl ?_); refine box_event ?hg (N := 2) ?hd (cs := #[.int .i64 a0_0, .slice A0_1 l0_1.length c0_1, .slice A0_2 l0_2.length c0_2, .int .i64 a0_3, .int .i64 a0_4, .bool a0_5, .bool a0_6, .slice A0_7 l0_7.length c0_7, .slice A0_8 l0_8.length c0_8, .slice A0_9 l0_9.length c0_9]) (t := 36) ?hr ?_; (case hd => rfl); (case hg => rfl); (case hr => first | (go_simp; done) | (go_simp; rfl)); intro gb215 hg w42 hbox hb; have n0_ := Aside0.mk (below_step (by repeat (first | (with_reducible first | exact HB.out | apply below_alloc | apply pw_below_drewN | apply below_drew1) | exact HB.out)) hb); have n1_ := Aside0.mk (hbox); have n2_ := Aside0.mk ((by rw [hg]; exact (below_size (by repeat (first | (with_reducible first | exact HB.out | apply below_alloc | apply pw_below_drewN | apply below_drew1) | exact HB.out))) : w.heap.size ≤ gb215)); have n3_ := Aside0.mk ((by rw [hg]; exact (below_size (by repeat (first | (with_reducible first | exact HB.out | apply below_alloc | apply pw_below_drewN | apply below_drew1) | exact HB.out))) : w.heap.size ≤ gb215)); clear HB; have HB := n0_; have BK215 := n1_; have GW215 := n2_; have GE215 := n3_; clear n0_ n1_ n2_ n3_; clear hb hbox hg) | ((with_reducible refine gate_dst (N := 3) rfl ?_); refine box_event ?hg (N := 3) ?hd (cs := #[.int .i64 a1_0, .slice A1_1 l1_1.length c1_1, .slice A1_2 l1_2.length c1_2, .int .i64 a1_3, .int .i64 a1_4, .bool a1_5, .bool a1_6, .slice A1_7 l1_7.length c1_7, .slice A1_8 l1_8.length c1_8, .slice A1_9 l1_9.length c1_9]) (t := 36) ?hr ?_; (case hd => rfl); (case hg => rfl); (case hr => first | (go_simp; done) | (go_simp; rfl)); intro gb216 hg w43 hbox hb; have n0_ := Aside0.mk (blk_below (g := gb215) (o := .cells #[.int .i64 a0_0, .slice A0_1 l0_1.length c0_1, .slice A0_2 l0_2.length c0_2, .int .i64 a0_3, .int .i64 a0_4, .bool a0_5, .bool a0_6, .slice A0_7 l0_7.length c0_7, .slice A0_8 l0_8.length c0_8, .slice A0_9 l0_9.length c0_9] 36 (0, 0)) (by (with_reducible repeat (first | refine blk_drewN ?_ _ | refine blk_drew ?_ | refine blk_alloc ?_ _)); exact BK215.out) hb); have n1_ := Aside0.mk (below_step (by repeat (first | (with_reducible first | exact HB.out | apply below_alloc | apply pw_below_drewN | apply below_drew1 | refine below_set ?_ GE215.out) | exact HB.out)) hb); have n2_ := Aside0.mk (hbox); have n3_ := Aside0.mk ((by rw [hg]; exact (below_size (by repeat (first | (with_reducible first | exact HB.out | apply below_alloc | apply pw_below_drewN | apply below_drew1 | refine below_set ?_ GE215.out) | exact HB.out))) : w.heap.size ≤ gb216)); have n4_ := Aside0.mk ((by rw [hg]; exact (below_size (by repeat (first | (with_reducible first | exact HB.out | apply below_alloc | apply pw_below_drewN | apply below_drew1 | refine below_set ?_ GE215.out) | exact HB.out))) : w.heap.size ≤ gb216)); have n5_ := Aside0.mk ((by rw [hg]; exact Nat.ne_of_lt (blk_lt (g := gb215) (o := .cells #[.int .i64 a0_0, .slice A0_1 l0_1.length c0_1, .slice A0_2 l0_2.length c0_2, .int .i64 a0_3, .int .i64 a0_4, .bool a0_5, .bool a0_6, .slice A0_7 l0_7.length c0_7, .slice A0_8 l0_8.length c0_8, .slice A0_9 l0_9.length c0_9] 36 (0, 0)) (by (with_reducible repeat (first | refine blk_drewN ?_ _ | refine blk_drew ?_ | refine blk_alloc ?_ _)); exact BK215.out)) : gb215 ≠ gb216)); have n6_ := Aside0.mk ((by rw [hg]; exact Nat.ne_of_gt (blk_lt (g := gb215) (o := .cells #[.int .i64 a0_0, .slice A0_1 l0_1.length c0_1, .slice A0_2 l0_2.length c0_2, .int .i64 a0_3, .int .i64 a0_4, .bool a0_5, .bool a0_6, .slice A0_7 l0_7.length c0_7, .slice A0_8 l0_8.length c0_8, .slice A0_9 l0_9.length c0_9] 36 (0, 0)) (by (with_reducible repeat (first | refine blk_drewN ?_ _ | refine blk_drew ?_ | refine blk_alloc ?_ _)); exact BK215.out)) : gb216 ≠ gb215)); clear BK215; clear HB; have BK215 := n0_; have HB := n1_; have BK216 := n2_; have GW216 := n3_; have GE216 := n4_; have NB215_216 := n5_; have NB216_215 := n6_; clear n0_ n1_ n2_ n3_ n4_ n5_ n6_; clear hb hbox hg; have hnb44 := NB215_216.out; have hnc44 := NB216_215.out; have hcz45_0 : w43.cell? ⟨gb215, 0, none⟩ = some (.int .i64 a0_0) := (blk_cell BK215.out 0).trans rfl; have hcz45_1 : w43.cell? ⟨gb215, 1, none⟩ = some (.slice A0_1 l0_1.length c0_1) := (blk_cell BK215.out 1).trans rfl; have hcz45_2 : w43.cell? ⟨gb215, 2, none⟩ = some (.slice A0_2 l0_2.length c0_2) := (blk_cell BK215.out 2).trans rfl; have hcz45_3 : w43.cell? ⟨gb215, 3, none⟩ = some (.int .i64 a0_3) := (blk_cell BK215.out 3).trans rfl; have hcz45_4 : w43.cell? ⟨gb215, 4, none⟩ = some (.int .i64 a0_4) := (blk_cell BK215.out 4).trans rfl; have hcz45_5 : w43.cell? ⟨gb215, 5, none⟩ = some (.bool a0_5) := (blk_cell BK215.out 5).trans rfl; have hcz45_6 : w43.cell? ⟨gb215, 6, none⟩ = some (.bool a0_6) := (blk_cell BK215.out 6).trans rfl; have hcz45_7 : w43.cell? ⟨gb215, 7, none⟩ = some (.slice A0_7 l0_7.length c0_7) := (blk_cell BK215.out 7).trans rfl; have hcz45_8 : w43.cell? ⟨gb215, 8, none⟩ = some (.slice A0_8 l0_8.length c0_8) := (blk_cell BK215.out 8).trans rfl; have hcz45_9 : w43.cell? ⟨gb215, 9, none⟩ = some (.slice A0_9 l0_9.length c0_9) := (blk_cell BK215.out 9).trans rfl; have hfz45_0 := blk_frozen BK215.out 0; have hfz45_1 := blk_frozen BK215.out 1; have hfz45_2 := blk_frozen BK215.out 2; have hfz45_3 := blk_frozen BK215.out 3; have hfz45_4 := blk_frozen BK215.out 4; have hfz45_5 := blk_frozen BK215.out 5; have hfz45_6 := blk_frozen BK215.out 6; have hfz45_7 := blk_frozen BK215.out 7; have hfz45_8 := blk_frozen BK215.out 8; have hfz45_9 := blk_frozen BK215.out 9; have hcz46_0 : w43.cell? ⟨gb216, 0, none⟩ = some (.int .i64 a1_0) := (blk_cell BK216.out 0).trans rfl; have hcz46_1 : w43.cell? ⟨gb216, 1, none⟩ = some (.slice A1_1 l1_1.length c1_1) := (blk_cell BK216.out 1).trans rfl; have hcz46_2 : w43.cell? ⟨gb216, 2, none⟩ = some (.slice A1_2 l1_2.length c1_2) := (blk_cell BK216.out 2).trans rfl; have hcz46_3 : w43.cell? ⟨gb216, 3, none⟩ = some (.int .i64 a1_3) := (blk_cell BK216.out 3).trans rfl; have hcz46_4 : w43.cell? ⟨gb216, 4, none⟩ = some (.int .i64 a1_4) := (blk_cell BK216.out 4).trans rfl; have hcz46_5 : w43.cell? ⟨gb216, 5, none⟩ = some (.bool a1_5) := (blk_cell BK216.out 5).trans rfl; have hcz46_6 : w43.cell? ⟨gb216, 6, none⟩ = some (.bool a1_6) := (blk_cell BK216.out 6).trans rfl; have hcz46_7 : w43.cell? ⟨gb216, 7, none⟩ = some (.slice A1_7 l1_7.length c1_7) := (blk_cell BK216.out 7).trans rfl; have hcz46_8 : w43.cell? ⟨gb216, 8, none⟩ = some (.slice A1_8 l1_8.length c1_8) := (blk_cell BK216.out 8).trans rfl; have hcz46_9 : w43.cell? ⟨gb216, 9, none⟩ = some (.slice A1_9 l1_9.length c1_9) := (blk_cell BK216.out 9).trans rfl; have hfz46_0 := blk_frozen BK216.out 0; have hfz46_1 := blk_frozen BK216.out 1; have hfz46_2 := blk_frozen BK216.out 2; have hfz46_3 := blk_frozen BK216.out 3; have hfz46_4 := blk_frozen BK216.out 4; have hfz46_5 := blk_frozen BK216.out 5; have hfz46_6 := blk_frozen BK216.out 6; have hfz46_7 := blk_frozen BK216.out 7; have hfz46_8 := blk_frozen BK216.out 8; have hfz46_9 := blk_frozen BK216.out 9) | (go_at_call 13; (with_reducible refine (spec_TwInts.calls k _ _ l0_1 _ _ l1_1 true _ ?side1 ?side2 ?side3 ?side4 A4.out).mono ?_); (case side1 => repeat (first | exact (Kd.C_below HR0_1.out HB.out) | (with_reducible refine Kd.C_alloc ?_ _) | (with_reducible refine Kd.C_drewN ?_ _) | (with_reducible refine Kd.C_drew ?_))); (case side2 => exact HC0_1.out); (case side3 => repeat (first | exact (Kd.C_below HR1_1.out HB.out) | (with_reducible refine Kd.C_alloc ?_ _) | (with_reducible refine Kd.C_drewN ?_ _) | (with_reducible refine Kd.C_drew ?_))); (case side4 => exact HC1_1.out); rintro e w' ⟨rfl, ⟨nd, rfl⟩⟩) | (go_at_call 13; (with_reducible refine (spec_TwInts.calls k _ _ l0_2 _ _ l1_2 true _ ?side1 ?side2 ?side3 ?side4 A6.out).mono ?_); (case side1 => repeat (first | exact (Kd.C_below HR0_2.out (by repeat (first | (with_reducible first | exact HB.out | apply below_alloc | apply pw_below_drewN | apply below_drew1 | refine below_set ?_ GE215.out | refine below_set ?_ GE216.out) | exact HB.out))) | (with_reducible refine Kd.C_alloc ?_ _) | (with_reducible refine Kd.C_drewN ?_ _) | (with_reducible refine Kd.C_drew ?_))); (case side2 => exact HC0_2.out); (case side3 => repeat (first | exact (Kd.C_below HR1_2.out (by repeat (first | (with_reducible first | exact HB.out | apply below_alloc | apply pw_below_drewN | apply below_drew1 | refine below_set ?_ GE215.out | refine below_set ?_ GE216.out) | exact HB.out))) | (with_reducible refine Kd.C_alloc ?_ _) | (with_reducible refine Kd.C_drewN ?_ _) | (with_reducible refine Kd.C_drew ?_))); (case side4 => exact HC1_2.out); rintro e w' ⟨rfl, ⟨nd, rfl⟩⟩))
            go_ret
            exact ⟨by first | rfl | (simp [errW_none, errW_some] <;> rfl) | (simp [*, errW_none, errW_some] <;> rfl), by repeat (first | (with_reducible first | exact HB.out | apply below_alloc | apply pw_below_drewN | apply below_drew1 | refine below_set ?_ GE215.out | refine below_set ?_ GE216.out) | exact HB.out)⟩
        · rw [if_neg c8] at H
          have c8b0 : (a0_3 == a1_3) = false := beq_eq_false_iff_ne.mpr c8
          have c8b1 : (a0_3 != a1_3) = true := bne_iff_ne.mpr c8
          obtain rfl := Option.some.inj H
          go_enter Try.func7, Try.ntmps7
          go_wp2_with (first | ((with_reducible refine gate_dst (N := 2) rfl ?_); refine box_event ?hg (N := 2) ?hd (cs := #[.int .i64 a0_0, .slice A0_1 l0_1.length c0_1, .slice A0_2 l0_2.length c0_2, .int .i64 a0_3, .int .i64 a0_4, .bool a0_5, .bool a0_6, .slice A0_7 l0_7.length c0_7, .slice A0_8 l0_8.length c0_8, .slice A0_9 l0_9.length c0_9]) (t := 36) ?hr ?_; (case hd => rfl); (case hg => rfl); (case hr => first | (go_simp; done) | (go_simp; rfl)); intro gb215 hg w47 hbox hb; have n0_ := Aside0.mk (below_step (by repeat (first | (with_reducible first | exact HB.out | apply below_alloc | apply pw_below_drewN | apply below_drew1) | exact HB.out)) hb); have n1_ := Aside0.mk (hbox); have n2_ := Aside0.mk ((by rw [hg]; exact (below_size (by repeat (first | (with_reducible first | exact HB.out | apply below_alloc | apply pw_below_drewN | apply below_drew1) | exact HB.out))) : w.heap.size ≤ gb215)); have n3_ := Aside0.mk ((by rw [hg]; exact (below_size (by repeat (first | (with_reducible first | exact HB.out | apply below_alloc | apply pw_below_drewN | apply below_drew1) | exact HB.out))) : w.heap.size ≤ gb215)); clear HB; have HB := n0_; have BK215 := n1_; have GW215 := n2_; have GE215 := n3_; clear n0_ n1_ n2_ n3_; clear hb hbox hg) | ((with_reducible refine gate_dst (N := 3) rfl ?_); refine box_event ?hg (N := 3) ?hd (cs := #[.int .i64 a1_0, .slice A1_1 l1_1.length c1_1, .slice A1_2 l1_2.length c1_2, .int .i64 a1_3, .int .i64 a1_4, .bool a1_5, .bool a1_6, .slice A1_7 l1_7.length c1_7, .slice A1_8 l1_8.length c1_8, .slice A1_9 l1_9.length c1_9]) (t := 36) ?hr ?_; (case hd => rfl); (case hg => rfl); (case hr => first | (go_simp; done) | (go_simp; rfl)); intro gb216 hg w48 hbox hb; have n0_ := Aside0.mk (blk_below (g := gb215) (o := .cells #[.int .i64 a0_0, .slice A0_1 l0_1.length c0_1, .slice A0_2 l0_2.length c0_2, .int .i64 a0_3, .int .i64 a0_4, .bool a0_5, .bool a0_6, .slice A0_7 l0_7.length c0_7, .slice A0_8 l0_8.length c0_8, .slice A0_9 l0_9.length c0_9] 36 (0, 0)) (by (with_reducible repeat (first | refine blk_drewN ?_ _ | refine blk_drew ?_ | refine blk_alloc ?_ _)); exact BK215.out) hb); have n1_ := Aside0.mk (below_step (by repeat (first | (with_reducible first | exact HB.out | apply below_alloc | apply pw_below_drewN | apply below_drew1 | refine below_set ?_ GE215.out) | exact HB.out)) hb); have n2_ := Aside0.mk (hbox); have n3_ := Aside0.mk ((by rw [hg]; exact (below_size (by repeat (first | (with_reducible first | exact HB.out | apply below_alloc | apply pw_below_drewN | apply below_drew1 | refine below_set ?_ GE215.out) | exact HB.out))) : w.heap.size ≤ gb216)); have n4_ := Aside0.mk ((by rw [hg]; exact (below_size (by repeat (first | (with_reducible first | exact HB.out | apply below_alloc | apply pw_below_drewN | apply below_drew1 | refine below_set ?_ GE215.out) | exact HB.out))) : w.heap.size ≤ gb216)); have n5_ := Aside0.mk ((by rw [hg]; exact Nat.ne_of_lt (blk_lt (g := gb215) (o := .cells #[.int .i64 a0_0, .slice A0_1 l0_1.length c0_1, .slice A0_2 l0_2.length c0_2, .int .i64 a0_3, .int .i64 a0_4, .bool a0_5, .bool a0_6, .slice A0_7 l0_7.length c0_7, .slice A0_8 l0_8.length c0_8, .slice A0_9 l0_9.length c0_9] 36 (0, 0)) (by (with_reducible repeat (first | refine blk_drewN ?_ _ | refine blk_drew ?_ | refine blk_alloc ?_ _)); exact BK215.out)) : gb215 ≠ gb216)); have n6_ := Aside0.mk ((by rw [hg]; exact Nat.ne_of_gt (blk_lt (g := gb215) (o := .cells #[.int .i64 a0_0, .slice A0_1 l0_1.length c0_1, .slice A0_2 l0_2.length c0_2, .int .i64 a0_3, .int .i64 a0_4, .bool a0_5, .bool a0_6, .slice A0_7 l0_7.length c0_7, .slice A0_8 l0_8.length c0_8, .slice A0_9 l0_9.length c0_9] 36 (0, 0)) (by (with_reducible repeat (first | refine blk_drewN ?_ _ | refine blk_drew ?_ | refine blk_alloc ?_ _)); exact BK215.out)) : gb216 ≠ gb215)); clear BK215; clear HB; have BK215 := n0_; have HB := n1_; have BK216 := n2_; have GW216 := n3_; have GE216 := n4_; have NB215_216 := n5_; have NB216_215 := n6_; clear n0_ n1_ n2_ n3_ n4_ n5_ n6_; clear hb hbox hg; have hnb49 := NB215_216.out; have hnc49 := NB216_215.out; have hcz50_0 : w48.cell? ⟨gb215, 0, none⟩ = some (.int .i64 a0_0) := (blk_cell BK215.out 0).trans rfl; have hcz50_1 : w48.cell? ⟨gb215, 1, none⟩ = some (.slice A0_1 l0_1.length c0_1) := (blk_cell BK215.out 1).trans rfl; have hcz50_2 : w48.cell? ⟨gb215, 2, none⟩ = some (.slice A0_2 l0_2.length c0_2) := (blk_cell BK215.out 2).trans rfl; have hcz50_3 : w48.cell? ⟨gb215, 3, none⟩ = some (.int .i64 a0_3) := (blk_cell BK215.out 3).trans rfl; have hcz50_4 : w48.cell? ⟨gb215, 4, none⟩ = some (.int .i64 a0_4) := (blk_cell BK215.out 4).trans rfl; have hcz50_5 : w48.cell? ⟨gb215, 5, none⟩ = some (.bool a0_5) := (blk_cell BK215.out 5).trans rfl; have hcz50_6 : w48.cell? ⟨gb215, 6, none⟩ = some (.bool a0_6) := (blk_cell BK215.out 6).trans rfl; have hcz50_7 : w48.cell? ⟨gb215, 7, none⟩ = some (.slice A0_7 l0_7.length c0_7) := (blk_cell BK215.out 7).trans rfl; have hcz50_8 : w48.cell? ⟨gb215, 8, none⟩ = some (.slice A0_8 l0_8.length c0_8) := (blk_cell BK215.out 8).trans rfl; have hcz50_9 : w48.cell? ⟨gb215, 9, none⟩ = some (.slice A0_9 l0_9.length c0_9) := (blk_cell BK215.out 9).trans rfl; have hfz50_0 := blk_frozen BK215.out 0; have hfz50_1 := blk_frozen BK215.out 1; have hfz50_2 := blk_frozen BK215.out 2; have hfz50_3 := blk_frozen BK215.out 3; have hfz50_4 := blk_frozen BK215.out 4; have hfz50_5 := blk_frozen BK215.out 5; have hfz50_6 := blk_frozen BK215.out 6; have hfz50_7 := blk_frozen BK215.out 7; have hfz50_8 := blk_frozen BK215.out 8; have hfz50_9 := blk_frozen BK215.out 9; have hcz51_0 : w48.cell? ⟨gb216, 0, none⟩ = some (.int .i64 a1_0) := (blk_cell BK216.out 0).trans rfl; have hcz51_1 : w48.cell? ⟨gb216, 1, none⟩ = some (.slice A1_1 l1_1.length c1_1) := (blk_cell BK216.out 1).trans rfl; have hcz51_2 : w48.cell? ⟨gb216, 2, none⟩ = some (.slice A1_2 l1_2.length c1_2) := (blk_cell BK216.out 2).trans rfl; have hcz51_3 : w48.cell? ⟨gb216, 3, none⟩ = some (.int .i64 a1_3) := (blk_cell BK216.out 3).trans rfl; have hcz51_4 : w48.cell? ⟨gb216, 4, none⟩ = some (.int .i64 a1_4) := (blk_cell BK216.out 4).trans rfl; have hcz51_5 : w48.cell? ⟨gb216, 5, none⟩ = some (.bool a1_5) := (blk_cell BK216.out 5).trans rfl; have hcz51_6 : w48.cell? ⟨gb216, 6, none⟩ = some (.bool a1_6) := (blk_cell BK216.out 6).trans rfl; have hcz51_7 : w48.cell? ⟨gb216, 7, none⟩ = some (.slice A1_7 l1_7.length c1_7) := (blk_cell BK216.out 7).trans rfl; have hcz51_8 : w48.cell? ⟨gb216, 8, none⟩ = some (.slice A1_8 l1_8.length c1_8) := (blk_cell BK216.out 8).trans rfl; have hcz51_9 : w48.cell? ⟨gb216, 9, none⟩ = some (.slice A1_9 l1_9.length c1_9) := (blk_cell BK216.out 9).trans rfl; have hfz51_0 := blk_frozen BK216.out 0; have hfz51_1 := blk_frozen BK216.out 1; have hfz51_2 := blk_frozen BK216.out 2; have hfz51_3 := blk_frozen BK216.out 3; have hfz51_4 := blk_frozen BK216.out 4; have hfz51_5 := blk_frozen BK216.out 5; have hfz51_6 := blk_frozen BK216.out 6; have hfz51_7 := blk_frozen BK216.out 7; have hfz51_8 := blk_frozen BK216.out 8; have hfz51_9 := blk_frozen BK216.out 9) | (go_at_call 13; (with_reducible refine (spec_TwInts.calls k _ _ l0_1 _ _ l1_1 true _ ?side1 ?side2 ?side3 ?side4 A4.out).mono ?_); (case side1 => repeat (first | exact (Kd.C_below HR0_1.out HB.out) | (with_reducible refine Kd.C_alloc ?_ _) | (with_reducible refine Kd.C_drewN ?_ _) | (with_reducible refine Kd.C_drew ?_))); (case side2 => exact HC0_1.out); (case side3 => repeat (first | exact (Kd.C_below HR1_1.out HB.out) | (with_reducible refine Kd.C_alloc ?_ _) | (with_reducible refine Kd.C_drewN ?_ _) | (with_reducible refine Kd.C_drew ?_))); (case side4 => exact HC1_1.out); rintro e w' ⟨rfl, ⟨nd, rfl⟩⟩) | (go_at_call 13; (with_reducible refine (spec_TwInts.calls k _ _ l0_2 _ _ l1_2 true _ ?side1 ?side2 ?side3 ?side4 A6.out).mono ?_); (case side1 => repeat (first | exact (Kd.C_below HR0_2.out (by repeat (first | (with_reducible first | exact HB.out | apply below_alloc | apply pw_below_drewN | apply below_drew1 | refine below_set ?_ GE215.out | refine below_set ?_ GE216.out) | exact HB.out))) | (with_reducible refine Kd.C_alloc ?_ _) | (with_reducible refine Kd.C_drewN ?_ _) | (with_reducible refine Kd.C_drew ?_))); (case side2 => exact HC0_2.out); (case side3 => repeat (first | exact (Kd.C_below HR1_2.out (by repeat (first | (with_reducible first | exact HB.out | apply below_alloc | apply pw_below_drewN | apply below_drew1 | refine below_set ?_ GE215.out | refine below_set ?_ GE216.out) | exact HB.out))) | (with_reducible refine Kd.C_alloc ?_ _) | (with_reducible refine Kd.C_drewN ?_ _) | (with_reducible refine Kd.C_drew ?_))); (case side4 => exact HC1_2.out); rintro e w' ⟨rfl, ⟨nd, rfl⟩⟩))
          go_ret
          exact ⟨by first | rfl | (simp [errW_none, errW_some] <;> rfl) | (simp [*, errW_none, errW_some] <;> rfl), by repeat (first | (with_reducible first | exact HB.out | apply below_alloc | apply pw_below_drewN | apply below_drew1 | refine below_set ?_ GE215.out | refine below_set ?_ GE216.out) | exact HB.out)⟩
      · replace c7 := Bool.eq_false_iff.mpr c7
        subst c7
        have H1 : (some false) = some r := by rw [if_neg (show ¬ (false = true) by decide)] at H; exact H
        clear H
        have H := H1
        clear H1
        obtain rfl := Option.some.inj H
        go_enter Try.func7, Try.ntmps7
        go_wp2_with (first | ((with_reducible refine gate_dst (N := 2) rfl ?_); refine box_event ?hg (N := 2) ?hd (cs := #[.int .i64 a0_0, .slice A0_1 l0_1.length c0_1, .slice A0_2 l0_2.length c0_2, .int .i64 a0_3, .int .i64 a0_4, .bool a0_5, .bool a0_6, .slice A0_7 l0_7.length c0_7, .slice A0_8 l0_8.length c0_8, .slice A0_9 l0_9.length c0_9]) (t := 36) ?hr ?_; (case hd => rfl); (case hg => rfl); (case hr => first | (go_simp; done) | (go_simp; rfl)); intro gb215 hg w52 hbox hb; have n0_ := Aside0.mk (below_step (by repeat (first | (with_reducible first | exact HB.out | apply below_alloc | apply pw_below_drewN | apply below_drew1) | exact HB.out)) hb); have n1_ := Aside0.mk (hbox); have n2_ := Aside0.mk ((by rw [hg]; exact (below_size (by repeat (first | (with_reducible first | exact HB.out | apply below_alloc | apply pw_below_drewN | apply below_drew1) | exact HB.out))) : w.heap.size ≤ gb215)); have n3_ := Aside0.mk ((by rw [hg]; exact (below_size (by repeat (first | (with_reducible first | exact HB.out | apply below_alloc | apply pw_below_drewN | apply below_drew1) | exact HB.out))) : w.heap.size ≤ gb215)); clear HB; have HB := n0_; have BK215 := n1_; have GW215 := n2_; have GE215 := n3_; clear n0_ n1_ n2_ n3_; clear hb hbox hg) | ((with_reducible refine gate_dst (N := 3) rfl ?_); refine box_event ?hg (N := 3) ?hd (cs := #[.int .i64 a1_0, .slice A1_1 l1_1.length c1_1, .slice A1_2 l1_2.length c1_2, .int .i64 a1_3, .int .i64 a1_4, .bool a1_5, .bool a1_6, .slice A1_7 l1_7.length c1_7, .slice A1_8 l1_8.length c1_8, .slice A1_9 l1_9.length c1_9]) (t := 36) ?hr ?_; (case hd => rfl); (case hg => rfl); (case hr => first | (go_simp; done) | (go_simp; rfl)); intro gb216 hg w53 hbox hb; have n0_ := Aside0.mk (blk_below (g := gb215) (o := .cells #[.int .i64 a0_0, .slice A0_1 l0_1.length c0_1, .slice A0_2 l0_2.length c0_2, .int .i64 a0_3, .int .i64 a0_4, .bool a0_5, .bool a0_6, .slice A0_7 l0_7.length c0_7, .slice A0_8 l0_8.length c0_8, .slice A0_9 l0_9.length c0_9] 36 (0, 0)) (by (with_reducible repeat (first | refine blk_drewN ?_ _ | refine blk_drew ?_ | refine blk_alloc ?_ _)); exact BK215.out) hb); have n1_ := Aside0.mk (below_step (by repeat (first | (with_reducible first | exact HB.out | apply below_alloc | apply pw_below_drewN | apply below_drew1 | refine below_set ?_ GE215.out) | exact HB.out)) hb); have n2_ := Aside0.mk (hbox); have n3_ := Aside0.mk ((by rw [hg]; exact (below_size (by repeat (first | (with_reducible first | exact HB.out | apply below_alloc | apply pw_below_drewN | apply below_drew1 | refine below_set ?_ GE215.out) | exact HB.out))) : w.heap.size ≤ gb216)); have n4_ := Aside0.mk ((by rw [hg]; exact (below_size (by repeat (first | (with_reducible first | exact HB.out | apply below_alloc | apply pw_below_drewN | apply below_drew1 | refine below_set ?_ GE215.out) | exact HB.out))) : w.heap.size ≤ gb216)); have n5_ := Aside0.mk ((by rw [hg]; exact Nat.ne_of_lt (blk_lt (g := gb215) (o := .cells #[.int .i64 a0_0, .slice A0_1 l0_1.length c0_1, .slice A0_2 l0_2.length c0_2, .int .i64 a0_3, .int .i64 a0_4, .bool a0_5, .bool a0_6, .slice A0_7 l0_7.length c0_7, .slice A0_8 l0_8.length c0_8, .slice A0_9 l0_9.length c0_9] 36 (0, 0)) (by (with_reducible repeat (first | refine blk_drewN ?_ _ | refine blk_drew ?_ | refine blk_alloc ?_ _)); exact BK215.out)) : gb215 ≠ gb216)); have n6_ := Aside0.mk ((by rw [hg]; exact Nat.ne_of_gt (blk_lt (g := gb215) (o := .cells #[.int .i64 a0_0, .slice A0_1 l0_1.length c0_1, .slice A0_2 l0_2.length c0_2, .int .i64 a0_3, .int .i64 a0_4, .bool a0_5, .bool a0_6, .slice A0_7 l0_7.length c0_7, .slice A0_8 l0_8.length c0_8, .slice A0_9 l0_9.length c0_9] 36 (0, 0)) (by (with_reducible repeat (first | refine blk_drewN ?_ _ | refine blk_drew ?_ | refine blk_alloc ?_ _)); exact BK215.out)) : gb216 ≠ gb215)); clear BK215; clear HB; have BK215 := n0_; have HB := n1_; have BK216 := n2_; have GW216 := n3_; have GE216 := n4_; have NB215_216 := n5_; have NB216_215 := n6_; clear n0_ n1_ n2_ n3_ n4_ n5_ n6_; clear hb hbox hg; have hnb54 := NB215_216.out; have hnc54 := NB216_215.out; have hcz55_0 : w53.cell? ⟨gb215, 0, none⟩ = some (.int .i64 a0_0) := (blk_cell BK215.out 0).trans rfl; have hcz55_1 : w53.cell? ⟨gb215, 1, none⟩ = some (.slice A0_1 l0_1.length c0_1) := (blk_cell BK215.out 1).trans rfl; have hcz55_2 : w53.cell? ⟨gb215, 2, none⟩ = some (.slice A0_2 l0_2.length c0_2) := (blk_cell BK215.out 2).trans rfl; have hcz55_3 : w53.cell? ⟨gb215, 3, none⟩ = some (.int .i64 a0_3) := (blk_cell BK215.out 3).trans rfl; have hcz55_4 : w53.cell? ⟨gb215, 4, none⟩ = some (.int .i64 a0_4) := (blk_cell BK215.out 4).trans rfl; have hcz55_5 : w53.cell? ⟨gb215, 5, none⟩ = some (.bool a0_5) := (blk_cell BK215.out 5).trans rfl; have hcz55_6 : w53.cell? ⟨gb215, 6, none⟩ = some (.bool a0_6) := (blk_cell BK215.out 6).trans rfl; have hcz55_7 : w53.cell? ⟨gb215, 7, none⟩ = some (.slice A0_7 l0_7.length c0_7) := (blk_cell BK215.out 7).trans rfl; have hcz55_8 : w53.cell? ⟨gb215, 8, none⟩ = some (.slice A0_8 l0_8.length c0_8) := (blk_cell BK215.out 8).trans rfl; have hcz55_9 : w53.cell? ⟨gb215, 9, none⟩ = some (.slice A0_9 l0_9.length c0_9) := (blk_cell BK215.out 9).trans rfl; have hfz55_0 := blk_frozen BK215.out 0; have hfz55_1 := blk_frozen BK215.out 1; have hfz55_2 := blk_frozen BK215.out 2; have hfz55_3 := blk_frozen BK215.out 3; have hfz55_4 := blk_frozen BK215.out 4; have hfz55_5 := blk_frozen BK215.out 5; have hfz55_6 := blk_frozen BK215.out 6; have hfz55_7 := blk_frozen BK215.out 7; have hfz55_8 := blk_frozen BK215.out 8; have hfz55_9 := blk_frozen BK215.out 9; have hcz56_0 : w53.cell? ⟨gb216, 0, none⟩ = some (.int .i64 a1_0) := (blk_cell BK216.out 0).trans rfl; have hcz56_1 : w53.cell? ⟨gb216, 1, none⟩ = some (.slice A1_1 l1_1.length c1_1) := (blk_cell BK216.out 1).trans rfl; have hcz56_2 : w53.cell? ⟨gb216, 2, none⟩ = some (.slice A1_2 l1_2.length c1_2) := (blk_cell BK216.out 2).trans rfl; have hcz56_3 : w53.cell? ⟨gb216, 3, none⟩ = some (.int .i64 a1_3) := (blk_cell BK216.out 3).trans rfl; have hcz56_4 : w53.cell? ⟨gb216, 4, none⟩ = some (.int .i64 a1_4) := (blk_cell BK216.out 4).trans rfl; have hcz56_5 : w53.cell? ⟨gb216, 5, none⟩ = some (.bool a1_5) := (blk_cell BK216.out 5).trans rfl; have hcz56_6 : w53.cell? ⟨gb216, 6, none⟩ = some (.bool a1_6) := (blk_cell BK216.out 6).trans rfl; have hcz56_7 : w53.cell? ⟨gb216, 7, none⟩ = some (.slice A1_7 l1_7.length c1_7) := (blk_cell BK216.out 7).trans rfl; have hcz56_8 : w53.cell? ⟨gb216, 8, none⟩ = some (.slice A1_8 l1_8.length c1_8) := (blk_cell BK216.out 8).trans rfl; have hcz56_9 : w53.cell? ⟨gb216, 9, none⟩ = some (.slice A1_9 l1_9.length c1_9) := (blk_cell BK216.out 9).trans rfl; have hfz56_0 := blk_frozen BK216.out 0; have hfz56_1 := blk_frozen BK216.out 1; have hfz56_2 := blk_frozen BK216.out 2; have hfz56_3 := blk_frozen BK216.out 3; have hfz56_4 := blk_frozen BK216.out 4; have hfz56_5 := blk_frozen BK216.out 5; have hfz56_6 := blk_frozen BK216.out 6; have hfz56_7 := blk_frozen BK216.out 7; have hfz56_8 := blk_frozen BK216.out 8; have hfz56_9 := blk_frozen BK216.out 9) | (go_at_call 13; (with_reducible refine (spec_TwInts.calls k _ _ l0_1 _ _ l1_1 true _ ?side1 ?side2 ?side3 ?side4 A4.out).mono ?_); (case side1 => repeat (first | exact (Kd.C_below HR0_1.out HB.out) | (with_reducible refine Kd.C_alloc ?_ _) | (with_reducible refine Kd.C_drewN ?_ _) | (with_reducible refine Kd.C_drew ?_))); (case side2 => exact HC0_1.out); (case side3 => repeat (first | exact (Kd.C_below HR1_1.out HB.out) | (with_reducible refine Kd.C_alloc ?_ _) | (with_reducible refine Kd.C_drewN ?_ _) | (with_reducible refine Kd.C_drew ?_))); (case side4 => exact HC1_1.out); rintro e w' ⟨rfl, ⟨nd, rfl⟩⟩) | (go_at_call 13; (with_reducible refine (spec_TwInts.calls k _ _ l0_2 _ _ l1_2 false _ ?side1 ?side2 ?side3 ?side4 A6.out).mono ?_); (case side1 => repeat (first | exact (Kd.C_below HR0_2.out (by repeat (first | (with_reducible first | exact HB.out | apply below_alloc | apply pw_below_drewN | apply below_drew1 | refine below_set ?_ GE215.out | refine below_set ?_ GE216.out) | exact HB.out))) | (with_reducible refine Kd.C_alloc ?_ _) | (with_reducible refine Kd.C_drewN ?_ _) | (with_reducible refine Kd.C_drew ?_))); (case side2 => exact HC0_2.out); (case side3 => repeat (first | exact (Kd.C_below HR1_2.out (by repeat (first | (with_reducible first | exact HB.out | apply below_alloc | apply pw_below_drewN | apply below_drew1 | refine below_set ?_ GE215.out | refine below_set ?_ GE216.out) | exact HB.out))) | (with_reducible refine Kd.C_alloc ?_ _) | (with_reducible refine Kd.C_drewN ?_ _) | (with_reducible refine Kd.C_drew ?_))); (case side4 => exact HC1_2.out); rintro e w' ⟨rfl, ⟨nd, rfl⟩⟩))
        go_ret
        exact ⟨by first | rfl | (simp [errW_none, errW_some] <;> rfl) | (simp [*, errW_none, errW_some] <;> rfl), by repeat (first | (with_reducible first | exact HB.out | apply below_alloc | apply pw_below_drewN | apply below_drew1 | refine below_set ?_ GE215.out | refine below_set ?_ GE216.out) | exact HB.out)⟩
    · replace c5 := Bool.eq_false_iff.mpr c5
      subst c5
      have H1 : (some false) = some r := by rw [if_neg (show ¬ (false = true) by decide)] at H; exact H
      clear H
      have H := H1
      clear H1
      obtain rfl := Option.some.inj H
      go_enter Try.func7, Try.ntmps7
      go_wp2_with (first | ((with_reducible refine gate_dst (N := 2) rfl ?_); refine box_event ?hg (N := 2) ?hd (cs := #[.int .i64 a0_0, .slice A0_1 l0_1.length c0_1, .slice A0_2 l0_2.length c0_2, .int .i64 a0_3, .int .i64 a0_4, .bool a0_5, .bool a0_6, .slice A0_7 l0_7.length c0_7, .slice A0_8 l0_8.length c0_8, .slice A0_9 l0_9.length c0_9]) (t := 36) ?hr ?_; (case hd => rfl); (case hg => rfl); (case hr => first | (go_simp; done) | (go_simp; rfl)); intro gb215 hg w57 hbox hb; have n0_ := Aside0.mk (below_step (by repeat (first | (with_reducible first | exact HB.out | apply below_alloc | apply pw_below_drewN | apply below_drew1) | exact HB.out)) hb); have n1_ := Aside0.mk (hbox); have n2_ := Aside0.mk ((by rw [hg]; exact (below_size (by repeat (first | (with_reducible first | exact HB.out | apply below_alloc | apply pw_below_drewN | apply below_drew1) | exact HB.out))) : w.heap.size ≤ gb215)); have n3_ := Aside0.mk ((by rw [hg]; exact (below_size (by repeat (first | (with_reducible first | exact HB.out | apply below_alloc | apply pw_below_drewN | apply below_drew1) | exact HB.out))) : w.heap.size ≤ gb215)); clear HB; have HB := n0_; have BK215 := n1_; have GW215 := n2_; have GE215 := n3_; clear n0_ n1_ n2_ n3_; clear hb hbox hg) | ((with_reducible refine gate_dst (N := 3) rfl ?_); refine box_event ?hg (N := 3) ?hd (cs := #[.int .i64 a1_0, .slice A1_1 l1_1.length c1_1, .slice A1_2 l1_2.length c1_2, .int .i64 a1_3, .int .i64 a1_4, .bool a1_5, .bool a1_6, .slice A1_7 l1_7.length c1_7, .slice A1_8 l1_8.length c1_8, .slice A1_9 l1_9.length c1_9]) (t := 36) ?hr ?_; (case hd => rfl); (case hg => rfl); (case hr => first | (go_simp; done) | (go_simp; rfl)); intro gb216 hg w58 hbox hb; have n0_ := Aside0.mk (blk_below (g := gb215) (o := .cells #[.int .i64 a0_0, .slice A0_1 l0_1.length c0_1, .slice A0_2 l0_2.length c0_2, .int .i64 a0_3, .int .i64 a0_4, .bool a0_5, .bool a0_6, .slice A0_7 l0_7.length c0_7, .slice A0_8 l0_8.length c0_8, .slice A0_9 l0_9.length c0_9] 36 (0, 0)) (by (with_reducible repeat (first | refine blk_drewN ?_ _ | refine blk_drew ?_ | refine blk_alloc ?_ _)); exact BK215.out) hb); have n1_ := Aside0.mk (below_step (by repeat (first | (with_reducible first | exact HB.out | apply below_alloc | apply pw_below_drewN | apply below_drew1 | refine below_set ?_ GE215.out) | exact HB.out)) hb); have n2_ := Aside0.mk (hbox); have n3_ := Aside0.mk ((by rw [hg]; exact (below_size (by repeat (first | (with_reducible first | exact HB.out | apply below_alloc | apply pw_below_drewN | apply below_drew1 | refine below_set ?_ GE215.out) | exact HB.out))) : w.heap.size ≤ gb216)); have n4_ := Aside0.mk ((by rw [hg]; exact (below_size (by repeat (first | (with_reducible first | exact HB.out | apply below_alloc | apply pw_below_drewN | apply below_drew1 | refine below_set ?_ GE215.out) | exact HB.out))) : w.heap.size ≤ gb216)); have n5_ := Aside0.mk ((by rw [hg]; exact Nat.ne_of_lt (blk_lt (g := gb215) (o := .cells #[.int .i64 a0_0, .slice A0_1 l0_1.length c0_1, .slice A0_2 l0_2.length c0_2, .int .i64 a0_3, .int .i64 a0_4, .bool a0_5, .bool a0_6, .slice A0_7 l0_7.length c0_7, .slice A0_8 l0_8.length c0_8, .slice A0_9 l0_9.length c0_9] 36 (0, 0)) (by (with_reducible repeat (first | refine blk_drewN ?_ _ | refine blk_drew ?_ | refine blk_alloc ?_ _)); exact BK215.out)) : gb215 ≠ gb216)); have n6_ := Aside0.mk ((by rw [hg]; exact Nat.ne_of_gt (blk_lt (g := gb215) (o := .cells #[.int .i64 a0_0, .slice A0_1 l0_1.length c0_1, .slice A0_2 l0_2.length c0_2, .int .i64 a0_3, .int .i64 a0_4, .bool a0_5, .bool a0_6, .slice A0_7 l0_7.length c0_7, .slice A0_8 l0_8.length c0_8, .slice A0_9 l0_9.length c0_9] 36 (0, 0)) (by (with_reducible repeat (first | refine blk_drewN ?_ _ | refine blk_drew ?_ | refine blk_alloc ?_ _)); exact BK215.out)) : gb216 ≠ gb215)); clear BK215; clear HB; have BK215 := n0_; have HB := n1_; have BK216 := n2_; have GW216 := n3_; have GE216 := n4_; have NB215_216 := n5_; have NB216_215 := n6_; clear n0_ n1_ n2_ n3_ n4_ n5_ n6_; clear hb hbox hg; have hnb59 := NB215_216.out; have hnc59 := NB216_215.out; have hcz60_0 : w58.cell? ⟨gb215, 0, none⟩ = some (.int .i64 a0_0) := (blk_cell BK215.out 0).trans rfl; have hcz60_1 : w58.cell? ⟨gb215, 1, none⟩ = some (.slice A0_1 l0_1.length c0_1) := (blk_cell BK215.out 1).trans rfl; have hcz60_2 : w58.cell? ⟨gb215, 2, none⟩ = some (.slice A0_2 l0_2.length c0_2) := (blk_cell BK215.out 2).trans rfl; have hcz60_3 : w58.cell? ⟨gb215, 3, none⟩ = some (.int .i64 a0_3) := (blk_cell BK215.out 3).trans rfl; have hcz60_4 : w58.cell? ⟨gb215, 4, none⟩ = some (.int .i64 a0_4) := (blk_cell BK215.out 4).trans rfl; have hcz60_5 : w58.cell? ⟨gb215, 5, none⟩ = some (.bool a0_5) := (blk_cell BK215.out 5).trans rfl; have hcz60_6 : w58.cell? ⟨gb215, 6, none⟩ = some (.bool a0_6) := (blk_cell BK215.out 6).trans rfl; have hcz60_7 : w58.cell? ⟨gb215, 7, none⟩ = some (.slice A0_7 l0_7.length c0_7) := (blk_cell BK215.out 7).trans rfl; have hcz60_8 : w58.cell? ⟨gb215, 8, none⟩ = some (.slice A0_8 l0_8.length c0_8) := (blk_cell BK215.out 8).trans rfl; have hcz60_9 : w58.cell? ⟨gb215, 9, none⟩ = some (.slice A0_9 l0_9.length c0_9) := (blk_cell BK215.out 9).trans rfl; have hfz60_0 := blk_frozen BK215.out 0; have hfz60_1 := blk_frozen BK215.out 1; have hfz60_2 := blk_frozen BK215.out 2; have hfz60_3 := blk_frozen BK215.out 3; have hfz60_4 := blk_frozen BK215.out 4; have hfz60_5 := blk_frozen BK215.out 5; have hfz60_6 := blk_frozen BK215.out 6; have hfz60_7 := blk_frozen BK215.out 7; have hfz60_8 := blk_frozen BK215.out 8; have hfz60_9 := blk_frozen BK215.out 9; have hcz61_0 : w58.cell? ⟨gb216, 0, none⟩ = some (.int .i64 a1_0) := (blk_cell BK216.out 0).trans rfl; have hcz61_1 : w58.cell? ⟨gb216, 1, none⟩ = some (.slice A1_1 l1_1.length c1_1) := (blk_cell BK216.out 1).trans rfl; have hcz61_2 : w58.cell? ⟨gb216, 2, none⟩ = some (.slice A1_2 l1_2.length c1_2) := (blk_cell BK216.out 2).trans rfl; have hcz61_3 : w58.cell? ⟨gb216, 3, none⟩ = some (.int .i64 a1_3) := (blk_cell BK216.out 3).trans rfl; have hcz61_4 : w58.cell? ⟨gb216, 4, none⟩ = some (.int .i64 a1_4) := (blk_cell BK216.out 4).trans rfl; have hcz61_5 : w58.cell? ⟨gb216, 5, none⟩ = some (.bool a1_5) := (blk_cell BK216.out 5).trans rfl; have hcz61_6 : w58.cell? ⟨gb216, 6, none⟩ = some (.bool a1_6) := (blk_cell BK216.out 6).trans rfl; have hcz61_7 : w58.cell? ⟨gb216, 7, none⟩ = some (.slice A1_7 l1_7.length c1_7) := (blk_cell BK216.out 7).trans rfl; have hcz61_8 : w58.cell? ⟨gb216, 8, none⟩ = some (.slice A1_8 l1_8.length c1_8) := (blk_cell BK216.out 8).trans rfl; have hcz61_9 : w58.cell? ⟨gb216, 9, none⟩ = some (.slice A1_9 l1_9.length c1_9) := (blk_cell BK216.out 9).trans rfl; have hfz61_0 := blk_frozen BK216.out 0; have hfz61_1 := blk_frozen BK216.out 1; have hfz61_2 := blk_frozen BK216.out 2; have hfz61_3 := blk_frozen BK216.out 3; have hfz61_4 := blk_frozen BK216.out 4; have hfz61_5 := blk_frozen BK216.out 5; have hfz61_6 := blk_frozen BK216.out 6; have hfz61_7 := blk_frozen BK216.out 7; have hfz61_8 := blk_frozen BK216.out 8; have hfz61_9 := blk_frozen BK216.out 9) | (go_at_call 13; (with_reducible refine (spec_TwInts.calls k _ _ l0_1 _ _ l1_1 false _ ?side1 ?side2 ?side3 ?side4 A4.out).mono ?_); (case side1 => repeat (first | exact (Kd.C_below HR0_1.out HB.out) | (with_reducible refine Kd.C_alloc ?_ _) | (with_reducible refine Kd.C_drewN ?_ _) | (with_reducible refine Kd.C_drew ?_))); (case side2 => exact HC0_1.out); (case side3 => repeat (first | exact (Kd.C_below HR1_1.out HB.out) | (with_reducible refine Kd.C_alloc ?_ _) | (with_reducible refine Kd.C_drewN ?_ _) | (with_reducible refine Kd.C_drew ?_))); (case side4 => exact HC1_1.out); rintro e w' ⟨rfl, ⟨nd, rfl⟩⟩))
      go_ret
      exact ⟨by first | rfl | (simp [errW_none, errW_some] <;> rfl) | (simp [*, errW_none, errW_some] <;> rfl), by repeat (first | (with_reducible first | exact HB.out | apply below_alloc | apply pw_below_drewN | apply below_drew1 | refine below_set ?_ GE215.out | refine below_set ?_ GE216.out) | exact HB.out)⟩
  · rw [if_neg c3] at H
    have c3b0 : (a0_0 == a1_0) = false := beq_eq_false_iff_ne.mpr c3
    have c3b1 : (a0_0 != a1_0) = true := bne_iff_ne.mpr c3
    obtain rfl := Option.some.inj H
    go_enter Try.func7, Try.ntmps7
    go_wp2_with (first | ((with_reducible refine gate_dst (N := 2) rfl ?_); refine box_event ?hg (N := 2) ?hd (cs := #[.int .i64 a0_0, .slice A0_1 l0_1.length c0_1, .slice A0_2 l0_2.length c0_2, .int .i64 a0_3, .int .i64 a0_4, .bool a0_5, .bool a0_6, .slice A0_7 l0_7.length c0_7, .slice A0_8 l0_8.length c0_8, .slice A0_9 l0_9.length c0_9]) (t := 36) ?hr ?_; (case hd => rfl); (case hg => rfl); (case hr => first | (go_simp; done) | (go_simp; rfl)); intro gb215 hg w62 hbox hb; have n0_ := Aside0.mk (below_step (by repeat (first | (with_reducible first | exact HB.out | apply below_alloc | apply pw_below_drewN | apply below_drew1) | exact HB.out)) hb); have n1_ := Aside0.mk (hbox); have n2_ := Aside0.mk ((by rw [hg]; exact (below_size (by repeat (first | (with_reducible first | exact HB.out | apply below_alloc | apply pw_below_drewN | apply below_drew1) | exact HB.out))) : w.heap.size ≤ gb215)); have n3_ := Aside0.mk ((by rw [hg]; exact (below_size (by repeat (first | (with_reducible first | exact HB.out | apply below_alloc | apply pw_below_drewN | apply below_drew1) | exact HB.out))) : w.heap.size ≤ gb215)); clear HB; have HB := n0_; have BK215 := n1_; have GW215 := n2_; have GE215 := n3_; clear n0_ n1_ n2_ n3_; clear hb hbox hg) | ((with_reducible refine gate_dst (N := 3) rfl ?_); refine box_event ?hg (N := 3) ?hd (cs := #[.int .i64 a1_0, .slice A1_1 l1_1.length c1_1, .slice A1_2 l1_2.length c1_2, .int .i64 a1_3, .int .i64 a1_4, .bool a1_5, .bool a1_6, .slice A1_7 l1_7.length c1_7, .slice A1_8 l1_8.length c1_8, .slice A1_9 l1_9.length c1_9]) (t := 36) ?hr ?_; (case hd => rfl); (case hg => rfl); (case hr => first | (go_simp; done) | (go_simp; rfl)); intro gb216 hg w63 hbox hb; have n0_ := Aside0.mk (blk_below (g := gb215) (o := .cells #[.int .i64 a0_0, .slice A0_1 l0_1.length c0_1, .slice A0_2 l0_2.length c0_2, .int .i64 a0_3, .int .i64 a0_4, .bool a0_5, .bool a0_6, .slice A0_7 l0_7.length c0_7, .slice A0_8 l0_8.length c0_8, .slice A0_9 l0_9.length c0_9] 36 (0, 0)) (by (with_reducible repeat (first | refine blk_drewN ?_ _ | refine blk_drew ?_ | refine blk_alloc ?_ _)); exact BK215.out) hb); have n1_ := Aside0.mk (below_step (by repeat (first | (with_reducible first | exact HB.out | apply below_alloc | apply pw_below_drewN | apply below_drew1 | refine below_set ?_ GE215.out) | exact HB.out)) hb); have n2_ := Aside0.mk (hbox); have n3_ := Aside0.mk ((by rw [hg]; exact (below_size (by repeat (first | (with_reducible first | exact HB.out | apply below_alloc | apply pw_below_drewN | apply below_drew1 | refine below_set ?_ GE215.out) | exact HB.out))) : w.heap.size ≤ gb216)); have n4_ := Aside0.mk ((by rw [hg]; exact (below_size (by repeat (first | (with_reducible first | exact HB.out | apply below_alloc | apply pw_below_drewN | apply below_drew1 | refine below_set ?_ GE215.out) | exact HB.out))) : w.heap.size ≤ gb216)); have n5_ := Aside0.mk ((by rw [hg]; exact Nat.ne_of_lt (blk_lt (g := gb215) (o := .cells #[.int .i64 a0_0, .slice A0_1 l0_1.length c0_1, .slice A0_2 l0_2.length c0_2, .int .i64 a0_3, .int .i64 a0_4, .bool a0_5, .bool a0_6, .slice A0_7 l0_7.length c0_7, .slice A0_8 l0_8.length c0_8, .slice A0_9 l0_9.length c0_9] 36 (0, 0)) (by (with_reducible repeat (first | refine blk_drewN ?_ _ | refine blk_drew ?_ | refine blk_alloc ?_ _)); exact BK215.out)) : gb215 ≠ gb216)); have n6_ := Aside0.mk ((by rw [hg]; exact Nat.ne_of_gt (blk_lt (g := gb215) (o := .cells #[.int .i64 a0_0, .slice A0_1 l0_1.length c0_1, .slice A0_2 l0_2.length c0_2, .int .i64 a0_3, .int .i64 a0_4, .bool a0_5, .bool a0_6, .slice A0_7 l0_7.length c0_7, .slice A0_8 l0_8.length c0_8, .slice A0_9 l0_9.length c0_9] 36 (0, 0)) (by (with_reducible repeat (first | refine blk_drewN ?_ _ | refine blk_drew ?_ | refine blk_alloc ?_ _)); exact BK215.out)) : gb216 ≠ gb215)); clear BK215; clear HB; have BK215 := n0_; have HB := n1_; have BK216 := n2_; have GW216 := n3_; have GE216 := n4_; have NB215_216 := n5_; have NB216_215 := n6_; clear n0_ n1_ n2_ n3_ n4_ n5_ n6_; clear hb hbox hg; have hnb64 := NB215_216.out; have hnc64 := NB216_215.out; have hcz65_0 : w63.cell? ⟨gb215, 0, none⟩ = some (.int .i64 a0_0) := (blk_cell BK215.out 0).trans rfl; have hcz65_1 : w63.cell? ⟨gb215, 1, none⟩ = some (.slice A0_1 l0_1.length c0_1) := (blk_cell BK215.out 1).trans rfl; have hcz65_2 : w63.cell? ⟨gb215, 2, none⟩ = some (.slice A0_2 l0_2.length c0_2) := (blk_cell BK215.out 2).trans rfl; have hcz65_3 : w63.cell? ⟨gb215, 3, none⟩ = some (.int .i64 a0_3) := (blk_cell BK215.out 3).trans rfl; have hcz65_4 : w63.cell? ⟨gb215, 4, none⟩ = some (.int .i64 a0_4) := (blk_cell BK215.out 4).trans rfl; have hcz65_5 : w63.cell? ⟨gb215, 5, none⟩ = some (.bool a0_5) := (blk_cell BK215.out 5).trans rfl; have hcz65_6 : w63.cell? ⟨gb215, 6, none⟩ = some (.bool a0_6) := (blk_cell BK215.out 6).trans rfl; have hcz65_7 : w63.cell? ⟨gb215, 7, none⟩ = some (.slice A0_7 l0_7.length c0_7) := (blk_cell BK215.out 7).trans rfl; have hcz65_8 : w63.cell? ⟨gb215, 8, none⟩ = some (.slice A0_8 l0_8.length c0_8) := (blk_cell BK215.out 8).trans rfl; have hcz65_9 : w63.cell? ⟨gb215, 9, none⟩ = some (.slice A0_9 l0_9.length c0_9) := (blk_cell BK215.out 9).trans rfl; have hfz65_0 := blk_frozen BK215.out 0; have hfz65_1 := blk_frozen BK215.out 1; have hfz65_2 := blk_frozen BK215.out 2; have hfz65_3 := blk_frozen BK215.out 3; have hfz65_4 := blk_frozen BK215.out 4; have hfz65_5 := blk_frozen BK215.out 5; have hfz65_6 := blk_frozen BK215.out 6; have hfz65_7 := blk_frozen BK215.out 7; have hfz65_8 := blk_frozen BK215.out 8; have hfz65_9 := blk_frozen BK215.out 9; have hcz66_0 : w63.cell? ⟨gb216, 0, none⟩ = some (.int .i64 a1_0) := (blk_cell BK216.out 0).trans rfl; have hcz66_1 : w63.cell? ⟨gb216, 1, none⟩ = some (.slice A1_1 l1_1.length c1_1) := (blk_cell BK216.out 1).trans rfl; have hcz66_2 : w63.cell? ⟨gb216, 2, none⟩ = some (.slice A1_2 l1_2.length c1_2) := (blk_cell BK216.out 2).trans rfl; have hcz66_3 : w63.cell? ⟨gb216, 3, none⟩ = some (.int .i64 a1_3) := (blk_cell BK216.out 3).trans rfl; have hcz66_4 : w63.cell? ⟨gb216, 4, none⟩ = some (.int .i64 a1_4) := (blk_cell BK216.out 4).trans rfl; have hcz66_5 : w63.cell? ⟨gb216, 5, none⟩ = some (.bool a1_5) := (blk_cell BK216.out 5).trans rfl; have hcz66_6 : w63.cell? ⟨gb216, 6, none⟩ = some (.bool a1_6) := (blk_cell BK216.out 6).trans rfl; have hcz66_7 : w63.cell? ⟨gb216, 7, none⟩ = some (.slice A1_7 l1_7.length c1_7) := (blk_cell BK216.out 7).trans rfl; have hcz66_8 : w63.cell? ⟨gb216, 8, none⟩ = some (.slice A1_8 l1_8.length c1_8) := (blk_cell BK216.out 8).trans rfl; have hcz66_9 : w63.cell? ⟨gb216, 9, none⟩ = some (.slice A1_9 l1_9.length c1_9) := (blk_cell BK216.out 9).trans rfl; have hfz66_0 := blk_frozen BK216.out 0; have hfz66_1 := blk_frozen BK216.out 1; have hfz66_2 := blk_frozen BK216.out 2; have hfz66_3 := blk_frozen BK216.out 3; have hfz66_4 := blk_frozen BK216.out 4; have hfz66_5 := blk_frozen BK216.out 5; have hfz66_6 := blk_frozen BK216.out 6; have hfz66_7 := blk_frozen BK216.out 7; have hfz66_8 := blk_frozen BK216.out 8; have hfz66_9 := blk_frozen BK216.out 9))
    go_ret
    exact ⟨by first | rfl | (simp [errW_none, errW_some] <;> rfl) | (simp [*, errW_none, errW_some] <;> rfl), by repeat (first | (with_reducible first | exact HB.out | apply below_alloc | apply pw_below_drewN | apply below_drew1 | refine below_set ?_ GE215.out | refine below_set ?_ GE216.out) | exact HB.out)⟩

/-! ### laws_zzFits28: function 10 -/
def laws_zzFits28.f (a0_0 : Int) (a0_1 : Int) (a0_2 : Int) (l0_3 : List Int) : Option (Bool) := if (l0_3.length : Int) > 2147483647 then (some false) else (some true)
set_option maxHeartbeats 8000000 in
set_option maxRecDepth 100000 in
theorem laws_zzFits28.calls (a0_0 : Int) (a0_1 : Int) (a0_2 : Int) (A0_3 : Option Addr) (c0_3 : Nat) (l0_3 : List Int) (r : Bool) (w : World) (hr0_3 : Kd.C (Kd.int .i64) w A0_3 l0_3.length l0_3) (hc0_3 : l0_3.length ≤ c0_3) (h : laws_zzFits28.f a0_0 a0_1 a0_2 l0_3 = some r) :
    Calls Try.prog 10 #[.agg #[.int .i64 a0_0, .int .i64 a0_1, .int .i64 a0_2, .slice A0_3 l0_3.length c0_3]] w fun e w' => e = .returned (.bool r) ∧ Below w.heap.size w w' := by
  have hu32 := Try.underlying32
  have HR0_3 := Aside0.mk hr0_3
  have HC0_3 := Aside0.mk hc0_3
  clear hr0_3 hc0_3
  have HB := Aside0.mk (Below.refl w.heap.size w)
  have H : (if (l0_3.length : Int) > 2147483647 then (some false) else (some true)) = some r := h
  clear h
  by_cases c2 : (l0_3.length : Int) > 2147483647
  · rw [if_pos c2] at H
    have c2b0 : decide (2147483647 < (l0_3.length : Int)) = true := decide_eq_true c2
    have c2b1 : decide (2147483647 < l0_3.length) = true := decide_eq_true (by omega)
    clear c2
    obtain rfl := Option.some.inj H
    go_enter Try.func10, Try.ntmps10
    go_wp2_with (first | ((with_reducible refine gate_dst (N := 1) rfl ?_); refine box_event ?hg (N := 1) ?hd (cs := #[.int .i64 a0_0, .int .i64 a0_1, .int .i64 a0_2, .slice A0_3 l0_3.length c0_3]) (t := 32) ?hr ?_; (case hd => rfl); (case hg => rfl); (case hr => first | (go_simp; done) | (go_simp; rfl)); intro gb222 hg w3 hbox hb; have n0_ := Aside0.mk (below_step (by repeat (first | (with_reducible first | exact HB.out | apply below_alloc | apply pw_below_drewN | apply below_drew1) | exact HB.out)) hb); have n1_ := Aside0.mk (hbox); have n2_ := Aside0.mk ((by rw [hg]; exact (below_size (by repeat (first | (with_reducible first | exact HB.out | apply below_alloc | apply pw_below_drewN | apply below_drew1) | exact HB.out))) : w.heap.size ≤ gb222)); have n3_ := Aside0.mk ((by rw [hg]; exact (below_size (by repeat (first | (with_reducible first | exact HB.out | apply below_alloc | apply pw_below_drewN | apply below_drew1) | exact HB.out))) : w.heap.size ≤ gb222)); clear HB; have HB := n0_; have BK222 := n1_; have GW222 := n2_; have GE222 := n3_; clear n0_ n1_ n2_ n3_; clear hb hbox hg; have hcz4_0 : w3.cell? ⟨gb222, 0, none⟩ = some (.int .i64 a0_0) := (blk_cell BK222.out 0).trans rfl; have hcz4_1 : w3.cell? ⟨gb222, 1, none⟩ = some (.int .i64 a0_1) := (blk_cell BK222.out 1).trans rfl; have hcz4_2 : w3.cell? ⟨gb222, 2, none⟩ = some (.int .i64 a0_2) := (blk_cell BK222.out 2).trans rfl; have hcz4_3 : w3.cell? ⟨gb222, 3, none⟩ = some (.slice A0_3 l0_3.length c0_3) := (blk_cell BK222.out 3).trans rfl; have hfz4_0 := blk_frozen BK222.out 0; have hfz4_1 := blk_frozen BK222.out 1; have hfz4_2 := blk_frozen BK222.out 2; have hfz4_3 := blk_frozen BK222.out 3))
    go_ret
    exact ⟨by first | rfl | (simp [errW_none, errW_some] <;> rfl) | (simp [*, errW_none, errW_some] <;> rfl), by repeat (first | (with_reducible first | exact HB.out | apply below_alloc | apply pw_below_drewN | apply below_drew1 | refine below_set ?_ GE222.out) | exact HB.out)⟩
  · rw [if_neg c2] at H
    have c2b0 : decide (2147483647 < (l0_3.length : Int)) = false := decide_eq_false c2
    have c2b1 : decide (2147483647 < l0_3.length) = false := decide_eq_false (by omega)
    clear c2
    obtain rfl := Option.some.inj H
    go_enter Try.func10, Try.ntmps10
    go_wp2_with (first | ((with_reducible refine gate_dst (N := 1) rfl ?_); refine box_event ?hg (N := 1) ?hd (cs := #[.int .i64 a0_0, .int .i64 a0_1, .int .i64 a0_2, .slice A0_3 l0_3.length c0_3]) (t := 32) ?hr ?_; (case hd => rfl); (case hg => rfl); (case hr => first | (go_simp; done) | (go_simp; rfl)); intro gb222 hg w5 hbox hb; have n0_ := Aside0.mk (below_step (by repeat (first | (with_reducible first | exact HB.out | apply below_alloc | apply pw_below_drewN | apply below_drew1) | exact HB.out)) hb); have n1_ := Aside0.mk (hbox); have n2_ := Aside0.mk ((by rw [hg]; exact (below_size (by repeat (first | (with_reducible first | exact HB.out | apply below_alloc | apply pw_below_drewN | apply below_drew1) | exact HB.out))) : w.heap.size ≤ gb222)); have n3_ := Aside0.mk ((by rw [hg]; exact (below_size (by repeat (first | (with_reducible first | exact HB.out | apply below_alloc | apply pw_below_drewN | apply below_drew1) | exact HB.out))) : w.heap.size ≤ gb222)); clear HB; have HB := n0_; have BK222 := n1_; have GW222 := n2_; have GE222 := n3_; clear n0_ n1_ n2_ n3_; clear hb hbox hg; have hcz6_0 : w5.cell? ⟨gb222, 0, none⟩ = some (.int .i64 a0_0) := (blk_cell BK222.out 0).trans rfl; have hcz6_1 : w5.cell? ⟨gb222, 1, none⟩ = some (.int .i64 a0_1) := (blk_cell BK222.out 1).trans rfl; have hcz6_2 : w5.cell? ⟨gb222, 2, none⟩ = some (.int .i64 a0_2) := (blk_cell BK222.out 2).trans rfl; have hcz6_3 : w5.cell? ⟨gb222, 3, none⟩ = some (.slice A0_3 l0_3.length c0_3) := (blk_cell BK222.out 3).trans rfl; have hfz6_0 := blk_frozen BK222.out 0; have hfz6_1 := blk_frozen BK222.out 1; have hfz6_2 := blk_frozen BK222.out 2; have hfz6_3 := blk_frozen BK222.out 3))
    go_ret
    exact ⟨by first | rfl | (simp [errW_none, errW_some] <;> rfl) | (simp [*, errW_none, errW_some] <;> rfl), by repeat (first | (with_reducible first | exact HB.out | apply below_alloc | apply pw_below_drewN | apply below_drew1 | refine below_set ?_ GE222.out) | exact HB.out)⟩

/-! ### laws_zzFits27: function 4 -/
def laws_zzFits27.l0 : Nat → List (S32) → Int → Int → Option (Bool)
  | 0, _, _, _ => none
  | k + 1, x8, x9, x10 => if x10 < x9 then (if 0 ≤ x10 then (if x10 < (x8.length : Int) then ((laws_zzFits28.f ((rd_T32 x8 x10).f0) ((rd_T32 x8 x10).f1) ((rd_T32 x8 x10).f2) ((rd_T32 x8 x10).f3)).bind fun t225 => (if t225 = true then (laws_zzFits27.l0 k x8 x9 (wrap64 (x10 + 1))) else (some false))) else (none)) else (none)) else (some true)
def laws_zzFits27.f (k : Nat) (l0 : List (S32)) : Option (Bool) := if (l0.length : Int) > 2147483647 then (some false) else (laws_zzFits27.l0 k l0 (l0.length : Int) 0)
theorem laws_zzFits27.mono_l : ∀ k, (∀ y0 y1 y2, LeO (laws_zzFits27.l0 k y0 y1 y2) (laws_zzFits27.l0 (k + 1) y0 y1 y2))
  | 0 => fun _ _ _ r h => by simp [laws_zzFits27.l0] at h
  | k + 1 => by
    have ih0 := laws_zzFits27.mono_l k
    · intro y0 y1 y2
      unfold laws_zzFits27.l0
      repeat' first
      | (with_reducible exact ih0 _ _ _)
      | (with_reducible exact LeO.refl _)
      | (with_reducible exact LeO.none _)
      | (with_reducible refine LeO.ite ?_ ?_)
      | (with_reducible refine LeO.bind ?_ (fun _ => ?_))
      | exact ih0 _ _ _
      | exact LeO.none _
      | refine LeO.ite ?_ ?_
      | refine LeO.bind ?_ (fun _ => ?_)
theorem laws_zzFits27.mono : ∀ a0 k, LeO (laws_zzFits27.f k a0) (laws_zzFits27.f (k + 1) a0) := by
  intro a0 k
  have ih0 := laws_zzFits27.mono_l k
  unfold laws_zzFits27.f
  repeat' first
      | (with_reducible exact ih0 _ _ _)
      | (with_reducible exact LeO.refl _)
      | (with_reducible exact LeO.none _)
      | (with_reducible refine LeO.ite ?_ ?_)
      | (with_reducible refine LeO.bind ?_ (fun _ => ?_))
      | exact ih0 _ _ _
      | exact LeO.none _
      | refine LeO.ite ?_ ?_
      | refine LeO.bind ?_ (fun _ => ?_)
set_option maxHeartbeats 8000000 in
set_option maxRecDepth 100000 in
theorem laws_zzFits27.calls (k : Nat) (A0 : Option Addr) (c0 : Nat) (l0 : List (S32)) (r : Bool) (w : World) (hr0 : Kd.C k32 w A0 l0.length l0) (hc0 : l0.length ≤ c0) (h : laws_zzFits27.f k l0 = some r) :
    Calls Try.prog 4 #[.slice A0 l0.length c0] w fun e w' => e = .returned (.bool r) ∧ Below w.heap.size w w' := by
  have hu32 := Try.underlying32
  have HR0 := Aside0.mk hr0
  have HC0 := Aside0.mk hc0
  clear hr0 hc0
  have HB := Aside0.mk (Below.refl w.heap.size w)
  have H : (if (l0.length : Int) > 2147483647 then (some false) else (laws_zzFits27.l0 k l0 (l0.length : Int) 0)) = some r := h
  clear h
  by_cases c2 : (l0.length : Int) > 2147483647
  · rw [if_pos c2] at H
    have c2b0 : decide (2147483647 < (l0.length : Int)) = true := decide_eq_true c2
    have c2b1 : decide (2147483647 < l0.length) = true := decide_eq_true (by omega)
    clear c2
    obtain rfl := Option.some.inj H
    go_enter Try.func4, Try.ntmps4
    go_wp2
    go_ret
    exact ⟨by first | rfl | (simp [errW_none, errW_some] <;> rfl) | (simp [*, errW_none, errW_some] <;> rfl), by repeat (first | (with_reducible first | exact HB.out | apply below_alloc | apply pw_below_drewN | apply below_drew1) | exact HB.out)⟩
  · rw [if_neg c2] at H
    have c2b0 : decide (2147483647 < (l0.length : Int)) = false := decide_eq_false c2
    have c2b1 : decide (2147483647 < l0.length) = false := decide_eq_false (by omega)
    clear c2
    have H' := Aside0.mk H
    clear H
    go_enter Try.func4, Try.ntmps4
    go_wp2
    (try simp only [Act.put, List.setIfInBounds_toArray, List.set_cons_zero, List.set_cons_succ])
    go_loopg [10] k (fun kq v10 w' => ∃ (x10_1 : Int), v10 = .int .i64 x10_1 ∧ Aside0 (laws_zzFits27.l0 kq l0 (l0.length : Int) x10_1 = some r) ∧ Aside0 (kq ≤ k) ∧ Aside0 (Below w.heap.size w w'))
    case atStart => exact ⟨(0), (by first | rfl | (simp; done) | (simp [*]; done)), H', ⟨Nat.le_refl _⟩, ⟨by repeat (first | (with_reducible first | exact HB.out | apply below_alloc | apply pw_below_drewN | apply below_drew1) | exact HB.out)⟩⟩
    case round =>
      clear H'
      try clear c2
      try clear c2b0
      try clear c2b1
      try clear p2
      obtain ⟨x10_1, rfl, HA, HK1, HB⟩ := hrel
      cases gk with
      | zero => exact absurd HA.out (by simp [laws_zzFits27.l0])
      | succ k1 =>
        have H := HA.out
        clear HA
        simp only [laws_zzFits27.l0] at H
        by_cases c3 : x10_1 < (l0.length : Int)
        · rw [if_pos c3] at H
          have c3b0 : decide (x10_1 < (l0.length : Int)) = true := decide_eq_true c3
          clear c3
          by_cases c4 : 0 ≤ x10_1
          · rw [if_pos c4] at H
            have c4b0 : decide (0 ≤ x10_1) = true := decide_eq_true c4
            clear c4
            by_cases c5 : x10_1 < (l0.length : Int)
            · rw [if_pos c5] at H
              have c5b0 : decide (x10_1 < (l0.length : Int)) = true := decide_eq_true c5
              clear c5
              replace H := Option.bind_eq_some_iff.mp H
              obtain ⟨t225, A60, H⟩ := H
              replace H : (if t225 = true then (laws_zzFits27.l0 k1 l0 (l0.length : Int) (wrap64 (x10_1 + 1))) else (some false)) = some r := H
              have A6 := Aside0.mk A60
              clear A60
              by_cases c7 : t225 = true
              · subst c7
                have H1 : (laws_zzFits27.l0 k1 l0 (l0.length : Int) (wrap64 (x10_1 + 1))) = some r := by rw [if_pos rfl] at H; exact H
                clear H
                have H := H1
                clear H1
                have H' := Aside0.mk H
                clear H
                have p223 : 0 ≤ (x10_1 : Int) := of_decide_eq_true (by first | (with_reducible assumption) | assumption)
                have q223 : x10_1 < (l0.length : Int) := of_decide_eq_true (by first | (with_reducible assumption) | assumption)
                obtain ⟨ad223, A223_3, c223_3, e223, hx223_0, hx223_1, hx223_2, hx223_3, hl223_3, hi223_3⟩ := at_T32 HR0.out x10_1 p223 q223
                cases e223
                replace hx223_0 := (HB.out.cell (World.block_lt_of_cell? w _ hx223_0)).trans hx223_0
                replace hx223_1 := (HB.out.cell (World.block_lt_of_cell? w _ hx223_1)).trans hx223_1
                replace hx223_2 := (HB.out.cell (World.block_lt_of_cell? w _ hx223_2)).trans hx223_2
                replace hx223_3 := (HB.out.cell (World.block_lt_of_cell? w _ hx223_3)).trans hx223_3
                have HR223_3 := Aside0.mk hi223_3
                have HC223_3 := Aside0.mk hl223_3
                clear hi223_3 hl223_3
                replace p223 := eq_true p223
                replace q223 := eq_true q223
                go_wp2_with (first | ((with_reducible refine gate_dst (N := 4) rfl ?_); refine box_event ?hg (N := 4) ?hd (cs := #[.int .i64 0, .int .i64 0, .int .i64 0, .slice none 0 0]) (t := 32) ?hr ?_; (case hd => rfl); (case hg => rfl); (case hr => first | (go_simp; done) | (go_simp; rfl)); intro gb224 hg w8 hbox hb; have n0_ := Aside0.mk (below_step (by repeat (first | (with_reducible first | exact HB.out | apply below_alloc | apply pw_below_drewN | apply below_drew1) | exact HB.out)) hb); have n1_ := Aside0.mk (hbox); have n2_ := Aside0.mk ((by rw [hg]; exact (below_size (by repeat (first | (with_reducible first | exact HB.out | apply below_alloc | apply pw_below_drewN | apply below_drew1) | exact HB.out))) : w.heap.size ≤ gb224)); have n3_ := Aside0.mk ((by rw [hg]; exact (below_size (by repeat (first | (with_reducible first | exact HB.out | apply below_alloc | apply pw_below_drewN | apply below_drew1) | exact HB.out))) : w.heap.size ≤ gb224)); clear HB; have HB := n0_; have BK224 := n1_; have GW224 := n2_; have GE224 := n3_; clear n0_ n1_ n2_ n3_; clear hb hbox hg; have hcz9_0 : w8.cell? ⟨gb224, 0, none⟩ = some (.int .i64 0) := (blk_cell BK224.out 0).trans rfl; have hcz9_1 : w8.cell? ⟨gb224, 1, none⟩ = some (.int .i64 0) := (blk_cell BK224.out 1).trans rfl; have hcz9_2 : w8.cell? ⟨gb224, 2, none⟩ = some (.int .i64 0) := (blk_cell BK224.out 2).trans rfl; have hcz9_3 : w8.cell? ⟨gb224, 3, none⟩ = some (.slice none 0 0) := (blk_cell BK224.out 3).trans rfl; have hfz9_0 := blk_frozen BK224.out 0; have hfz9_1 := blk_frozen BK224.out 1; have hfz9_2 := blk_frozen BK224.out 2; have hfz9_3 := blk_frozen BK224.out 3) | ((with_reducible refine gate_callee (f := 10) rfl ?_); refine goesL_ (some 15) rfl rfl Try.func10 (by kernel_rfl) rfl #[.agg #[.int .i64 ((rd_T32 l0 x10_1).f0), .int .i64 ((rd_T32 l0 x10_1).f1), .int .i64 ((rd_T32 l0 x10_1).f2), .slice A223_3 ((rd_T32 l0 x10_1).f3).length c223_3]] rfl (by (try simp only [List.map_toArray, List.map_cons, List.map_nil]); first | done | rfl | (simp only [List.length_drop, List.length_take]; rfl)) ?_; (with_reducible refine (laws_zzFits28.calls ((rd_T32 l0 x10_1).f0) ((rd_T32 l0 x10_1).f1) ((rd_T32 l0 x10_1).f2) _ _ ((rd_T32 l0 x10_1).f3) true _ ?side1 ?side2 A6.out).mono ?_); (case side1 => exact Kd.C_below HR223_3.out (by repeat (first | (with_reducible first | exact HB.out | apply below_alloc | apply pw_below_drewN | apply below_drew1 | refine below_set ?_ GE224.out) | exact HB.out))); (case side2 => exact HC223_3.out); rintro e w10 ⟨rfl, hb⟩; refine ⟨_, rfl, ?_⟩; have n0_ := Aside0.mk (blk_below (g := gb224) (o := .cells #[.int .i64 ((rd_T32 l0 x10_1).f0), .int .i64 ((rd_T32 l0 x10_1).f1), .int .i64 ((rd_T32 l0 x10_1).f2), .slice A223_3 ((rd_T32 l0 x10_1).f3).length c223_3] 32 (0, 0)) (by (with_reducible repeat (first | refine blk_drewN ?_ _ | refine blk_drew ?_ | refine blk_alloc ?_ _)); refine blk_put (cs := #[.int .i64 ((rd_T32 l0 x10_1).f0), .int .i64 ((rd_T32 l0 x10_1).f1), .int .i64 ((rd_T32 l0 x10_1).f2), .slice none 0 0]) ?_ 3 _ rfl; (with_reducible repeat (first | refine blk_drewN ?_ _ | refine blk_drew ?_ | refine blk_alloc ?_ _)); refine blk_put (cs := #[.int .i64 ((rd_T32 l0 x10_1).f0), .int .i64 ((rd_T32 l0 x10_1).f1), .int .i64 0, .slice none 0 0]) ?_ 2 _ rfl; (with_reducible repeat (first | refine blk_drewN ?_ _ | refine blk_drew ?_ | refine blk_alloc ?_ _)); refine blk_put (cs := #[.int .i64 ((rd_T32 l0 x10_1).f0), .int .i64 0, .int .i64 0, .slice none 0 0]) ?_ 1 _ rfl; (with_reducible repeat (first | refine blk_drewN ?_ _ | refine blk_drew ?_ | refine blk_alloc ?_ _)); refine blk_put (cs := #[.int .i64 0, .int .i64 0, .int .i64 0, .slice none 0 0]) ?_ 0 _ rfl; (with_reducible repeat (first | refine blk_drewN ?_ _ | refine blk_drew ?_ | refine blk_alloc ?_ _)); exact BK224.out) hb); have n1_ := Aside0.mk (below_step (by repeat (first | (with_reducible first | exact HB.out | apply below_alloc | apply pw_below_drewN | apply below_drew1 | refine below_set ?_ GE224.out) | exact HB.out)) hb); clear BK224; clear HB; have BK224 := n0_; have HB := n1_; clear n0_ n1_; (try clear hb); (try clear hb2); (try clear hk); (try clear hi)))
                go_roundg k1
                case measure => have := HK1.out; omega
                case rel => exact ⟨(wrap64 (x10_1 + 1)), (by first | rfl | (simp; done) | (simp [*]; done)), H', ⟨by have := HK1.out; omega⟩, ⟨by repeat (first | (with_reducible first | exact HB.out | apply below_alloc | apply pw_below_drewN | apply below_drew1 | refine below_set ?_ GE224.out) | exact HB.out)⟩⟩
              · replace c7 := Bool.eq_false_iff.mpr c7
                subst c7
                have H1 : (some false) = some r := by rw [if_neg (show ¬ (false = true) by decide)] at H; exact H
                clear H
                have H := H1
                clear H1
                obtain rfl := Option.some.inj H
                have p223 : 0 ≤ (x10_1 : Int) := of_decide_eq_true (by first | (with_reducible assumption) | assumption)
                have q223 : x10_1 < (l0.length : Int) := of_decide_eq_true (by first | (with_reducible assumption) | assumption)
                obtain ⟨ad223, A223_3, c223_3, e223, hx223_0, hx223_1, hx223_2, hx223_3, hl223_3, hi223_3⟩ := at_T32 HR0.out x10_1 p223 q223
                cases e223
                replace hx223_0 := (HB.out.cell (World.block_lt_of_cell? w _ hx223_0)).trans hx223_0
                replace hx223_1 := (HB.out.cell (World.block_lt_of_cell? w _ hx223_1)).trans hx223_1
                replace hx223_2 := (HB.out.cell (World.block_lt_of_cell? w _ hx223_2)).trans hx223_2
                replace hx223_3 := (HB.out.cell (World.block_lt_of_cell? w _ hx223_3)).trans hx223_3
                have HR223_3 := Aside0.mk hi223_3
                have HC223_3 := Aside0.mk hl223_3
                clear hi223_3 hl223_3
                replace p223 := eq_true p223
                replace q223 := eq_true q223
                go_wp2_with (first | ((with_reducible refine gate_dst (N := 4) rfl ?_); refine box_event ?hg (N := 4) ?hd (cs := #[.int .i64 0, .int .i64 0, .int .i64 0, .slice none 0 0]) (t := 32) ?hr ?_; (case hd => rfl); (case hg => rfl); (case hr => first | (go_simp; done) | (go_simp; rfl)); intro gb224 hg w11 hbox hb; have n0_ := Aside0.mk (below_step (by repeat (first | (with_reducible first | exact HB.out | apply below_alloc | apply pw_below_drewN | apply below_drew1) | exact HB.out)) hb); have n1_ := Aside0.mk (hbox); have n2_ := Aside0.mk ((by rw [hg]; exact (below_size (by repeat (first | (with_reducible first | exact HB.out | apply below_alloc | apply pw_below_drewN | apply below_drew1) | exact HB.out))) : w.heap.size ≤ gb224)); have n3_ := Aside0.mk ((by rw [hg]; exact (below_size (by repeat (first | (with_reducible first | exact HB.out | apply below_alloc | apply pw_below_drewN | apply below_drew1) | exact HB.out))) : w.heap.size ≤ gb224)); clear HB; have HB := n0_; have BK224 := n1_; have GW224 := n2_; have GE224 := n3_; clear n0_ n1_ n2_ n3_; clear hb hbox hg; have hcz12_0 : w11.cell? ⟨gb224, 0, none⟩ = some (.int .i64 0) := (blk_cell BK224.out 0).trans rfl; have hcz12_1 : w11.cell? ⟨gb224, 1, none⟩ = some (.int .i64 0) := (blk_cell BK224.out 1).trans rfl; have hcz12_2 : w11.cell? ⟨gb224, 2, none⟩ = some (.int .i64 0) := (blk_cell BK224.out 2).trans rfl; have hcz12_3 : w11.cell? ⟨gb224, 3, none⟩ = some (.slice none 0 0) := (blk_cell BK224.out 3).trans rfl; have hfz12_0 := blk_frozen BK224.out 0; have hfz12_1 := blk_frozen BK224.out 1; have hfz12_2 := blk_frozen BK224.out 2; have hfz12_3 := blk_frozen BK224.out 3) | ((with_reducible refine gate_callee (f := 10) rfl ?_); refine goesL_ (some 15) rfl rfl Try.func10 (by kernel_rfl) rfl #[.agg #[.int .i64 ((rd_T32 l0 x10_1).f0), .int .i64 ((rd_T32 l0 x10_1).f1), .int .i64 ((rd_T32 l0 x10_1).f2), .slice A223_3 ((rd_T32 l0 x10_1).f3).length c223_3]] rfl (by (try simp only [List.map_toArray, List.map_cons, List.map_nil]); first | done | rfl | (simp only [List.length_drop, List.length_take]; rfl)) ?_; (with_reducible refine (laws_zzFits28.calls ((rd_T32 l0 x10_1).f0) ((rd_T32 l0 x10_1).f1) ((rd_T32 l0 x10_1).f2) _ _ ((rd_T32 l0 x10_1).f3) false _ ?side1 ?side2 A6.out).mono ?_); (case side1 => exact Kd.C_below HR223_3.out (by repeat (first | (with_reducible first | exact HB.out | apply below_alloc | apply pw_below_drewN | apply below_drew1 | refine below_set ?_ GE224.out) | exact HB.out))); (case side2 => exact HC223_3.out); rintro e w13 ⟨rfl, hb⟩; refine ⟨_, rfl, ?_⟩; have n0_ := Aside0.mk (blk_below (g := gb224) (o := .cells #[.int .i64 ((rd_T32 l0 x10_1).f0), .int .i64 ((rd_T32 l0 x10_1).f1), .int .i64 ((rd_T32 l0 x10_1).f2), .slice A223_3 ((rd_T32 l0 x10_1).f3).length c223_3] 32 (0, 0)) (by (with_reducible repeat (first | refine blk_drewN ?_ _ | refine blk_drew ?_ | refine blk_alloc ?_ _)); refine blk_put (cs := #[.int .i64 ((rd_T32 l0 x10_1).f0), .int .i64 ((rd_T32 l0 x10_1).f1), .int .i64 ((rd_T32 l0 x10_1).f2), .slice none 0 0]) ?_ 3 _ rfl; (with_reducible repeat (first | refine blk_drewN ?_ _ | refine blk_drew ?_ | refine blk_alloc ?_ _)); refine blk_put (cs := #[.int .i64 ((rd_T32 l0 x10_1).f0), .int .i64 ((rd_T32 l0 x10_1).f1), .int .i64 0, .slice none 0 0]) ?_ 2 _ rfl; (with_reducible repeat (first | refine blk_drewN ?_ _ | refine blk_drew ?_ | refine blk_alloc ?_ _)); refine blk_put (cs := #[.int .i64 ((rd_T32 l0 x10_1).f0), .int .i64 0, .int .i64 0, .slice none 0 0]) ?_ 1 _ rfl; (with_reducible repeat (first | refine blk_drewN ?_ _ | refine blk_drew ?_ | refine blk_alloc ?_ _)); refine blk_put (cs := #[.int .i64 0, .int .i64 0, .int .i64 0, .slice none 0 0]) ?_ 0 _ rfl; (with_reducible repeat (first | refine blk_drewN ?_ _ | refine blk_drew ?_ | refine blk_alloc ?_ _)); exact BK224.out) hb); have n1_ := Aside0.mk (below_step (by repeat (first | (with_reducible first | exact HB.out | apply below_alloc | apply pw_below_drewN | apply below_drew1 | refine below_set ?_ GE224.out) | exact HB.out)) hb); clear BK224; clear HB; have BK224 := n0_; have HB := n1_; clear n0_ n1_; (try clear hb); (try clear hb2); (try clear hk); (try clear hi)))
                go_ret
                exact ⟨by first | rfl | (simp [errW_none, errW_some] <;> rfl) | (simp [*, errW_none, errW_some] <;> rfl), by repeat (first | (with_reducible first | exact HB.out | apply below_alloc | apply pw_below_drewN | apply below_drew1 | refine below_set ?_ GE224.out) | exact HB.out)⟩
            · rw [if_neg c5] at H
              exact absurd H (by simp)
          · rw [if_neg c4] at H
            exact absurd H (by simp)
        · rw [if_neg c3] at H
          have c3b0 : decide (x10_1 < (l0.length : Int)) = false := decide_eq_false c3
          clear c3
          obtain rfl := Option.some.inj H
          go_wp2
          go_ret
          exact ⟨by first | rfl | (simp [errW_none, errW_some] <;> rfl) | (simp [*, errW_none, errW_some] <;> rfl), by repeat (first | (with_reducible first | exact HB.out | apply below_alloc | apply pw_below_drewN | apply below_drew1) | exact HB.out)⟩

end Go.Proofs.Ytokdamfalhcnnaa.GMpBody
