-- Written by gprint.py, a program of this session over the kit's printer, with contracts of its own for what the printer does not take. Not trusted: Lean checks it.
import Derived.Test.YtjaebonfojnmdaaDoorGFnCamelx0
import Derived.Test.YtjaebonfojnmdaaDoorGFnCamelx1
namespace Go.Proofs.YtjaebonfojnmdaaDoor.GFnCamel
open Go.RowKit Go.Proofs.YtjaebonfojnmdaaDoor.Itr Go.Proofs.YtjaebonfojnmdaaDoorW.PrintWords Go.Proofs.YtjaebonfojnmdaaDoorW.PrintLast Go.Proofs.YtjaebonfojnmdaaDoorW.PrintMore
attribute [local go_sem] max2_int min2_int max_two min_two max_three min_three max_four min_four   -- for this text's walks alone
set_option linter.unusedVariables false
set_option linter.unusedSimpArgs false

/-! ### laws_FnCamel: function 3 -/
mutual
def laws_FnCamel.l0 : Nat → ByteArray → Int → Option (Bool)
  | 0, _, _ => none
  | k + 1, x0, x3 => if x3 < (x0.size : Int) then (if 0 ≤ x3 then ((spec_TwKind.f k (bt x0 x3)).bind fun t106 => (if t106 > 1 then (some true) else (laws_FnCamel.l0 k x0 (wrap64 (x3 + 1))))) else (none)) else (if (x0.size : Int) > 200 then (laws_FnCamel.j1 k x0 true) else (laws_FnCamel.j1 k x0 ((x0.size : Int) == 0)))
def laws_FnCamel.j1 : Nat → ByteArray → Bool → Option (Bool)
  | 0, _, _ => none
  | k + 1, x0, x30 => if x30 = true then (some true) else (laws_FnCamel.l1 k x0 ([] : List ByteArray) 0 1)
def laws_FnCamel.l1 : Nat → ByteArray → List ByteArray → Int → Int → Option (Bool)
  | 0, _, _, _, _ => none
  | k + 1, x0, x4, x5, x6 => if x6 < (x0.size : Int) then (if 0 ≤ x6 then ((spec_TwKind.f k (bt x0 x6)).bind fun t117 => (if 0 ≤ (wrap64 (x6 - 1)) then (if (wrap64 (x6 - 1)) < (x0.size : Int) then ((spec_TwKind.f k (bt x0 (wrap64 (x6 - 1)))).bind fun t118 => (if t117 = 1 then (if t118 = 0 then (if 0 ≤ x5 then (if x5 ≤ x6 then (if x6 ≤ (x0.size : Int) then ((some (([x0.extract (x5 : Int).toNat (x6 : Int).toNat] : List ByteArray) : List ByteArray)).bind fun y119 => (if x4.length + y119.length < 8796093022208 then (laws_FnCamel.l1 k x0 (x4 ++ y119) x6 (wrap64 (x6 + 1))) else (none))) else (none)) else (none)) else (none)) else (if (wrap64 (x6 + 1)) < (x0.size : Int) then (if 0 ≤ (wrap64 (x6 + 1)) then ((spec_TwKind.f k (bt x0 (wrap64 (x6 + 1)))).bind fun t125 => (if t125 = 0 then (if 0 ≤ x5 then (if x5 ≤ x6 then (if x6 ≤ (x0.size : Int) then ((some (([x0.extract (x5 : Int).toNat (x6 : Int).toNat] : List ByteArray) : List ByteArray)).bind fun y126 => (if x4.length + y126.length < 8796093022208 then (laws_FnCamel.l1 k x0 (x4 ++ y126) x6 (wrap64 (x6 + 1))) else (none))) else (none)) else (none)) else (none)) else (laws_FnCamel.l1 k x0 x4 x5 (wrap64 (x6 + 1))))) else (none)) else (laws_FnCamel.l1 k x0 x4 x5 (wrap64 (x6 + 1))))) else (laws_FnCamel.l1 k x0 x4 x5 (wrap64 (x6 + 1))))) else (none)) else (none))) else (none)) else ((impl_TwSplitCamelCase.f x0).bind fun t107 => (if 0 ≤ x5 then (if x5 ≤ (x0.size : Int) then ((some (([x0.extract (x5 : Int).toNat x0.size] : List ByteArray) : List ByteArray)).bind fun y110 => (if x4.length + y110.length < 8796093022208 then ((spec_TwTexts.f k t107 (x4 ++ y110)).bind fun t116 => (some t116)) else (none))) else (none)) else (none)))
end
def laws_FnCamel.f (k : Nat) (a0 : ByteArray) : Option (Bool) := if (a0.size : Int) > 2147483647 then (some true) else (laws_FnCamel.l0 k a0 0)
theorem laws_FnCamel.mono_l : ∀ k, (∀ y0 y1, LeO (laws_FnCamel.l0 k y0 y1) (laws_FnCamel.l0 (k + 1) y0 y1)) ∧ (∀ y0 y1, LeO (laws_FnCamel.j1 k y0 y1) (laws_FnCamel.j1 (k + 1) y0 y1)) ∧ (∀ y0 y1 y2 y3, LeO (laws_FnCamel.l1 k y0 y1 y2 y3) (laws_FnCamel.l1 (k + 1) y0 y1 y2 y3))
  | 0 => ⟨fun _ _ r h => by simp [laws_FnCamel.l0] at h, fun _ _ r h => by simp [laws_FnCamel.j1] at h, fun _ _ _ _ r h => by simp [laws_FnCamel.l1] at h⟩
  | k + 1 => by
    obtain ⟨ih0, ih1, ih2⟩ := laws_FnCamel.mono_l k
    refine ⟨?_, ?_, ?_⟩
    · intro y0 y1
      unfold laws_FnCamel.l0
      repeat' first
      | (with_reducible exact ih0 _ _)
      | (with_reducible exact ih1 _ _)
      | (with_reducible exact ih2 _ _ _ _)
      | (with_reducible exact spec_TwKind.mono _ _)
      | (with_reducible exact spec_TwTexts.mono _ _ _)
      | (with_reducible exact LeO.refl _)
      | (with_reducible exact LeO.none _)
      | (with_reducible refine LeO.ite ?_ ?_)
      | (with_reducible refine LeO.bind ?_ (fun _ => ?_))
      | exact ih0 _ _
      | exact ih1 _ _
      | exact ih2 _ _ _ _
      | exact spec_TwKind.mono _ _
      | exact spec_TwTexts.mono _ _ _
      | exact LeO.none _
      | refine LeO.ite ?_ ?_
      | refine LeO.bind ?_ (fun _ => ?_)
    · intro y0 y1
      unfold laws_FnCamel.j1
      repeat' first
      | (with_reducible exact ih0 _ _)
      | (with_reducible exact ih1 _ _)
      | (with_reducible exact ih2 _ _ _ _)
      | (with_reducible exact spec_TwKind.mono _ _)
      | (with_reducible exact spec_TwTexts.mono _ _ _)
      | (with_reducible exact LeO.refl _)
      | (with_reducible exact LeO.none _)
      | (with_reducible refine LeO.ite ?_ ?_)
      | (with_reducible refine LeO.bind ?_ (fun _ => ?_))
      | exact ih0 _ _
      | exact ih1 _ _
      | exact ih2 _ _ _ _
      | exact spec_TwKind.mono _ _
      | exact spec_TwTexts.mono _ _ _
      | exact LeO.none _
      | refine LeO.ite ?_ ?_
      | refine LeO.bind ?_ (fun _ => ?_)
    · intro y0 y1 y2 y3
      unfold laws_FnCamel.l1
      repeat' first
      | (with_reducible exact ih0 _ _)
      | (with_reducible exact ih1 _ _)
      | (with_reducible exact ih2 _ _ _ _)
      | (with_reducible exact spec_TwKind.mono _ _)
      | (with_reducible exact spec_TwTexts.mono _ _ _)
      | (with_reducible exact LeO.refl _)
      | (with_reducible exact LeO.none _)
      | (with_reducible refine LeO.ite ?_ ?_)
      | (with_reducible refine LeO.bind ?_ (fun _ => ?_))
      | exact ih0 _ _
      | exact ih1 _ _
      | exact ih2 _ _ _ _
      | exact spec_TwKind.mono _ _
      | exact spec_TwTexts.mono _ _ _
      | exact LeO.none _
      | refine LeO.ite ?_ ?_
      | refine LeO.bind ?_ (fun _ => ?_)
theorem laws_FnCamel.mono : ∀ a0 k, LeO (laws_FnCamel.f k a0) (laws_FnCamel.f (k + 1) a0) := by
  intro a0 k
  obtain ⟨ih0, ih1, ih2⟩ := laws_FnCamel.mono_l k
  unfold laws_FnCamel.f
  repeat' first
      | (with_reducible exact ih0 _ _)
      | (with_reducible exact ih1 _ _)
      | (with_reducible exact ih2 _ _ _ _)
      | (with_reducible exact spec_TwKind.mono _ _)
      | (with_reducible exact spec_TwTexts.mono _ _ _)
      | (with_reducible exact LeO.refl _)
      | (with_reducible exact LeO.none _)
      | (with_reducible refine LeO.ite ?_ ?_)
      | (with_reducible refine LeO.bind ?_ (fun _ => ?_))
      | exact ih0 _ _
      | exact ih1 _ _
      | exact ih2 _ _ _ _
      | exact spec_TwKind.mono _ _
      | exact spec_TwTexts.mono _ _ _
      | exact LeO.none _
      | refine LeO.ite ?_ ?_
      | refine LeO.bind ?_ (fun _ => ?_)
def laws_FnCamel.T15 : Bool × List (List Nat × List Nat) := (true, [([], []), ([], []), ([0, 1], [0, 1]), ([2], [2]), ([], []), ([], []), ([5], [5]), ([4, 6], [4, 6]), ([7, 3], [7]), ([3, 8, 0, 1, 2, 3], [3]), ([8, 9, 0, 1, 2, 3, 4, 5, 6, 7, 8, 9], [8])])
def laws_FnCamel.B15 : List Nat := [0, 0, 3, 7, 0, 0, 32, 112, 255, 511, 1023]
theorem laws_FnCamel.tab15 : rtab .any (opsOf Tryd.f3 15) = laws_FnCamel.T15 := by kernel_rfl
theorem laws_FnCamel.bits15 : waitsOk laws_FnCamel.T15.2 laws_FnCamel.B15 = true := by kernel_rfl
def laws_FnCamel.T19 : Bool × List (List Nat × List Nat) := (true, [([], []), ([0], [0]), ([], []), ([], []), ([], []), ([3, 4], [3, 4]), ([5], [5]), ([2, 6, 1], [2, 6]), ([1, 7, 7], [1, 7]), ([8, 8, 0, 1, 2, 3, 4, 5, 6, 7, 8], [8])])
def laws_FnCamel.B19 : List Nat := [0, 1, 0, 0, 0, 24, 56, 127, 255, 511]
theorem laws_FnCamel.tab19 : rtab .any (opsOf Tryd.f3 19) = laws_FnCamel.T19 := by kernel_rfl
theorem laws_FnCamel.bits19 : waitsOk laws_FnCamel.T19.2 laws_FnCamel.B19 = true := by kernel_rfl
set_option maxHeartbeats 8000000 in
set_option maxRecDepth 100000 in
theorem laws_FnCamel.calls (k : Nat) (a0 : ByteArray) (r : Bool) (w : World) (h : laws_FnCamel.f k a0 = some r) (hT_ : Cmb.Tp w) :
    Calls Tryd.prog 3 #[.string a0] w fun e w' => e = .returned (.bool r) ∧ Below w.heap.size w w' := by
  have HT_P := Aside0.mk hT_
  clear hT_
  have HB := Aside0.mk (Below.refl w.heap.size w)
  have H : (if (a0.size : Int) > 2147483647 then (some true) else (laws_FnCamel.l0 k a0 0)) = some r := h
  clear h
  by_cases c2 : (a0.size : Int) > 2147483647
  · rw [if_pos c2] at H
    have c2b0 : decide (2147483647 < (a0.size : Int)) = true := decide_eq_true c2
    have c2b1 : decide (2147483647 < a0.size) = true := decide_eq_true (by omega)
    clear c2
    obtain rfl := Option.some.inj H
    go_enter Tryd.func3, Tryd.ntmps3
    go_wp2
    go_ret
    exact ⟨by first | rfl | (simp [errW_none, errW_some] <;> rfl) | (simp [*, errW_none, errW_some] <;> rfl), by repeat (first | (with_reducible first | exact HB.out | apply below_alloc | apply pw_below_drewN | apply below_drew1) | exact HB.out)⟩
  · rw [if_neg c2] at H
    have c2b0 : decide (2147483647 < (a0.size : Int)) = false := decide_eq_false c2
    have c2b1 : decide (2147483647 < a0.size) = false := decide_eq_false (by omega)
    clear c2
    have H' := Aside0.mk H
    clear H
    go_enter Tryd.func3, Tryd.ntmps3
    go_wp2
    (try simp only [Act.put, List.setIfInBounds_toArray, List.set_cons_zero, List.set_cons_succ])
    go_loopg [3] k (fun kq v3 w' => ∃ (x3_1 : Int), v3 = .int .i64 x3_1 ∧ Aside0 (laws_FnCamel.l0 kq a0 x3_1 = some r) ∧ Aside0 (kq ≤ k) ∧ Aside0 (Below w.heap.size w w'))
    case atStart => exact ⟨(0), (by first | rfl | (simp; done) | (simp [*]; done)), H', ⟨Nat.le_refl _⟩, ⟨by repeat (first | (with_reducible first | exact HB.out | apply below_alloc | apply pw_below_drewN | apply below_drew1) | exact HB.out)⟩⟩
    case round =>
      clear H'
      try clear c2
      try clear c2b0
      try clear c2b1
      try clear p2
      obtain ⟨x3_1, rfl, HA, HK1, HB⟩ := hrel
      cases gk with
      | zero => exact absurd HA.out (by simp [laws_FnCamel.l0])
      | succ k1 =>
        have H := HA.out
        clear HA
        simp only [laws_FnCamel.l0] at H
        by_cases c3 : x3_1 < (a0.size : Int)
        · rw [if_pos c3] at H
          have c3b0 : decide (x3_1 < (a0.size : Int)) = true := decide_eq_true c3
          clear c3
          by_cases c4 : 0 ≤ x3_1
          · rw [if_pos c4] at H
            have c4b0 : decide (0 ≤ x3_1) = true := decide_eq_true c4
            clear c4
            replace H := Option.bind_eq_some_iff.mp H
            obtain ⟨t106, A60, H⟩ := H
            replace H : (if t106 > 1 then (some true) else (laws_FnCamel.l0 k1 a0 (wrap64 (x3_1 + 1)))) = some r := H
            have A6 := Aside0.mk A60
            clear A60
            by_cases c7 : t106 > 1
            · rw [if_pos c7] at H
              have c7b0 : decide (1 < t106) = true := decide_eq_true c7
              clear c7
              obtain rfl := Option.some.inj H
              have p5 : 0 ≤ (x3_1 : Int) := of_decide_eq_true (by first | (with_reducible assumption) | assumption)
              have q5 : x3_1 < (a0.size : Int) := of_decide_eq_true (by first | (with_reducible assumption) | assumption)
              have hx5 := bt_at a0 x3_1
              replace p5 := eq_true p5
              replace q5 := eq_true q5
              go_wp2_with (first | ((with_reducible refine gate_callee (f := 4) rfl ?_); refine goesL_ (some 21) rfl rfl Tryd.func4 (by kernel_rfl) rfl #[.int .u8 (bt a0 x3_1)] rfl (by (try simp only [List.map_toArray, List.map_cons, List.map_nil]); first | done | rfl | (simp only [List.length_drop, List.length_take]; rfl)) ?_; (with_reducible refine (spec_TwKind.calls k1 (bt a0 x3_1) t106 _ A6.out).mono ?_); rintro e w' ⟨rfl, ⟨nd, rfl⟩⟩; refine ⟨_, rfl, ?_⟩))
              go_ret
              exact ⟨by first | rfl | (simp [errW_none, errW_some] <;> rfl) | (simp [*, errW_none, errW_some] <;> rfl), by repeat (first | (with_reducible first | exact HB.out | apply below_alloc | apply pw_below_drewN | apply below_drew1) | exact HB.out)⟩
            · rw [if_neg c7] at H
              have c7b0 : decide (1 < t106) = false := decide_eq_false c7
              clear c7
              have H' := Aside0.mk H
              clear H
              have p5 : 0 ≤ (x3_1 : Int) := of_decide_eq_true (by first | (with_reducible assumption) | assumption)
              have q5 : x3_1 < (a0.size : Int) := of_decide_eq_true (by first | (with_reducible assumption) | assumption)
              have hx5 := bt_at a0 x3_1
              replace p5 := eq_true p5
              replace q5 := eq_true q5
              go_wp2_with (first | ((with_reducible refine gate_callee (f := 4) rfl ?_); refine goesL_ (some 21) rfl rfl Tryd.func4 (by kernel_rfl) rfl #[.int .u8 (bt a0 x3_1)] rfl (by (try simp only [List.map_toArray, List.map_cons, List.map_nil]); first | done | rfl | (simp only [List.length_drop, List.length_take]; rfl)) ?_; (with_reducible refine (spec_TwKind.calls k1 (bt a0 x3_1) t106 _ A6.out).mono ?_); rintro e w' ⟨rfl, ⟨nd, rfl⟩⟩; refine ⟨_, rfl, ?_⟩))
              go_roundg k1
              case measure => have := HK1.out; omega
              case rel => exact ⟨(wrap64 (x3_1 + 1)), (by first | rfl | (simp; done) | (simp [*]; done)), H', ⟨by have := HK1.out; omega⟩, ⟨by repeat (first | (with_reducible first | exact HB.out | apply below_alloc | apply pw_below_drewN | apply below_drew1) | exact HB.out)⟩⟩
          · rw [if_neg c4] at H
            exact absurd H (by simp)
        · rw [if_neg c3] at H
          have c3b0 : decide (x3_1 < (a0.size : Int)) = false := decide_eq_false c3
          clear c3
          have HC8 := Aside0.mk H
          clear H
          go_upto_region 8 with (fail)
          go_cut [30] (fun v30 wc => ∃ (kq : Nat) (x30_7 : Bool), v30 = .bool x30_7 ∧ Aside0 (laws_FnCamel.j1 kq a0 x30_7 = some r) ∧ Aside0 (kq ≤ k1) ∧ Aside0 (Below w.heap.size w wc))
          case first =>
            have H := HC8.out
            clear HC8
            by_cases c9 : (a0.size : Int) > 200
            · rw [if_pos c9] at H
              have c9b0 : decide (200 < (a0.size : Int)) = true := decide_eq_true c9
              have c9b1 : decide (200 < a0.size) = true := decide_eq_true (by omega)
              clear c9
              (first | rw [c9b0] | (simp only [i64_w, i32_w]; rw [c9b0]) | skip)
              have H' := Aside0.mk H
              clear H
              go_wp2
              go_meet
              case rel => exact ⟨_, (true), (by first | rfl | (simp; done) | (simp [*]; done)), H', ⟨by have := HK1.out; first | omega | exact Nat.le_refl _⟩, ⟨by repeat (first | (with_reducible first | exact HB.out | apply below_alloc | apply pw_below_drewN | apply below_drew1) | exact HB.out)⟩⟩
            · rw [if_neg c9] at H
              have c9b0 : decide (200 < (a0.size : Int)) = false := decide_eq_false c9
              have c9b1 : decide (200 < a0.size) = false := decide_eq_false (by omega)
              clear c9
              (first | rw [c9b0] | (simp only [i64_w, i32_w]; rw [c9b0]) | skip)
              have H' := Aside0.mk H
              clear H
              go_wp2
              go_meet
              case rel => exact ⟨_, (((a0.size : Int) == 0)), (by first | rfl | (simp; done) | (simp [*]; done)), H', ⟨by have := HK1.out; first | omega | exact Nat.le_refl _⟩, ⟨by repeat (first | (with_reducible first | exact HB.out | apply below_alloc | apply pw_below_drewN | apply below_drew1) | exact HB.out)⟩⟩
          case rest =>
            clear HC8
            try clear c2
            try clear c2b0
            try clear c2b1
            try clear p2
            try clear c3
            try clear c3b0
            try clear c4
            try clear c4b0
            try clear p5
            try clear q5
            try clear hx5
            try clear p6
            try clear c7
            try clear c7b0
            try clear c9
            try clear c9b0
            try clear c9b1
            try clear p2
            try clear p5
            try clear q5
            obtain ⟨kq, x30_7, rfl, HA, HJ7, HB⟩ := hcut
            cases kq with
            | zero => exact absurd HA.out (by simp [laws_FnCamel.j1])
            | succ kj7 =>
              have H := HA.out
              clear HA
              simp only [laws_FnCamel.j1] at H
              by_cases c10 : x30_7 = true
              · subst c10
                have H1 : (some true) = some r := by rw [if_pos rfl] at H; exact H
                clear H
                have H := H1
                clear H1
                obtain rfl := Option.some.inj H
                go_wp2
                go_ret
                exact ⟨by first | rfl | (simp [errW_none, errW_some] <;> rfl) | (simp [*, errW_none, errW_some] <;> rfl), by repeat (first | (with_reducible first | exact HB.out | apply below_alloc | apply pw_below_drewN | apply below_drew1) | exact HB.out)⟩
              · replace c10 := Bool.eq_false_iff.mpr c10
                subst c10
                have H1 : (laws_FnCamel.l1 kj7 a0 ([] : List ByteArray) 0 1) = some r := by rw [if_neg (show ¬ (false = true) by decide)] at H; exact H
                clear H
                have H := H1
                clear H1
                have H' := Aside0.mk H
                clear H
                go_wp2
                (try simp only [Act.put, List.setIfInBounds_toArray, List.set_cons_zero, List.set_cons_succ])
                go_loopg [4, 5, 6] kj7 (fun kq v4 v5 v6 w' => ∃ (x4_3 : List ByteArray) (x5_3 : Int) (x6_3 : Int), v5 = .int .i64 x5_3 ∧ v6 = .int .i64 x6_3 ∧ Aside0 (laws_FnCamel.l1 kq a0 x4_3 x5_3 x6_3 = some r) ∧ Aside0 (kq ≤ kj7) ∧ Aside0 (Kd.R Kd.string 9 w' w.heap.size (fun _ => True) v4 x4_3) ∧ Aside0 (Below w.heap.size w w'))
                case atStart => exact ⟨(([] : List ByteArray)), (0), (1), (by first | rfl | (simp; done) | (simp [*]; done)), (by first | rfl | (simp; done) | (simp [*]; done)), H', ⟨Nat.le_refl _⟩, ⟨by first | exact Kd.R_nil _ _ _ _ _ | exact Kd.N_nil _ _ _ _ _ | exact Kd.V_nil _ _ _ _ _ | exact Kd.Q_nil _ _ _ _ _ | exact Kd.S_nil _ _ _ _ _⟩, ⟨by repeat (first | (with_reducible first | exact HB.out | apply below_alloc | apply pw_below_drewN | apply below_drew1) | exact HB.out)⟩⟩
                case round =>
                  clear H'
                  try clear c1
                  try clear c2
                  try clear c2b0
                  try clear c2b1
                  try clear p2
                  try clear c3
                  try clear c3b0
                  try clear c4
                  try clear c4b0
                  try clear p5
                  try clear q5
                  try clear hx5
                  try clear p6
                  try clear c7
                  try clear c7b0
                  try clear c9
                  try clear c9b0
                  try clear c9b1
                  try clear c10
                  try clear p2
                  try clear p5
                  try clear p6
                  try clear q5
                  obtain ⟨x4_3, x5_3, x6_3, rfl, rfl, HA, HK3, HO_4, HB⟩ := hrel
                  cases gk with
                  | zero => exact absurd HA.out (by simp [laws_FnCamel.l1])
                  | succ k3 =>
                    have H := HA.out
                    clear HA
                    simp only [laws_FnCamel.l1] at H
                    by_cases c11 : x6_3 < (a0.size : Int)
                    · rw [if_pos c11] at H
                      have c11b0 : decide (x6_3 < (a0.size : Int)) = true := decide_eq_true c11
                      clear c11
                      by_cases c12 : 0 ≤ x6_3
                      · rw [if_pos c12] at H
                        have c12b0 : decide (0 ≤ x6_3) = true := decide_eq_true c12
                        clear c12
                        replace H := Option.bind_eq_some_iff.mp H
                        obtain ⟨t117, A140, H⟩ := H
                        replace H : (if 0 ≤ (wrap64 (x6_3 - 1)) then (if (wrap64 (x6_3 - 1)) < (a0.size : Int) then ((spec_TwKind.f k3 (bt a0 (wrap64 (x6_3 - 1)))).bind fun t118 => (if t117 = 1 then (if t118 = 0 then (if 0 ≤ x5_3 then (if x5_3 ≤ x6_3 then (if x6_3 ≤ (a0.size : Int) then ((some (([a0.extract (x5_3 : Int).toNat (x6_3 : Int).toNat] : List ByteArray) : List ByteArray)).bind fun y119 => (if x4_3.length + y119.length < 8796093022208 then (laws_FnCamel.l1 k3 a0 (x4_3 ++ y119) x6_3 (wrap64 (x6_3 + 1))) else (none))) else (none)) else (none)) else (none)) else (if (wrap64 (x6_3 + 1)) < (a0.size : Int) then (if 0 ≤ (wrap64 (x6_3 + 1)) then ((spec_TwKind.f k3 (bt a0 (wrap64 (x6_3 + 1)))).bind fun t125 => (if t125 = 0 then (if 0 ≤ x5_3 then (if x5_3 ≤ x6_3 then (if x6_3 ≤ (a0.size : Int) then ((some (([a0.extract (x5_3 : Int).toNat (x6_3 : Int).toNat] : List ByteArray) : List ByteArray)).bind fun y126 => (if x4_3.length + y126.length < 8796093022208 then (laws_FnCamel.l1 k3 a0 (x4_3 ++ y126) x6_3 (wrap64 (x6_3 + 1))) else (none))) else (none)) else (none)) else (none)) else (laws_FnCamel.l1 k3 a0 x4_3 x5_3 (wrap64 (x6_3 + 1))))) else (none)) else (laws_FnCamel.l1 k3 a0 x4_3 x5_3 (wrap64 (x6_3 + 1))))) else (laws_FnCamel.l1 k3 a0 x4_3 x5_3 (wrap64 (x6_3 + 1))))) else (none)) else (none)) = some r := H
                        have A14 := Aside0.mk A140
                        clear A140
                        obtain ⟨ji15, hji15⟩ : ∃ j_ : Int, (wrap64 (x6_3 - 1)) = j_ := ⟨_, rfl⟩
                        replace H : (if 0 ≤ (ji15) then (if (ji15) < (a0.size : Int) then ((spec_TwKind.f k3 (bt a0 (ji15))).bind fun t118 => (if t117 = 1 then (if t118 = 0 then (if 0 ≤ x5_3 then (if x5_3 ≤ x6_3 then (if x6_3 ≤ (a0.size : Int) then ((some (([a0.extract (x5_3 : Int).toNat (x6_3 : Int).toNat] : List ByteArray) : List ByteArray)).bind fun y119 => (if x4_3.length + y119.length < 8796093022208 then (laws_FnCamel.l1 k3 a0 (x4_3 ++ y119) x6_3 (wrap64 (x6_3 + 1))) else (none))) else (none)) else (none)) else (none)) else (if (wrap64 (x6_3 + 1)) < (a0.size : Int) then (if 0 ≤ (wrap64 (x6_3 + 1)) then ((spec_TwKind.f k3 (bt a0 (wrap64 (x6_3 + 1)))).bind fun t125 => (if t125 = 0 then (if 0 ≤ x5_3 then (if x5_3 ≤ x6_3 then (if x6_3 ≤ (a0.size : Int) then ((some (([a0.extract (x5_3 : Int).toNat (x6_3 : Int).toNat] : List ByteArray) : List ByteArray)).bind fun y126 => (if x4_3.length + y126.length < 8796093022208 then (laws_FnCamel.l1 k3 a0 (x4_3 ++ y126) x6_3 (wrap64 (x6_3 + 1))) else (none))) else (none)) else (none)) else (none)) else (laws_FnCamel.l1 k3 a0 x4_3 x5_3 (wrap64 (x6_3 + 1))))) else (none)) else (laws_FnCamel.l1 k3 a0 x4_3 x5_3 (wrap64 (x6_3 + 1))))) else (laws_FnCamel.l1 k3 a0 x4_3 x5_3 (wrap64 (x6_3 + 1))))) else (none)) else (none)) = some r := by first | (rw [hji15] at H; exact H) | (simp only [hji15] at H ⊢; exact H)
                        (try rw [hji15] at A14)
                        have hji15w : (IntKind.i64.wrap (x6_3 - 1)) = ji15 := (i64_w _).trans hji15
                        by_cases c16 : 0 ≤ (ji15)
                        · rw [if_pos c16] at H
                          have c16b0 : decide (0 ≤ (ji15)) = true := decide_eq_true c16
                          clear c16
                          by_cases c17 : (ji15) < (a0.size : Int)
                          · rw [if_pos c17] at H
                            have c17b0 : decide ((ji15) < (a0.size : Int)) = true := decide_eq_true c17
                            clear c17
                            replace H := Option.bind_eq_some_iff.mp H
                            obtain ⟨t118, A190, H⟩ := H
                            replace H : (if t117 = 1 then (if t118 = 0 then (if 0 ≤ x5_3 then (if x5_3 ≤ x6_3 then (if x6_3 ≤ (a0.size : Int) then ((some (([a0.extract (x5_3 : Int).toNat (x6_3 : Int).toNat] : List ByteArray) : List ByteArray)).bind fun y119 => (if x4_3.length + y119.length < 8796093022208 then (laws_FnCamel.l1 k3 a0 (x4_3 ++ y119) x6_3 (wrap64 (x6_3 + 1))) else (none))) else (none)) else (none)) else (none)) else (if (wrap64 (x6_3 + 1)) < (a0.size : Int) then (if 0 ≤ (wrap64 (x6_3 + 1)) then ((spec_TwKind.f k3 (bt a0 (wrap64 (x6_3 + 1)))).bind fun t125 => (if t125 = 0 then (if 0 ≤ x5_3 then (if x5_3 ≤ x6_3 then (if x6_3 ≤ (a0.size : Int) then ((some (([a0.extract (x5_3 : Int).toNat (x6_3 : Int).toNat] : List ByteArray) : List ByteArray)).bind fun y126 => (if x4_3.length + y126.length < 8796093022208 then (laws_FnCamel.l1 k3 a0 (x4_3 ++ y126) x6_3 (wrap64 (x6_3 + 1))) else (none))) else (none)) else (none)) else (none)) else (laws_FnCamel.l1 k3 a0 x4_3 x5_3 (wrap64 (x6_3 + 1))))) else (none)) else (laws_FnCamel.l1 k3 a0 x4_3 x5_3 (wrap64 (x6_3 + 1))))) else (laws_FnCamel.l1 k3 a0 x4_3 x5_3 (wrap64 (x6_3 + 1)))) = some r := H
                            have A19 := Aside0.mk A190
                            clear A190
                            by_cases c20 : t117 = 1
                            · rw [if_pos c20] at H
                              have c20b0 : (t117 == 1) = true := beq_iff_eq.mpr c20
                              have c20b1 : (t117 != 1) = false := bne_eq_false_iff_eq.mpr c20
                              clear c20
                              by_cases c21 : t118 = 0
                              · rw [if_pos c21] at H
                                have c21b0 : (t118 == 0) = true := beq_iff_eq.mpr c21
                                have c21b1 : (t118 != 0) = false := bne_eq_false_iff_eq.mpr c21
                                clear c21
                                by_cases c22 : 0 ≤ x5_3
                                · rw [if_pos c22] at H
                                  have c22b0 := eq_true c22
                                  have c22b1 : decide (0 ≤ x5_3) = true := decide_eq_true c22
                                  clear c22
                                  by_cases c23 : x5_3 ≤ x6_3
                                  · rw [if_pos c23] at H
                                    have c23b0 := eq_true c23
                                    have c23b1 : decide (x5_3 ≤ x6_3) = true := decide_eq_true c23
                                    clear c23
                                    by_cases c24 : x6_3 ≤ (a0.size : Int)
                                    · rw [if_pos c24] at H
                                      have c24b0 := eq_true c24
                                      have c24b1 : decide (x6_3 ≤ (a0.size : Int)) = true := decide_eq_true c24
                                      clear c24
                                      obtain ⟨y119, hy119⟩ : ∃ y_ : List ByteArray, y_ = (([a0.extract (x5_3 : Int).toNat (x6_3 : Int).toNat] : List ByteArray)) := ⟨_, rfl⟩
                                      replace H : (if x4_3.length + y119.length < 8796093022208 then (laws_FnCamel.l1 k3 a0 (x4_3 ++ y119) x6_3 (wrap64 (x6_3 + 1))) else (none)) = some r := by first | (rw [hy119]; with_reducible exact H) | (have H2_ := (Option.bind_some _ _).symm.trans H; rw [hy119]; with_reducible exact H2_) | (have H2_ := (Option.bind_some _ _).symm.trans H; with_reducible exact H2_) | with_reducible exact H | (rw [hy119]; exact H) | exact H
                                      have Ny119 := Aside0.mk hy119
                                      clear hy119
                                      by_cases c25 : x4_3.length + y119.length < 8796093022208
                                      · rw [if_pos c25] at H
                                        have LMc25 := Aside0.mk c25
                                        clear c25
                                        obtain ⟨y122, hy122⟩ : ∃ y_ : List ByteArray, y_ = (x4_3 ++ y119) := ⟨_, rfl⟩
                                        replace H : (laws_FnCamel.l1 k3 a0 y122 x6_3 (wrap64 (x6_3 + 1))) = some r := by first | (rw [hy122]; with_reducible exact H) | (have H2_ := (Option.bind_some _ _).symm.trans H; rw [hy122]; with_reducible exact H2_) | (have H2_ := (Option.bind_some _ _).symm.trans H; with_reducible exact H2_) | with_reducible exact H | (rw [hy122]; exact H) | exact H
                                        have Ny122 := Aside0.mk hy122
                                        clear hy122
                                        have H' := Aside0.mk H
                                        clear H
                                        try go_wp2
                                        have n0_ := Aside0.mk (Kd.R_drew HO_4.out)
                                        have n1_ := Aside0.mk (below_drew1 HB.out)
                                        clear HO_4
                                        clear HB
                                        have HO_4 := n0_
                                        have HB := n1_
                                        clear n0_ n1_
                                        have p13 : 0 ≤ (x6_3 : Int) := of_decide_eq_true (by first | (with_reducible assumption) | assumption)
                                        have q13 : x6_3 < (a0.size : Int) := of_decide_eq_true (by first | (with_reducible assumption) | assumption)
                                        have hx13 := bt_at a0 x6_3
                                        replace p13 := eq_true p13
                                        replace q13 := eq_true q13
                                        have p18 : 0 ≤ ((ji15) : Int) := of_decide_eq_true (by first | (with_reducible assumption) | assumption)
                                        have q18 : (ji15) < (a0.size : Int) := of_decide_eq_true (by first | (with_reducible assumption) | assumption)
                                        have hx18 := bt_at a0 (ji15)
                                        replace p18 := eq_true p18
                                        replace q18 := eq_true q18
                                        refine start_ (n := 11) (S := fun w' => True) (ds := []) #[false, false, false, false, false, false, false, false, false, false, false] (by kernel_rfl) rfl rfl trivial (fun hHeld => ?_); refine with_tabW laws_FnCamel.tab15 laws_FnCamel.bits15 (fun HT_ HW_ => ?_)
                                        generalize wr.drew = w26 at HO_4 HB hHeld ⊢
                                        refine pure_ (i := 0) (N := some 37) (v := ?_) (a' := ?_) #[true, false, false, false, false, false, false, false, false, false, false] rfl rfl (any_of HT_.out (by kernel_rfl)) (fun _ _ _ h => h) (Or.inl ⟨by rfl, ?_⟩) ?_ ?_
                                        rotate_left
                                        · intro w'
                                          go_simp
                                          with_reducible rfl
                                        rotate_left
                                        · simp only [Act.put, List.setIfInBounds_toArray, List.set_cons_zero, List.set_cons_succ, i64_w, i32_w]
                                          rfl
                                        refine pure_ (i := 1) (N := some 38) (v := ?_) (a' := ?_) #[true, true, false, false, false, false, false, false, false, false, false] rfl rfl (any_of HT_.out (by kernel_rfl)) (fun _ _ _ h => h) (Or.inl ⟨by rfl, ?_⟩) ?_ ?_
                                        rotate_left
                                        · intro w'
                                          go_simp
                                          with_reducible rfl
                                        rotate_left
                                        · simp only [Act.put, List.setIfInBounds_toArray, List.set_cons_zero, List.set_cons_succ, i64_w, i32_w]
                                          rfl
                                        refine pure_ (i := 4) (N := some 41) (v := ?_) (a' := ?_) #[true, true, false, false, true, false, false, false, false, false, false] rfl rfl (any_of HT_.out (by kernel_rfl)) (fun _ _ _ h => h) (Or.inl ⟨by rfl, ?_⟩) ?_ ?_
                                        rotate_left
                                        · intro w'
                                          go_simp
                                          with_reducible rfl
                                        rotate_left
                                        · simp only [Act.put, List.setIfInBounds_toArray, List.set_cons_zero, List.set_cons_succ, i64_w, i32_w]
                                          rfl
                                        refine pure_ (i := 5) (N := some 42) (v := ?_) (a' := ?_) #[true, true, false, false, true, true, false, false, false, false, false] rfl rfl (any_of HT_.out (by kernel_rfl)) (fun _ _ _ h => h) (Or.inl ⟨by rfl, ?_⟩) ?_ ?_
                                        rotate_left
                                        · intro w'
                                          go_simp
                                          with_reducible rfl
                                        rotate_left
                                        · simp only [Act.put, List.setIfInBounds_toArray, List.set_cons_zero, List.set_cons_succ, i64_w, i32_w]
                                          rfl
                                        refine pure_ (i := 6) (N := some 43) (v := ?_) (a' := ?_) #[true, true, false, false, true, true, true, false, false, false, false] rfl rfl (any_of HT_.out (by kernel_rfl)) (fun _ _ _ h => h) (Or.inl ⟨by rfl, ?_⟩) ?_ ?_
                                        rotate_left
                                        · intro w'
                                          go_simp
                                          with_reducible rfl
                                        rotate_left
                                        · simp only [Act.put, List.setIfInBounds_toArray, List.set_cons_zero, List.set_cons_succ, i64_w, i32_w]
                                          rfl
                                        refine take_ (i := 2) (N := some 39) (v := ?_) (a' := ?_) #[true, true, true, false, true, true, true, false, false, false, false] rfl rfl (take_ofW HT_.out HW_.out (by kernel_rfl)) (fun _ _ _ h => h) (Or.inl ⟨by rfl, ?_⟩) hHeld ?_ ?_
                                        rotate_left
                                        · intro w' _
                                          go_simp
                                          with_reducible rfl
                                        rotate_left
                                        · simp only [Act.put, List.setIfInBounds_toArray, List.set_cons_zero, List.set_cons_succ, i64_w, i32_w]
                                          rfl
                                        refine take_ (i := 7) (N := some 44) (v := ?_) (a' := ?_) #[true, true, true, false, true, true, true, true, false, false, false] rfl rfl (take_ofW HT_.out HW_.out (by kernel_rfl)) (fun _ _ _ h => h) (Or.inl ⟨by rfl, ?_⟩) hHeld ?_ ?_
                                        rotate_left
                                        · intro w' _
                                          go_simp
                                          with_reducible rfl
                                        rotate_left
                                        · simp only [Act.put, List.setIfInBounds_toArray, List.set_cons_zero, List.set_cons_succ, i64_w, i32_w]
                                          rfl
                                        refine one_ (i := 3) (N := some 40) #[true, true, true, true, true, true, true, true, false, false, false] rfl rfl (one_of HT_.out (by kernel_rfl)) (by decide) (fun K hK => ?_)
                                        refine goes_ Tryd.func4 (by kernel_rfl) rfl #[.int .u8 (bt a0 x6_3)] (by rfl) rfl rfl (by (try simp only [List.map_toArray, List.map_cons, List.map_nil]); first | done | rfl | (simp only [List.length_drop, List.length_take]; rfl)) ?_
                                        with_reducible refine (spec_TwKind.calls k3 (bt a0 x6_3) t117 _ A14.out).mono ?_
                                        rintro e w' ⟨rfl, ⟨nd, rfl⟩⟩
                                        refine ⟨_, rfl, ?_⟩
                                        refine hK.out _ _ trivial (fun hHeld => ?_)
                                        clear hK K
                                        refine norm_ (a' := ?_) ?_ ?_
                                        rotate_left
                                        · show Act.put _ (some 40) _ = _
                                          simp only [Act.put, List.setIfInBounds_toArray, List.set_cons_zero, List.set_cons_succ, i64_w, i32_w]
                                          rfl
                                        refine one_ (i := 8) (N := some 45) #[true, true, true, true, true, true, true, true, true, false, false] rfl rfl (one_of HT_.out (by kernel_rfl)) (by decide) (fun K hK => ?_)
                                        refine goes_ Tryd.func4 (by kernel_rfl) rfl #[.int .u8 (bt a0 (ji15))] (by rfl) rfl rfl (by (try simp only [List.map_toArray, List.map_cons, List.map_nil]); first | done | (simp only [hji15]; rfl) | rfl | (simp only [List.length_drop, List.length_take]; rfl)) ?_
                                        with_reducible refine (spec_TwKind.calls k3 (bt a0 (ji15)) t118 _ A19.out).mono ?_
                                        rintro e w' ⟨rfl, ⟨nd, rfl⟩⟩
                                        refine ⟨_, rfl, ?_⟩
                                        refine hK.out _ _ trivial (fun hHeld => ?_)
                                        clear hK K
                                        refine norm_ (a' := ?_) ?_ ?_
                                        rotate_left
                                        · show Act.put _ (some 45) _ = _
                                          simp only [Act.put, List.setIfInBounds_toArray, List.set_cons_zero, List.set_cons_succ, i64_w, i32_w]
                                          rfl
                                        refine pure_ (i := 9) (N := some 7) (v := ?_) (a' := ?_) #[true, true, true, true, true, true, true, true, true, true, false] rfl rfl (any_of HT_.out (by kernel_rfl)) (fun _ _ _ h => h) (Or.inl ⟨by rfl, ?_⟩) ?_ ?_
                                        rotate_left
                                        · intro w'
                                          go_simp
                                          with_reducible rfl
                                        rotate_left
                                        · simp only [Act.put, List.setIfInBounds_toArray, List.set_cons_zero, List.set_cons_succ, i64_w, i32_w]
                                          rfl
                                        refine pure_ (i := 10) (N := some 8) (v := ?_) (a' := ?_) #[true, true, true, true, true, true, true, true, true, true, true] rfl rfl (any_of HT_.out (by kernel_rfl)) (fun _ _ _ h => h) (Or.inl ⟨by rfl, ?_⟩) ?_ ?_
                                        rotate_left
                                        · intro w'
                                          go_simp
                                          with_reducible rfl
                                        rotate_left
                                        · simp only [Act.put, List.setIfInBounds_toArray, List.set_cons_zero, List.set_cons_succ, i64_w, i32_w]
                                          rfl
                                        refine done_ (done_of HT_.out (by kernel_rfl)) ?_
                                        try go_wp2_with (first | ((with_reducible refine gate_dst (N := 72) rfl ?_); (try (refine gate_guard (by rfl) ?_; dsimp only)); refine Kd.R_lit Kd.string _ 9 ?hg (N := 72) ?hd (xs := ([a0.extract (x5_3 : Int).toNat (x6_3 : Int).toNat] : List ByteArray)) (inner := [.string (a0.extract (x5_3 : Int).toNat (x6_3 : Int).toNat)]) (ok := fun _ => True) (okp := fun _ => True) ?hr ?hp (fun _ hk => hk) trivial (Below.refl _ _) (Nat.le_refl _) (by simp) ?_; (case hd => rfl); (case hg => rfl); (case hr => first | (go_simp; done) | (go_simp; rfl)); (case hp => exact (Reps.one (show Kd.M Kd.string _ _ _ (a0.extract (x5_3 : Int).toNat (x6_3 : Int).toNat) [.string (a0.extract (x5_3 : Int).toNat (x6_3 : Int).toNat)] from rfl) (Reps.none _ _))); intro v120 w27 ho28 hb hg_ hnew_; clear hg_ hnew_; (first | rw [← Ny119.out] at ho28 | (simp only [Int.reduceToNat] at ho28; rw [← Ny119.out] at ho28)); have n0_ := Aside0.mk (Kd.R_elder' (by (with_reducible repeat (first | apply Kd.R_alloc | apply Kd.R_drewN | apply Kd.R_drew)); exact HO_4.out) (Kd.R_base ho28) hb); have n1_ := Aside0.mk (Kd.R_lower (Kd.R_new' ho28 (Kd.R_lt (by (with_reducible repeat (first | apply Kd.R_alloc | apply Kd.R_drewN | apply Kd.R_drew)); exact HO_4.out))) (below_size (by repeat (first | (with_reducible first | exact HB.out | apply below_alloc | apply pw_below_drewN | apply below_drew1) | exact HB.out)))); have n2_ := Aside0.mk (below_step (by repeat (first | (with_reducible first | exact HB.out | apply below_alloc | apply pw_below_drewN | apply below_drew1) | exact HB.out)) hb); clear HO_4; clear HB; have HO_4 := n0_; have HO121 := n1_; have HB := n2_; clear n0_ n1_ n2_; clear hb ho28; obtain ⟨Ao30, co30, eo30⟩ := Kd.R_slice HO121.out; subst eo30) | ((with_reducible refine gate_builtin (b := .append) (xs := #[.tmp 67, .tmp 72]) rfl ?_); (try (refine gate_guard (by rfl) ?_; dsimp only)); at_builtin; refine Kd.R_append_rows Kd.string (w0 := w) w.heap.size rfl (.tmp 67) (.tmp 72) 23 9 (.string ⟨#[]⟩) 16 rfl Tryd.underlying23 info9 rfl (by decide) (by omega) u4 x4_3 y119 _ _ _ (fun k_ => some k_ ≠ (.slice Ao30 y119.length co30 : Value).ownBlock) (fun _ => False) rfl rfl ?aO ?aR (fun _ _ h => h) (fun _ h => h.elim) ?aF ?aB ?aS ?aL ?_; (case aR => repeat (first | exact (Kd.R_reads' HO121.out).2.2 | (with_reducible refine Kd.C_alloc ?_ _) | (with_reducible refine Kd.C_drewN ?_ _) | (with_reducible refine Kd.C_drew ?_))); (case aB => exact (by repeat (first | (with_reducible first | exact HB.out | apply below_alloc | apply pw_below_drewN | apply below_drew1) | exact HB.out))); (case aF => exact (fun k_ hk => Kd.fresh' (Kd.R_lt (by (with_reducible repeat (first | apply Kd.R_alloc | apply Kd.R_drewN | apply Kd.R_drew)); exact HO121.out)) k_ hk)); (case aO => exact (by (with_reducible repeat (first | apply Kd.R_alloc | apply Kd.R_drewN | apply Kd.R_drew)); exact Kd.R_mono HO_4.out (fun _ hk => hk.2))); (case aS => exact (below_size (by repeat (first | (with_reducible first | exact HB.out | apply below_alloc | apply pw_below_drewN | apply below_drew1) | exact HB.out)))); (case aL => have := LMc25.out; first | omega | exact this | exact Nat.le_of_lt this); intro v123 w29 ho hb hg hat; rw [← Ny122.out] at ho; have n0_ := Aside0.mk (Kd.R_after (ok := (fun _ => True)) (by (with_reducible repeat (first | apply Kd.R_alloc | apply Kd.R_drewN | apply Kd.R_drew)); exact HO121.out) hg hat); have n1_ := Aside0.mk (hb); have n2_ := Aside0.mk (ho); clear HO121; clear HB; clear HO_4; have HO121 := n0_; have HB := n1_; have HO124 := n2_; clear n0_ n1_ n2_; clear ho hb hg hat))
                                        go_roundg k3
                                        case measure => have := HK1.out; have := HJ7.out; have := HK3.out; omega
                                        case rel => exact ⟨(y122), (x6_3), (wrap64 (x6_3 + 1)), (by first | rfl | (simp; done) | (simp [*]; done)), (by first | rfl | (simp; done) | (simp [*]; done)), H', ⟨by have := HK1.out; have := HJ7.out; have := HK3.out; omega⟩, ⟨by (with_reducible repeat (first | apply Kd.R_alloc | apply Kd.R_drewN | apply Kd.R_drew)); exact Kd.R_mono HO124.out (fun _ hk => trivial)⟩, ⟨by repeat (first | (with_reducible first | exact HB.out | apply below_alloc | apply pw_below_drewN | apply below_drew1) | exact HB.out)⟩⟩
                                      · rw [if_neg c25] at H
                                        exact absurd H (by simp)
                                    · rw [if_neg c24] at H
                                      exact absurd H (by simp)
                                  · rw [if_neg c23] at H
                                    exact absurd H (by simp)
                                · rw [if_neg c22] at H
                                  exact absurd H (by simp)
                              · rw [if_neg c21] at H
                                have c21b0 : (t118 == 0) = false := beq_eq_false_iff_ne.mpr c21
                                have c21b1 : (t118 != 0) = true := bne_iff_ne.mpr c21
                                by_cases c31 : (wrap64 (x6_3 + 1)) < (a0.size : Int)
                                · rw [if_pos c31] at H
                                  have c31b0 : decide ((wrap64 (x6_3 + 1)) < (a0.size : Int)) = true := decide_eq_true c31
                                  clear c31
                                  obtain ⟨ji32, hji32⟩ : ∃ j_ : Int, (wrap64 (x6_3 + 1)) = j_ := ⟨_, rfl⟩
                                  replace H : (if 0 ≤ (ji32) then ((spec_TwKind.f k3 (bt a0 (ji32))).bind fun t125 => (if t125 = 0 then (if 0 ≤ x5_3 then (if x5_3 ≤ x6_3 then (if x6_3 ≤ (a0.size : Int) then ((some (([a0.extract (x5_3 : Int).toNat (x6_3 : Int).toNat] : List ByteArray) : List ByteArray)).bind fun y126 => (if x4_3.length + y126.length < 8796093022208 then (laws_FnCamel.l1 k3 a0 (x4_3 ++ y126) x6_3 ji32) else (none))) else (none)) else (none)) else (none)) else (laws_FnCamel.l1 k3 a0 x4_3 x5_3 ji32))) else (none)) = some r := by first | (rw [hji32] at H; exact H) | (simp only [hji32] at H ⊢; exact H)
                                  (try rw [hji32] at c31b0)
                                  (try rw [hji32] at A14)
                                  (try rw [hji32] at A19)
                                  have hji32w : (IntKind.i64.wrap (x6_3 + 1)) = ji32 := (i64_w _).trans hji32
                                  by_cases c33 : 0 ≤ (ji32)
                                  · rw [if_pos c33] at H
                                    have c33b0 : decide (0 ≤ (ji32)) = true := decide_eq_true c33
                                    clear c33
                                    replace H := Option.bind_eq_some_iff.mp H
                                    obtain ⟨t125, A350, H⟩ := H
                                    replace H : (if t125 = 0 then (if 0 ≤ x5_3 then (if x5_3 ≤ x6_3 then (if x6_3 ≤ (a0.size : Int) then ((some (([a0.extract (x5_3 : Int).toNat (x6_3 : Int).toNat] : List ByteArray) : List ByteArray)).bind fun y126 => (if x4_3.length + y126.length < 8796093022208 then (laws_FnCamel.l1 k3 a0 (x4_3 ++ y126) x6_3 ji32) else (none))) else (none)) else (none)) else (none)) else (laws_FnCamel.l1 k3 a0 x4_3 x5_3 ji32)) = some r := H
                                    have A35 := Aside0.mk A350
                                    clear A350
                                    by_cases c36 : t125 = 0
                                    · rw [if_pos c36] at H
                                      have c36b0 : (t125 == 0) = true := beq_iff_eq.mpr c36
                                      have c36b1 : (t125 != 0) = false := bne_eq_false_iff_eq.mpr c36
                                      clear c36
                                      by_cases c37 : 0 ≤ x5_3
                                      · rw [if_pos c37] at H
                                        have c37b0 := eq_true c37
                                        have c37b1 : decide (0 ≤ x5_3) = true := decide_eq_true c37
                                        clear c37
                                        by_cases c38 : x5_3 ≤ x6_3
                                        · rw [if_pos c38] at H
                                          have c38b0 := eq_true c38
                                          have c38b1 : decide (x5_3 ≤ x6_3) = true := decide_eq_true c38
                                          clear c38
                                          by_cases c39 : x6_3 ≤ (a0.size : Int)
                                          · rw [if_pos c39] at H
                                            have c39b0 := eq_true c39
                                            have c39b1 : decide (x6_3 ≤ (a0.size : Int)) = true := decide_eq_true c39
                                            clear c39
                                            obtain ⟨y126, hy126⟩ : ∃ y_ : List ByteArray, y_ = (([a0.extract (x5_3 : Int).toNat (x6_3 : Int).toNat] : List ByteArray)) := ⟨_, rfl⟩
                                            replace H : (if x4_3.length + y126.length < 8796093022208 then (laws_FnCamel.l1 k3 a0 (x4_3 ++ y126) x6_3 ji32) else (none)) = some r := by first | (rw [hy126]; with_reducible exact H) | (have H2_ := (Option.bind_some _ _).symm.trans H; rw [hy126]; with_reducible exact H2_) | (have H2_ := (Option.bind_some _ _).symm.trans H; with_reducible exact H2_) | with_reducible exact H | (rw [hy126]; exact H) | exact H
                                            have Ny126 := Aside0.mk hy126
                                            clear hy126
                                            by_cases c40 : x4_3.length + y126.length < 8796093022208
                                            · rw [if_pos c40] at H
                                              have LMc40 := Aside0.mk c40
                                              clear c40
                                              obtain ⟨y129, hy129⟩ : ∃ y_ : List ByteArray, y_ = (x4_3 ++ y126) := ⟨_, rfl⟩
                                              replace H : (laws_FnCamel.l1 k3 a0 y129 x6_3 ji32) = some r := by first | (rw [hy129]; with_reducible exact H) | (have H2_ := (Option.bind_some _ _).symm.trans H; rw [hy129]; with_reducible exact H2_) | (have H2_ := (Option.bind_some _ _).symm.trans H; with_reducible exact H2_) | with_reducible exact H | (rw [hy129]; exact H) | exact H
                                              have Ny129 := Aside0.mk hy129
                                              clear hy129
                                              have H' := Aside0.mk H
                                              clear H
                                              try go_wp2
                                              have n0_ := Aside0.mk (Kd.R_drew HO_4.out)
                                              have n1_ := Aside0.mk (below_drew1 HB.out)
                                              clear HO_4
                                              clear HB
                                              have HO_4 := n0_
                                              have HB := n1_
                                              clear n0_ n1_
                                              have p13 : 0 ≤ (x6_3 : Int) := of_decide_eq_true (by first | (with_reducible assumption) | assumption)
                                              have q13 : x6_3 < (a0.size : Int) := of_decide_eq_true (by first | (with_reducible assumption) | assumption)
                                              have hx13 := bt_at a0 x6_3
                                              replace p13 := eq_true p13
                                              replace q13 := eq_true q13
                                              have p18 : 0 ≤ ((ji15) : Int) := of_decide_eq_true (by first | (with_reducible assumption) | assumption)
                                              have q18 : (ji15) < (a0.size : Int) := of_decide_eq_true (by first | (with_reducible assumption) | assumption)
                                              have hx18 := bt_at a0 (ji15)
                                              replace p18 := eq_true p18
                                              replace q18 := eq_true q18
                                              refine start_ (n := 11) (S := fun w' => True) (ds := []) #[false, false, false, false, false, false, false, false, false, false, false] (by kernel_rfl) rfl rfl trivial (fun hHeld => ?_); refine with_tabW laws_FnCamel.tab15 laws_FnCamel.bits15 (fun HT_ HW_ => ?_)
                                              generalize wr.drew = w41 at HO_4 HB hHeld ⊢
                                              refine pure_ (i := 0) (N := some 37) (v := ?_) (a' := ?_) #[true, false, false, false, false, false, false, false, false, false, false] rfl rfl (any_of HT_.out (by kernel_rfl)) (fun _ _ _ h => h) (Or.inl ⟨by rfl, ?_⟩) ?_ ?_
                                              rotate_left
                                              · intro w'
                                                go_simp
                                                with_reducible rfl
                                              rotate_left
                                              · simp only [Act.put, List.setIfInBounds_toArray, List.set_cons_zero, List.set_cons_succ, i64_w, i32_w]
                                                rfl
                                              refine pure_ (i := 1) (N := some 38) (v := ?_) (a' := ?_) #[true, true, false, false, false, false, false, false, false, false, false] rfl rfl (any_of HT_.out (by kernel_rfl)) (fun _ _ _ h => h) (Or.inl ⟨by rfl, ?_⟩) ?_ ?_
                                              rotate_left
                                              · intro w'
                                                go_simp
                                                with_reducible rfl
                                              rotate_left
                                              · simp only [Act.put, List.setIfInBounds_toArray, List.set_cons_zero, List.set_cons_succ, i64_w, i32_w]
                                                rfl
                                              refine pure_ (i := 4) (N := some 41) (v := ?_) (a' := ?_) #[true, true, false, false, true, false, false, false, false, false, false] rfl rfl (any_of HT_.out (by kernel_rfl)) (fun _ _ _ h => h) (Or.inl ⟨by rfl, ?_⟩) ?_ ?_
                                              rotate_left
                                              · intro w'
                                                go_simp
                                                with_reducible rfl
                                              rotate_left
                                              · simp only [Act.put, List.setIfInBounds_toArray, List.set_cons_zero, List.set_cons_succ, i64_w, i32_w]
                                                rfl
                                              refine pure_ (i := 5) (N := some 42) (v := ?_) (a' := ?_) #[true, true, false, false, true, true, false, false, false, false, false] rfl rfl (any_of HT_.out (by kernel_rfl)) (fun _ _ _ h => h) (Or.inl ⟨by rfl, ?_⟩) ?_ ?_
                                              rotate_left
                                              · intro w'
                                                go_simp
                                                with_reducible rfl
                                              rotate_left
                                              · simp only [Act.put, List.setIfInBounds_toArray, List.set_cons_zero, List.set_cons_succ, i64_w, i32_w]
                                                rfl
                                              refine pure_ (i := 6) (N := some 43) (v := ?_) (a' := ?_) #[true, true, false, false, true, true, true, false, false, false, false] rfl rfl (any_of HT_.out (by kernel_rfl)) (fun _ _ _ h => h) (Or.inl ⟨by rfl, ?_⟩) ?_ ?_
                                              rotate_left
                                              · intro w'
                                                go_simp
                                                with_reducible rfl
                                              rotate_left
                                              · simp only [Act.put, List.setIfInBounds_toArray, List.set_cons_zero, List.set_cons_succ, i64_w, i32_w]
                                                rfl
                                              refine take_ (i := 2) (N := some 39) (v := ?_) (a' := ?_) #[true, true, true, false, true, true, true, false, false, false, false] rfl rfl (take_ofW HT_.out HW_.out (by kernel_rfl)) (fun _ _ _ h => h) (Or.inl ⟨by rfl, ?_⟩) hHeld ?_ ?_
                                              rotate_left
                                              · intro w' _
                                                go_simp
                                                with_reducible rfl
                                              rotate_left
                                              · simp only [Act.put, List.setIfInBounds_toArray, List.set_cons_zero, List.set_cons_succ, i64_w, i32_w]
                                                rfl
                                              refine take_ (i := 7) (N := some 44) (v := ?_) (a' := ?_) #[true, true, true, false, true, true, true, true, false, false, false] rfl rfl (take_ofW HT_.out HW_.out (by kernel_rfl)) (fun _ _ _ h => h) (Or.inl ⟨by rfl, ?_⟩) hHeld ?_ ?_
                                              rotate_left
                                              · intro w' _
                                                go_simp
                                                with_reducible rfl
                                              rotate_left
                                              · simp only [Act.put, List.setIfInBounds_toArray, List.set_cons_zero, List.set_cons_succ, i64_w, i32_w]
                                                rfl
                                              refine one_ (i := 3) (N := some 40) #[true, true, true, true, true, true, true, true, false, false, false] rfl rfl (one_of HT_.out (by kernel_rfl)) (by decide) (fun K hK => ?_)
                                              refine goes_ Tryd.func4 (by kernel_rfl) rfl #[.int .u8 (bt a0 x6_3)] (by rfl) rfl rfl (by (try simp only [List.map_toArray, List.map_cons, List.map_nil]); first | done | rfl | (simp only [List.length_drop, List.length_take]; rfl)) ?_
                                              with_reducible refine (spec_TwKind.calls k3 (bt a0 x6_3) t117 _ A14.out).mono ?_
                                              rintro e w' ⟨rfl, ⟨nd, rfl⟩⟩
                                              refine ⟨_, rfl, ?_⟩
                                              refine hK.out _ _ trivial (fun hHeld => ?_)
                                              clear hK K
                                              refine norm_ (a' := ?_) ?_ ?_
                                              rotate_left
                                              · show Act.put _ (some 40) _ = _
                                                simp only [Act.put, List.setIfInBounds_toArray, List.set_cons_zero, List.set_cons_succ, i64_w, i32_w]
                                                rfl
                                              refine one_ (i := 8) (N := some 45) #[true, true, true, true, true, true, true, true, true, false, false] rfl rfl (one_of HT_.out (by kernel_rfl)) (by decide) (fun K hK => ?_)
                                              refine goes_ Tryd.func4 (by kernel_rfl) rfl #[.int .u8 (bt a0 (ji15))] (by rfl) rfl rfl (by (try simp only [List.map_toArray, List.map_cons, List.map_nil]); first | done | (simp only [hji15]; rfl) | rfl | (simp only [List.length_drop, List.length_take]; rfl)) ?_
                                              with_reducible refine (spec_TwKind.calls k3 (bt a0 (ji15)) t118 _ A19.out).mono ?_
                                              rintro e w' ⟨rfl, ⟨nd, rfl⟩⟩
                                              refine ⟨_, rfl, ?_⟩
                                              refine hK.out _ _ trivial (fun hHeld => ?_)
                                              clear hK K
                                              refine norm_ (a' := ?_) ?_ ?_
                                              rotate_left
                                              · show Act.put _ (some 45) _ = _
                                                simp only [Act.put, List.setIfInBounds_toArray, List.set_cons_zero, List.set_cons_succ, i64_w, i32_w]
                                                rfl
                                              refine pure_ (i := 9) (N := some 7) (v := ?_) (a' := ?_) #[true, true, true, true, true, true, true, true, true, true, false] rfl rfl (any_of HT_.out (by kernel_rfl)) (fun _ _ _ h => h) (Or.inl ⟨by rfl, ?_⟩) ?_ ?_
                                              rotate_left
                                              · intro w'
                                                go_simp
                                                with_reducible rfl
                                              rotate_left
                                              · simp only [Act.put, List.setIfInBounds_toArray, List.set_cons_zero, List.set_cons_succ, i64_w, i32_w]
                                                rfl
                                              refine pure_ (i := 10) (N := some 8) (v := ?_) (a' := ?_) #[true, true, true, true, true, true, true, true, true, true, true] rfl rfl (any_of HT_.out (by kernel_rfl)) (fun _ _ _ h => h) (Or.inl ⟨by rfl, ?_⟩) ?_ ?_
                                              rotate_left
                                              · intro w'
                                                go_simp
                                                with_reducible rfl
                                              rotate_left
                                              · simp only [Act.put, List.setIfInBounds_toArray, List.set_cons_zero, List.set_cons_succ, i64_w, i32_w]
                                                rfl
                                              refine done_ (done_of HT_.out (by kernel_rfl)) ?_
                                              have p34 : 0 ≤ ((ji32) : Int) := of_decide_eq_true (by first | (with_reducible assumption) | assumption)
                                              have q34 : (ji32) < (a0.size : Int) := of_decide_eq_true (by first | (with_reducible assumption) | assumption)
                                              have hx34 := bt_at a0 (ji32)
                                              replace p34 := eq_true p34
                                              replace q34 := eq_true q34
                                              try go_wp2_with (first | (go_at_call 4; (with_reducible refine (spec_TwKind.calls k3 (bt a0 (ji32)) t125 _ A35.out).mono ?_); rintro e w' ⟨rfl, ⟨nd, rfl⟩⟩) | ((with_reducible refine gate_dst (N := 72) rfl ?_); (try (refine gate_guard (by rfl) ?_; dsimp only)); refine Kd.R_lit Kd.string _ 9 ?hg (N := 72) ?hd (xs := ([a0.extract (x5_3 : Int).toNat (x6_3 : Int).toNat] : List ByteArray)) (inner := [.string (a0.extract (x5_3 : Int).toNat (x6_3 : Int).toNat)]) (ok := fun _ => True) (okp := fun _ => True) ?hr ?hp (fun _ hk => hk) trivial (Below.refl _ _) (Nat.le_refl _) (by simp) ?_; (case hd => rfl); (case hg => rfl); (case hr => first | (go_simp; done) | (go_simp; rfl)); (case hp => exact (Reps.one (show Kd.M Kd.string _ _ _ (a0.extract (x5_3 : Int).toNat (x6_3 : Int).toNat) [.string (a0.extract (x5_3 : Int).toNat (x6_3 : Int).toNat)] from rfl) (Reps.none _ _))); intro v127 w42 ho43 hb hg_ hnew_; clear hg_ hnew_; (first | rw [← Ny126.out] at ho43 | (simp only [Int.reduceToNat] at ho43; rw [← Ny126.out] at ho43)); have n0_ := Aside0.mk (Kd.R_elder' (by (with_reducible repeat (first | apply Kd.R_alloc | apply Kd.R_drewN | apply Kd.R_drew)); exact HO_4.out) (Kd.R_base ho43) hb); have n1_ := Aside0.mk (Kd.R_lower (Kd.R_new' ho43 (Kd.R_lt (by (with_reducible repeat (first | apply Kd.R_alloc | apply Kd.R_drewN | apply Kd.R_drew)); exact HO_4.out))) (below_size (by repeat (first | (with_reducible first | exact HB.out | apply below_alloc | apply pw_below_drewN | apply below_drew1) | exact HB.out)))); have n2_ := Aside0.mk (below_step (by repeat (first | (with_reducible first | exact HB.out | apply below_alloc | apply pw_below_drewN | apply below_drew1) | exact HB.out)) hb); clear HO_4; clear HB; have HO_4 := n0_; have HO128 := n1_; have HB := n2_; clear n0_ n1_ n2_; clear hb ho43; obtain ⟨Ao45, co45, eo45⟩ := Kd.R_slice HO128.out; subst eo45) | ((with_reducible refine gate_builtin (b := .append) (xs := #[.tmp 67, .tmp 72]) rfl ?_); (try (refine gate_guard (by rfl) ?_; dsimp only)); at_builtin; refine Kd.R_append_rows Kd.string (w0 := w) w.heap.size rfl (.tmp 67) (.tmp 72) 23 9 (.string ⟨#[]⟩) 16 rfl Tryd.underlying23 info9 rfl (by decide) (by omega) u4 x4_3 y126 _ _ _ (fun k_ => some k_ ≠ (.slice Ao45 y126.length co45 : Value).ownBlock) (fun _ => False) rfl rfl ?aO ?aR (fun _ _ h => h) (fun _ h => h.elim) ?aF ?aB ?aS ?aL ?_; (case aR => repeat (first | exact (Kd.R_reads' HO128.out).2.2 | (with_reducible refine Kd.C_alloc ?_ _) | (with_reducible refine Kd.C_drewN ?_ _) | (with_reducible refine Kd.C_drew ?_))); (case aB => exact (by repeat (first | (with_reducible first | exact HB.out | apply below_alloc | apply pw_below_drewN | apply below_drew1) | exact HB.out))); (case aF => exact (fun k_ hk => Kd.fresh' (Kd.R_lt (by (with_reducible repeat (first | apply Kd.R_alloc | apply Kd.R_drewN | apply Kd.R_drew)); exact HO128.out)) k_ hk)); (case aO => exact (by (with_reducible repeat (first | apply Kd.R_alloc | apply Kd.R_drewN | apply Kd.R_drew)); exact Kd.R_mono HO_4.out (fun _ hk => hk.2))); (case aS => exact (below_size (by repeat (first | (with_reducible first | exact HB.out | apply below_alloc | apply pw_below_drewN | apply below_drew1) | exact HB.out)))); (case aL => have := LMc40.out; first | omega | exact this | exact Nat.le_of_lt this); intro v130 w44 ho hb hg hat; rw [← Ny129.out] at ho; have n0_ := Aside0.mk (Kd.R_after (ok := (fun _ => True)) (by (with_reducible repeat (first | apply Kd.R_alloc | apply Kd.R_drewN | apply Kd.R_drew)); exact HO128.out) hg hat); have n1_ := Aside0.mk (hb); have n2_ := Aside0.mk (ho); clear HO128; clear HB; clear HO_4; have HO128 := n0_; have HB := n1_; have HO131 := n2_; clear n0_ n1_ n2_; clear ho hb hg hat))
                                              go_roundg k3
                                              case measure => have := HK1.out; have := HJ7.out; have := HK3.out; omega
                                              case rel => exact ⟨(y129), (x6_3), (ji32), (by first | rfl | (simp; done) | (simp [*]; done)), (by first | rfl | (simp; done) | (simp only [← hji32] <;> (first | rfl | simp)) | (simp [*]; done)), H', ⟨by have := HK1.out; have := HJ7.out; have := HK3.out; omega⟩, ⟨by (with_reducible repeat (first | apply Kd.R_alloc | apply Kd.R_drewN | apply Kd.R_drew)); exact Kd.R_mono HO131.out (fun _ hk => trivial)⟩, ⟨by repeat (first | (with_reducible first | exact HB.out | apply below_alloc | apply pw_below_drewN | apply below_drew1) | exact HB.out)⟩⟩
                                            · rw [if_neg c40] at H
                                              exact absurd H (by simp)
                                          · rw [if_neg c39] at H
                                            exact absurd H (by simp)
                                        · rw [if_neg c38] at H
                                          exact absurd H (by simp)
                                      · rw [if_neg c37] at H
                                        exact absurd H (by simp)
                                    · rw [if_neg c36] at H
                                      have c36b0 : (t125 == 0) = false := beq_eq_false_iff_ne.mpr c36
                                      have c36b1 : (t125 != 0) = true := bne_iff_ne.mpr c36
                                      have H' := Aside0.mk H
                                      clear H
                                      try go_wp2
                                      have n0_ := Aside0.mk (Kd.R_drew HO_4.out)
                                      have n1_ := Aside0.mk (below_drew1 HB.out)
                                      clear HO_4
                                      clear HB
                                      have HO_4 := n0_
                                      have HB := n1_
                                      clear n0_ n1_
                                      have p13 : 0 ≤ (x6_3 : Int) := of_decide_eq_true (by first | (with_reducible assumption) | assumption)
                                      have q13 : x6_3 < (a0.size : Int) := of_decide_eq_true (by first | (with_reducible assumption) | assumption)
                                      have hx13 := bt_at a0 x6_3
                                      replace p13 := eq_true p13
                                      replace q13 := eq_true q13
                                      have p18 : 0 ≤ ((ji15) : Int) := of_decide_eq_true (by first | (with_reducible assumption) | assumption)
                                      have q18 : (ji15) < (a0.size : Int) := of_decide_eq_true (by first | (with_reducible assumption) | assumption)
                                      have hx18 := bt_at a0 (ji15)
                                      replace p18 := eq_true p18
                                      replace q18 := eq_true q18
                                      refine start_ (n := 11) (S := fun w' => True) (ds := []) #[false, false, false, false, false, false, false, false, false, false, false] (by kernel_rfl) rfl rfl trivial (fun hHeld => ?_); refine with_tabW laws_FnCamel.tab15 laws_FnCamel.bits15 (fun HT_ HW_ => ?_)
                                      generalize wr.drew = w46 at HO_4 HB hHeld ⊢
                                      refine pure_ (i := 0) (N := some 37) (v := ?_) (a' := ?_) #[true, false, false, false, false, false, false, false, false, false, false] rfl rfl (any_of HT_.out (by kernel_rfl)) (fun _ _ _ h => h) (Or.inl ⟨by rfl, ?_⟩) ?_ ?_
                                      rotate_left
                                      · intro w'
                                        go_simp
                                        with_reducible rfl
                                      rotate_left
                                      · simp only [Act.put, List.setIfInBounds_toArray, List.set_cons_zero, List.set_cons_succ, i64_w, i32_w]
                                        rfl
                                      refine pure_ (i := 1) (N := some 38) (v := ?_) (a' := ?_) #[true, true, false, false, false, false, false, false, false, false, false] rfl rfl (any_of HT_.out (by kernel_rfl)) (fun _ _ _ h => h) (Or.inl ⟨by rfl, ?_⟩) ?_ ?_
                                      rotate_left
                                      · intro w'
                                        go_simp
                                        with_reducible rfl
                                      rotate_left
                                      · simp only [Act.put, List.setIfInBounds_toArray, List.set_cons_zero, List.set_cons_succ, i64_w, i32_w]
                                        rfl
                                      refine pure_ (i := 4) (N := some 41) (v := ?_) (a' := ?_) #[true, true, false, false, true, false, false, false, false, false, false] rfl rfl (any_of HT_.out (by kernel_rfl)) (fun _ _ _ h => h) (Or.inl ⟨by rfl, ?_⟩) ?_ ?_
                                      rotate_left
                                      · intro w'
                                        go_simp
                                        with_reducible rfl
                                      rotate_left
                                      · simp only [Act.put, List.setIfInBounds_toArray, List.set_cons_zero, List.set_cons_succ, i64_w, i32_w]
                                        rfl
                                      refine pure_ (i := 5) (N := some 42) (v := ?_) (a' := ?_) #[true, true, false, false, true, true, false, false, false, false, false] rfl rfl (any_of HT_.out (by kernel_rfl)) (fun _ _ _ h => h) (Or.inl ⟨by rfl, ?_⟩) ?_ ?_
                                      rotate_left
                                      · intro w'
                                        go_simp
                                        with_reducible rfl
                                      rotate_left
                                      · simp only [Act.put, List.setIfInBounds_toArray, List.set_cons_zero, List.set_cons_succ, i64_w, i32_w]
                                        rfl
                                      refine pure_ (i := 6) (N := some 43) (v := ?_) (a' := ?_) #[true, true, false, false, true, true, true, false, false, false, false] rfl rfl (any_of HT_.out (by kernel_rfl)) (fun _ _ _ h => h) (Or.inl ⟨by rfl, ?_⟩) ?_ ?_
                                      rotate_left
                                      · intro w'
                                        go_simp
                                        with_reducible rfl
                                      rotate_left
                                      · simp only [Act.put, List.setIfInBounds_toArray, List.set_cons_zero, List.set_cons_succ, i64_w, i32_w]
                                        rfl
                                      refine take_ (i := 2) (N := some 39) (v := ?_) (a' := ?_) #[true, true, true, false, true, true, true, false, false, false, false] rfl rfl (take_ofW HT_.out HW_.out (by kernel_rfl)) (fun _ _ _ h => h) (Or.inl ⟨by rfl, ?_⟩) hHeld ?_ ?_
                                      rotate_left
                                      · intro w' _
                                        go_simp
                                        with_reducible rfl
                                      rotate_left
                                      · simp only [Act.put, List.setIfInBounds_toArray, List.set_cons_zero, List.set_cons_succ, i64_w, i32_w]
                                        rfl
                                      refine take_ (i := 7) (N := some 44) (v := ?_) (a' := ?_) #[true, true, true, false, true, true, true, true, false, false, false] rfl rfl (take_ofW HT_.out HW_.out (by kernel_rfl)) (fun _ _ _ h => h) (Or.inl ⟨by rfl, ?_⟩) hHeld ?_ ?_
                                      rotate_left
                                      · intro w' _
                                        go_simp
                                        with_reducible rfl
                                      rotate_left
                                      · simp only [Act.put, List.setIfInBounds_toArray, List.set_cons_zero, List.set_cons_succ, i64_w, i32_w]
                                        rfl
                                      refine one_ (i := 3) (N := some 40) #[true, true, true, true, true, true, true, true, false, false, false] rfl rfl (one_of HT_.out (by kernel_rfl)) (by decide) (fun K hK => ?_)
                                      refine goes_ Tryd.func4 (by kernel_rfl) rfl #[.int .u8 (bt a0 x6_3)] (by rfl) rfl rfl (by (try simp only [List.map_toArray, List.map_cons, List.map_nil]); first | done | rfl | (simp only [List.length_drop, List.length_take]; rfl)) ?_
                                      with_reducible refine (spec_TwKind.calls k3 (bt a0 x6_3) t117 _ A14.out).mono ?_
                                      rintro e w' ⟨rfl, ⟨nd, rfl⟩⟩
                                      refine ⟨_, rfl, ?_⟩
                                      refine hK.out _ _ trivial (fun hHeld => ?_)
                                      clear hK K
                                      refine norm_ (a' := ?_) ?_ ?_
                                      rotate_left
                                      · show Act.put _ (some 40) _ = _
                                        simp only [Act.put, List.setIfInBounds_toArray, List.set_cons_zero, List.set_cons_succ, i64_w, i32_w]
                                        rfl
                                      refine one_ (i := 8) (N := some 45) #[true, true, true, true, true, true, true, true, true, false, false] rfl rfl (one_of HT_.out (by kernel_rfl)) (by decide) (fun K hK => ?_)
                                      refine goes_ Tryd.func4 (by kernel_rfl) rfl #[.int .u8 (bt a0 (ji15))] (by rfl) rfl rfl (by (try simp only [List.map_toArray, List.map_cons, List.map_nil]); first | done | (simp only [hji15]; rfl) | rfl | (simp only [List.length_drop, List.length_take]; rfl)) ?_
                                      with_reducible refine (spec_TwKind.calls k3 (bt a0 (ji15)) t118 _ A19.out).mono ?_
                                      rintro e w' ⟨rfl, ⟨nd, rfl⟩⟩
                                      refine ⟨_, rfl, ?_⟩
                                      refine hK.out _ _ trivial (fun hHeld => ?_)
                                      clear hK K
                                      refine norm_ (a' := ?_) ?_ ?_
                                      rotate_left
                                      · show Act.put _ (some 45) _ = _
                                        simp only [Act.put, List.setIfInBounds_toArray, List.set_cons_zero, List.set_cons_succ, i64_w, i32_w]
                                        rfl
                                      refine pure_ (i := 9) (N := some 7) (v := ?_) (a' := ?_) #[true, true, true, true, true, true, true, true, true, true, false] rfl rfl (any_of HT_.out (by kernel_rfl)) (fun _ _ _ h => h) (Or.inl ⟨by rfl, ?_⟩) ?_ ?_
                                      rotate_left
                                      · intro w'
                                        go_simp
                                        with_reducible rfl
                                      rotate_left
                                      · simp only [Act.put, List.setIfInBounds_toArray, List.set_cons_zero, List.set_cons_succ, i64_w, i32_w]
                                        rfl
                                      refine pure_ (i := 10) (N := some 8) (v := ?_) (a' := ?_) #[true, true, true, true, true, true, true, true, true, true, true] rfl rfl (any_of HT_.out (by kernel_rfl)) (fun _ _ _ h => h) (Or.inl ⟨by rfl, ?_⟩) ?_ ?_
                                      rotate_left
                                      · intro w'
                                        go_simp
                                        with_reducible rfl
                                      rotate_left
                                      · simp only [Act.put, List.setIfInBounds_toArray, List.set_cons_zero, List.set_cons_succ, i64_w, i32_w]
                                        rfl
                                      refine done_ (done_of HT_.out (by kernel_rfl)) ?_
                                      have p34 : 0 ≤ ((ji32) : Int) := of_decide_eq_true (by first | (with_reducible assumption) | assumption)
                                      have q34 : (ji32) < (a0.size : Int) := of_decide_eq_true (by first | (with_reducible assumption) | assumption)
                                      have hx34 := bt_at a0 (ji32)
                                      replace p34 := eq_true p34
                                      replace q34 := eq_true q34
                                      try go_wp2_with (first | (go_at_call 4; (with_reducible refine (spec_TwKind.calls k3 (bt a0 (ji32)) t125 _ A35.out).mono ?_); rintro e w' ⟨rfl, ⟨nd, rfl⟩⟩))
                                      go_roundg k3
                                      case measure => have := HK1.out; have := HJ7.out; have := HK3.out; omega
                                      case rel => exact ⟨(x4_3), (x5_3), (ji32), (by first | rfl | (simp; done) | (simp [*]; done)), (by first | rfl | (simp; done) | (simp only [← hji32] <;> (first | rfl | simp)) | (simp [*]; done)), H', ⟨by have := HK1.out; have := HJ7.out; have := HK3.out; omega⟩, ⟨by (with_reducible repeat (first | apply Kd.R_alloc | apply Kd.R_drewN | apply Kd.R_drew)); exact HO_4.out⟩, ⟨by repeat (first | (with_reducible first | exact HB.out | apply below_alloc | apply pw_below_drewN | apply below_drew1) | exact HB.out)⟩⟩
                                  · rw [if_neg c33] at H
                                    exact absurd H (by simp)
                                · rw [if_neg c31] at H
                                  have c31b0 : decide ((wrap64 (x6_3 + 1)) < (a0.size : Int)) = false := decide_eq_false c31
                                  clear c31
                                  have H' := Aside0.mk H
                                  clear H
                                  try go_wp2
                                  have n0_ := Aside0.mk (Kd.R_drew HO_4.out)
                                  have n1_ := Aside0.mk (below_drew1 HB.out)
                                  clear HO_4
                                  clear HB
                                  have HO_4 := n0_
                                  have HB := n1_
                                  clear n0_ n1_
                                  have p13 : 0 ≤ (x6_3 : Int) := of_decide_eq_true (by first | (with_reducible assumption) | assumption)
                                  have q13 : x6_3 < (a0.size : Int) := of_decide_eq_true (by first | (with_reducible assumption) | assumption)
                                  have hx13 := bt_at a0 x6_3
                                  replace p13 := eq_true p13
                                  replace q13 := eq_true q13
                                  have p18 : 0 ≤ ((ji15) : Int) := of_decide_eq_true (by first | (with_reducible assumption) | assumption)
                                  have q18 : (ji15) < (a0.size : Int) := of_decide_eq_true (by first | (with_reducible assumption) | assumption)
                                  have hx18 := bt_at a0 (ji15)
                                  replace p18 := eq_true p18
                                  replace q18 := eq_true q18
                                  refine start_ (n := 11) (S := fun w' => True) (ds := []) #[false, false, false, false, false, false, false, false, false, false, false] (by kernel_rfl) rfl rfl trivial (fun hHeld => ?_); refine with_tabW laws_FnCamel.tab15 laws_FnCamel.bits15 (fun HT_ HW_ => ?_)
                                  generalize wr.drew = w47 at HO_4 HB hHeld ⊢
                                  refine pure_ (i := 0) (N := some 37) (v := ?_) (a' := ?_) #[true, false, false, false, false, false, false, false, false, false, false] rfl rfl (any_of HT_.out (by kernel_rfl)) (fun _ _ _ h => h) (Or.inl ⟨by rfl, ?_⟩) ?_ ?_
                                  rotate_left
                                  · intro w'
                                    go_simp
                                    with_reducible rfl
                                  rotate_left
                                  · simp only [Act.put, List.setIfInBounds_toArray, List.set_cons_zero, List.set_cons_succ, i64_w, i32_w]
                                    rfl
                                  refine pure_ (i := 1) (N := some 38) (v := ?_) (a' := ?_) #[true, true, false, false, false, false, false, false, false, false, false] rfl rfl (any_of HT_.out (by kernel_rfl)) (fun _ _ _ h => h) (Or.inl ⟨by rfl, ?_⟩) ?_ ?_
                                  rotate_left
                                  · intro w'
                                    go_simp
                                    with_reducible rfl
                                  rotate_left
                                  · simp only [Act.put, List.setIfInBounds_toArray, List.set_cons_zero, List.set_cons_succ, i64_w, i32_w]
                                    rfl
                                  refine pure_ (i := 4) (N := some 41) (v := ?_) (a' := ?_) #[true, true, false, false, true, false, false, false, false, false, false] rfl rfl (any_of HT_.out (by kernel_rfl)) (fun _ _ _ h => h) (Or.inl ⟨by rfl, ?_⟩) ?_ ?_
                                  rotate_left
                                  · intro w'
                                    go_simp
                                    with_reducible rfl
                                  rotate_left
                                  · simp only [Act.put, List.setIfInBounds_toArray, List.set_cons_zero, List.set_cons_succ, i64_w, i32_w]
                                    rfl
                                  refine pure_ (i := 5) (N := some 42) (v := ?_) (a' := ?_) #[true, true, false, false, true, true, false, false, false, false, false] rfl rfl (any_of HT_.out (by kernel_rfl)) (fun _ _ _ h => h) (Or.inl ⟨by rfl, ?_⟩) ?_ ?_
                                  rotate_left
                                  · intro w'
                                    go_simp
                                    with_reducible rfl
                                  rotate_left
                                  · simp only [Act.put, List.setIfInBounds_toArray, List.set_cons_zero, List.set_cons_succ, i64_w, i32_w]
                                    rfl
                                  refine pure_ (i := 6) (N := some 43) (v := ?_) (a' := ?_) #[true, true, false, false, true, true, true, false, false, false, false] rfl rfl (any_of HT_.out (by kernel_rfl)) (fun _ _ _ h => h) (Or.inl ⟨by rfl, ?_⟩) ?_ ?_
                                  rotate_left
                                  · intro w'
                                    go_simp
                                    with_reducible rfl
                                  rotate_left
                                  · simp only [Act.put, List.setIfInBounds_toArray, List.set_cons_zero, List.set_cons_succ, i64_w, i32_w]
                                    rfl
                                  refine take_ (i := 2) (N := some 39) (v := ?_) (a' := ?_) #[true, true, true, false, true, true, true, false, false, false, false] rfl rfl (take_ofW HT_.out HW_.out (by kernel_rfl)) (fun _ _ _ h => h) (Or.inl ⟨by rfl, ?_⟩) hHeld ?_ ?_
                                  rotate_left
                                  · intro w' _
                                    go_simp
                                    with_reducible rfl
                                  rotate_left
                                  · simp only [Act.put, List.setIfInBounds_toArray, List.set_cons_zero, List.set_cons_succ, i64_w, i32_w]
                                    rfl
                                  refine take_ (i := 7) (N := some 44) (v := ?_) (a' := ?_) #[true, true, true, false, true, true, true, true, false, false, false] rfl rfl (take_ofW HT_.out HW_.out (by kernel_rfl)) (fun _ _ _ h => h) (Or.inl ⟨by rfl, ?_⟩) hHeld ?_ ?_
                                  rotate_left
                                  · intro w' _
                                    go_simp
                                    with_reducible rfl
                                  rotate_left
                                  · simp only [Act.put, List.setIfInBounds_toArray, List.set_cons_zero, List.set_cons_succ, i64_w, i32_w]
                                    rfl
                                  refine one_ (i := 3) (N := some 40) #[true, true, true, true, true, true, true, true, false, false, false] rfl rfl (one_of HT_.out (by kernel_rfl)) (by decide) (fun K hK => ?_)
                                  refine goes_ Tryd.func4 (by kernel_rfl) rfl #[.int .u8 (bt a0 x6_3)] (by rfl) rfl rfl (by (try simp only [List.map_toArray, List.map_cons, List.map_nil]); first | done | rfl | (simp only [List.length_drop, List.length_take]; rfl)) ?_
                                  with_reducible refine (spec_TwKind.calls k3 (bt a0 x6_3) t117 _ A14.out).mono ?_
                                  rintro e w' ⟨rfl, ⟨nd, rfl⟩⟩
                                  refine ⟨_, rfl, ?_⟩
                                  refine hK.out _ _ trivial (fun hHeld => ?_)
                                  clear hK K
                                  refine norm_ (a' := ?_) ?_ ?_
                                  rotate_left
                                  · show Act.put _ (some 40) _ = _
                                    simp only [Act.put, List.setIfInBounds_toArray, List.set_cons_zero, List.set_cons_succ, i64_w, i32_w]
                                    rfl
                                  refine one_ (i := 8) (N := some 45) #[true, true, true, true, true, true, true, true, true, false, false] rfl rfl (one_of HT_.out (by kernel_rfl)) (by decide) (fun K hK => ?_)
                                  refine goes_ Tryd.func4 (by kernel_rfl) rfl #[.int .u8 (bt a0 (ji15))] (by rfl) rfl rfl (by (try simp only [List.map_toArray, List.map_cons, List.map_nil]); first | done | (simp only [hji15]; rfl) | rfl | (simp only [List.length_drop, List.length_take]; rfl)) ?_
                                  with_reducible refine (spec_TwKind.calls k3 (bt a0 (ji15)) t118 _ A19.out).mono ?_
                                  rintro e w' ⟨rfl, ⟨nd, rfl⟩⟩
                                  refine ⟨_, rfl, ?_⟩
                                  refine hK.out _ _ trivial (fun hHeld => ?_)
                                  clear hK K
                                  refine norm_ (a' := ?_) ?_ ?_
                                  rotate_left
                                  · show Act.put _ (some 45) _ = _
                                    simp only [Act.put, List.setIfInBounds_toArray, List.set_cons_zero, List.set_cons_succ, i64_w, i32_w]
                                    rfl
                                  refine pure_ (i := 9) (N := some 7) (v := ?_) (a' := ?_) #[true, true, true, true, true, true, true, true, true, true, false] rfl rfl (any_of HT_.out (by kernel_rfl)) (fun _ _ _ h => h) (Or.inl ⟨by rfl, ?_⟩) ?_ ?_
                                  rotate_left
                                  · intro w'
                                    go_simp
                                    with_reducible rfl
                                  rotate_left
                                  · simp only [Act.put, List.setIfInBounds_toArray, List.set_cons_zero, List.set_cons_succ, i64_w, i32_w]
                                    rfl
                                  refine pure_ (i := 10) (N := some 8) (v := ?_) (a' := ?_) #[true, true, true, true, true, true, true, true, true, true, true] rfl rfl (any_of HT_.out (by kernel_rfl)) (fun _ _ _ h => h) (Or.inl ⟨by rfl, ?_⟩) ?_ ?_
                                  rotate_left
                                  · intro w'
                                    go_simp
                                    with_reducible rfl
                                  rotate_left
                                  · simp only [Act.put, List.setIfInBounds_toArray, List.set_cons_zero, List.set_cons_succ, i64_w, i32_w]
                                    rfl
                                  refine done_ (done_of HT_.out (by kernel_rfl)) ?_
                                  try go_wp2
                                  go_roundg k3
                                  case measure => have := HK1.out; have := HJ7.out; have := HK3.out; omega
                                  case rel => exact ⟨(x4_3), (x5_3), (wrap64 (x6_3 + 1)), (by first | rfl | (simp; done) | (simp [*]; done)), (by first | rfl | (simp; done) | (simp [*]; done)), H', ⟨by have := HK1.out; have := HJ7.out; have := HK3.out; omega⟩, ⟨by (with_reducible repeat (first | apply Kd.R_alloc | apply Kd.R_drewN | apply Kd.R_drew)); exact HO_4.out⟩, ⟨by repeat (first | (with_reducible first | exact HB.out | apply below_alloc | apply pw_below_drewN | apply below_drew1) | exact HB.out)⟩⟩
                            · rw [if_neg c20] at H
                              have c20b0 : (t117 == 1) = false := beq_eq_false_iff_ne.mpr c20
                              have c20b1 : (t117 != 1) = true := bne_iff_ne.mpr c20
                              have H' := Aside0.mk H
                              clear H
                              try go_wp2
                              have n0_ := Aside0.mk (Kd.R_drew HO_4.out)
                              have n1_ := Aside0.mk (below_drew1 HB.out)
                              clear HO_4
                              clear HB
                              have HO_4 := n0_
                              have HB := n1_
                              clear n0_ n1_
                              have p13 : 0 ≤ (x6_3 : Int) := of_decide_eq_true (by first | (with_reducible assumption) | assumption)
                              have q13 : x6_3 < (a0.size : Int) := of_decide_eq_true (by first | (with_reducible assumption) | assumption)
                              have hx13 := bt_at a0 x6_3
                              replace p13 := eq_true p13
                              replace q13 := eq_true q13
                              have p18 : 0 ≤ ((ji15) : Int) := of_decide_eq_true (by first | (with_reducible assumption) | assumption)
                              have q18 : (ji15) < (a0.size : Int) := of_decide_eq_true (by first | (with_reducible assumption) | assumption)
                              have hx18 := bt_at a0 (ji15)
                              replace p18 := eq_true p18
                              replace q18 := eq_true q18
                              refine start_ (n := 11) (S := fun w' => True) (ds := []) #[false, false, false, false, false, false, false, false, false, false, false] (by kernel_rfl) rfl rfl trivial (fun hHeld => ?_); refine with_tabW laws_FnCamel.tab15 laws_FnCamel.bits15 (fun HT_ HW_ => ?_)
                              generalize wr.drew = w48 at HO_4 HB hHeld ⊢
                              refine pure_ (i := 0) (N := some 37) (v := ?_) (a' := ?_) #[true, false, false, false, false, false, false, false, false, false, false] rfl rfl (any_of HT_.out (by kernel_rfl)) (fun _ _ _ h => h) (Or.inl ⟨by rfl, ?_⟩) ?_ ?_
                              rotate_left
                              · intro w'
                                go_simp
                                with_reducible rfl
                              rotate_left
                              · simp only [Act.put, List.setIfInBounds_toArray, List.set_cons_zero, List.set_cons_succ, i64_w, i32_w]
                                rfl
                              refine pure_ (i := 1) (N := some 38) (v := ?_) (a' := ?_) #[true, true, false, false, false, false, false, false, false, false, false] rfl rfl (any_of HT_.out (by kernel_rfl)) (fun _ _ _ h => h) (Or.inl ⟨by rfl, ?_⟩) ?_ ?_
                              rotate_left
                              · intro w'
                                go_simp
                                with_reducible rfl
                              rotate_left
                              · simp only [Act.put, List.setIfInBounds_toArray, List.set_cons_zero, List.set_cons_succ, i64_w, i32_w]
                                rfl
                              refine pure_ (i := 4) (N := some 41) (v := ?_) (a' := ?_) #[true, true, false, false, true, false, false, false, false, false, false] rfl rfl (any_of HT_.out (by kernel_rfl)) (fun _ _ _ h => h) (Or.inl ⟨by rfl, ?_⟩) ?_ ?_
                              rotate_left
                              · intro w'
                                go_simp
                                with_reducible rfl
                              rotate_left
                              · simp only [Act.put, List.setIfInBounds_toArray, List.set_cons_zero, List.set_cons_succ, i64_w, i32_w]
                                rfl
                              refine pure_ (i := 5) (N := some 42) (v := ?_) (a' := ?_) #[true, true, false, false, true, true, false, false, false, false, false] rfl rfl (any_of HT_.out (by kernel_rfl)) (fun _ _ _ h => h) (Or.inl ⟨by rfl, ?_⟩) ?_ ?_
                              rotate_left
                              · intro w'
                                go_simp
                                with_reducible rfl
                              rotate_left
                              · simp only [Act.put, List.setIfInBounds_toArray, List.set_cons_zero, List.set_cons_succ, i64_w, i32_w]
                                rfl
                              refine pure_ (i := 6) (N := some 43) (v := ?_) (a' := ?_) #[true, true, false, false, true, true, true, false, false, false, false] rfl rfl (any_of HT_.out (by kernel_rfl)) (fun _ _ _ h => h) (Or.inl ⟨by rfl, ?_⟩) ?_ ?_
                              rotate_left
                              · intro w'
                                go_simp
                                with_reducible rfl
                              rotate_left
                              · simp only [Act.put, List.setIfInBounds_toArray, List.set_cons_zero, List.set_cons_succ, i64_w, i32_w]
                                rfl
                              refine take_ (i := 2) (N := some 39) (v := ?_) (a' := ?_) #[true, true, true, false, true, true, true, false, false, false, false] rfl rfl (take_ofW HT_.out HW_.out (by kernel_rfl)) (fun _ _ _ h => h) (Or.inl ⟨by rfl, ?_⟩) hHeld ?_ ?_
                              rotate_left
                              · intro w' _
                                go_simp
                                with_reducible rfl
                              rotate_left
                              · simp only [Act.put, List.setIfInBounds_toArray, List.set_cons_zero, List.set_cons_succ, i64_w, i32_w]
                                rfl
                              refine take_ (i := 7) (N := some 44) (v := ?_) (a' := ?_) #[true, true, true, false, true, true, true, true, false, false, false] rfl rfl (take_ofW HT_.out HW_.out (by kernel_rfl)) (fun _ _ _ h => h) (Or.inl ⟨by rfl, ?_⟩) hHeld ?_ ?_
                              rotate_left
                              · intro w' _
                                go_simp
                                with_reducible rfl
                              rotate_left
                              · simp only [Act.put, List.setIfInBounds_toArray, List.set_cons_zero, List.set_cons_succ, i64_w, i32_w]
                                rfl
                              refine one_ (i := 3) (N := some 40) #[true, true, true, true, true, true, true, true, false, false, false] rfl rfl (one_of HT_.out (by kernel_rfl)) (by decide) (fun K hK => ?_)
                              refine goes_ Tryd.func4 (by kernel_rfl) rfl #[.int .u8 (bt a0 x6_3)] (by rfl) rfl rfl (by (try simp only [List.map_toArray, List.map_cons, List.map_nil]); first | done | rfl | (simp only [List.length_drop, List.length_take]; rfl)) ?_
                              with_reducible refine (spec_TwKind.calls k3 (bt a0 x6_3) t117 _ A14.out).mono ?_
                              rintro e w' ⟨rfl, ⟨nd, rfl⟩⟩
                              refine ⟨_, rfl, ?_⟩
                              refine hK.out _ _ trivial (fun hHeld => ?_)
                              clear hK K
                              refine norm_ (a' := ?_) ?_ ?_
                              rotate_left
                              · show Act.put _ (some 40) _ = _
                                simp only [Act.put, List.setIfInBounds_toArray, List.set_cons_zero, List.set_cons_succ, i64_w, i32_w]
                                rfl
                              refine one_ (i := 8) (N := some 45) #[true, true, true, true, true, true, true, true, true, false, false] rfl rfl (one_of HT_.out (by kernel_rfl)) (by decide) (fun K hK => ?_)
                              refine goes_ Tryd.func4 (by kernel_rfl) rfl #[.int .u8 (bt a0 (ji15))] (by rfl) rfl rfl (by (try simp only [List.map_toArray, List.map_cons, List.map_nil]); first | done | (simp only [hji15]; rfl) | rfl | (simp only [List.length_drop, List.length_take]; rfl)) ?_
                              with_reducible refine (spec_TwKind.calls k3 (bt a0 (ji15)) t118 _ A19.out).mono ?_
                              rintro e w' ⟨rfl, ⟨nd, rfl⟩⟩
                              refine ⟨_, rfl, ?_⟩
                              refine hK.out _ _ trivial (fun hHeld => ?_)
                              clear hK K
                              refine norm_ (a' := ?_) ?_ ?_
                              rotate_left
                              · show Act.put _ (some 45) _ = _
                                simp only [Act.put, List.setIfInBounds_toArray, List.set_cons_zero, List.set_cons_succ, i64_w, i32_w]
                                rfl
                              refine pure_ (i := 9) (N := some 7) (v := ?_) (a' := ?_) #[true, true, true, true, true, true, true, true, true, true, false] rfl rfl (any_of HT_.out (by kernel_rfl)) (fun _ _ _ h => h) (Or.inl ⟨by rfl, ?_⟩) ?_ ?_
                              rotate_left
                              · intro w'
                                go_simp
                                with_reducible rfl
                              rotate_left
                              · simp only [Act.put, List.setIfInBounds_toArray, List.set_cons_zero, List.set_cons_succ, i64_w, i32_w]
                                rfl
                              refine pure_ (i := 10) (N := some 8) (v := ?_) (a' := ?_) #[true, true, true, true, true, true, true, true, true, true, true] rfl rfl (any_of HT_.out (by kernel_rfl)) (fun _ _ _ h => h) (Or.inl ⟨by rfl, ?_⟩) ?_ ?_
                              rotate_left
                              · intro w'
                                go_simp
                                with_reducible rfl
                              rotate_left
                              · simp only [Act.put, List.setIfInBounds_toArray, List.set_cons_zero, List.set_cons_succ, i64_w, i32_w]
                                rfl
                              refine done_ (done_of HT_.out (by kernel_rfl)) ?_
                              try go_wp2
                              go_roundg k3
                              case measure => have := HK1.out; have := HJ7.out; have := HK3.out; omega
                              case rel => exact ⟨(x4_3), (x5_3), (wrap64 (x6_3 + 1)), (by first | rfl | (simp; done) | (simp [*]; done)), (by first | rfl | (simp; done) | (simp [*]; done)), H', ⟨by have := HK1.out; have := HJ7.out; have := HK3.out; omega⟩, ⟨by (with_reducible repeat (first | apply Kd.R_alloc | apply Kd.R_drewN | apply Kd.R_drew)); exact HO_4.out⟩, ⟨by repeat (first | (with_reducible first | exact HB.out | apply below_alloc | apply pw_below_drewN | apply below_drew1) | exact HB.out)⟩⟩
                          · rw [if_neg c17] at H
                            exact absurd H (by simp)
                        · rw [if_neg c16] at H
                          exact absurd H (by simp)
                      · rw [if_neg c12] at H
                        exact absurd H (by simp)
                    · rw [if_neg c11] at H
                      have c11b0 : decide (x6_3 < (a0.size : Int)) = false := decide_eq_false c11
                      clear c11
                      replace H := Option.bind_eq_some_iff.mp H
                      obtain ⟨t107, A490, H⟩ := H
                      replace H : (if 0 ≤ x5_3 then (if x5_3 ≤ (a0.size : Int) then ((some (([a0.extract (x5_3 : Int).toNat a0.size] : List ByteArray) : List ByteArray)).bind fun y110 => (if x4_3.length + y110.length < 8796093022208 then ((spec_TwTexts.f k3 t107 (x4_3 ++ y110)).bind fun t116 => (some t116)) else (none))) else (none)) else (none)) = some r := H
                      have A49 := Aside0.mk A490
                      clear A490
                      by_cases c50 : 0 ≤ x5_3
                      · rw [if_pos c50] at H
                        have c50b0 := eq_true c50
                        have c50b1 : decide (0 ≤ x5_3) = true := decide_eq_true c50
                        clear c50
                        by_cases c51 : x5_3 ≤ (a0.size : Int)
                        · rw [if_pos c51] at H
                          have c51b0 := eq_true c51
                          have c51b1 : decide (x5_3 ≤ (a0.size : Int)) = true := decide_eq_true c51
                          clear c51
                          obtain ⟨y110, hy110⟩ : ∃ y_ : List ByteArray, y_ = (([a0.extract (x5_3 : Int).toNat a0.size] : List ByteArray)) := ⟨_, rfl⟩
                          replace H : (if x4_3.length + y110.length < 8796093022208 then ((spec_TwTexts.f k3 t107 (x4_3 ++ y110)).bind fun t116 => (some t116)) else (none)) = some r := by first | (rw [hy110]; with_reducible exact H) | (have H2_ := (Option.bind_some _ _).symm.trans H; rw [hy110]; with_reducible exact H2_) | (have H2_ := (Option.bind_some _ _).symm.trans H; with_reducible exact H2_) | with_reducible exact H | (rw [hy110]; exact H) | exact H
                          have Ny110 := Aside0.mk hy110
                          clear hy110
                          by_cases c52 : x4_3.length + y110.length < 8796093022208
                          · rw [if_pos c52] at H
                            have LMc52 := Aside0.mk c52
                            clear c52
                            obtain ⟨y113, hy113⟩ : ∃ y_ : List ByteArray, y_ = (x4_3 ++ y110) := ⟨_, rfl⟩
                            replace H : ((spec_TwTexts.f k3 t107 y113).bind fun t116 => (some t116)) = some r := by first | (rw [hy113]; with_reducible exact H) | (have H2_ := (Option.bind_some _ _).symm.trans H; rw [hy113]; with_reducible exact H2_) | (have H2_ := (Option.bind_some _ _).symm.trans H; with_reducible exact H2_) | with_reducible exact H | (rw [hy113]; exact H) | exact H
                            have Ny113 := Aside0.mk hy113
                            clear hy113
                            replace H := Option.bind_eq_some_iff.mp H
                            obtain ⟨t116, A530, H⟩ := H
                            replace H : (some t116) = some r := H
                            have A53 := Aside0.mk A530
                            clear A530
                            obtain rfl := Option.some.inj H
                            obtain ⟨Ao54, co54, eo54⟩ := Kd.R_slice HO_4.out
                            subst eo54
                            try go_wp2
                            have n0_ := Aside0.mk (Kd.R_drew HO_4.out)
                            have n1_ := Aside0.mk (below_drew1 HB.out)
                            clear HO_4
                            clear HB
                            have HO_4 := n0_
                            have HB := n1_
                            clear n0_ n1_
                            refine start_ (n := 10) (S := fun w' => True) (ds := []) #[false, false, false, false, false, false, false, false, false, false] (by kernel_rfl) rfl rfl trivial (fun hHeld => ?_); refine with_tabW laws_FnCamel.tab19 laws_FnCamel.bits19 (fun HT_ HW_ => ?_)
                            generalize wr.drew = w55 at HO_4 HB hHeld ⊢
                            refine pure_ (i := 0) (N := some 75) (v := ?_) (a' := ?_) #[true, false, false, false, false, false, false, false, false, false] rfl rfl (any_of HT_.out (by kernel_rfl)) (fun _ _ _ h => h) (Or.inl ⟨by rfl, ?_⟩) ?_ ?_
                            rotate_left
                            · intro w'
                              go_simp
                              with_reducible rfl
                            rotate_left
                            · simp only [Act.put, List.setIfInBounds_toArray, List.set_cons_zero, List.set_cons_succ, i64_w, i32_w]
                              rfl
                            refine pure_ (i := 2) (N := some 77) (v := ?_) (a' := ?_) #[true, false, true, false, false, false, false, false, false, false] rfl rfl (any_of HT_.out (by kernel_rfl)) (fun _ _ _ h => h) (Or.inl ⟨by rfl, ?_⟩) ?_ ?_
                            rotate_left
                            · intro w'
                              go_simp
                              with_reducible rfl
                            rotate_left
                            · simp only [Act.put, List.setIfInBounds_toArray, List.set_cons_zero, List.set_cons_succ, i64_w, i32_w]
                              rfl
                            refine pure_ (i := 3) (N := some 78) (v := ?_) (a' := ?_) #[true, false, true, true, false, false, false, false, false, false] rfl rfl (any_of HT_.out (by kernel_rfl)) (fun _ _ _ h => h) (Or.inl ⟨by rfl, ?_⟩) ?_ ?_
                            rotate_left
                            · intro w'
                              go_simp
                              with_reducible rfl
                            rotate_left
                            · simp only [Act.put, List.setIfInBounds_toArray, List.set_cons_zero, List.set_cons_succ, i64_w, i32_w]
                              rfl
                            refine pure_ (i := 4) (N := some 79) (v := ?_) (a' := ?_) #[true, false, true, true, true, false, false, false, false, false] rfl rfl (any_of HT_.out (by kernel_rfl)) (fun _ _ _ h => h) (Or.inl ⟨by rfl, ?_⟩) ?_ ?_
                            rotate_left
                            · intro w'
                              go_simp
                              with_reducible rfl
                            rotate_left
                            · simp only [Act.put, List.setIfInBounds_toArray, List.set_cons_zero, List.set_cons_succ, i64_w, i32_w]
                              rfl
                            refine pure_ (i := 5) (N := some 80) (v := ?_) (a' := ?_) #[true, false, true, true, true, true, false, false, false, false] rfl rfl (any_of HT_.out (by kernel_rfl)) (fun _ _ _ h => h) (Or.inl ⟨by rfl, ?_⟩) ?_ ?_
                            rotate_left
                            · intro w'
                              go_simp
                              with_reducible rfl
                            rotate_left
                            · simp only [Act.put, List.setIfInBounds_toArray, List.set_cons_zero, List.set_cons_succ, i64_w, i32_w]
                              rfl
                            refine join_ (σ := Value × Value) 3 #[true, true, true, true, true, true, true, false, false, false] (fun s_ => [(76, s_.1), (81, s_.2)]) (fun s_ w' => (Kd.R Kd.string 9 w' w.heap.size (fun k_ => some k_ ≠ (s_.2 : Value).ownBlock ∧ some k_ ≠ (.slice Ao54 x4_3.length co54 : Value).ownBlock) s_.1 t107) ∧ (Kd.R Kd.string 9 w' w.heap.size (fun k_ => some k_ ≠ (s_.1 : Value).ownBlock ∧ some k_ ≠ (.slice Ao54 x4_3.length co54 : Value).ownBlock) s_.2 y110) ∧ (Kd.R Kd.string 9 w' w.heap.size (fun k_ => some k_ ≠ (s_.1 : Value).ownBlock ∧ some k_ ≠ (s_.2 : Value).ownBlock) (.slice Ao54 x4_3.length co54) x4_3) ∧ (Below w.heap.size w w')) ?_ ?_
                            rotate_left
                            · intro hCont
                              refine two_ (i := 1) (j := 6) (Ni := some 76) (Nj := some 81) #[true, true, true, true, true, true, false, false, false, false] #[true, false, true, true, true, true, true, false, false, false] rfl rfl rfl rfl (two_of HT_.out (by kernel_rfl)) (by decide) (by decide) (fun K hK => ?_) (fun K hK => ?_)
                              · skip
                                refine goes_ Tryd.func6 (by kernel_rfl) rfl #[.string a0] (by rfl) rfl rfl (by (try simp only [List.map_toArray, List.map_cons, List.map_nil]); first | done | rfl | (simp only [List.length_drop, List.length_take]; rfl)) ?_
                                with_reducible refine (impl_TwSplitCamelCase.calls a0 t107 _ A49.out (Cmb.Tp.below HT_P.out (by repeat (first | (with_reducible first | exact HB.out | apply below_alloc | apply pw_below_drewN | apply below_drew1 | refine below_set ?_ (by assumption)) | exact HB.out | exact Below.refl _ _)))).mono ?_
                                rintro e w56 ⟨v108, rfl, ho0, hb⟩
                                refine ⟨_, rfl, ?_⟩
                                have n0_ := Aside0.mk (Kd.R_elder' (by (with_reducible repeat (first | apply Kd.R_alloc | apply Kd.R_drewN | apply Kd.R_drew)); exact HO_4.out) (Kd.R_base ho0) hb)
                                have n1_ := Aside0.mk (Kd.R_lower (Kd.R_new' ho0 (Kd.R_lt (by (with_reducible repeat (first | apply Kd.R_alloc | apply Kd.R_drewN | apply Kd.R_drew)); exact HO_4.out))) (below_size (by repeat (first | (with_reducible first | exact HB.out | apply below_alloc | apply pw_below_drewN | apply below_drew1) | exact HB.out))))
                                have n2_ := Aside0.mk (below_step (by repeat (first | (with_reducible first | exact HB.out | apply below_alloc | apply pw_below_drewN | apply below_drew1) | exact HB.out)) hb)
                                clear HO_4
                                clear HB
                                have HO_4 := n0_
                                have HO109 := n1_
                                have HB := n2_
                                clear n0_ n1_ n2_
                                (try clear hb)
                                (try clear hb2)
                                (try clear hk)
                                (try clear hi)
                                (try clear ho0)
                                refine hK.out _ _ trivial (fun hHeld => ?_)
                                clear hK K
                                refine norm_ (a' := ?_) ?_ ?_
                                rotate_left
                                · show Act.put _ (some 76) _ = _
                                  simp only [Act.put, List.setIfInBounds_toArray, List.set_cons_zero, List.set_cons_succ, i64_w, i32_w]
                                  rfl
                                refine one_ (i := 6) (N := some 81) #[true, true, true, true, true, true, true, false, false, false] rfl rfl (one_of HT_.out (by kernel_rfl)) (by decide) (fun K hK => ?_)
                                refine Kd.R_lit_step Kd.string _ 9 ?hg (N := 81) ?hd (xs := ([a0.extract (x5_3 : Int).toNat a0.size] : List ByteArray)) (inner := [.string (a0.extract (x5_3 : Int).toNat a0.size)]) (ok := fun _ => True) (okp := fun _ => True) ?hr ?hp (fun _ hk => hk) trivial (Below.refl _ _) (Nat.le_refl _) (by simp) ?_; (case hd => rfl); (case hg => rfl); (case hr => first | (go_simp; done) | (go_simp; rfl)); (case hp => exact (Reps.one (show Kd.M Kd.string _ _ _ (a0.extract (x5_3 : Int).toNat a0.size) [.string (a0.extract (x5_3 : Int).toNat a0.size)] from rfl) (Reps.none _ _)))
                                intro v111 w57 ho58 hb hg_ hnew_
                                clear hg_ hnew_
                                (first | rw [← Ny110.out] at ho58 | (simp only [Int.reduceToNat] at ho58; rw [← Ny110.out] at ho58))
                                have n0_ := Aside0.mk (Kd.R_elder' (by (with_reducible repeat (first | apply Kd.R_alloc | apply Kd.R_drewN | apply Kd.R_drew)); exact HO_4.out) (Kd.R_base ho58) hb)
                                have n1_ := Aside0.mk (Kd.R_elder' (by (with_reducible repeat (first | apply Kd.R_alloc | apply Kd.R_drewN | apply Kd.R_drew)); exact HO109.out) (Kd.R_base ho58) hb)
                                have n2_ := Aside0.mk (Kd.R_lower (Kd.R_new' (Kd.R_new' ho58 (Kd.R_lt (by (with_reducible repeat (first | apply Kd.R_alloc | apply Kd.R_drewN | apply Kd.R_drew)); exact HO_4.out))) (Kd.R_lt (by (with_reducible repeat (first | apply Kd.R_alloc | apply Kd.R_drewN | apply Kd.R_drew)); exact HO109.out))) (below_size (by repeat (first | (with_reducible first | exact HB.out | apply below_alloc | apply pw_below_drewN | apply below_drew1) | exact HB.out))))
                                have n3_ := Aside0.mk (below_step (by repeat (first | (with_reducible first | exact HB.out | apply below_alloc | apply pw_below_drewN | apply below_drew1) | exact HB.out)) hb)
                                clear HO_4
                                clear HO109
                                clear HB
                                have HO_4 := n0_
                                have HO109 := n1_
                                have HO112 := n2_
                                have HB := n3_
                                clear n0_ n1_ n2_ n3_
                                clear hb ho58
                                refine hK.out _ _ trivial (fun hHeld => ?_)
                                clear hK K
                                refine norm_ (a' := ?_) ?_ ?_
                                rotate_left
                                · show Act.put _ (some 81) _ = _
                                  simp only [Act.put, List.setIfInBounds_toArray, List.set_cons_zero, List.set_cons_succ, i64_w, i32_w]
                                  rfl
                                exact norm_ (by simp only [putAll, Act.put, List.setIfInBounds_toArray, List.set_cons_zero, List.set_cons_succ]) (hCont (v108, v111) _ ⟨(by (with_reducible repeat (first | apply Kd.R_alloc | apply Kd.R_drewN | apply Kd.R_drew)); exact Kd.R_mono HO109.out (fun _ hk => ⟨hk.2, hk.1.2⟩)), (by (with_reducible repeat (first | apply Kd.R_alloc | apply Kd.R_drewN | apply Kd.R_drew)); exact Kd.R_mono HO112.out (fun _ hk => ⟨hk.2, hk.1.2⟩)), (by (with_reducible repeat (first | apply Kd.R_alloc | apply Kd.R_drewN | apply Kd.R_drew)); exact Kd.R_mono HO_4.out (fun _ hk => ⟨hk.1.2, hk.2⟩)), (by repeat (first | (with_reducible first | exact HB.out | apply below_alloc | apply pw_below_drewN | apply below_drew1) | exact HB.out))⟩)
                              · skip
                                refine Kd.R_lit_step Kd.string _ 9 ?hg (N := 81) ?hd (xs := ([a0.extract (x5_3 : Int).toNat a0.size] : List ByteArray)) (inner := [.string (a0.extract (x5_3 : Int).toNat a0.size)]) (ok := fun _ => True) (okp := fun _ => True) ?hr ?hp (fun _ hk => hk) trivial (Below.refl _ _) (Nat.le_refl _) (by simp) ?_; (case hd => rfl); (case hg => rfl); (case hr => first | (go_simp; done) | (go_simp; rfl)); (case hp => exact (Reps.one (show Kd.M Kd.string _ _ _ (a0.extract (x5_3 : Int).toNat a0.size) [.string (a0.extract (x5_3 : Int).toNat a0.size)] from rfl) (Reps.none _ _)))
                                intro v111 w56 ho57 hb hg_ hnew_
                                clear hg_ hnew_
                                (first | rw [← Ny110.out] at ho57 | (simp only [Int.reduceToNat] at ho57; rw [← Ny110.out] at ho57))
                                have n0_ := Aside0.mk (Kd.R_elder' (by (with_reducible repeat (first | apply Kd.R_alloc | apply Kd.R_drewN | apply Kd.R_drew)); exact HO_4.out) (Kd.R_base ho57) hb)
                                have n1_ := Aside0.mk (Kd.R_lower (Kd.R_new' ho57 (Kd.R_lt (by (with_reducible repeat (first | apply Kd.R_alloc | apply Kd.R_drewN | apply Kd.R_drew)); exact HO_4.out))) (below_size (by repeat (first | (with_reducible first | exact HB.out | apply below_alloc | apply pw_below_drewN | apply below_drew1) | exact HB.out))))
                                have n2_ := Aside0.mk (below_step (by repeat (first | (with_reducible first | exact HB.out | apply below_alloc | apply pw_below_drewN | apply below_drew1) | exact HB.out)) hb)
                                clear HO_4
                                clear HB
                                have HO_4 := n0_
                                have HO112 := n1_
                                have HB := n2_
                                clear n0_ n1_ n2_
                                clear hb ho57
                                refine hK.out _ _ trivial (fun hHeld => ?_)
                                clear hK K
                                refine norm_ (a' := ?_) ?_ ?_
                                rotate_left
                                · show Act.put _ (some 81) _ = _
                                  simp only [Act.put, List.setIfInBounds_toArray, List.set_cons_zero, List.set_cons_succ, i64_w, i32_w]
                                  rfl
                                refine one_ (i := 1) (N := some 76) #[true, true, true, true, true, true, true, false, false, false] rfl rfl (one_of HT_.out (by kernel_rfl)) (by decide) (fun K hK => ?_)
                                refine goes_ Tryd.func6 (by kernel_rfl) rfl #[.string a0] (by rfl) rfl rfl (by (try simp only [List.map_toArray, List.map_cons, List.map_nil]); first | done | rfl | (simp only [List.length_drop, List.length_take]; rfl)) ?_
                                with_reducible refine (impl_TwSplitCamelCase.calls a0 t107 _ A49.out (Cmb.Tp.below HT_P.out (by repeat (first | (with_reducible first | exact HB.out | apply below_alloc | apply pw_below_drewN | apply below_drew1 | refine below_set ?_ (by assumption)) | exact HB.out | exact Below.refl _ _)))).mono ?_
                                rintro e w58 ⟨v108, rfl, ho0, hb⟩
                                refine ⟨_, rfl, ?_⟩
                                have n0_ := Aside0.mk (Kd.R_elder' (by (with_reducible repeat (first | apply Kd.R_alloc | apply Kd.R_drewN | apply Kd.R_drew)); exact HO_4.out) (Kd.R_base ho0) hb)
                                have n1_ := Aside0.mk (Kd.R_elder' (by (with_reducible repeat (first | apply Kd.R_alloc | apply Kd.R_drewN | apply Kd.R_drew)); exact HO112.out) (Kd.R_base ho0) hb)
                                have n2_ := Aside0.mk (Kd.R_lower (Kd.R_new' (Kd.R_new' ho0 (Kd.R_lt (by (with_reducible repeat (first | apply Kd.R_alloc | apply Kd.R_drewN | apply Kd.R_drew)); exact HO_4.out))) (Kd.R_lt (by (with_reducible repeat (first | apply Kd.R_alloc | apply Kd.R_drewN | apply Kd.R_drew)); exact HO112.out))) (below_size (by repeat (first | (with_reducible first | exact HB.out | apply below_alloc | apply pw_below_drewN | apply below_drew1) | exact HB.out))))
                                have n3_ := Aside0.mk (below_step (by repeat (first | (with_reducible first | exact HB.out | apply below_alloc | apply pw_below_drewN | apply below_drew1) | exact HB.out)) hb)
                                clear HO_4
                                clear HO112
                                clear HB
                                have HO_4 := n0_
                                have HO112 := n1_
                                have HO109 := n2_
                                have HB := n3_
                                clear n0_ n1_ n2_ n3_
                                (try clear hb)
                                (try clear hb2)
                                (try clear hk)
                                (try clear hi)
                                (try clear ho0)
                                refine hK.out _ _ trivial (fun hHeld => ?_)
                                clear hK K
                                refine norm_ (a' := ?_) ?_ ?_
                                rotate_left
                                · show Act.put _ (some 76) _ = _
                                  simp only [Act.put, List.setIfInBounds_toArray, List.set_cons_zero, List.set_cons_succ, i64_w, i32_w]
                                  rfl
                                exact norm_ (by simp only [putAll, Act.put, List.setIfInBounds_toArray, List.set_cons_zero, List.set_cons_succ]) (hCont (v108, v111) _ ⟨(by (with_reducible repeat (first | apply Kd.R_alloc | apply Kd.R_drewN | apply Kd.R_drew)); exact Kd.R_mono HO109.out (fun _ hk => ⟨hk.2, hk.1.2⟩)), (by (with_reducible repeat (first | apply Kd.R_alloc | apply Kd.R_drewN | apply Kd.R_drew)); exact Kd.R_mono HO112.out (fun _ hk => ⟨hk.2, hk.1.2⟩)), (by (with_reducible repeat (first | apply Kd.R_alloc | apply Kd.R_drewN | apply Kd.R_drew)); exact Kd.R_mono HO_4.out (fun _ hk => ⟨hk.2, hk.1.2⟩)), (by repeat (first | (with_reducible first | exact HB.out | apply below_alloc | apply pw_below_drewN | apply below_drew1) | exact HB.out))⟩)
                            rintro ⟨v108, v111⟩ w59 ⟨h0_, h1_, h2_, h3_⟩
                            have n0_ : Aside0 (Kd.R Kd.string 9 w59 w.heap.size (fun k_ => some k_ ≠ (v111 : Value).ownBlock ∧ some k_ ≠ (.slice Ao54 x4_3.length co54 : Value).ownBlock) v108 t107) := ⟨h0_⟩
                            have n1_ : Aside0 (Kd.R Kd.string 9 w59 w.heap.size (fun k_ => some k_ ≠ (v108 : Value).ownBlock ∧ some k_ ≠ (.slice Ao54 x4_3.length co54 : Value).ownBlock) v111 y110) := ⟨h1_⟩
                            have n2_ : Aside0 (Kd.R Kd.string 9 w59 w.heap.size (fun k_ => some k_ ≠ (v108 : Value).ownBlock ∧ some k_ ≠ (v111 : Value).ownBlock) (.slice Ao54 x4_3.length co54) x4_3) := ⟨h2_⟩
                            have n3_ : Aside0 (Below w.heap.size w w59) := ⟨h3_⟩
                            clear HO_4
                            clear HB
                            clear h0_ h1_ h2_ h3_
                            have HO109 := n0_
                            have HO112 := n1_
                            have HO_4 := n2_
                            have HB := n3_
                            clear n0_ n1_ n2_ n3_
                            have hHeld := trivial
                            obtain ⟨Ao61, co61, eo61⟩ := Kd.R_slice HO112.out
                            (first | subst eo61 | (injection eo61 with f1_ f2_ f3_; have f4_ := f1_.symm; have f5_ := f3_.symm; clear f1_ f2_ f3_; subst f4_; subst f5_))
                            refine norm_ (a' := ?_) ?_ ?_
                            rotate_left
                            · simp only [putAll, Act.put, List.setIfInBounds_toArray, List.set_cons_zero, List.set_cons_succ]
                              rfl
                            refine one_ (i := 7) (N := some 82) #[true, true, true, true, true, true, true, true, false, false] rfl rfl (one_of HT_.out (by kernel_rfl)) (by decide) (fun K hK => ?_)
                            refine Kd.R_append_rows_step Kd.string (w0 := w) w.heap.size (by rfl) (.tmp 77) (.tmp 81) 23 9 (.string ⟨#[]⟩) 16 rfl Tryd.underlying23 info9 rfl (by decide) (by omega) (.slice Ao54 x4_3.length co54) x4_3 y110 _ _ _ (fun k_ => some k_ ≠ (v108 : Value).ownBlock ∧ some k_ ≠ (.slice Ao61 y110.length co61 : Value).ownBlock) (fun _ => False) rfl rfl ?aO ?aR (fun _ _ h => h) (fun _ h => h.elim) ?aF ?aB ?aS ?aL ?_
                            (case aR => repeat (first | exact (Kd.R_reads' HO112.out).2.2 | (with_reducible refine Kd.C_alloc ?_ _) | (with_reducible refine Kd.C_drewN ?_ _) | (with_reducible refine Kd.C_drew ?_)))
                            (case aB => exact (by repeat (first | (with_reducible first | exact HB.out | apply below_alloc | apply pw_below_drewN | apply below_drew1) | exact HB.out)))
                            (case aF => exact (fun k_ hk => ⟨Kd.fresh' (Kd.R_lt (by (with_reducible repeat (first | apply Kd.R_alloc | apply Kd.R_drewN | apply Kd.R_drew)); exact HO109.out)) k_ hk, Kd.fresh' (Kd.R_lt (by (with_reducible repeat (first | apply Kd.R_alloc | apply Kd.R_drewN | apply Kd.R_drew)); exact HO112.out)) k_ hk⟩))
                            (case aO => exact (by (with_reducible repeat (first | apply Kd.R_alloc | apply Kd.R_drewN | apply Kd.R_drew)); exact HO_4.out))
                            (case aS => exact (below_size (by repeat (first | (with_reducible first | exact HB.out | apply below_alloc | apply pw_below_drewN | apply below_drew1) | exact HB.out))))
                            (case aL => have := LMc52.out; first | omega | exact this | exact Nat.le_of_lt this)
                            intro v114 w60 ho hb hg hat
                            rw [← Ny113.out] at ho
                            have n0_ := Aside0.mk (Kd.R_after (ok := (fun k_ => some k_ ≠ (.slice Ao61 y110.length co61 : Value).ownBlock)) (by (with_reducible repeat (first | apply Kd.R_alloc | apply Kd.R_drewN | apply Kd.R_drew)); exact HO109.out) hg hat)
                            have n1_ := Aside0.mk (Kd.R_after (ok := (fun k_ => some k_ ≠ (v108 : Value).ownBlock)) (by (with_reducible repeat (first | apply Kd.R_alloc | apply Kd.R_drewN | apply Kd.R_drew)); exact HO112.out) hg hat)
                            have n2_ := Aside0.mk (hb)
                            have n3_ := Aside0.mk (ho)
                            clear HO109
                            clear HO112
                            clear HB
                            clear HO_4
                            have HO109 := n0_
                            have HO112 := n1_
                            have HB := n2_
                            have HO115 := n3_
                            clear n0_ n1_ n2_ n3_
                            clear ho hb hg hat
                            obtain ⟨Ao62, co62, eo62⟩ := Kd.R_slice HO109.out
                            (first | subst eo62 | (injection eo62 with f1_ f2_ f3_; have f4_ := f1_.symm; have f5_ := f3_.symm; clear f1_ f2_ f3_; subst f4_; subst f5_))
                            obtain ⟨Ao63, co63, eo63⟩ := Kd.R_slice HO115.out
                            (first | subst eo63 | (injection eo63 with f1_ f2_ f3_; have f4_ := f1_.symm; have f5_ := f3_.symm; clear f1_ f2_ f3_; subst f4_; subst f5_))
                            refine hK.out _ _ trivial (fun hHeld => ?_)
                            clear hK K
                            refine norm_ (a' := ?_) ?_ ?_
                            rotate_left
                            · show Act.put _ (some 82) _ = _
                              simp only [Act.put, List.setIfInBounds_toArray, List.set_cons_zero, List.set_cons_succ, i64_w, i32_w]
                              rfl
                            refine one_ (i := 8) (N := some 83) #[true, true, true, true, true, true, true, true, true, false] rfl rfl (one_of HT_.out (by kernel_rfl)) (by decide) (fun K hK => ?_)
                            refine goes_ Tryd.func5 (by kernel_rfl) rfl #[.slice Ao62 t107.length co62, .slice Ao63 y113.length co63] (by rfl) rfl rfl (by (try simp only [List.map_toArray, List.map_cons, List.map_nil]); first | done | rfl | (simp only [List.length_drop, List.length_take]; rfl)) ?_
                            with_reducible refine (spec_TwTexts.calls k3 _ _ t107 _ _ y113 t116 _ ?side1 ?side2 ?side3 ?side4 A53.out).mono ?_
                            (case side1 => repeat (first | exact (Kd.R_reads' HO109.out).2.2 | (with_reducible refine Kd.C_alloc ?_ _) | (with_reducible refine Kd.C_drewN ?_ _) | (with_reducible refine Kd.C_drew ?_)))
                            (case side2 => exact (Kd.R_reads' HO109.out).2.1)
                            (case side3 => repeat (first | exact (Kd.R_reads' HO115.out).2.2 | (with_reducible refine Kd.C_alloc ?_ _) | (with_reducible refine Kd.C_drewN ?_ _) | (with_reducible refine Kd.C_drew ?_)))
                            (case side4 => exact (Kd.R_reads' HO115.out).2.1)
                            rintro e w' ⟨rfl, ⟨nd, rfl⟩⟩
                            refine ⟨_, rfl, ?_⟩
                            refine hK.out _ _ trivial (fun hHeld => ?_)
                            clear hK K
                            refine norm_ (a' := ?_) ?_ ?_
                            rotate_left
                            · show Act.put _ (some 83) _ = _
                              simp only [Act.put, List.setIfInBounds_toArray, List.set_cons_zero, List.set_cons_succ, i64_w, i32_w]
                              rfl
                            refine pure_ (i := 9) (N := some 2) (v := ?_) (a' := ?_) #[true, true, true, true, true, true, true, true, true, true] rfl rfl (any_of HT_.out (by kernel_rfl)) (fun _ _ _ h => h) (Or.inl ⟨by rfl, ?_⟩) ?_ ?_
                            rotate_left
                            · intro w'
                              go_simp
                              with_reducible rfl
                            rotate_left
                            · simp only [Act.put, List.setIfInBounds_toArray, List.set_cons_zero, List.set_cons_succ, i64_w, i32_w]
                              rfl
                            refine done_ (done_of HT_.out (by kernel_rfl)) ?_
                            try go_wp2
                            go_ret
                            exact ⟨by first | rfl | (simp [errW_none, errW_some] <;> rfl) | (simp [*, errW_none, errW_some] <;> rfl), by repeat (first | (with_reducible first | exact HB.out | apply below_alloc | apply pw_below_drewN | apply below_drew1) | exact HB.out)⟩
                          · rw [if_neg c52] at H
                            exact absurd H (by simp)
                        · rw [if_neg c51] at H
                          exact absurd H (by simp)
                      · rw [if_neg c50] at H
                        exact absurd H (by simp)

end Go.Proofs.YtjaebonfojnmdaaDoor.GFnCamel
