-- PRINTED BY print.sh 35421559b90ae4d0a3588c463048766b98c2df88dd9212a6774a882060cdf62d: not written by this session
import Derived.Test.YtcjnoadamfdgeaaPFnNumericOrSpacex0
namespace Go.Proofs.Ytcjnoadamfdgeaa.PFnNumericOrSpace
open Go.RowKit Go.Proofs.YtcjnoadamfdgeaaW.PrintWords Go.Proofs.YtcjnoadamfdgeaaW.PrintLast Go.Proofs.YtcjnoadamfdgeaaW.PrintMore
attribute [local go_sem] max2_int min2_int max_two min_two max_three min_three max_four min_four   -- for this text's walks alone
set_option linter.unusedVariables false
set_option linter.unusedSimpArgs false

/-! ### tw_IsIsNumericOrSpace: function 26 -/
def tw_IsIsNumericOrSpace.f (a0 : Int) : Option (Bool) := if 48 ≤ a0 then (if a0 ≤ 57 then (some true) else (some (a0 == 32))) else (some (a0 == 32))
set_option maxHeartbeats 8000000 in
set_option maxRecDepth 100000 in
theorem tw_IsIsNumericOrSpace.calls (a0 : Int) (r : Bool) (w : World) (h : tw_IsIsNumericOrSpace.f a0 = some r) :
    Calls Try.prog 26 #[.int .i32 a0] w fun e w' => e = .returned (.bool r) ∧ Drawn0 w w' := by
  have H : (if 48 ≤ a0 then (if a0 ≤ 57 then (some true) else (some (a0 == 32))) else (some (a0 == 32))) = some r := h
  clear h
  by_cases c2 : 48 ≤ a0
  · rw [if_pos c2] at H
    have c2b0 : decide (48 ≤ a0) = true := decide_eq_true c2
    clear c2
    by_cases c3 : a0 ≤ 57
    · rw [if_pos c3] at H
      have c3b0 : decide (a0 ≤ 57) = true := decide_eq_true c3
      clear c3
      obtain rfl := Option.some.inj H
      go_enter Try.func26, Try.ntmps26
      go_wp2
      go_ret
      exact ⟨by first | rfl | (simp; done) | (simp [*]; done), by repeat (first | exact Drawn0.refl _ | apply Drawn0.step)⟩
    · rw [if_neg c3] at H
      have c3b0 : decide (a0 ≤ 57) = false := decide_eq_false c3
      clear c3
      obtain rfl := Option.some.inj H
      go_enter Try.func26, Try.ntmps26
      go_wp2
      go_ret
      exact ⟨by first | rfl | (simp; done) | (simp [*]; done), by repeat (first | exact Drawn0.refl _ | apply Drawn0.step)⟩
  · rw [if_neg c2] at H
    have c2b0 : decide (48 ≤ a0) = false := decide_eq_false c2
    clear c2
    obtain rfl := Option.some.inj H
    go_enter Try.func26, Try.ntmps26
    go_wp2
    go_ret
    exact ⟨by first | rfl | (simp; done) | (simp [*]; done), by repeat (first | exact Drawn0.refl _ | apply Drawn0.step)⟩

/-! ### impl_TwIsNumericOrSpace: function 9 -/
def impl_TwIsNumericOrSpace.f (a0 : Int) : Option (Bool) := (tw_IsIsNumericOrSpace.f a0).bind fun t101 => (some t101)
set_option maxHeartbeats 8000000 in
set_option maxRecDepth 100000 in
theorem impl_TwIsNumericOrSpace.calls (a0 : Int) (r : Bool) (w : World) (h : impl_TwIsNumericOrSpace.f a0 = some r) :
    Calls Try.prog 9 #[.int .i32 a0] w fun e w' => e = .returned (.bool r) ∧ Drawn0 w w' := by
  have H : ((tw_IsIsNumericOrSpace.f a0).bind fun t101 => (some t101)) = some r := h
  clear h
  replace H := Option.bind_eq_some_iff.mp H
  obtain ⟨t101, A20, H⟩ := H
  replace H : (some t101) = some r := H
  have A2 := Aside0.mk A20
  clear A20
  obtain rfl := Option.some.inj H
  go_enter Try.func9, Try.ntmps9
  go_wp2_with (first | ((with_reducible refine gate_callee (f := 26) rfl ?_); refine goesL_ (some 4) rfl rfl Try.func26 (by kernel_rfl) rfl #[.int .i32 a0] rfl (by (try simp only [List.map_toArray, List.map_cons, List.map_nil]); first | done | rfl | (simp only [List.length_drop, List.length_take]; rfl)) ?_; (with_reducible refine (tw_IsIsNumericOrSpace.calls a0 t101 _ A2.out).mono ?_); rintro e w' ⟨rfl, ⟨nd, rfl⟩⟩; refine ⟨_, rfl, ?_⟩))
  go_ret
  exact ⟨by first | rfl | (simp; done) | (simp [*]; done), by repeat (first | exact Drawn0.refl _ | apply Drawn0.step)⟩

/-! ### laws_FnNumericOrSpace: function 3 -/
def laws_FnNumericOrSpace.f (a0 : Int) : Option (Bool) := if (wrap32 (Int.tmod a0 127)) < 32 then (some true) else ((impl_TwIsNumericOrSpace.f (wrap32 (Int.tmod a0 127))).bind fun t102 => (if (wrap32 (Int.tmod a0 127)) ≥ 48 then (if (wrap32 (Int.tmod a0 127)) ≤ 57 then (some (t102 == true)) else (some (t102 == ((wrap32 (Int.tmod a0 127)) == 32)))) else (some (t102 == ((wrap32 (Int.tmod a0 127)) == 32)))))
set_option maxHeartbeats 8000000 in
set_option maxRecDepth 100000 in
theorem laws_FnNumericOrSpace.calls (a0 : Int) (r : Bool) (w : World) (h : laws_FnNumericOrSpace.f a0 = some r) :
    Calls Try.prog 3 #[.int .u8 a0] w fun e w' => e = .returned (.bool r) ∧ Drawn0 w w' := by
  have H : (if (wrap32 (Int.tmod a0 127)) < 32 then (some true) else ((impl_TwIsNumericOrSpace.f (wrap32 (Int.tmod a0 127))).bind fun t102 => (if (wrap32 (Int.tmod a0 127)) ≥ 48 then (if (wrap32 (Int.tmod a0 127)) ≤ 57 then (some (t102 == true)) else (some (t102 == ((wrap32 (Int.tmod a0 127)) == 32)))) else (some (t102 == ((wrap32 (Int.tmod a0 127)) == 32)))))) = some r := h
  clear h
  by_cases c2 : (wrap32 (Int.tmod a0 127)) < 32
  · rw [if_pos c2] at H
    have c2b0 : decide ((wrap32 (Int.tmod a0 127)) < 32) = true := decide_eq_true c2
    clear c2
    obtain rfl := Option.some.inj H
    go_enter Try.func3, Try.ntmps3
    go_wp2
    go_ret
    exact ⟨by first | rfl | (simp; done) | (simp [*]; done), by repeat (first | exact Drawn0.refl _ | apply Drawn0.step)⟩
  · rw [if_neg c2] at H
    have c2b0 : decide ((wrap32 (Int.tmod a0 127)) < 32) = false := decide_eq_false c2
    clear c2
    replace H := Option.bind_eq_some_iff.mp H
    obtain ⟨t102, A30, H⟩ := H
    replace H : (if (wrap32 (Int.tmod a0 127)) ≥ 48 then (if (wrap32 (Int.tmod a0 127)) ≤ 57 then (some (t102 == true)) else (some (t102 == ((wrap32 (Int.tmod a0 127)) == 32)))) else (some (t102 == ((wrap32 (Int.tmod a0 127)) == 32)))) = some r := H
    have A3 := Aside0.mk A30
    clear A30
    by_cases c4 : (wrap32 (Int.tmod a0 127)) ≥ 48
    · rw [if_pos c4] at H
      have c4b0 : decide (48 ≤ (wrap32 (Int.tmod a0 127))) = true := decide_eq_true c4
      clear c4
      by_cases c5 : (wrap32 (Int.tmod a0 127)) ≤ 57
      · rw [if_pos c5] at H
        have c5b0 : decide ((wrap32 (Int.tmod a0 127)) ≤ 57) = true := decide_eq_true c5
        clear c5
        obtain rfl := Option.some.inj H
        go_enter Try.func3, Try.ntmps3
        go_wp2_with (first | (go_at_call 9; (with_reducible refine (impl_TwIsNumericOrSpace.calls (wrap32 (Int.tmod a0 127)) t102 _ A3.out).mono ?_); rintro e w' ⟨rfl, ⟨nd, rfl⟩⟩))
        go_ret
        exact ⟨by first | rfl | (simp; done) | (simp [*]; done), by repeat (first | exact Drawn0.refl _ | apply Drawn0.step)⟩
      · rw [if_neg c5] at H
        have c5b0 : decide ((wrap32 (Int.tmod a0 127)) ≤ 57) = false := decide_eq_false c5
        clear c5
        obtain rfl := Option.some.inj H
        go_enter Try.func3, Try.ntmps3
        go_wp2_with (first | (go_at_call 9; (with_reducible refine (impl_TwIsNumericOrSpace.calls (wrap32 (Int.tmod a0 127)) t102 _ A3.out).mono ?_); rintro e w' ⟨rfl, ⟨nd, rfl⟩⟩))
        go_ret
        exact ⟨by first | rfl | (simp; done) | (simp [*]; done), by repeat (first | exact Drawn0.refl _ | apply Drawn0.step)⟩
    · rw [if_neg c4] at H
      have c4b0 : decide (48 ≤ (wrap32 (Int.tmod a0 127))) = false := decide_eq_false c4
      clear c4
      obtain rfl := Option.some.inj H
      go_enter Try.func3, Try.ntmps3
      go_wp2_with (first | (go_at_call 9; (with_reducible refine (impl_TwIsNumericOrSpace.calls (wrap32 (Int.tmod a0 127)) t102 _ A3.out).mono ?_); rintro e w' ⟨rfl, ⟨nd, rfl⟩⟩))
      go_ret
      exact ⟨by first | rfl | (simp; done) | (simp [*]; done), by repeat (first | exact Drawn0.refl _ | apply Drawn0.step)⟩

/-- THE ONE PURE STATEMENT of laws_FnNumericOrSpace: yours. -/
def laws_FnNumericOrSpace.Pure : Prop := ∀ (a0 : Int), (Lit.int .u8 a0).wf = true → laws_FnNumericOrSpace.f a0 = some true
theorem laws_FnNumericOrSpace.walk (P : laws_FnNumericOrSpace.Pure) (a0 : Int) (w : World) (w0 : (Lit.int .u8 a0).wf = true) :
    Calls Try.prog 3 #[.int .u8 a0] w fun e w' => e = .returned (.bool true) ∧ Below w.heap.size w w' := by
  have h := P a0 w0
  refine (laws_FnNumericOrSpace.calls a0 true w h).mono ?_
  rintro e w' ⟨rfl, hd⟩
  exact ⟨rfl, hd.below⟩

end Go.Proofs.Ytcjnoadamfdgeaa.PFnNumericOrSpace
