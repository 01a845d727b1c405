-- PRINTED BY print.sh 35421559b90ae4d0a3588c463048766b98c2df88dd9212a6774a882060cdf62d: not written by this session
import Derived.Test.YtcjnoadamfdgeaaPFnTextDirectionx0
namespace Go.Proofs.Ytcjnoadamfdgeaa.PFnTextDirection
open Go.RowKit Go.Proofs.YtcjnoadamfdgeaaW.PrintWords Go.Proofs.YtcjnoadamfdgeaaW.PrintLast Go.Proofs.YtcjnoadamfdgeaaW.PrintMore
attribute [local go_sem] max2_int min2_int max_two min_two max_three min_three max_four min_four   -- for this text's walks alone
set_option linter.unusedVariables false
set_option linter.unusedSimpArgs false

/-! ### text_Direction_Modifier: function 27 -/
def text_Direction_Modifier.f (a0 : Int) : Option (ByteArray) := if a0 = 1 then (some (⟨#[226, 128, 170]⟩ : ByteArray)) else (if a0 = 2 then (some (⟨#[226, 128, 171]⟩ : ByteArray)) else (some (⟨#[]⟩ : ByteArray)))
set_option maxHeartbeats 8000000 in
set_option maxRecDepth 100000 in
theorem text_Direction_Modifier.calls (a0 : Int) (r : ByteArray) (w : World) (h : text_Direction_Modifier.f a0 = some r) :
    Calls Try.prog 27 #[.int .i64 a0] w fun e w' => e = .returned (.string r) ∧ Drawn0 w w' := by
  have H : (if a0 = 1 then (some (⟨#[226, 128, 170]⟩ : ByteArray)) else (if a0 = 2 then (some (⟨#[226, 128, 171]⟩ : ByteArray)) else (some (⟨#[]⟩ : ByteArray)))) = some r := h
  clear h
  by_cases c2 : a0 = 1
  · rw [if_pos c2] at H
    have c2b0 : (a0 == 1) = true := beq_iff_eq.mpr c2
    have c2b1 : (a0 != 1) = false := bne_eq_false_iff_eq.mpr c2
    clear c2
    obtain rfl := Option.some.inj H
    go_enter Try.func27, Try.ntmps27
    go_wp2
    go_ret
    exact ⟨by first | rfl | (simp; done) | (simp [*]; done), by repeat (first | exact Drawn0.refl _ | apply Drawn0.step)⟩
  · rw [if_neg c2] at H
    have c2b0 : (a0 == 1) = false := beq_eq_false_iff_ne.mpr c2
    have c2b1 : (a0 != 1) = true := bne_iff_ne.mpr c2
    by_cases c3 : a0 = 2
    · rw [if_pos c3] at H
      have c3b0 : (a0 == 2) = true := beq_iff_eq.mpr c3
      have c3b1 : (a0 != 2) = false := bne_eq_false_iff_eq.mpr c3
      clear c3
      obtain rfl := Option.some.inj H
      go_enter Try.func27, Try.ntmps27
      go_wp2
      go_ret
      exact ⟨by first | rfl | (simp; done) | (simp [*]; done), by repeat (first | exact Drawn0.refl _ | apply Drawn0.step)⟩
    · rw [if_neg c3] at H
      have c3b0 : (a0 == 2) = false := beq_eq_false_iff_ne.mpr c3
      have c3b1 : (a0 != 2) = true := bne_iff_ne.mpr c3
      obtain rfl := Option.some.inj H
      go_enter Try.func27, Try.ntmps27
      go_wp2
      go_ret
      exact ⟨by first | rfl | (simp; done) | (simp [*]; done), by repeat (first | exact Drawn0.refl _ | apply Drawn0.step)⟩

/-! ### impl_TextDirection: function 10 -/
def impl_TextDirection.f (a0 : Int) : Option (ByteArray) := (text_Direction_Modifier.f a0).bind fun t101 => (some t101)
set_option maxHeartbeats 8000000 in
set_option maxRecDepth 100000 in
theorem impl_TextDirection.calls (a0 : Int) (r : ByteArray) (w : World) (h : impl_TextDirection.f a0 = some r) :
    Calls Try.prog 10 #[.int .i64 a0] w fun e w' => e = .returned (.string r) ∧ Drawn0 w w' := by
  have H : ((text_Direction_Modifier.f a0).bind fun t101 => (some t101)) = some r := h
  clear h
  replace H := Option.bind_eq_some_iff.mp H
  obtain ⟨t101, A20, H⟩ := H
  replace H : (some t101) = some r := H
  have A2 := Aside0.mk A20
  clear A20
  obtain rfl := Option.some.inj H
  go_enter Try.func10, Try.ntmps10
  go_wp2_with (first | ((with_reducible refine gate_callee (f := 27) rfl ?_); refine goesL_ (some 4) rfl rfl Try.func27 (by kernel_rfl) rfl #[.int .i64 a0] rfl (by (try simp only [List.map_toArray, List.map_cons, List.map_nil]); first | done | rfl | (simp only [List.length_drop, List.length_take]; rfl)) ?_; (with_reducible refine (text_Direction_Modifier.calls a0 t101 _ A2.out).mono ?_); rintro e w' ⟨rfl, ⟨nd, rfl⟩⟩; refine ⟨_, rfl, ?_⟩))
  go_ret
  exact ⟨by first | rfl | (simp; done) | (simp [*]; done), by repeat (first | exact Drawn0.refl _ | apply Drawn0.step)⟩

-- NOT PRINTED: function 4 (laws_FnTextDirection)

end Go.Proofs.Ytcjnoadamfdgeaa.PFnTextDirection
