-- Written by gprint.py, a program of this session over the kit's printer, with contracts of its own for what the printer does not take. Not trusted: Lean checks it.
import Derived.Test.YthjkmjimlhpbfaaDoorGFnListMarkdownLinesx0
import Derived.Test.YthjkmjimlhpbfaaDoorGFnListMarkdownLinesx1
namespace Go.Proofs.YthjkmjimlhpbfaaDoor.GFnListMarkdownLines
open Go.RowKit Go.Proofs.YthjkmjimlhpbfaaDoor.Itr Go.Proofs.YthjkmjimlhpbfaaDoorW.PrintWords Go.Proofs.YthjkmjimlhpbfaaDoorW.PrintLast Go.Proofs.YthjkmjimlhpbfaaDoorW.PrintMore
attribute [local go_sem] max2_int min2_int max_two min_two max_three min_three max_four min_four   -- for this text's walks alone
set_option linter.unusedVariables false
set_option linter.unusedSimpArgs false
noncomputable section

/-! ### spec_TxKnown: function 24 -/
def spec_TxKnown.f (a0 : Int) : Option (Bool) := if a0 ≥ 32 then (if a0 ≤ 126 then (some true) else ((spec_TxBoxed.f a0).bind fun t106 => (if t106 = true then (some true) else ((spec_TxWide.f a0).bind fun t107 => (some t107))))) else ((spec_TxBoxed.f a0).bind fun t108 => (if t108 = true then (some true) else ((spec_TxWide.f a0).bind fun t109 => (some t109))))
set_option maxHeartbeats 8000000 in
set_option maxRecDepth 100000 in
theorem spec_TxKnown.calls (a0 : Int) (r : Bool) (w : World) (h : spec_TxKnown.f a0 = some r) :
    Calls Tryd.prog 24 #[.int .i32 a0] w fun e w' => e = .returned (.bool r) ∧ Drawn0 w w' := by
  have H : (if a0 ≥ 32 then (if a0 ≤ 126 then (some true) else ((spec_TxBoxed.f a0).bind fun t106 => (if t106 = true then (some true) else ((spec_TxWide.f a0).bind fun t107 => (some t107))))) else ((spec_TxBoxed.f a0).bind fun t108 => (if t108 = true then (some true) else ((spec_TxWide.f a0).bind fun t109 => (some t109))))) = some r := h
  clear h
  by_cases c2 : a0 ≥ 32
  · rw [if_pos c2] at H
    have c2b0 : decide (32 ≤ a0) = true := decide_eq_true c2
    clear c2
    by_cases c3 : a0 ≤ 126
    · rw [if_pos c3] at H
      have c3b0 : decide (a0 ≤ 126) = true := decide_eq_true c3
      clear c3
      obtain rfl := Option.some.inj H
      go_enter Tryd.func24, Tryd.ntmps24
      go_wp2
      go_ret
      exact ⟨by first | rfl | (simp; done) | (simp [*]; done), by repeat (first | exact Drawn0.refl _ | apply Drawn0.step)⟩
    · rw [if_neg c3] at H
      have c3b0 : decide (a0 ≤ 126) = false := decide_eq_false c3
      clear c3
      replace H := Option.bind_eq_some_iff.mp H
      obtain ⟨t106, A40, H⟩ := H
      replace H : (if t106 = true then (some true) else ((spec_TxWide.f a0).bind fun t107 => (some t107))) = some r := H
      have A4 := Aside0.mk A40
      clear A40
      by_cases c5 : t106 = true
      · subst c5
        have H1 : (some true) = some r := by rw [if_pos rfl] at H; exact H
        clear H
        have H := H1
        clear H1
        obtain rfl := Option.some.inj H
        go_enter Tryd.func24, Tryd.ntmps24
        go_wp2_with (first | (go_at_call 37; (with_reducible refine (spec_TxBoxed.calls a0 true _ A4.out).mono ?_); rintro e w' ⟨rfl, ⟨nd, rfl⟩⟩))
        go_ret
        exact ⟨by first | rfl | (simp; done) | (simp [*]; done), by repeat (first | exact Drawn0.refl _ | apply Drawn0.step)⟩
      · replace c5 := Bool.eq_false_iff.mpr c5
        subst c5
        have H1 : ((spec_TxWide.f a0).bind fun t107 => (some t107)) = some r := by rw [if_neg (show ¬ (false = true) by decide)] at H; exact H
        clear H
        have H := H1
        clear H1
        replace H := Option.bind_eq_some_iff.mp H
        obtain ⟨t107, A60, H⟩ := H
        replace H : (some t107) = some r := H
        have A6 := Aside0.mk A60
        clear A60
        obtain rfl := Option.some.inj H
        go_enter Tryd.func24, Tryd.ntmps24
        go_wp2_with (first | (go_at_call 37; (with_reducible refine (spec_TxBoxed.calls a0 false _ A4.out).mono ?_); rintro e w' ⟨rfl, ⟨nd, rfl⟩⟩) | (go_at_call 19; (with_reducible refine (spec_TxWide.calls a0 t107 _ A6.out).mono ?_); rintro e w' ⟨rfl, ⟨nd, rfl⟩⟩))
        go_ret
        exact ⟨by first | rfl | (simp; done) | (simp [*]; done), by repeat (first | exact Drawn0.refl _ | apply Drawn0.step)⟩
  · rw [if_neg c2] at H
    have c2b0 : decide (32 ≤ a0) = false := decide_eq_false c2
    clear c2
    replace H := Option.bind_eq_some_iff.mp H
    obtain ⟨t108, A70, H⟩ := H
    replace H : (if t108 = true then (some true) else ((spec_TxWide.f a0).bind fun t109 => (some t109))) = some r := H
    have A7 := Aside0.mk A70
    clear A70
    by_cases c8 : t108 = true
    · subst c8
      have H1 : (some true) = some r := by rw [if_pos rfl] at H; exact H
      clear H
      have H := H1
      clear H1
      obtain rfl := Option.some.inj H
      go_enter Tryd.func24, Tryd.ntmps24
      go_wp2_with (first | (go_at_call 37; (with_reducible refine (spec_TxBoxed.calls a0 true _ A7.out).mono ?_); rintro e w' ⟨rfl, ⟨nd, rfl⟩⟩))
      go_ret
      exact ⟨by first | rfl | (simp; done) | (simp [*]; done), by repeat (first | exact Drawn0.refl _ | apply Drawn0.step)⟩
    · replace c8 := Bool.eq_false_iff.mpr c8
      subst c8
      have H1 : ((spec_TxWide.f a0).bind fun t109 => (some t109)) = some r := by rw [if_neg (show ¬ (false = true) by decide)] at H; exact H
      clear H
      have H := H1
      clear H1
      replace H := Option.bind_eq_some_iff.mp H
      obtain ⟨t109, A90, H⟩ := H
      replace H : (some t109) = some r := H
      have A9 := Aside0.mk A90
      clear A90
      obtain rfl := Option.some.inj H
      go_enter Tryd.func24, Tryd.ntmps24
      go_wp2_with (first | (go_at_call 37; (with_reducible refine (spec_TxBoxed.calls a0 false _ A7.out).mono ?_); rintro e w' ⟨rfl, ⟨nd, rfl⟩⟩) | (go_at_call 19; (with_reducible refine (spec_TxWide.calls a0 t109 _ A9.out).mono ?_); rintro e w' ⟨rfl, ⟨nd, rfl⟩⟩))
      go_ret
      exact ⟨by first | rfl | (simp; done) | (simp [*]; done), by repeat (first | exact Drawn0.refl _ | apply Drawn0.step)⟩

/-! ### spec_TxSimple: function 14 -/
def spec_TxSimple.l0 : Nat → Bool → ByteArray → Int → Option (Bool)
  | 0, _, _, _ => none
  | k + 1, x1, x113000, x113001 => if x113001 < (x113000.size : Int) then ((itr_more.f x113000 x113001).bind fun bt113 => ((spec_TxKnown.f bt113.2.1).bind fun t116 => (if t116 = true then (spec_TxSimple.l0 k x1 x113000 bt113.2.2) else (if x1 = true then (if bt113.2.1 = 10 then (spec_TxSimple.l0 k x1 x113000 bt113.2.2) else (some false)) else (some false))))) else ((itr_end.f x113000 x113001).bind fun t117 => (some true))
def spec_TxSimple.f (k : Nat) (a0 : ByteArray) (a1 : Bool) : Option (Bool) := (itr_make.f a0).bind fun bt110 => (spec_TxSimple.l0 k a1 bt110.1 bt110.2)
theorem spec_TxSimple.mono_l : ∀ k, (∀ y0 y1 y2, LeO (spec_TxSimple.l0 k y0 y1 y2) (spec_TxSimple.l0 (k + 1) y0 y1 y2))
  | 0 => fun _ _ _ r h => by simp [spec_TxSimple.l0] at h
  | k + 1 => by
    have ih0 := spec_TxSimple.mono_l k
    · intro y0 y1 y2
      unfold spec_TxSimple.l0
      repeat' first
      | (with_reducible exact ih0 _ _ _)
      | (with_reducible exact LeO.refl _)
      | (with_reducible exact LeO.none _)
      | (with_reducible refine LeO.ite ?_ ?_)
      | (with_reducible refine LeO.bind ?_ (fun _ => ?_))
      | exact ih0 _ _ _
      | exact LeO.none _
      | refine LeO.ite ?_ ?_
      | refine LeO.bind ?_ (fun _ => ?_)
theorem spec_TxSimple.mono : ∀ a0 a1 k, LeO (spec_TxSimple.f k a0 a1) (spec_TxSimple.f (k + 1) a0 a1) := by
  intro a0 a1 k
  have ih0 := spec_TxSimple.mono_l k
  unfold spec_TxSimple.f
  repeat' first
      | (with_reducible exact ih0 _ _ _)
      | (with_reducible exact LeO.refl _)
      | (with_reducible exact LeO.none _)
      | (with_reducible refine LeO.ite ?_ ?_)
      | (with_reducible refine LeO.bind ?_ (fun _ => ?_))
      | exact ih0 _ _ _
      | exact LeO.none _
      | refine LeO.ite ?_ ?_
      | refine LeO.bind ?_ (fun _ => ?_)
set_option maxHeartbeats 8000000 in
set_option maxRecDepth 100000 in
theorem spec_TxSimple.calls (k : Nat) (a0 : ByteArray) (a1 : Bool) (r : Bool) (w : World) (h : spec_TxSimple.f k a0 a1 = some r) :
    Calls Tryd.prog 14 #[.string a0, .bool a1] w fun e w' => e = .returned (.bool r) ∧ Below w.heap.size w w' := by
  have HB := Aside0.mk (Below.refl w.heap.size w)
  have H : ((itr_make.f a0).bind fun bt110 => (spec_TxSimple.l0 k a1 bt110.1 bt110.2)) = some r := h
  clear h
  replace H := Option.bind_eq_some_iff.mp H
  obtain ⟨⟨t110, t111⟩, A30, H⟩ := H
  replace H : (spec_TxSimple.l0 k a1 t110 t111) = some r := H
  have A3 := Aside0.mk A30
  clear A30
  have H' := Aside0.mk H
  clear H
  go_enter Tryd.func14, Tryd.ntmps14
  go_wp2_with (first | ((with_reducible refine gate_dst (N := 8) rfl ?_); refine rangeL_ (some 8) rfl rfl rfl Tryd.underlying9 a0 rfl ?_; (with_reducible refine (itr_make.calls a0 t110 t111 w _ ?side1 A3.out).mono ?_); (case side1 => repeat (first | (with_reducible first | exact HB.out | apply below_alloc | apply pw_below_drewN | apply below_drew1) | exact HB.out)); rintro e w4 ⟨g112, rfl, hi, hb, hb2, hge⟩; refine ⟨_, rfl, ?_⟩; have n0_ := Aside0.mk (hb); have n1_ := Aside0.mk (hi); clear HB; have HB := n0_; have HI112 := n1_; clear n0_ n1_; (try clear hb); (try clear hb2); (try clear hk); (try clear hi)))
  (try simp only [Act.put, List.setIfInBounds_toArray, List.set_cons_zero, List.set_cons_succ])
  go_loopg [] k (fun kq w' => ∃ (x113001_1 : Int), Aside0 (spec_TxSimple.l0 kq a1 t110 x113001_1 = some r) ∧ Aside0 (kq ≤ k) ∧ Aside0 (IsS159 w w' g112 t110 x113001_1) ∧ Aside0 (Below w.heap.size w w'))
  case atStart => exact ⟨(t111), H', ⟨Nat.le_refl _⟩, ⟨by repeat (first | (with_reducible first | exact HI112.out | apply IsS159.alloc | apply IsS159.drewN | apply IsS159.drew | apply IsS159.set_1) | exact HI112.out)⟩, ⟨by repeat (first | (with_reducible first | exact HB.out | apply below_alloc | apply pw_below_drewN | apply below_drew1 | refine below_set ?_ (IsS159.ge HI112.out)) | exact HB.out)⟩⟩
  case round =>
    clear H'
    try clear c1
    try clear p2
    obtain ⟨x113001_1, HA, HK1, HI112, HB⟩ := hrel
    cases gk with
    | zero => exact absurd HA.out (by simp [spec_TxSimple.l0])
    | succ k1 =>
      have H := HA.out
      clear HA
      simp only [spec_TxSimple.l0] at H
      by_cases c5 : x113001_1 < (t110.size : Int)
      · rw [if_pos c5] at H
        have c5b0 : decide (x113001_1 < (t110.size : Int)) = true := decide_eq_true c5
        clear c5
        replace H := Option.bind_eq_some_iff.mp H
        obtain ⟨⟨t113, t114, t115⟩, A60, H⟩ := H
        replace H : ((spec_TxKnown.f t114).bind fun t116 => (if t116 = true then (spec_TxSimple.l0 k1 a1 t110 t115) else (if a1 = true then (if t114 = 10 then (spec_TxSimple.l0 k1 a1 t110 t115) else (some false)) else (some false)))) = some r := H
        have A6 := Aside0.mk A60
        clear A60
        replace H := Option.bind_eq_some_iff.mp H
        obtain ⟨t116, A70, H⟩ := H
        replace H : (if t116 = true then (spec_TxSimple.l0 k1 a1 t110 t115) else (if a1 = true then (if t114 = 10 then (spec_TxSimple.l0 k1 a1 t110 t115) else (some false)) else (some false))) = some r := H
        have A7 := Aside0.mk A70
        clear A70
        by_cases c8 : t116 = true
        · subst c8
          have H1 : (spec_TxSimple.l0 k1 a1 t110 t115) = some r := by rw [if_pos rfl] at H; exact H
          clear H
          have H := H1
          clear H1
          have H' := Aside0.mk H
          clear H
          go_wp2_with (first | ((with_reducible refine gate_dst (N := 9) rfl ?_); refine nextL_ (some 9) rfl rfl rfl (.pointer (some ⟨g112, 0, none⟩)) rfl ?_; (with_reducible refine (itr_more.calls g112 t110 x113001_1 t113 t114 t115 w _ ?side1 ?side2 A6.out).mono ?_); (case side1 => repeat (first | (with_reducible first | exact HI112.out | apply IsS159.alloc | apply IsS159.drewN | apply IsS159.drew | apply IsS159.set_1) | exact HI112.out)); (case side2 => repeat (first | (with_reducible first | exact HB.out | apply below_alloc | apply pw_below_drewN | apply below_drew1 | refine below_set ?_ (IsS159.ge HI112.out)) | exact HB.out)); rintro e w9 ⟨rfl, hi, hb, hk⟩; refine ⟨_, rfl, ?_⟩; have n0_ := Aside0.mk (hb); have n1_ := Aside0.mk (hi); clear HB; clear HI112; have HB := n0_; have HI112 := n1_; clear n0_ n1_; (try clear hb); (try clear hb2); (try clear hk); (try clear hi)) | ((with_reducible refine gate_callee (f := 24) rfl ?_); refine goesL_ (some 13) rfl rfl Tryd.func24 (by kernel_rfl) rfl #[.int .i32 t114] rfl (by (try simp only [List.map_toArray, List.map_cons, List.map_nil]); first | done | rfl | (simp only [List.length_drop, List.length_take]; rfl)) ?_; (with_reducible refine (spec_TxKnown.calls t114 true _ A7.out).mono ?_); rintro e w' ⟨rfl, ⟨nd, rfl⟩⟩; refine ⟨_, rfl, ?_⟩))
          go_roundg k1
          case measure => have := HK1.out; omega
          case rel => exact ⟨(t115), H', ⟨by have := HK1.out; omega⟩, ⟨by repeat (first | (with_reducible first | exact HI112.out | apply IsS159.alloc | apply IsS159.drewN | apply IsS159.drew | apply IsS159.set_1) | exact HI112.out)⟩, ⟨by repeat (first | (with_reducible first | exact HB.out | apply below_alloc | apply pw_below_drewN | apply below_drew1 | refine below_set ?_ (IsS159.ge HI112.out)) | exact HB.out)⟩⟩
        · replace c8 := Bool.eq_false_iff.mpr c8
          subst c8
          have H1 : (if a1 = true then (if t114 = 10 then (spec_TxSimple.l0 k1 a1 t110 t115) else (some false)) else (some false)) = some r := by rw [if_neg (show ¬ (false = true) by decide)] at H; exact H
          clear H
          have H := H1
          clear H1
          by_cases c10 : a1 = true
          · subst c10
            have H1 : (if t114 = 10 then (spec_TxSimple.l0 k1 true t110 t115) else (some false)) = some r := by rw [if_pos rfl] at H; exact H
            clear H
            have H := H1
            clear H1
            by_cases c11 : t114 = 10
            · rw [if_pos c11] at H
              have c11b0 : (t114 == 10) = true := beq_iff_eq.mpr c11
              have c11b1 : (t114 != 10) = false := bne_eq_false_iff_eq.mpr c11
              clear c11
              have H' := Aside0.mk H
              clear H
              go_wp2_with (first | ((with_reducible refine gate_dst (N := 9) rfl ?_); refine nextL_ (some 9) rfl rfl rfl (.pointer (some ⟨g112, 0, none⟩)) rfl ?_; (with_reducible refine (itr_more.calls g112 t110 x113001_1 t113 t114 t115 w _ ?side1 ?side2 A6.out).mono ?_); (case side1 => repeat (first | (with_reducible first | exact HI112.out | apply IsS159.alloc | apply IsS159.drewN | apply IsS159.drew | apply IsS159.set_1) | exact HI112.out)); (case side2 => repeat (first | (with_reducible first | exact HB.out | apply below_alloc | apply pw_below_drewN | apply below_drew1 | refine below_set ?_ (IsS159.ge HI112.out)) | exact HB.out)); rintro e w12 ⟨rfl, hi, hb, hk⟩; refine ⟨_, rfl, ?_⟩; have n0_ := Aside0.mk (hb); have n1_ := Aside0.mk (hi); clear HB; clear HI112; have HB := n0_; have HI112 := n1_; clear n0_ n1_; (try clear hb); (try clear hb2); (try clear hk); (try clear hi)) | ((with_reducible refine gate_callee (f := 24) rfl ?_); refine goesL_ (some 13) rfl rfl Tryd.func24 (by kernel_rfl) rfl #[.int .i32 t114] rfl (by (try simp only [List.map_toArray, List.map_cons, List.map_nil]); first | done | rfl | (simp only [List.length_drop, List.length_take]; rfl)) ?_; (with_reducible refine (spec_TxKnown.calls t114 false _ A7.out).mono ?_); rintro e w' ⟨rfl, ⟨nd, rfl⟩⟩; refine ⟨_, rfl, ?_⟩))
              go_roundg k1
              case measure => have := HK1.out; omega
              case rel => exact ⟨(t115), H', ⟨by have := HK1.out; omega⟩, ⟨by repeat (first | (with_reducible first | exact HI112.out | apply IsS159.alloc | apply IsS159.drewN | apply IsS159.drew | apply IsS159.set_1) | exact HI112.out)⟩, ⟨by repeat (first | (with_reducible first | exact HB.out | apply below_alloc | apply pw_below_drewN | apply below_drew1 | refine below_set ?_ (IsS159.ge HI112.out)) | exact HB.out)⟩⟩
            · rw [if_neg c11] at H
              have c11b0 : (t114 == 10) = false := beq_eq_false_iff_ne.mpr c11
              have c11b1 : (t114 != 10) = true := bne_iff_ne.mpr c11
              obtain rfl := Option.some.inj H
              go_wp2_with (first | ((with_reducible refine gate_dst (N := 9) rfl ?_); refine nextL_ (some 9) rfl rfl rfl (.pointer (some ⟨g112, 0, none⟩)) rfl ?_; (with_reducible refine (itr_more.calls g112 t110 x113001_1 t113 t114 t115 w _ ?side1 ?side2 A6.out).mono ?_); (case side1 => repeat (first | (with_reducible first | exact HI112.out | apply IsS159.alloc | apply IsS159.drewN | apply IsS159.drew | apply IsS159.set_1) | exact HI112.out)); (case side2 => repeat (first | (with_reducible first | exact HB.out | apply below_alloc | apply pw_below_drewN | apply below_drew1 | refine below_set ?_ (IsS159.ge HI112.out)) | exact HB.out)); rintro e w13 ⟨rfl, hi, hb, hk⟩; refine ⟨_, rfl, ?_⟩; have n0_ := Aside0.mk (hb); have n1_ := Aside0.mk (hi); clear HB; clear HI112; have HB := n0_; have HI112 := n1_; clear n0_ n1_; (try clear hb); (try clear hb2); (try clear hk); (try clear hi)) | ((with_reducible refine gate_callee (f := 24) rfl ?_); refine goesL_ (some 13) rfl rfl Tryd.func24 (by kernel_rfl) rfl #[.int .i32 t114] rfl (by (try simp only [List.map_toArray, List.map_cons, List.map_nil]); first | done | rfl | (simp only [List.length_drop, List.length_take]; rfl)) ?_; (with_reducible refine (spec_TxKnown.calls t114 false _ A7.out).mono ?_); rintro e w' ⟨rfl, ⟨nd, rfl⟩⟩; refine ⟨_, rfl, ?_⟩))
              go_ret
              exact ⟨by first | rfl | (simp [errW_none, errW_some] <;> rfl) | (simp [*, errW_none, errW_some] <;> rfl), by repeat (first | (with_reducible first | exact HB.out | apply below_alloc | apply pw_below_drewN | apply below_drew1 | refine below_set ?_ (IsS159.ge HI112.out)) | exact HB.out)⟩
          · replace c10 := Bool.eq_false_iff.mpr c10
            subst c10
            have H1 : (some false) = some r := by rw [if_neg (show ¬ (false = true) by decide)] at H; exact H
            clear H
            have H := H1
            clear H1
            obtain rfl := Option.some.inj H
            go_wp2_with (first | ((with_reducible refine gate_dst (N := 9) rfl ?_); refine nextL_ (some 9) rfl rfl rfl (.pointer (some ⟨g112, 0, none⟩)) rfl ?_; (with_reducible refine (itr_more.calls g112 t110 x113001_1 t113 t114 t115 w _ ?side1 ?side2 A6.out).mono ?_); (case side1 => repeat (first | (with_reducible first | exact HI112.out | apply IsS159.alloc | apply IsS159.drewN | apply IsS159.drew | apply IsS159.set_1) | exact HI112.out)); (case side2 => repeat (first | (with_reducible first | exact HB.out | apply below_alloc | apply pw_below_drewN | apply below_drew1 | refine below_set ?_ (IsS159.ge HI112.out)) | exact HB.out)); rintro e w14 ⟨rfl, hi, hb, hk⟩; refine ⟨_, rfl, ?_⟩; have n0_ := Aside0.mk (hb); have n1_ := Aside0.mk (hi); clear HB; clear HI112; have HB := n0_; have HI112 := n1_; clear n0_ n1_; (try clear hb); (try clear hb2); (try clear hk); (try clear hi)) | ((with_reducible refine gate_callee (f := 24) rfl ?_); refine goesL_ (some 13) rfl rfl Tryd.func24 (by kernel_rfl) rfl #[.int .i32 t114] rfl (by (try simp only [List.map_toArray, List.map_cons, List.map_nil]); first | done | rfl | (simp only [List.length_drop, List.length_take]; rfl)) ?_; (with_reducible refine (spec_TxKnown.calls t114 false _ A7.out).mono ?_); rintro e w' ⟨rfl, ⟨nd, rfl⟩⟩; refine ⟨_, rfl, ?_⟩))
            go_ret
            exact ⟨by first | rfl | (simp [errW_none, errW_some] <;> rfl) | (simp [*, errW_none, errW_some] <;> rfl), by repeat (first | (with_reducible first | exact HB.out | apply below_alloc | apply pw_below_drewN | apply below_drew1 | refine below_set ?_ (IsS159.ge HI112.out)) | exact HB.out)⟩
      · rw [if_neg c5] at H
        have c5b0 : decide (x113001_1 < (t110.size : Int)) = false := decide_eq_false c5
        clear c5
        replace H := Option.bind_eq_some_iff.mp H
        obtain ⟨t117, A150, H⟩ := H
        replace H : (some true) = some r := H
        have A15 := Aside0.mk A150
        clear A150
        obtain rfl := Option.some.inj H
        go_wp2_with (first | ((with_reducible refine gate_dst (N := 9) rfl ?_); refine nextL_ (some 9) rfl rfl rfl (.pointer (some ⟨g112, 0, none⟩)) rfl ?_; (with_reducible refine (itr_end.calls g112 t110 x113001_1 t117 w _ ?side1 ?side2 A15.out).mono ?_); (case side1 => repeat (first | (with_reducible first | exact HI112.out | apply IsS159.alloc | apply IsS159.drewN | apply IsS159.drew | apply IsS159.set_1) | exact HI112.out)); (case side2 => repeat (first | (with_reducible first | exact HB.out | apply below_alloc | apply pw_below_drewN | apply below_drew1 | refine below_set ?_ (IsS159.ge HI112.out)) | exact HB.out)); rintro e w16 ⟨rfl, hi, hb, hk⟩; refine ⟨_, rfl, ?_⟩; have n0_ := Aside0.mk (hb); have n1_ := Aside0.mk (hi); clear HB; clear HI112; have HB := n0_; have HI112 := n1_; clear n0_ n1_; (try clear hb); (try clear hb2); (try clear hk); (try clear hi)))
        go_ret
        exact ⟨by first | rfl | (simp [errW_none, errW_some] <;> rfl) | (simp [*, errW_none, errW_some] <;> rfl), by repeat (first | (with_reducible first | exact HB.out | apply below_alloc | apply pw_below_drewN | apply below_drew1 | refine below_set ?_ (IsS159.ge HI112.out)) | exact HB.out)⟩

/-! ### spec_LsRight: function 8 -/
def spec_LsRight.l0 : Nat → List (S38) → List (S38) → Int → Int → Option (Bool)
  | 0, _, _, _, _ => none
  | k + 1, x0, x6, x7, x8 => if x8 < x7 then (if 0 ≤ x8 then (if x8 < (x6.length : Int) then (if x8 > 0 then (if 0 ≤ (wrap64 (x8 - 1)) then (if (wrap64 (x8 - 1)) < (x0.length : Int) then (if ((rd_T38 x6 x8).f1) < 0 then (some false) else (if ((rd_T38 x6 x8).f1) > (wrap64 (((rd_T38 x0 (wrap64 (x8 - 1))).f1) + 1)) then (some false) else (if (((rd_T38 x6 x8).f0).size : Int) > 200 then (some false) else ((spec_TxSimple.f k ((rd_T38 x6 x8).f0) false).bind fun t121 => (if t121 = true then (spec_LsRight.l0 k x0 x6 x7 (wrap64 (x8 + 1))) else (some false)))))) else (none)) else (none)) else (if ((rd_T38 x6 x8).f1) < 0 then (some false) else (if ((rd_T38 x6 x8).f1) > 0 then (some false) else (if (((rd_T38 x6 x8).f0).size : Int) > 200 then (some false) else ((spec_TxSimple.f k ((rd_T38 x6 x8).f0) false).bind fun t122 => (if t122 = true then (spec_LsRight.l0 k x0 x6 x7 (wrap64 (x8 + 1))) else (some false))))))) else (none)) else (none)) else (some (decide ((x0.length : Int) ≤ 60)))
def spec_LsRight.f (k : Nat) (l0 : List (S38)) : Option (Bool) := spec_LsRight.l0 k l0 l0 (l0.length : Int) 0
theorem spec_LsRight.mono_l : ∀ k, (∀ y0 y1 y2 y3, LeO (spec_LsRight.l0 k y0 y1 y2 y3) (spec_LsRight.l0 (k + 1) y0 y1 y2 y3))
  | 0 => fun _ _ _ _ r h => by simp [spec_LsRight.l0] at h
  | k + 1 => by
    have ih0 := spec_LsRight.mono_l k
    · intro y0 y1 y2 y3
      unfold spec_LsRight.l0
      repeat' first
      | (with_reducible exact ih0 _ _ _ _)
      | (with_reducible exact spec_TxSimple.mono _ _ _)
      | (with_reducible exact LeO.refl _)
      | (with_reducible exact LeO.none _)
      | (with_reducible refine LeO.ite ?_ ?_)
      | (with_reducible refine LeO.bind ?_ (fun _ => ?_))
      | exact ih0 _ _ _ _
      | exact spec_TxSimple.mono _ _ _
      | exact LeO.none _
      | refine LeO.ite ?_ ?_
      | refine LeO.bind ?_ (fun _ => ?_)
theorem spec_LsRight.mono : ∀ a0 k, LeO (spec_LsRight.f k a0) (spec_LsRight.f (k + 1) a0) := by
  intro a0 k
  have ih0 := spec_LsRight.mono_l k
  unfold spec_LsRight.f
  repeat' first
      | (with_reducible exact ih0 _ _ _ _)
      | (with_reducible exact spec_TxSimple.mono _ _ _)
      | (with_reducible exact LeO.refl _)
      | (with_reducible exact LeO.none _)
      | (with_reducible refine LeO.ite ?_ ?_)
      | (with_reducible refine LeO.bind ?_ (fun _ => ?_))
      | exact ih0 _ _ _ _
      | exact spec_TxSimple.mono _ _ _
      | exact LeO.none _
      | refine LeO.ite ?_ ?_
      | refine LeO.bind ?_ (fun _ => ?_)
set_option maxHeartbeats 8000000 in
set_option maxRecDepth 100000 in
theorem spec_LsRight.calls (k : Nat) (A0 : Option Addr) (c0 : Nat) (l0 : List (S38)) (r : Bool) (w : World) (hr0 : Kd.C k38 w A0 l0.length l0) (hc0 : l0.length ≤ c0) (h : spec_LsRight.f k l0 = some r) :
    Calls Tryd.prog 8 #[.slice A0 l0.length c0] w fun e w' => e = .returned (.bool r) ∧ Below w.heap.size w w' := by
  have hu38 := Tryd.underlying38
  have HR0 := Aside0.mk hr0
  have HC0 := Aside0.mk hc0
  clear hr0 hc0
  have HB := Aside0.mk (Below.refl w.heap.size w)
  have H : (spec_LsRight.l0 k l0 l0 (l0.length : Int) 0) = some r := h
  clear h
  have H' := Aside0.mk H
  clear H
  go_enter Tryd.func8, Tryd.ntmps8
  go_wp2
  (try simp only [Act.put, List.setIfInBounds_toArray, List.set_cons_zero, List.set_cons_succ])
  go_loopg [8] k (fun kq v8 w' => ∃ (x8_1 : Int), v8 = .int .i64 x8_1 ∧ Aside0 (spec_LsRight.l0 kq l0 l0 (l0.length : Int) x8_1 = some r) ∧ Aside0 (kq ≤ k) ∧ Aside0 (Below w.heap.size w w'))
  case atStart => exact ⟨(0), (by first | rfl | (simp; done) | (simp [*]; done)), H', ⟨Nat.le_refl _⟩, ⟨by repeat (first | (with_reducible first | exact HB.out | apply below_alloc | apply pw_below_drewN | apply below_drew1) | exact HB.out)⟩⟩
  case round =>
    clear H'
    obtain ⟨x8_1, rfl, HA, HK1, HB⟩ := hrel
    cases gk with
    | zero => exact absurd HA.out (by simp [spec_LsRight.l0])
    | succ k1 =>
      have H := HA.out
      clear HA
      simp only [spec_LsRight.l0] at H
      by_cases c2 : x8_1 < (l0.length : Int)
      · rw [if_pos c2] at H
        have c2b0 : decide (x8_1 < (l0.length : Int)) = true := decide_eq_true c2
        clear c2
        by_cases c3 : 0 ≤ x8_1
        · rw [if_pos c3] at H
          have c3b0 : decide (0 ≤ x8_1) = true := decide_eq_true c3
          clear c3
          by_cases c4 : x8_1 < (l0.length : Int)
          · rw [if_pos c4] at H
            have c4b0 : decide (x8_1 < (l0.length : Int)) = true := decide_eq_true c4
            clear c4
            by_cases c5 : x8_1 > 0
            · rw [if_pos c5] at H
              have c5b0 : decide (0 < x8_1) = true := decide_eq_true c5
              clear c5
              obtain ⟨ji6, hji6⟩ : ∃ j_ : Int, (wrap64 (x8_1 - 1)) = j_ := ⟨_, rfl⟩
              replace H : (if 0 ≤ (ji6) then (if (ji6) < (l0.length : Int) then (if ((rd_T38 l0 x8_1).f1) < 0 then (some false) else (if ((rd_T38 l0 x8_1).f1) > (wrap64 (((rd_T38 l0 (ji6)).f1) + 1)) then (some false) else (if (((rd_T38 l0 x8_1).f0).size : Int) > 200 then (some false) else ((spec_TxSimple.f k1 ((rd_T38 l0 x8_1).f0) false).bind fun t121 => (if t121 = true then (spec_LsRight.l0 k1 l0 l0 (l0.length : Int) (wrap64 (x8_1 + 1))) else (some false)))))) else (none)) else (none)) = some r := by first | (rw [hji6] at H; exact H) | (simp only [hji6] at H ⊢; exact H)
              have hji6w : (IntKind.i64.wrap (x8_1 - 1)) = ji6 := (i64_w _).trans hji6
              by_cases c7 : 0 ≤ (ji6)
              · rw [if_pos c7] at H
                have c7b0 : decide (0 ≤ (ji6)) = true := decide_eq_true c7
                clear c7
                by_cases c8 : (ji6) < (l0.length : Int)
                · rw [if_pos c8] at H
                  have c8b0 : decide ((ji6) < (l0.length : Int)) = true := decide_eq_true c8
                  clear c8
                  by_cases c9 : ((rd_T38 l0 x8_1).f1) < 0
                  · rw [if_pos c9] at H
                    have c9b0 : decide (((rd_T38 l0 x8_1).f1) < 0) = true := decide_eq_true c9
                    clear c9
                    obtain rfl := Option.some.inj H
                    have p118 : 0 ≤ (x8_1 : Int) := of_decide_eq_true (by first | (with_reducible assumption) | assumption)
                    have q118 : x8_1 < (l0.length : Int) := of_decide_eq_true (by first | (with_reducible assumption) | assumption)
                    obtain ⟨ad118, e118, hx118_0, hx118_1⟩ := at_T38 HR0.out x8_1 p118 q118
                    cases e118
                    replace hx118_0 := (HB.out.cell (World.block_lt_of_cell? w _ hx118_0)).trans hx118_0
                    replace hx118_1 := (HB.out.cell (World.block_lt_of_cell? w _ hx118_1)).trans hx118_1
                    replace p118 := eq_true p118
                    replace q118 := eq_true q118
                    go_wp2_with (first | ((with_reducible refine gate_dst (N := 4) rfl ?_); (try (refine gate_guard (by rfl) ?_; dsimp only)); refine box_event ?hg (N := 4) ?hd (cs := #[.string (⟨#[]⟩ : ByteArray), .int .i64 0]) (t := 38) ?hr ?_; (case hd => rfl); (case hg => rfl); (case hr => first | (go_simp; done) | (go_simp; rfl)); intro gb119 hg w10 hbox hb; have n0_ := Aside0.mk (below_step (by repeat (first | (with_reducible first | exact HB.out | apply below_alloc | apply pw_below_drewN | apply below_drew1) | exact HB.out)) hb); have n1_ := Aside0.mk (hbox); have n2_ := Aside0.mk ((by rw [hg]; exact (below_size (by repeat (first | (with_reducible first | exact HB.out | apply below_alloc | apply pw_below_drewN | apply below_drew1) | exact HB.out))) : w.heap.size ≤ gb119)); have n3_ := Aside0.mk ((by rw [hg]; exact (below_size (by repeat (first | (with_reducible first | exact HB.out | apply below_alloc | apply pw_below_drewN | apply below_drew1) | exact HB.out))) : w.heap.size ≤ gb119)); clear HB; have HB := n0_; have BK119 := n1_; have GW119 := n2_; have GE119 := n3_; clear n0_ n1_ n2_ n3_; clear hb hbox hg; have hcz11_0 : w10.cell? ⟨gb119, 0, none⟩ = some (.string (⟨#[]⟩ : ByteArray)) := (blk_cell BK119.out 0).trans rfl; have hcz11_1 : w10.cell? ⟨gb119, 1, none⟩ = some (.int .i64 0) := (blk_cell BK119.out 1).trans rfl; have hfz11_0 := blk_frozen BK119.out 0; have hfz11_1 := blk_frozen BK119.out 1; have p120 : 0 ≤ ((ji6) : Int) := of_decide_eq_true (by first | (with_reducible assumption) | assumption); have q120 : (ji6) < (l0.length : Int) := of_decide_eq_true (by first | (with_reducible assumption) | assumption); obtain ⟨ad120, e120, hx120_0, hx120_1⟩ := at_T38 HR0.out (ji6) p120 q120; obtain rfl : ad118 = ad120 := (by injection e120); have hn120_0 : ad118.block ≠ gb119 := Nat.ne_of_lt (Nat.lt_of_lt_of_le (by have := World.block_lt_of_cell? _ _ hx120_0; first | rwa [add_block] at this | exact this) GW119.out); have hn120_1 : ad118.block ≠ gb119 := Nat.ne_of_lt (Nat.lt_of_lt_of_le (by have := World.block_lt_of_cell? _ _ hx120_0; first | rwa [add_block] at this | exact this) GW119.out); replace hx120_0 := (HB.out.cell (World.block_lt_of_cell? w _ hx120_0)).trans hx120_0; replace hx120_1 := (HB.out.cell (World.block_lt_of_cell? w _ hx120_1)).trans hx120_1; replace hx120_0 := (cell_far (p := ⟨gb119, 0, none⟩) (by first | (rw [add_block]; exact hn120_0) | (show (Addr.add _ _).block ≠ _; rw [add_block]; exact hn120_0) | exact hn120_0) (.string ((rd_T38 l0 x8_1).f0))).trans hx120_0; replace hx120_1 := (cell_far (p := ⟨gb119, 0, none⟩) (by first | (rw [add_block]; exact hn120_0) | (show (Addr.add _ _).block ≠ _; rw [add_block]; exact hn120_0) | exact hn120_0) (.string ((rd_T38 l0 x8_1).f0))).trans hx120_1; replace hx120_0 := (cell_far (p := ⟨gb119, 1, none⟩) (by first | (rw [add_block]; exact hn120_1) | (show (Addr.add _ _).block ≠ _; rw [add_block]; exact hn120_1) | exact hn120_1) (.int .i64 ((rd_T38 l0 x8_1).f1))).trans hx120_0; replace hx120_1 := (cell_far (p := ⟨gb119, 1, none⟩) (by first | (rw [add_block]; exact hn120_1) | (show (Addr.add _ _).block ≠ _; rw [add_block]; exact hn120_1) | exact hn120_1) (.int .i64 ((rd_T38 l0 x8_1).f1))).trans hx120_1; clear hn120_0; clear hn120_1; replace p120 := eq_true p120; replace q120 := eq_true q120))
                    go_ret
                    exact ⟨by first | rfl | (simp [errW_none, errW_some] <;> rfl) | (simp only [← hji6]; first | rfl | (simp [errW_none, errW_some] <;> rfl)) | (simp [*, errW_none, errW_some] <;> rfl), by repeat (first | (with_reducible first | exact HB.out | apply below_alloc | apply pw_below_drewN | apply below_drew1 | refine below_set ?_ GE119.out) | exact HB.out)⟩
                  · rw [if_neg c9] at H
                    have c9b0 : decide (((rd_T38 l0 x8_1).f1) < 0) = false := decide_eq_false c9
                    clear c9
                    by_cases c12 : ((rd_T38 l0 x8_1).f1) > (wrap64 (((rd_T38 l0 (ji6)).f1) + 1))
                    · rw [if_pos c12] at H
                      have c12b0 : decide ((wrap64 (((rd_T38 l0 (ji6)).f1) + 1)) < ((rd_T38 l0 x8_1).f1)) = true := decide_eq_true c12
                      clear c12
                      obtain rfl := Option.some.inj H
                      have p118 : 0 ≤ (x8_1 : Int) := of_decide_eq_true (by first | (with_reducible assumption) | assumption)
                      have q118 : x8_1 < (l0.length : Int) := of_decide_eq_true (by first | (with_reducible assumption) | assumption)
                      obtain ⟨ad118, e118, hx118_0, hx118_1⟩ := at_T38 HR0.out x8_1 p118 q118
                      cases e118
                      replace hx118_0 := (HB.out.cell (World.block_lt_of_cell? w _ hx118_0)).trans hx118_0
                      replace hx118_1 := (HB.out.cell (World.block_lt_of_cell? w _ hx118_1)).trans hx118_1
                      replace p118 := eq_true p118
                      replace q118 := eq_true q118
                      go_wp2_with (first | ((with_reducible refine gate_dst (N := 4) rfl ?_); (try (refine gate_guard (by rfl) ?_; dsimp only)); refine box_event ?hg (N := 4) ?hd (cs := #[.string (⟨#[]⟩ : ByteArray), .int .i64 0]) (t := 38) ?hr ?_; (case hd => rfl); (case hg => rfl); (case hr => first | (go_simp; done) | (go_simp; rfl)); intro gb119 hg w13 hbox hb; have n0_ := Aside0.mk (below_step (by repeat (first | (with_reducible first | exact HB.out | apply below_alloc | apply pw_below_drewN | apply below_drew1) | exact HB.out)) hb); have n1_ := Aside0.mk (hbox); have n2_ := Aside0.mk ((by rw [hg]; exact (below_size (by repeat (first | (with_reducible first | exact HB.out | apply below_alloc | apply pw_below_drewN | apply below_drew1) | exact HB.out))) : w.heap.size ≤ gb119)); have n3_ := Aside0.mk ((by rw [hg]; exact (below_size (by repeat (first | (with_reducible first | exact HB.out | apply below_alloc | apply pw_below_drewN | apply below_drew1) | exact HB.out))) : w.heap.size ≤ gb119)); clear HB; have HB := n0_; have BK119 := n1_; have GW119 := n2_; have GE119 := n3_; clear n0_ n1_ n2_ n3_; clear hb hbox hg; have hcz14_0 : w13.cell? ⟨gb119, 0, none⟩ = some (.string (⟨#[]⟩ : ByteArray)) := (blk_cell BK119.out 0).trans rfl; have hcz14_1 : w13.cell? ⟨gb119, 1, none⟩ = some (.int .i64 0) := (blk_cell BK119.out 1).trans rfl; have hfz14_0 := blk_frozen BK119.out 0; have hfz14_1 := blk_frozen BK119.out 1; have p120 : 0 ≤ ((ji6) : Int) := of_decide_eq_true (by first | (with_reducible assumption) | assumption); have q120 : (ji6) < (l0.length : Int) := of_decide_eq_true (by first | (with_reducible assumption) | assumption); obtain ⟨ad120, e120, hx120_0, hx120_1⟩ := at_T38 HR0.out (ji6) p120 q120; obtain rfl : ad118 = ad120 := (by injection e120); have hn120_0 : ad118.block ≠ gb119 := Nat.ne_of_lt (Nat.lt_of_lt_of_le (by have := World.block_lt_of_cell? _ _ hx120_0; first | rwa [add_block] at this | exact this) GW119.out); have hn120_1 : ad118.block ≠ gb119 := Nat.ne_of_lt (Nat.lt_of_lt_of_le (by have := World.block_lt_of_cell? _ _ hx120_0; first | rwa [add_block] at this | exact this) GW119.out); replace hx120_0 := (HB.out.cell (World.block_lt_of_cell? w _ hx120_0)).trans hx120_0; replace hx120_1 := (HB.out.cell (World.block_lt_of_cell? w _ hx120_1)).trans hx120_1; replace hx120_0 := (cell_far (p := ⟨gb119, 0, none⟩) (by first | (rw [add_block]; exact hn120_0) | (show (Addr.add _ _).block ≠ _; rw [add_block]; exact hn120_0) | exact hn120_0) (.string ((rd_T38 l0 x8_1).f0))).trans hx120_0; replace hx120_1 := (cell_far (p := ⟨gb119, 0, none⟩) (by first | (rw [add_block]; exact hn120_0) | (show (Addr.add _ _).block ≠ _; rw [add_block]; exact hn120_0) | exact hn120_0) (.string ((rd_T38 l0 x8_1).f0))).trans hx120_1; replace hx120_0 := (cell_far (p := ⟨gb119, 1, none⟩) (by first | (rw [add_block]; exact hn120_1) | (show (Addr.add _ _).block ≠ _; rw [add_block]; exact hn120_1) | exact hn120_1) (.int .i64 ((rd_T38 l0 x8_1).f1))).trans hx120_0; replace hx120_1 := (cell_far (p := ⟨gb119, 1, none⟩) (by first | (rw [add_block]; exact hn120_1) | (show (Addr.add _ _).block ≠ _; rw [add_block]; exact hn120_1) | exact hn120_1) (.int .i64 ((rd_T38 l0 x8_1).f1))).trans hx120_1; clear hn120_0; clear hn120_1; replace p120 := eq_true p120; replace q120 := eq_true q120))
                      go_ret
                      exact ⟨by first | rfl | (simp [errW_none, errW_some] <;> rfl) | (simp only [← hji6]; first | rfl | (simp [errW_none, errW_some] <;> rfl)) | (simp [*, errW_none, errW_some] <;> rfl), by repeat (first | (with_reducible first | exact HB.out | apply below_alloc | apply pw_below_drewN | apply below_drew1 | refine below_set ?_ GE119.out) | exact HB.out)⟩
                    · rw [if_neg c12] at H
                      have c12b0 : decide ((wrap64 (((rd_T38 l0 (ji6)).f1) + 1)) < ((rd_T38 l0 x8_1).f1)) = false := decide_eq_false c12
                      clear c12
                      by_cases c15 : (((rd_T38 l0 x8_1).f0).size : Int) > 200
                      · rw [if_pos c15] at H
                        have c15b0 : decide (200 < (((rd_T38 l0 x8_1).f0).size : Int)) = true := decide_eq_true c15
                        have c15b1 : decide (200 < ((rd_T38 l0 x8_1).f0).size) = true := decide_eq_true (by omega)
                        clear c15
                        obtain rfl := Option.some.inj H
                        have p118 : 0 ≤ (x8_1 : Int) := of_decide_eq_true (by first | (with_reducible assumption) | assumption)
                        have q118 : x8_1 < (l0.length : Int) := of_decide_eq_true (by first | (with_reducible assumption) | assumption)
                        obtain ⟨ad118, e118, hx118_0, hx118_1⟩ := at_T38 HR0.out x8_1 p118 q118
                        cases e118
                        replace hx118_0 := (HB.out.cell (World.block_lt_of_cell? w _ hx118_0)).trans hx118_0
                        replace hx118_1 := (HB.out.cell (World.block_lt_of_cell? w _ hx118_1)).trans hx118_1
                        replace p118 := eq_true p118
                        replace q118 := eq_true q118
                        go_wp2_with (first | ((with_reducible refine gate_dst (N := 4) rfl ?_); (try (refine gate_guard (by rfl) ?_; dsimp only)); refine box_event ?hg (N := 4) ?hd (cs := #[.string (⟨#[]⟩ : ByteArray), .int .i64 0]) (t := 38) ?hr ?_; (case hd => rfl); (case hg => rfl); (case hr => first | (go_simp; done) | (go_simp; rfl)); intro gb119 hg w16 hbox hb; have n0_ := Aside0.mk (below_step (by repeat (first | (with_reducible first | exact HB.out | apply below_alloc | apply pw_below_drewN | apply below_drew1) | exact HB.out)) hb); have n1_ := Aside0.mk (hbox); have n2_ := Aside0.mk ((by rw [hg]; exact (below_size (by repeat (first | (with_reducible first | exact HB.out | apply below_alloc | apply pw_below_drewN | apply below_drew1) | exact HB.out))) : w.heap.size ≤ gb119)); have n3_ := Aside0.mk ((by rw [hg]; exact (below_size (by repeat (first | (with_reducible first | exact HB.out | apply below_alloc | apply pw_below_drewN | apply below_drew1) | exact HB.out))) : w.heap.size ≤ gb119)); clear HB; have HB := n0_; have BK119 := n1_; have GW119 := n2_; have GE119 := n3_; clear n0_ n1_ n2_ n3_; clear hb hbox hg; have hcz17_0 : w16.cell? ⟨gb119, 0, none⟩ = some (.string (⟨#[]⟩ : ByteArray)) := (blk_cell BK119.out 0).trans rfl; have hcz17_1 : w16.cell? ⟨gb119, 1, none⟩ = some (.int .i64 0) := (blk_cell BK119.out 1).trans rfl; have hfz17_0 := blk_frozen BK119.out 0; have hfz17_1 := blk_frozen BK119.out 1; have p120 : 0 ≤ ((ji6) : Int) := of_decide_eq_true (by first | (with_reducible assumption) | assumption); have q120 : (ji6) < (l0.length : Int) := of_decide_eq_true (by first | (with_reducible assumption) | assumption); obtain ⟨ad120, e120, hx120_0, hx120_1⟩ := at_T38 HR0.out (ji6) p120 q120; obtain rfl : ad118 = ad120 := (by injection e120); have hn120_0 : ad118.block ≠ gb119 := Nat.ne_of_lt (Nat.lt_of_lt_of_le (by have := World.block_lt_of_cell? _ _ hx120_0; first | rwa [add_block] at this | exact this) GW119.out); have hn120_1 : ad118.block ≠ gb119 := Nat.ne_of_lt (Nat.lt_of_lt_of_le (by have := World.block_lt_of_cell? _ _ hx120_0; first | rwa [add_block] at this | exact this) GW119.out); replace hx120_0 := (HB.out.cell (World.block_lt_of_cell? w _ hx120_0)).trans hx120_0; replace hx120_1 := (HB.out.cell (World.block_lt_of_cell? w _ hx120_1)).trans hx120_1; replace hx120_0 := (cell_far (p := ⟨gb119, 0, none⟩) (by first | (rw [add_block]; exact hn120_0) | (show (Addr.add _ _).block ≠ _; rw [add_block]; exact hn120_0) | exact hn120_0) (.string ((rd_T38 l0 x8_1).f0))).trans hx120_0; replace hx120_1 := (cell_far (p := ⟨gb119, 0, none⟩) (by first | (rw [add_block]; exact hn120_0) | (show (Addr.add _ _).block ≠ _; rw [add_block]; exact hn120_0) | exact hn120_0) (.string ((rd_T38 l0 x8_1).f0))).trans hx120_1; replace hx120_0 := (cell_far (p := ⟨gb119, 1, none⟩) (by first | (rw [add_block]; exact hn120_1) | (show (Addr.add _ _).block ≠ _; rw [add_block]; exact hn120_1) | exact hn120_1) (.int .i64 ((rd_T38 l0 x8_1).f1))).trans hx120_0; replace hx120_1 := (cell_far (p := ⟨gb119, 1, none⟩) (by first | (rw [add_block]; exact hn120_1) | (show (Addr.add _ _).block ≠ _; rw [add_block]; exact hn120_1) | exact hn120_1) (.int .i64 ((rd_T38 l0 x8_1).f1))).trans hx120_1; clear hn120_0; clear hn120_1; replace p120 := eq_true p120; replace q120 := eq_true q120))
                        go_ret
                        exact ⟨by first | rfl | (simp [errW_none, errW_some] <;> rfl) | (simp only [← hji6]; first | rfl | (simp [errW_none, errW_some] <;> rfl)) | (simp [*, errW_none, errW_some] <;> rfl), by repeat (first | (with_reducible first | exact HB.out | apply below_alloc | apply pw_below_drewN | apply below_drew1 | refine below_set ?_ GE119.out) | exact HB.out)⟩
                      · rw [if_neg c15] at H
                        have c15b0 : decide (200 < (((rd_T38 l0 x8_1).f0).size : Int)) = false := decide_eq_false c15
                        have c15b1 : decide (200 < ((rd_T38 l0 x8_1).f0).size) = false := decide_eq_false (by omega)
                        clear c15
                        replace H := Option.bind_eq_some_iff.mp H
                        obtain ⟨t121, A180, H⟩ := H
                        replace H : (if t121 = true then (spec_LsRight.l0 k1 l0 l0 (l0.length : Int) (wrap64 (x8_1 + 1))) else (some false)) = some r := H
                        have A18 := Aside0.mk A180
                        clear A180
                        by_cases c19 : t121 = true
                        · subst c19
                          have H1 : (spec_LsRight.l0 k1 l0 l0 (l0.length : Int) (wrap64 (x8_1 + 1))) = some r := by rw [if_pos rfl] at H; exact H
                          clear H
                          have H := H1
                          clear H1
                          have H' := Aside0.mk H
                          clear H
                          have p118 : 0 ≤ (x8_1 : Int) := of_decide_eq_true (by first | (with_reducible assumption) | assumption)
                          have q118 : x8_1 < (l0.length : Int) := of_decide_eq_true (by first | (with_reducible assumption) | assumption)
                          obtain ⟨ad118, e118, hx118_0, hx118_1⟩ := at_T38 HR0.out x8_1 p118 q118
                          cases e118
                          replace hx118_0 := (HB.out.cell (World.block_lt_of_cell? w _ hx118_0)).trans hx118_0
                          replace hx118_1 := (HB.out.cell (World.block_lt_of_cell? w _ hx118_1)).trans hx118_1
                          replace p118 := eq_true p118
                          replace q118 := eq_true q118
                          go_wp2_with (first | ((with_reducible refine gate_dst (N := 4) rfl ?_); (try (refine gate_guard (by rfl) ?_; dsimp only)); refine box_event ?hg (N := 4) ?hd (cs := #[.string (⟨#[]⟩ : ByteArray), .int .i64 0]) (t := 38) ?hr ?_; (case hd => rfl); (case hg => rfl); (case hr => first | (go_simp; done) | (go_simp; rfl)); intro gb119 hg w20 hbox hb; have n0_ := Aside0.mk (below_step (by repeat (first | (with_reducible first | exact HB.out | apply below_alloc | apply pw_below_drewN | apply below_drew1) | exact HB.out)) hb); have n1_ := Aside0.mk (hbox); have n2_ := Aside0.mk ((by rw [hg]; exact (below_size (by repeat (first | (with_reducible first | exact HB.out | apply below_alloc | apply pw_below_drewN | apply below_drew1) | exact HB.out))) : w.heap.size ≤ gb119)); have n3_ := Aside0.mk ((by rw [hg]; exact (below_size (by repeat (first | (with_reducible first | exact HB.out | apply below_alloc | apply pw_below_drewN | apply below_drew1) | exact HB.out))) : w.heap.size ≤ gb119)); clear HB; have HB := n0_; have BK119 := n1_; have GW119 := n2_; have GE119 := n3_; clear n0_ n1_ n2_ n3_; clear hb hbox hg; have hcz21_0 : w20.cell? ⟨gb119, 0, none⟩ = some (.string (⟨#[]⟩ : ByteArray)) := (blk_cell BK119.out 0).trans rfl; have hcz21_1 : w20.cell? ⟨gb119, 1, none⟩ = some (.int .i64 0) := (blk_cell BK119.out 1).trans rfl; have hfz21_0 := blk_frozen BK119.out 0; have hfz21_1 := blk_frozen BK119.out 1; have p120 : 0 ≤ ((ji6) : Int) := of_decide_eq_true (by first | (with_reducible assumption) | assumption); have q120 : (ji6) < (l0.length : Int) := of_decide_eq_true (by first | (with_reducible assumption) | assumption); obtain ⟨ad120, e120, hx120_0, hx120_1⟩ := at_T38 HR0.out (ji6) p120 q120; obtain rfl : ad118 = ad120 := (by injection e120); have hn120_0 : ad118.block ≠ gb119 := Nat.ne_of_lt (Nat.lt_of_lt_of_le (by have := World.block_lt_of_cell? _ _ hx120_0; first | rwa [add_block] at this | exact this) GW119.out); have hn120_1 : ad118.block ≠ gb119 := Nat.ne_of_lt (Nat.lt_of_lt_of_le (by have := World.block_lt_of_cell? _ _ hx120_0; first | rwa [add_block] at this | exact this) GW119.out); replace hx120_0 := (HB.out.cell (World.block_lt_of_cell? w _ hx120_0)).trans hx120_0; replace hx120_1 := (HB.out.cell (World.block_lt_of_cell? w _ hx120_1)).trans hx120_1; replace hx120_0 := (cell_far (p := ⟨gb119, 0, none⟩) (by first | (rw [add_block]; exact hn120_0) | (show (Addr.add _ _).block ≠ _; rw [add_block]; exact hn120_0) | exact hn120_0) (.string ((rd_T38 l0 x8_1).f0))).trans hx120_0; replace hx120_1 := (cell_far (p := ⟨gb119, 0, none⟩) (by first | (rw [add_block]; exact hn120_0) | (show (Addr.add _ _).block ≠ _; rw [add_block]; exact hn120_0) | exact hn120_0) (.string ((rd_T38 l0 x8_1).f0))).trans hx120_1; replace hx120_0 := (cell_far (p := ⟨gb119, 1, none⟩) (by first | (rw [add_block]; exact hn120_1) | (show (Addr.add _ _).block ≠ _; rw [add_block]; exact hn120_1) | exact hn120_1) (.int .i64 ((rd_T38 l0 x8_1).f1))).trans hx120_0; replace hx120_1 := (cell_far (p := ⟨gb119, 1, none⟩) (by first | (rw [add_block]; exact hn120_1) | (show (Addr.add _ _).block ≠ _; rw [add_block]; exact hn120_1) | exact hn120_1) (.int .i64 ((rd_T38 l0 x8_1).f1))).trans hx120_1; clear hn120_0; clear hn120_1; replace p120 := eq_true p120; replace q120 := eq_true q120) | (go_at_call 14; (with_reducible refine (spec_TxSimple.calls k1 ((rd_T38 l0 x8_1).f0) false true _ A18.out).mono ?_); rintro e w22 ⟨rfl, hb⟩; have n0_ := Aside0.mk (blk_below (g := gb119) (o := .cells #[.string ((rd_T38 l0 x8_1).f0), .int .i64 ((rd_T38 l0 x8_1).f1)] 38 (0, 0)) (by (with_reducible repeat (first | refine blk_drewN ?_ _ | refine blk_drew ?_ | refine blk_alloc ?_ _)); refine blk_put (cs := #[.string ((rd_T38 l0 x8_1).f0), .int .i64 0]) ?_ 1 _ rfl; (with_reducible repeat (first | refine blk_drewN ?_ _ | refine blk_drew ?_ | refine blk_alloc ?_ _)); refine blk_put (cs := #[.string (⟨#[]⟩ : ByteArray), .int .i64 0]) ?_ 0 _ rfl; (with_reducible repeat (first | refine blk_drewN ?_ _ | refine blk_drew ?_ | refine blk_alloc ?_ _)); exact BK119.out) hb); have n1_ := Aside0.mk (below_step (by repeat (first | (with_reducible first | exact HB.out | apply below_alloc | apply pw_below_drewN | apply below_drew1 | refine below_set ?_ GE119.out) | exact HB.out)) hb); clear BK119; clear HB; have BK119 := n0_; have HB := n1_; clear n0_ n1_; (try clear hb); (try clear hb2); (try clear hk); (try clear hi)))
                          go_roundg k1
                          case measure => have := HK1.out; omega
                          case rel => exact ⟨(wrap64 (x8_1 + 1)), (by first | rfl | (simp; done) | (simp [*]; done)), H', ⟨by have := HK1.out; omega⟩, ⟨by repeat (first | (with_reducible first | exact HB.out | apply below_alloc | apply pw_below_drewN | apply below_drew1 | refine below_set ?_ GE119.out) | exact HB.out)⟩⟩
                        · replace c19 := Bool.eq_false_iff.mpr c19
                          subst c19
                          have H1 : (some false) = some r := by rw [if_neg (show ¬ (false = true) by decide)] at H; exact H
                          clear H
                          have H := H1
                          clear H1
                          obtain rfl := Option.some.inj H
                          have p118 : 0 ≤ (x8_1 : Int) := of_decide_eq_true (by first | (with_reducible assumption) | assumption)
                          have q118 : x8_1 < (l0.length : Int) := of_decide_eq_true (by first | (with_reducible assumption) | assumption)
                          obtain ⟨ad118, e118, hx118_0, hx118_1⟩ := at_T38 HR0.out x8_1 p118 q118
                          cases e118
                          replace hx118_0 := (HB.out.cell (World.block_lt_of_cell? w _ hx118_0)).trans hx118_0
                          replace hx118_1 := (HB.out.cell (World.block_lt_of_cell? w _ hx118_1)).trans hx118_1
                          replace p118 := eq_true p118
                          replace q118 := eq_true q118
                          go_wp2_with (first | ((with_reducible refine gate_dst (N := 4) rfl ?_); (try (refine gate_guard (by rfl) ?_; dsimp only)); refine box_event ?hg (N := 4) ?hd (cs := #[.string (⟨#[]⟩ : ByteArray), .int .i64 0]) (t := 38) ?hr ?_; (case hd => rfl); (case hg => rfl); (case hr => first | (go_simp; done) | (go_simp; rfl)); intro gb119 hg w23 hbox hb; have n0_ := Aside0.mk (below_step (by repeat (first | (with_reducible first | exact HB.out | apply below_alloc | apply pw_below_drewN | apply below_drew1) | exact HB.out)) hb); have n1_ := Aside0.mk (hbox); have n2_ := Aside0.mk ((by rw [hg]; exact (below_size (by repeat (first | (with_reducible first | exact HB.out | apply below_alloc | apply pw_below_drewN | apply below_drew1) | exact HB.out))) : w.heap.size ≤ gb119)); have n3_ := Aside0.mk ((by rw [hg]; exact (below_size (by repeat (first | (with_reducible first | exact HB.out | apply below_alloc | apply pw_below_drewN | apply below_drew1) | exact HB.out))) : w.heap.size ≤ gb119)); clear HB; have HB := n0_; have BK119 := n1_; have GW119 := n2_; have GE119 := n3_; clear n0_ n1_ n2_ n3_; clear hb hbox hg; have hcz24_0 : w23.cell? ⟨gb119, 0, none⟩ = some (.string (⟨#[]⟩ : ByteArray)) := (blk_cell BK119.out 0).trans rfl; have hcz24_1 : w23.cell? ⟨gb119, 1, none⟩ = some (.int .i64 0) := (blk_cell BK119.out 1).trans rfl; have hfz24_0 := blk_frozen BK119.out 0; have hfz24_1 := blk_frozen BK119.out 1; have p120 : 0 ≤ ((ji6) : Int) := of_decide_eq_true (by first | (with_reducible assumption) | assumption); have q120 : (ji6) < (l0.length : Int) := of_decide_eq_true (by first | (with_reducible assumption) | assumption); obtain ⟨ad120, e120, hx120_0, hx120_1⟩ := at_T38 HR0.out (ji6) p120 q120; obtain rfl : ad118 = ad120 := (by injection e120); have hn120_0 : ad118.block ≠ gb119 := Nat.ne_of_lt (Nat.lt_of_lt_of_le (by have := World.block_lt_of_cell? _ _ hx120_0; first | rwa [add_block] at this | exact this) GW119.out); have hn120_1 : ad118.block ≠ gb119 := Nat.ne_of_lt (Nat.lt_of_lt_of_le (by have := World.block_lt_of_cell? _ _ hx120_0; first | rwa [add_block] at this | exact this) GW119.out); replace hx120_0 := (HB.out.cell (World.block_lt_of_cell? w _ hx120_0)).trans hx120_0; replace hx120_1 := (HB.out.cell (World.block_lt_of_cell? w _ hx120_1)).trans hx120_1; replace hx120_0 := (cell_far (p := ⟨gb119, 0, none⟩) (by first | (rw [add_block]; exact hn120_0) | (show (Addr.add _ _).block ≠ _; rw [add_block]; exact hn120_0) | exact hn120_0) (.string ((rd_T38 l0 x8_1).f0))).trans hx120_0; replace hx120_1 := (cell_far (p := ⟨gb119, 0, none⟩) (by first | (rw [add_block]; exact hn120_0) | (show (Addr.add _ _).block ≠ _; rw [add_block]; exact hn120_0) | exact hn120_0) (.string ((rd_T38 l0 x8_1).f0))).trans hx120_1; replace hx120_0 := (cell_far (p := ⟨gb119, 1, none⟩) (by first | (rw [add_block]; exact hn120_1) | (show (Addr.add _ _).block ≠ _; rw [add_block]; exact hn120_1) | exact hn120_1) (.int .i64 ((rd_T38 l0 x8_1).f1))).trans hx120_0; replace hx120_1 := (cell_far (p := ⟨gb119, 1, none⟩) (by first | (rw [add_block]; exact hn120_1) | (show (Addr.add _ _).block ≠ _; rw [add_block]; exact hn120_1) | exact hn120_1) (.int .i64 ((rd_T38 l0 x8_1).f1))).trans hx120_1; clear hn120_0; clear hn120_1; replace p120 := eq_true p120; replace q120 := eq_true q120) | (go_at_call 14; (with_reducible refine (spec_TxSimple.calls k1 ((rd_T38 l0 x8_1).f0) false false _ A18.out).mono ?_); rintro e w25 ⟨rfl, hb⟩; have n0_ := Aside0.mk (blk_below (g := gb119) (o := .cells #[.string ((rd_T38 l0 x8_1).f0), .int .i64 ((rd_T38 l0 x8_1).f1)] 38 (0, 0)) (by (with_reducible repeat (first | refine blk_drewN ?_ _ | refine blk_drew ?_ | refine blk_alloc ?_ _)); refine blk_put (cs := #[.string ((rd_T38 l0 x8_1).f0), .int .i64 0]) ?_ 1 _ rfl; (with_reducible repeat (first | refine blk_drewN ?_ _ | refine blk_drew ?_ | refine blk_alloc ?_ _)); refine blk_put (cs := #[.string (⟨#[]⟩ : ByteArray), .int .i64 0]) ?_ 0 _ rfl; (with_reducible repeat (first | refine blk_drewN ?_ _ | refine blk_drew ?_ | refine blk_alloc ?_ _)); exact BK119.out) hb); have n1_ := Aside0.mk (below_step (by repeat (first | (with_reducible first | exact HB.out | apply below_alloc | apply pw_below_drewN | apply below_drew1 | refine below_set ?_ GE119.out) | exact HB.out)) hb); clear BK119; clear HB; have BK119 := n0_; have HB := n1_; clear n0_ n1_; (try clear hb); (try clear hb2); (try clear hk); (try clear hi)))
                          go_ret
                          exact ⟨by first | rfl | (simp [errW_none, errW_some] <;> rfl) | (simp only [← hji6]; first | rfl | (simp [errW_none, errW_some] <;> rfl)) | (simp [*, errW_none, errW_some] <;> rfl), by repeat (first | (with_reducible first | exact HB.out | apply below_alloc | apply pw_below_drewN | apply below_drew1 | refine below_set ?_ GE119.out) | exact HB.out)⟩
                · rw [if_neg c8] at H
                  exact absurd H (by simp)
              · rw [if_neg c7] at H
                exact absurd H (by simp)
            · rw [if_neg c5] at H
              have c5b0 : decide (0 < x8_1) = false := decide_eq_false c5
              clear c5
              by_cases c26 : ((rd_T38 l0 x8_1).f1) < 0
              · rw [if_pos c26] at H
                have c26b0 : decide (((rd_T38 l0 x8_1).f1) < 0) = true := decide_eq_true c26
                clear c26
                obtain rfl := Option.some.inj H
                have p118 : 0 ≤ (x8_1 : Int) := of_decide_eq_true (by first | (with_reducible assumption) | assumption)
                have q118 : x8_1 < (l0.length : Int) := of_decide_eq_true (by first | (with_reducible assumption) | assumption)
                obtain ⟨ad118, e118, hx118_0, hx118_1⟩ := at_T38 HR0.out x8_1 p118 q118
                cases e118
                replace hx118_0 := (HB.out.cell (World.block_lt_of_cell? w _ hx118_0)).trans hx118_0
                replace hx118_1 := (HB.out.cell (World.block_lt_of_cell? w _ hx118_1)).trans hx118_1
                replace p118 := eq_true p118
                replace q118 := eq_true q118
                go_wp2_with (first | ((with_reducible refine gate_dst (N := 4) rfl ?_); (try (refine gate_guard (by rfl) ?_; dsimp only)); refine box_event ?hg (N := 4) ?hd (cs := #[.string (⟨#[]⟩ : ByteArray), .int .i64 0]) (t := 38) ?hr ?_; (case hd => rfl); (case hg => rfl); (case hr => first | (go_simp; done) | (go_simp; rfl)); intro gb119 hg w27 hbox hb; have n0_ := Aside0.mk (below_step (by repeat (first | (with_reducible first | exact HB.out | apply below_alloc | apply pw_below_drewN | apply below_drew1) | exact HB.out)) hb); have n1_ := Aside0.mk (hbox); have n2_ := Aside0.mk ((by rw [hg]; exact (below_size (by repeat (first | (with_reducible first | exact HB.out | apply below_alloc | apply pw_below_drewN | apply below_drew1) | exact HB.out))) : w.heap.size ≤ gb119)); have n3_ := Aside0.mk ((by rw [hg]; exact (below_size (by repeat (first | (with_reducible first | exact HB.out | apply below_alloc | apply pw_below_drewN | apply below_drew1) | exact HB.out))) : w.heap.size ≤ gb119)); clear HB; have HB := n0_; have BK119 := n1_; have GW119 := n2_; have GE119 := n3_; clear n0_ n1_ n2_ n3_; clear hb hbox hg; have hcz28_0 : w27.cell? ⟨gb119, 0, none⟩ = some (.string (⟨#[]⟩ : ByteArray)) := (blk_cell BK119.out 0).trans rfl; have hcz28_1 : w27.cell? ⟨gb119, 1, none⟩ = some (.int .i64 0) := (blk_cell BK119.out 1).trans rfl; have hfz28_0 := blk_frozen BK119.out 0; have hfz28_1 := blk_frozen BK119.out 1))
                go_ret
                exact ⟨by first | rfl | (simp [errW_none, errW_some] <;> rfl) | (simp [*, errW_none, errW_some] <;> rfl), by repeat (first | (with_reducible first | exact HB.out | apply below_alloc | apply pw_below_drewN | apply below_drew1 | refine below_set ?_ GE119.out) | exact HB.out)⟩
              · rw [if_neg c26] at H
                have c26b0 : decide (((rd_T38 l0 x8_1).f1) < 0) = false := decide_eq_false c26
                clear c26
                by_cases c29 : ((rd_T38 l0 x8_1).f1) > 0
                · rw [if_pos c29] at H
                  have c29b0 : decide (0 < ((rd_T38 l0 x8_1).f1)) = true := decide_eq_true c29
                  clear c29
                  obtain rfl := Option.some.inj H
                  have p118 : 0 ≤ (x8_1 : Int) := of_decide_eq_true (by first | (with_reducible assumption) | assumption)
                  have q118 : x8_1 < (l0.length : Int) := of_decide_eq_true (by first | (with_reducible assumption) | assumption)
                  obtain ⟨ad118, e118, hx118_0, hx118_1⟩ := at_T38 HR0.out x8_1 p118 q118
                  cases e118
                  replace hx118_0 := (HB.out.cell (World.block_lt_of_cell? w _ hx118_0)).trans hx118_0
                  replace hx118_1 := (HB.out.cell (World.block_lt_of_cell? w _ hx118_1)).trans hx118_1
                  replace p118 := eq_true p118
                  replace q118 := eq_true q118
                  go_wp2_with (first | ((with_reducible refine gate_dst (N := 4) rfl ?_); (try (refine gate_guard (by rfl) ?_; dsimp only)); refine box_event ?hg (N := 4) ?hd (cs := #[.string (⟨#[]⟩ : ByteArray), .int .i64 0]) (t := 38) ?hr ?_; (case hd => rfl); (case hg => rfl); (case hr => first | (go_simp; done) | (go_simp; rfl)); intro gb119 hg w30 hbox hb; have n0_ := Aside0.mk (below_step (by repeat (first | (with_reducible first | exact HB.out | apply below_alloc | apply pw_below_drewN | apply below_drew1) | exact HB.out)) hb); have n1_ := Aside0.mk (hbox); have n2_ := Aside0.mk ((by rw [hg]; exact (below_size (by repeat (first | (with_reducible first | exact HB.out | apply below_alloc | apply pw_below_drewN | apply below_drew1) | exact HB.out))) : w.heap.size ≤ gb119)); have n3_ := Aside0.mk ((by rw [hg]; exact (below_size (by repeat (first | (with_reducible first | exact HB.out | apply below_alloc | apply pw_below_drewN | apply below_drew1) | exact HB.out))) : w.heap.size ≤ gb119)); clear HB; have HB := n0_; have BK119 := n1_; have GW119 := n2_; have GE119 := n3_; clear n0_ n1_ n2_ n3_; clear hb hbox hg; have hcz31_0 : w30.cell? ⟨gb119, 0, none⟩ = some (.string (⟨#[]⟩ : ByteArray)) := (blk_cell BK119.out 0).trans rfl; have hcz31_1 : w30.cell? ⟨gb119, 1, none⟩ = some (.int .i64 0) := (blk_cell BK119.out 1).trans rfl; have hfz31_0 := blk_frozen BK119.out 0; have hfz31_1 := blk_frozen BK119.out 1))
                  go_ret
                  exact ⟨by first | rfl | (simp [errW_none, errW_some] <;> rfl) | (simp [*, errW_none, errW_some] <;> rfl), by repeat (first | (with_reducible first | exact HB.out | apply below_alloc | apply pw_below_drewN | apply below_drew1 | refine below_set ?_ GE119.out) | exact HB.out)⟩
                · rw [if_neg c29] at H
                  have c29b0 : decide (0 < ((rd_T38 l0 x8_1).f1)) = false := decide_eq_false c29
                  clear c29
                  by_cases c32 : (((rd_T38 l0 x8_1).f0).size : Int) > 200
                  · rw [if_pos c32] at H
                    have c32b0 : decide (200 < (((rd_T38 l0 x8_1).f0).size : Int)) = true := decide_eq_true c32
                    have c32b1 : decide (200 < ((rd_T38 l0 x8_1).f0).size) = true := decide_eq_true (by omega)
                    clear c32
                    obtain rfl := Option.some.inj H
                    have p118 : 0 ≤ (x8_1 : Int) := of_decide_eq_true (by first | (with_reducible assumption) | assumption)
                    have q118 : x8_1 < (l0.length : Int) := of_decide_eq_true (by first | (with_reducible assumption) | assumption)
                    obtain ⟨ad118, e118, hx118_0, hx118_1⟩ := at_T38 HR0.out x8_1 p118 q118
                    cases e118
                    replace hx118_0 := (HB.out.cell (World.block_lt_of_cell? w _ hx118_0)).trans hx118_0
                    replace hx118_1 := (HB.out.cell (World.block_lt_of_cell? w _ hx118_1)).trans hx118_1
                    replace p118 := eq_true p118
                    replace q118 := eq_true q118
                    go_wp2_with (first | ((with_reducible refine gate_dst (N := 4) rfl ?_); (try (refine gate_guard (by rfl) ?_; dsimp only)); refine box_event ?hg (N := 4) ?hd (cs := #[.string (⟨#[]⟩ : ByteArray), .int .i64 0]) (t := 38) ?hr ?_; (case hd => rfl); (case hg => rfl); (case hr => first | (go_simp; done) | (go_simp; rfl)); intro gb119 hg w33 hbox hb; have n0_ := Aside0.mk (below_step (by repeat (first | (with_reducible first | exact HB.out | apply below_alloc | apply pw_below_drewN | apply below_drew1) | exact HB.out)) hb); have n1_ := Aside0.mk (hbox); have n2_ := Aside0.mk ((by rw [hg]; exact (below_size (by repeat (first | (with_reducible first | exact HB.out | apply below_alloc | apply pw_below_drewN | apply below_drew1) | exact HB.out))) : w.heap.size ≤ gb119)); have n3_ := Aside0.mk ((by rw [hg]; exact (below_size (by repeat (first | (with_reducible first | exact HB.out | apply below_alloc | apply pw_below_drewN | apply below_drew1) | exact HB.out))) : w.heap.size ≤ gb119)); clear HB; have HB := n0_; have BK119 := n1_; have GW119 := n2_; have GE119 := n3_; clear n0_ n1_ n2_ n3_; clear hb hbox hg; have hcz34_0 : w33.cell? ⟨gb119, 0, none⟩ = some (.string (⟨#[]⟩ : ByteArray)) := (blk_cell BK119.out 0).trans rfl; have hcz34_1 : w33.cell? ⟨gb119, 1, none⟩ = some (.int .i64 0) := (blk_cell BK119.out 1).trans rfl; have hfz34_0 := blk_frozen BK119.out 0; have hfz34_1 := blk_frozen BK119.out 1))
                    go_ret
                    exact ⟨by first | rfl | (simp [errW_none, errW_some] <;> rfl) | (simp [*, errW_none, errW_some] <;> rfl), by repeat (first | (with_reducible first | exact HB.out | apply below_alloc | apply pw_below_drewN | apply below_drew1 | refine below_set ?_ GE119.out) | exact HB.out)⟩
                  · rw [if_neg c32] at H
                    have c32b0 : decide (200 < (((rd_T38 l0 x8_1).f0).size : Int)) = false := decide_eq_false c32
                    have c32b1 : decide (200 < ((rd_T38 l0 x8_1).f0).size) = false := decide_eq_false (by omega)
                    clear c32
                    replace H := Option.bind_eq_some_iff.mp H
                    obtain ⟨t122, A350, H⟩ := H
                    replace H : (if t122 = true then (spec_LsRight.l0 k1 l0 l0 (l0.length : Int) (wrap64 (x8_1 + 1))) else (some false)) = some r := H
                    have A35 := Aside0.mk A350
                    clear A350
                    by_cases c36 : t122 = true
                    · subst c36
                      have H1 : (spec_LsRight.l0 k1 l0 l0 (l0.length : Int) (wrap64 (x8_1 + 1))) = some r := by rw [if_pos rfl] at H; exact H
                      clear H
                      have H := H1
                      clear H1
                      have H' := Aside0.mk H
                      clear H
                      have p118 : 0 ≤ (x8_1 : Int) := of_decide_eq_true (by first | (with_reducible assumption) | assumption)
                      have q118 : x8_1 < (l0.length : Int) := of_decide_eq_true (by first | (with_reducible assumption) | assumption)
                      obtain ⟨ad118, e118, hx118_0, hx118_1⟩ := at_T38 HR0.out x8_1 p118 q118
                      cases e118
                      replace hx118_0 := (HB.out.cell (World.block_lt_of_cell? w _ hx118_0)).trans hx118_0
                      replace hx118_1 := (HB.out.cell (World.block_lt_of_cell? w _ hx118_1)).trans hx118_1
                      replace p118 := eq_true p118
                      replace q118 := eq_true q118
                      go_wp2_with (first | ((with_reducible refine gate_dst (N := 4) rfl ?_); (try (refine gate_guard (by rfl) ?_; dsimp only)); refine box_event ?hg (N := 4) ?hd (cs := #[.string (⟨#[]⟩ : ByteArray), .int .i64 0]) (t := 38) ?hr ?_; (case hd => rfl); (case hg => rfl); (case hr => first | (go_simp; done) | (go_simp; rfl)); intro gb119 hg w37 hbox hb; have n0_ := Aside0.mk (below_step (by repeat (first | (with_reducible first | exact HB.out | apply below_alloc | apply pw_below_drewN | apply below_drew1) | exact HB.out)) hb); have n1_ := Aside0.mk (hbox); have n2_ := Aside0.mk ((by rw [hg]; exact (below_size (by repeat (first | (with_reducible first | exact HB.out | apply below_alloc | apply pw_below_drewN | apply below_drew1) | exact HB.out))) : w.heap.size ≤ gb119)); have n3_ := Aside0.mk ((by rw [hg]; exact (below_size (by repeat (first | (with_reducible first | exact HB.out | apply below_alloc | apply pw_below_drewN | apply below_drew1) | exact HB.out))) : w.heap.size ≤ gb119)); clear HB; have HB := n0_; have BK119 := n1_; have GW119 := n2_; have GE119 := n3_; clear n0_ n1_ n2_ n3_; clear hb hbox hg; have hcz38_0 : w37.cell? ⟨gb119, 0, none⟩ = some (.string (⟨#[]⟩ : ByteArray)) := (blk_cell BK119.out 0).trans rfl; have hcz38_1 : w37.cell? ⟨gb119, 1, none⟩ = some (.int .i64 0) := (blk_cell BK119.out 1).trans rfl; have hfz38_0 := blk_frozen BK119.out 0; have hfz38_1 := blk_frozen BK119.out 1) | (go_at_call 14; (with_reducible refine (spec_TxSimple.calls k1 ((rd_T38 l0 x8_1).f0) false true _ A35.out).mono ?_); rintro e w39 ⟨rfl, hb⟩; have n0_ := Aside0.mk (blk_below (g := gb119) (o := .cells #[.string ((rd_T38 l0 x8_1).f0), .int .i64 ((rd_T38 l0 x8_1).f1)] 38 (0, 0)) (by (with_reducible repeat (first | refine blk_drewN ?_ _ | refine blk_drew ?_ | refine blk_alloc ?_ _)); refine blk_put (cs := #[.string ((rd_T38 l0 x8_1).f0), .int .i64 0]) ?_ 1 _ rfl; (with_reducible repeat (first | refine blk_drewN ?_ _ | refine blk_drew ?_ | refine blk_alloc ?_ _)); refine blk_put (cs := #[.string (⟨#[]⟩ : ByteArray), .int .i64 0]) ?_ 0 _ rfl; (with_reducible repeat (first | refine blk_drewN ?_ _ | refine blk_drew ?_ | refine blk_alloc ?_ _)); exact BK119.out) hb); have n1_ := Aside0.mk (below_step (by repeat (first | (with_reducible first | exact HB.out | apply below_alloc | apply pw_below_drewN | apply below_drew1 | refine below_set ?_ GE119.out) | exact HB.out)) hb); clear BK119; clear HB; have BK119 := n0_; have HB := n1_; clear n0_ n1_; (try clear hb); (try clear hb2); (try clear hk); (try clear hi)))
                      go_roundg k1
                      case measure => have := HK1.out; omega
                      case rel => exact ⟨(wrap64 (x8_1 + 1)), (by first | rfl | (simp; done) | (simp [*]; done)), H', ⟨by have := HK1.out; omega⟩, ⟨by repeat (first | (with_reducible first | exact HB.out | apply below_alloc | apply pw_below_drewN | apply below_drew1 | refine below_set ?_ GE119.out) | exact HB.out)⟩⟩
                    · replace c36 := Bool.eq_false_iff.mpr c36
                      subst c36
                      have H1 : (some false) = some r := by rw [if_neg (show ¬ (false = true) by decide)] at H; exact H
                      clear H
                      have H := H1
                      clear H1
                      obtain rfl := Option.some.inj H
                      have p118 : 0 ≤ (x8_1 : Int) := of_decide_eq_true (by first | (with_reducible assumption) | assumption)
                      have q118 : x8_1 < (l0.length : Int) := of_decide_eq_true (by first | (with_reducible assumption) | assumption)
                      obtain ⟨ad118, e118, hx118_0, hx118_1⟩ := at_T38 HR0.out x8_1 p118 q118
                      cases e118
                      replace hx118_0 := (HB.out.cell (World.block_lt_of_cell? w _ hx118_0)).trans hx118_0
                      replace hx118_1 := (HB.out.cell (World.block_lt_of_cell? w _ hx118_1)).trans hx118_1
                      replace p118 := eq_true p118
                      replace q118 := eq_true q118
                      go_wp2_with (first | ((with_reducible refine gate_dst (N := 4) rfl ?_); (try (refine gate_guard (by rfl) ?_; dsimp only)); refine box_event ?hg (N := 4) ?hd (cs := #[.string (⟨#[]⟩ : ByteArray), .int .i64 0]) (t := 38) ?hr ?_; (case hd => rfl); (case hg => rfl); (case hr => first | (go_simp; done) | (go_simp; rfl)); intro gb119 hg w40 hbox hb; have n0_ := Aside0.mk (below_step (by repeat (first | (with_reducible first | exact HB.out | apply below_alloc | apply pw_below_drewN | apply below_drew1) | exact HB.out)) hb); have n1_ := Aside0.mk (hbox); have n2_ := Aside0.mk ((by rw [hg]; exact (below_size (by repeat (first | (with_reducible first | exact HB.out | apply below_alloc | apply pw_below_drewN | apply below_drew1) | exact HB.out))) : w.heap.size ≤ gb119)); have n3_ := Aside0.mk ((by rw [hg]; exact (below_size (by repeat (first | (with_reducible first | exact HB.out | apply below_alloc | apply pw_below_drewN | apply below_drew1) | exact HB.out))) : w.heap.size ≤ gb119)); clear HB; have HB := n0_; have BK119 := n1_; have GW119 := n2_; have GE119 := n3_; clear n0_ n1_ n2_ n3_; clear hb hbox hg; have hcz41_0 : w40.cell? ⟨gb119, 0, none⟩ = some (.string (⟨#[]⟩ : ByteArray)) := (blk_cell BK119.out 0).trans rfl; have hcz41_1 : w40.cell? ⟨gb119, 1, none⟩ = some (.int .i64 0) := (blk_cell BK119.out 1).trans rfl; have hfz41_0 := blk_frozen BK119.out 0; have hfz41_1 := blk_frozen BK119.out 1) | (go_at_call 14; (with_reducible refine (spec_TxSimple.calls k1 ((rd_T38 l0 x8_1).f0) false false _ A35.out).mono ?_); rintro e w42 ⟨rfl, hb⟩; have n0_ := Aside0.mk (blk_below (g := gb119) (o := .cells #[.string ((rd_T38 l0 x8_1).f0), .int .i64 ((rd_T38 l0 x8_1).f1)] 38 (0, 0)) (by (with_reducible repeat (first | refine blk_drewN ?_ _ | refine blk_drew ?_ | refine blk_alloc ?_ _)); refine blk_put (cs := #[.string ((rd_T38 l0 x8_1).f0), .int .i64 0]) ?_ 1 _ rfl; (with_reducible repeat (first | refine blk_drewN ?_ _ | refine blk_drew ?_ | refine blk_alloc ?_ _)); refine blk_put (cs := #[.string (⟨#[]⟩ : ByteArray), .int .i64 0]) ?_ 0 _ rfl; (with_reducible repeat (first | refine blk_drewN ?_ _ | refine blk_drew ?_ | refine blk_alloc ?_ _)); exact BK119.out) hb); have n1_ := Aside0.mk (below_step (by repeat (first | (with_reducible first | exact HB.out | apply below_alloc | apply pw_below_drewN | apply below_drew1 | refine below_set ?_ GE119.out) | exact HB.out)) hb); clear BK119; clear HB; have BK119 := n0_; have HB := n1_; clear n0_ n1_; (try clear hb); (try clear hb2); (try clear hk); (try clear hi)))
                      go_ret
                      exact ⟨by first | rfl | (simp [errW_none, errW_some] <;> rfl) | (simp [*, errW_none, errW_some] <;> rfl), by repeat (first | (with_reducible first | exact HB.out | apply below_alloc | apply pw_below_drewN | apply below_drew1 | refine below_set ?_ GE119.out) | exact HB.out)⟩
          · rw [if_neg c4] at H
            exact absurd H (by simp)
        · rw [if_neg c3] at H
          exact absurd H (by simp)
      · rw [if_neg c2] at H
        have c2b0 : decide (x8_1 < (l0.length : Int)) = false := decide_eq_false c2
        clear c2
        obtain rfl := Option.some.inj H
        go_wp2
        go_ret
        exact ⟨by first | rfl | (simp [errW_none, errW_some] <;> rfl) | (simp [*, errW_none, errW_some] <;> rfl), by repeat (first | (with_reducible first | exact HB.out | apply below_alloc | apply pw_below_drewN | apply below_drew1) | exact HB.out)⟩

/-! ### spec_LsStyled: function 9 -/
mutual
def spec_LsStyled.l0 : Nat → List ByteArray → Int → Int → Int → ByteArray → ByteArray → ByteArray → ByteArray → ByteArray → ByteArray → ByteArray → ByteArray → Option (Bool)
  | 0, _, _, _, _, _, _, _, _, _, _, _, _ => none
  | k + 1, x21, x22, x23, x124000, x124001, x124002, x124003, x124004, x124005, x124006, x124007, x124008 => if x23 < x22 then (if 0 ≤ x23 then (if x23 < (x21.length : Int) then (if ((rdOf ByteArray.empty x21 x23).size : Int) > 20 then (some false) else ((spec_TxSimple.f k (rdOf ByteArray.empty x21 x23) false).bind fun t128 => (if t128 = true then (spec_LsStyled.l0 k x21 x22 (wrap64 (x23 + 1)) x124000 x124001 x124002 x124003 x124004 x124005 x124006 x124007 x124008) else (some false)))) else (none)) else (none)) else ((itr_make.f x124005).bind fun bt129 => (spec_LsStyled.l1 k x124000 x124001 x124002 x124003 x124004 x124005 x124006 x124007 x124008 bt129.1 bt129.2))
def spec_LsStyled.l1 : Nat → Int → ByteArray → ByteArray → ByteArray → ByteArray → ByteArray → ByteArray → ByteArray → ByteArray → ByteArray → Int → Option (Bool)
  | 0, _, _, _, _, _, _, _, _, _, _, _ => none
  | k + 1, x124000, x124001, x124002, x124003, x124004, x124005, x124006, x124007, x124008, x132000, x132001 => if x132001 < (x132000.size : Int) then ((itr_more.f x132000 x132001).bind fun bt132 => ((spec_TxWide.f bt132.2.1).bind fun t135 => (if t135 = true then (some false) else (spec_LsStyled.l1 k x124000 x124001 x124002 x124003 x124004 x124005 x124006 x124007 x124008 x132000 bt132.2.2)))) else ((itr_end.f x132000 x132001).bind fun t136 => (if x124000 = 0 then (some (x124007.toList == ([10] : List UInt8))) else (some false)))
end
def spec_LsStyled.f (k : Nat) (a0_0 : Int) (a0_1 : ByteArray) (a0_2 : ByteArray) (a0_3 : ByteArray) (a0_4 : ByteArray) (a0_5 : ByteArray) (a0_6 : ByteArray) (a0_7 : ByteArray) (a0_8 : ByteArray) : Option (Bool) := (some (([a0_1, a0_2, a0_3, a0_4, a0_5, a0_6, a0_8] : List ByteArray) : List ByteArray)).bind fun y124 => (spec_LsStyled.l0 k y124 (y124.length : Int) 0 a0_0 a0_1 a0_2 a0_3 a0_4 a0_5 a0_6 a0_7 a0_8)
theorem spec_LsStyled.mono_l : ∀ k, (∀ y0 y1 y2 y3 y4 y5 y6 y7 y8 y9 y10 y11, LeO (spec_LsStyled.l0 k y0 y1 y2 y3 y4 y5 y6 y7 y8 y9 y10 y11) (spec_LsStyled.l0 (k + 1) y0 y1 y2 y3 y4 y5 y6 y7 y8 y9 y10 y11)) ∧ (∀ y0 y1 y2 y3 y4 y5 y6 y7 y8 y9 y10, LeO (spec_LsStyled.l1 k y0 y1 y2 y3 y4 y5 y6 y7 y8 y9 y10) (spec_LsStyled.l1 (k + 1) y0 y1 y2 y3 y4 y5 y6 y7 y8 y9 y10))
  | 0 => ⟨fun _ _ _ _ _ _ _ _ _ _ _ _ r h => by simp [spec_LsStyled.l0] at h, fun _ _ _ _ _ _ _ _ _ _ _ r h => by simp [spec_LsStyled.l1] at h⟩
  | k + 1 => by
    obtain ⟨ih0, ih1⟩ := spec_LsStyled.mono_l k
    refine ⟨?_, ?_⟩
    · intro y0 y1 y2 y3 y4 y5 y6 y7 y8 y9 y10 y11
      unfold spec_LsStyled.l0
      repeat' first
      | (with_reducible exact ih0 _ _ _ _ _ _ _ _ _ _ _ _)
      | (with_reducible exact ih1 _ _ _ _ _ _ _ _ _ _ _)
      | (with_reducible exact spec_TxSimple.mono _ _ _)
      | (with_reducible exact LeO.refl _)
      | (with_reducible exact LeO.none _)
      | (with_reducible refine LeO.ite ?_ ?_)
      | (with_reducible refine LeO.bind ?_ (fun _ => ?_))
      | exact ih0 _ _ _ _ _ _ _ _ _ _ _ _
      | exact ih1 _ _ _ _ _ _ _ _ _ _ _
      | exact spec_TxSimple.mono _ _ _
      | exact LeO.none _
      | refine LeO.ite ?_ ?_
      | refine LeO.bind ?_ (fun _ => ?_)
    · intro y0 y1 y2 y3 y4 y5 y6 y7 y8 y9 y10
      unfold spec_LsStyled.l1
      repeat' first
      | (with_reducible exact ih0 _ _ _ _ _ _ _ _ _ _ _ _)
      | (with_reducible exact ih1 _ _ _ _ _ _ _ _ _ _ _)
      | (with_reducible exact spec_TxSimple.mono _ _ _)
      | (with_reducible exact LeO.refl _)
      | (with_reducible exact LeO.none _)
      | (with_reducible refine LeO.ite ?_ ?_)
      | (with_reducible refine LeO.bind ?_ (fun _ => ?_))
      | exact ih0 _ _ _ _ _ _ _ _ _ _ _ _
      | exact ih1 _ _ _ _ _ _ _ _ _ _ _
      | exact spec_TxSimple.mono _ _ _
      | exact LeO.none _
      | refine LeO.ite ?_ ?_
      | refine LeO.bind ?_ (fun _ => ?_)
theorem spec_LsStyled.mono : ∀ a0 a1 a2 a3 a4 a5 a6 a7 a8 k, LeO (spec_LsStyled.f k a0 a1 a2 a3 a4 a5 a6 a7 a8) (spec_LsStyled.f (k + 1) a0 a1 a2 a3 a4 a5 a6 a7 a8) := by
  intro a0 a1 a2 a3 a4 a5 a6 a7 a8 k
  obtain ⟨ih0, ih1⟩ := spec_LsStyled.mono_l k
  unfold spec_LsStyled.f
  repeat' first
      | (with_reducible exact ih0 _ _ _ _ _ _ _ _ _ _ _ _)
      | (with_reducible exact ih1 _ _ _ _ _ _ _ _ _ _ _)
      | (with_reducible exact spec_TxSimple.mono _ _ _)
      | (with_reducible exact LeO.refl _)
      | (with_reducible exact LeO.none _)
      | (with_reducible refine LeO.ite ?_ ?_)
      | (with_reducible refine LeO.bind ?_ (fun _ => ?_))
      | exact ih0 _ _ _ _ _ _ _ _ _ _ _ _
      | exact ih1 _ _ _ _ _ _ _ _ _ _ _
      | exact spec_TxSimple.mono _ _ _
      | exact LeO.none _
      | refine LeO.ite ?_ ?_
      | refine LeO.bind ?_ (fun _ => ?_)
set_option maxHeartbeats 8000000 in
set_option maxRecDepth 100000 in
theorem spec_LsStyled.calls (k : Nat) (a0_0 : Int) (a0_1 : ByteArray) (a0_2 : ByteArray) (a0_3 : ByteArray) (a0_4 : ByteArray) (a0_5 : ByteArray) (a0_6 : ByteArray) (a0_7 : ByteArray) (a0_8 : ByteArray) (r : Bool) (w : World) (h : spec_LsStyled.f k a0_0 a0_1 a0_2 a0_3 a0_4 a0_5 a0_6 a0_7 a0_8 = some r) :
    Calls Tryd.prog 9 #[.agg #[.int .i64 a0_0, .string a0_1, .string a0_2, .string a0_3, .string a0_4, .string a0_5, .string a0_6, .string a0_7, .string a0_8]] w fun e w' => e = .returned (.bool r) ∧ Below w.heap.size w w' := by
  have hu24 := Tryd.underlying24
  have HB := Aside0.mk (Below.refl w.heap.size w)
  have H : ((some (([a0_1, a0_2, a0_3, a0_4, a0_5, a0_6, a0_8] : List ByteArray) : List ByteArray)).bind fun y124 => (spec_LsStyled.l0 k y124 (y124.length : Int) 0 a0_0 a0_1 a0_2 a0_3 a0_4 a0_5 a0_6 a0_7 a0_8)) = some r := h
  clear h
  obtain ⟨y124, hy124⟩ : ∃ y_ : List ByteArray, y_ = (([a0_1, a0_2, a0_3, a0_4, a0_5, a0_6, a0_8] : List ByteArray)) := ⟨_, rfl⟩
  replace H : (spec_LsStyled.l0 k y124 (y124.length : Int) 0 a0_0 a0_1 a0_2 a0_3 a0_4 a0_5 a0_6 a0_7 a0_8) = some r := by first | (rw [hy124]; with_reducible exact H) | (have H2_ := (Option.bind_some _ _).symm.trans H; rw [hy124]; with_reducible exact H2_) | (have H2_ := (Option.bind_some _ _).symm.trans H; with_reducible exact H2_) | with_reducible exact H | (rw [hy124]; exact H) | exact H
  have Ny124 := Aside0.mk hy124
  clear hy124
  have H' := Aside0.mk H
  clear H
  go_enter Tryd.func9, Tryd.ntmps9
  go_wp2_with (first | ((with_reducible refine gate_dst (N := 1) rfl ?_); refine box_event ?hg (N := 1) ?hd (cs := #[.int .i64 a0_0, .string a0_1, .string a0_2, .string a0_3, .string a0_4, .string a0_5, .string a0_6, .string a0_7, .string a0_8]) (t := 24) ?hr ?_; (case hd => rfl); (case hg => rfl); (case hr => first | (go_simp; done) | (go_simp; rfl)); intro gb123 hg w2 hbox hb; have n0_ := Aside0.mk (below_step (by repeat (first | (with_reducible first | exact HB.out | apply below_alloc | apply pw_below_drewN | apply below_drew1) | exact HB.out)) hb); have n1_ := Aside0.mk (hbox); have n2_ := Aside0.mk ((by rw [hg]; exact (below_size (by repeat (first | (with_reducible first | exact HB.out | apply below_alloc | apply pw_below_drewN | apply below_drew1) | exact HB.out))) : w.heap.size ≤ gb123)); have n3_ := Aside0.mk ((by rw [hg]; exact (below_size (by repeat (first | (with_reducible first | exact HB.out | apply below_alloc | apply pw_below_drewN | apply below_drew1) | exact HB.out))) : w.heap.size ≤ gb123)); clear HB; have HB := n0_; have BK123 := n1_; have GW123 := n2_; have GE123 := n3_; clear n0_ n1_ n2_ n3_; clear hb hbox hg; have hcz3_0 : w2.cell? ⟨gb123, 0, none⟩ = some (.int .i64 a0_0) := (blk_cell BK123.out 0).trans rfl; have hcz3_1 : w2.cell? ⟨gb123, 1, none⟩ = some (.string a0_1) := (blk_cell BK123.out 1).trans rfl; have hcz3_2 : w2.cell? ⟨gb123, 2, none⟩ = some (.string a0_2) := (blk_cell BK123.out 2).trans rfl; have hcz3_3 : w2.cell? ⟨gb123, 3, none⟩ = some (.string a0_3) := (blk_cell BK123.out 3).trans rfl; have hcz3_4 : w2.cell? ⟨gb123, 4, none⟩ = some (.string a0_4) := (blk_cell BK123.out 4).trans rfl; have hcz3_5 : w2.cell? ⟨gb123, 5, none⟩ = some (.string a0_5) := (blk_cell BK123.out 5).trans rfl; have hcz3_6 : w2.cell? ⟨gb123, 6, none⟩ = some (.string a0_6) := (blk_cell BK123.out 6).trans rfl; have hcz3_7 : w2.cell? ⟨gb123, 7, none⟩ = some (.string a0_7) := (blk_cell BK123.out 7).trans rfl; have hcz3_8 : w2.cell? ⟨gb123, 8, none⟩ = some (.string a0_8) := (blk_cell BK123.out 8).trans rfl; have hfz3_0 := blk_frozen BK123.out 0; have hfz3_1 := blk_frozen BK123.out 1; have hfz3_2 := blk_frozen BK123.out 2; have hfz3_3 := blk_frozen BK123.out 3; have hfz3_4 := blk_frozen BK123.out 4; have hfz3_5 := blk_frozen BK123.out 5; have hfz3_6 := blk_frozen BK123.out 6; have hfz3_7 := blk_frozen BK123.out 7; have hfz3_8 := blk_frozen BK123.out 8) | ((with_reducible refine gate_dst (N := 21) rfl ?_); refine Kd.R_lit Kd.string _ 9 ?hg (N := 21) ?hd (xs := ([a0_1, a0_2, a0_3, a0_4, a0_5, a0_6, a0_8] : List ByteArray)) (inner := [.string a0_1, .string a0_2, .string a0_3, .string a0_4, .string a0_5, .string a0_6, .string a0_8]) (ok := fun _ => True) (okp := fun _ => True) ?hr ?hp (fun _ hk => hk) trivial (Below.refl _ _) (Nat.le_refl _) (by simp) ?_; (case hd => rfl); (case hg => rfl); (case hr => first | (go_simp; done) | (go_simp; rfl)); (case hp => exact (Reps.one (show Kd.M Kd.string _ _ _ a0_1 [.string a0_1] from rfl) (Reps.one (show Kd.M Kd.string _ _ _ a0_2 [.string a0_2] from rfl) (Reps.one (show Kd.M Kd.string _ _ _ a0_3 [.string a0_3] from rfl) (Reps.one (show Kd.M Kd.string _ _ _ a0_4 [.string a0_4] from rfl) (Reps.one (show Kd.M Kd.string _ _ _ a0_5 [.string a0_5] from rfl) (Reps.one (show Kd.M Kd.string _ _ _ a0_6 [.string a0_6] from rfl) (Reps.one (show Kd.M Kd.string _ _ _ a0_8 [.string a0_8] from rfl) (Reps.none _ _))))))))); intro v125 w4 ho5 hb hg_ hnew_; clear hg_ hnew_; (first | rw [← Ny124.out] at ho5 | (simp only [Int.reduceToNat] at ho5; rw [← Ny124.out] at ho5)); have n0_ := Aside0.mk (Kd.R_lower ho5 (below_size (by repeat (first | (with_reducible first | exact HB.out | apply below_alloc | apply pw_below_drewN | apply below_drew1 | refine below_set ?_ GE123.out) | exact HB.out)))); have n1_ := Aside0.mk (blk_below (g := gb123) (o := .cells #[.int .i64 a0_0, .string a0_1, .string a0_2, .string a0_3, .string a0_4, .string a0_5, .string a0_6, .string a0_7, .string a0_8] 24 (0, 0)) (by (with_reducible repeat (first | refine blk_drewN ?_ _ | refine blk_drew ?_ | refine blk_alloc ?_ _)); exact BK123.out) hb); have n2_ := Aside0.mk (below_step (by repeat (first | (with_reducible first | exact HB.out | apply below_alloc | apply pw_below_drewN | apply below_drew1 | refine below_set ?_ GE123.out) | exact HB.out)) hb); clear BK123; clear HB; have HO126 := n0_; have BK123 := n1_; have HB := n2_; clear n0_ n1_ n2_; clear hb ho5; obtain ⟨Ao6, co6, eo6⟩ := Kd.R_slice HO126.out; subst eo6))
  (try simp only [Act.put, List.setIfInBounds_toArray, List.set_cons_zero, List.set_cons_succ])
  go_loopg [23] k (fun kq v23 w' => ∃ (x23_1 : Int), v23 = .int .i64 x23_1 ∧ Aside0 (spec_LsStyled.l0 kq y124 (y124.length : Int) x23_1 a0_0 a0_1 a0_2 a0_3 a0_4 a0_5 a0_6 a0_7 a0_8 = some r) ∧ Aside0 (kq ≤ k) ∧ Aside0 (Kd.R Kd.string 9 w' w.heap.size (fun _ => True) (.slice Ao6 y124.length co6) y124) ∧ Aside0 (w'.heap[gb123]? = some (.cells #[.int .i64 a0_0, .string a0_1, .string a0_2, .string a0_3, .string a0_4, .string a0_5, .string a0_6, .string a0_7, .string a0_8] 24 (0, 0))) ∧ Aside0 (Below w.heap.size w w'))
  case atStart => exact ⟨(0), (by first | rfl | (simp; done) | (simp [*]; done)), H', ⟨Nat.le_refl _⟩, ⟨by (with_reducible repeat (first | apply Kd.R_alloc | apply Kd.R_drewN | apply Kd.R_drew)); exact HO126.out⟩, ⟨by (with_reducible repeat (first | refine blk_drewN ?_ _ | refine blk_drew ?_ | refine blk_alloc ?_ _)); exact BK123.out⟩, ⟨by repeat (first | (with_reducible first | exact HB.out | apply below_alloc | apply pw_below_drewN | apply below_drew1 | refine below_set ?_ GE123.out) | exact HB.out)⟩⟩
  case round =>
    clear H'
    try clear p2
    try clear hcz3_0
    try clear hcz3_1
    try clear hcz3_2
    try clear hcz3_3
    try clear hcz3_4
    try clear hcz3_5
    try clear hcz3_6
    try clear hcz3_7
    try clear hcz3_8
    try clear hfz3_0
    try clear hfz3_1
    try clear hfz3_2
    try clear hfz3_3
    try clear hfz3_4
    try clear hfz3_5
    try clear hfz3_6
    try clear hfz3_7
    try clear hfz3_8
    obtain ⟨x23_1, rfl, HA, HK1, HO_21, BK123, HB⟩ := hrel
    cases gk with
    | zero => exact absurd HA.out (by simp [spec_LsStyled.l0])
    | succ k1 =>
      have H := HA.out
      clear HA
      simp only [spec_LsStyled.l0] at H
      by_cases c7 : x23_1 < (y124.length : Int)
      · rw [if_pos c7] at H
        have c7b0 : decide (x23_1 < (y124.length : Int)) = true := decide_eq_true c7
        clear c7
        by_cases c8 : 0 ≤ x23_1
        · rw [if_pos c8] at H
          have c8b0 : decide (0 ≤ x23_1) = true := decide_eq_true c8
          clear c8
          by_cases c9 : x23_1 < (y124.length : Int)
          · rw [if_pos c9] at H
            have c9b0 : decide (x23_1 < (y124.length : Int)) = true := decide_eq_true c9
            clear c9
            by_cases c10 : ((rdOf ByteArray.empty y124 x23_1).size : Int) > 20
            · rw [if_pos c10] at H
              have c10b0 : decide (20 < ((rdOf ByteArray.empty y124 x23_1).size : Int)) = true := decide_eq_true c10
              have c10b1 : decide (20 < (rdOf ByteArray.empty y124 x23_1).size) = true := decide_eq_true (by omega)
              clear c10
              obtain rfl := Option.some.inj H
              have p127 : 0 ≤ (x23_1 : Int) := of_decide_eq_true (by first | (with_reducible assumption) | assumption)
              have q127 : x23_1 < (y124.length : Int) := of_decide_eq_true (by first | (with_reducible assumption) | assumption)
              obtain ⟨ad127, e127, hx127_0⟩ := Kd.at_string (Kd.R_reads' HO_21.out).2.2 x23_1 p127 q127
              cases e127
              replace p127 := eq_true p127
              replace q127 := eq_true q127
              go_wp2
              go_ret
              exact ⟨by first | rfl | (simp [errW_none, errW_some] <;> rfl) | (simp [*, errW_none, errW_some] <;> rfl), by repeat (first | (with_reducible first | exact HB.out | apply below_alloc | apply pw_below_drewN | apply below_drew1 | refine below_set ?_ GE123.out) | exact HB.out)⟩
            · rw [if_neg c10] at H
              have c10b0 : decide (20 < ((rdOf ByteArray.empty y124 x23_1).size : Int)) = false := decide_eq_false c10
              have c10b1 : decide (20 < (rdOf ByteArray.empty y124 x23_1).size) = false := decide_eq_false (by omega)
              clear c10
              replace H := Option.bind_eq_some_iff.mp H
              obtain ⟨t128, A110, H⟩ := H
              replace H : (if t128 = true then (spec_LsStyled.l0 k1 y124 (y124.length : Int) (wrap64 (x23_1 + 1)) a0_0 a0_1 a0_2 a0_3 a0_4 a0_5 a0_6 a0_7 a0_8) else (some false)) = some r := H
              have A11 := Aside0.mk A110
              clear A110
              by_cases c12 : t128 = true
              · subst c12
                have H1 : (spec_LsStyled.l0 k1 y124 (y124.length : Int) (wrap64 (x23_1 + 1)) a0_0 a0_1 a0_2 a0_3 a0_4 a0_5 a0_6 a0_7 a0_8) = some r := by rw [if_pos rfl] at H; exact H
                clear H
                have H := H1
                clear H1
                have H' := Aside0.mk H
                clear H
                have p127 : 0 ≤ (x23_1 : Int) := of_decide_eq_true (by first | (with_reducible assumption) | assumption)
                have q127 : x23_1 < (y124.length : Int) := of_decide_eq_true (by first | (with_reducible assumption) | assumption)
                obtain ⟨ad127, e127, hx127_0⟩ := Kd.at_string (Kd.R_reads' HO_21.out).2.2 x23_1 p127 q127
                cases e127
                replace p127 := eq_true p127
                replace q127 := eq_true q127
                go_wp2_with (first | (go_at_call 14; (with_reducible refine (spec_TxSimple.calls k1 (rdOf ByteArray.empty y124 x23_1) false true _ A11.out).mono ?_); rintro e w13 ⟨rfl, hb⟩; have n0_ := Aside0.mk (Kd.R_below (by (with_reducible repeat (first | apply Kd.R_alloc | apply Kd.R_drewN | apply Kd.R_drew)); exact HO_21.out) hb); have n1_ := Aside0.mk (blk_below (g := gb123) (o := .cells #[.int .i64 a0_0, .string a0_1, .string a0_2, .string a0_3, .string a0_4, .string a0_5, .string a0_6, .string a0_7, .string a0_8] 24 (0, 0)) (by (with_reducible repeat (first | refine blk_drewN ?_ _ | refine blk_drew ?_ | refine blk_alloc ?_ _)); exact BK123.out) hb); have n2_ := Aside0.mk (below_step (by repeat (first | (with_reducible first | exact HB.out | apply below_alloc | apply pw_below_drewN | apply below_drew1 | refine below_set ?_ GE123.out) | exact HB.out)) hb); clear HO_21; clear BK123; clear HB; have HO_21 := n0_; have BK123 := n1_; have HB := n2_; clear n0_ n1_ n2_; (try clear hb); (try clear hb2); (try clear hk); (try clear hi)))
                go_roundg k1
                case measure => have := HK1.out; omega
                case rel => exact ⟨(wrap64 (x23_1 + 1)), (by first | rfl | (simp; done) | (simp [*]; done)), H', ⟨by have := HK1.out; omega⟩, ⟨by (with_reducible repeat (first | apply Kd.R_alloc | apply Kd.R_drewN | apply Kd.R_drew)); exact HO_21.out⟩, ⟨by (with_reducible repeat (first | refine blk_drewN ?_ _ | refine blk_drew ?_ | refine blk_alloc ?_ _)); exact BK123.out⟩, ⟨by repeat (first | (with_reducible first | exact HB.out | apply below_alloc | apply pw_below_drewN | apply below_drew1 | refine below_set ?_ GE123.out) | exact HB.out)⟩⟩
              · replace c12 := Bool.eq_false_iff.mpr c12
                subst c12
                have H1 : (some false) = some r := by rw [if_neg (show ¬ (false = true) by decide)] at H; exact H
                clear H
                have H := H1
                clear H1
                obtain rfl := Option.some.inj H
                have p127 : 0 ≤ (x23_1 : Int) := of_decide_eq_true (by first | (with_reducible assumption) | assumption)
                have q127 : x23_1 < (y124.length : Int) := of_decide_eq_true (by first | (with_reducible assumption) | assumption)
                obtain ⟨ad127, e127, hx127_0⟩ := Kd.at_string (Kd.R_reads' HO_21.out).2.2 x23_1 p127 q127
                cases e127
                replace p127 := eq_true p127
                replace q127 := eq_true q127
                go_wp2_with (first | (go_at_call 14; (with_reducible refine (spec_TxSimple.calls k1 (rdOf ByteArray.empty y124 x23_1) false false _ A11.out).mono ?_); rintro e w14 ⟨rfl, hb⟩; have n0_ := Aside0.mk (Kd.R_below (by (with_reducible repeat (first | apply Kd.R_alloc | apply Kd.R_drewN | apply Kd.R_drew)); exact HO_21.out) hb); have n1_ := Aside0.mk (blk_below (g := gb123) (o := .cells #[.int .i64 a0_0, .string a0_1, .string a0_2, .string a0_3, .string a0_4, .string a0_5, .string a0_6, .string a0_7, .string a0_8] 24 (0, 0)) (by (with_reducible repeat (first | refine blk_drewN ?_ _ | refine blk_drew ?_ | refine blk_alloc ?_ _)); exact BK123.out) hb); have n2_ := Aside0.mk (below_step (by repeat (first | (with_reducible first | exact HB.out | apply below_alloc | apply pw_below_drewN | apply below_drew1 | refine below_set ?_ GE123.out) | exact HB.out)) hb); clear HO_21; clear BK123; clear HB; have HO_21 := n0_; have BK123 := n1_; have HB := n2_; clear n0_ n1_ n2_; (try clear hb); (try clear hb2); (try clear hk); (try clear hi)))
                go_ret
                exact ⟨by first | rfl | (simp [errW_none, errW_some] <;> rfl) | (simp [*, errW_none, errW_some] <;> rfl), by repeat (first | (with_reducible first | exact HB.out | apply below_alloc | apply pw_below_drewN | apply below_drew1 | refine below_set ?_ GE123.out) | exact HB.out)⟩
          · rw [if_neg c9] at H
            exact absurd H (by simp)
        · rw [if_neg c8] at H
          exact absurd H (by simp)
      · rw [if_neg c7] at H
        have c7b0 : decide (x23_1 < (y124.length : Int)) = false := decide_eq_false c7
        clear c7
        replace H := Option.bind_eq_some_iff.mp H
        obtain ⟨⟨t129, t130⟩, A150, H⟩ := H
        replace H : (spec_LsStyled.l1 k1 a0_0 a0_1 a0_2 a0_3 a0_4 a0_5 a0_6 a0_7 a0_8 t129 t130) = some r := H
        have A15 := Aside0.mk A150
        clear A150
        have H' := Aside0.mk H
        clear H
        have hcz16_0 : wr.cell? ⟨gb123, 0, none⟩ = some (.int .i64 a0_0) := (blk_cell BK123.out 0).trans rfl
        have hcz16_1 : wr.cell? ⟨gb123, 1, none⟩ = some (.string a0_1) := (blk_cell BK123.out 1).trans rfl
        have hcz16_2 : wr.cell? ⟨gb123, 2, none⟩ = some (.string a0_2) := (blk_cell BK123.out 2).trans rfl
        have hcz16_3 : wr.cell? ⟨gb123, 3, none⟩ = some (.string a0_3) := (blk_cell BK123.out 3).trans rfl
        have hcz16_4 : wr.cell? ⟨gb123, 4, none⟩ = some (.string a0_4) := (blk_cell BK123.out 4).trans rfl
        have hcz16_5 : wr.cell? ⟨gb123, 5, none⟩ = some (.string a0_5) := (blk_cell BK123.out 5).trans rfl
        have hcz16_6 : wr.cell? ⟨gb123, 6, none⟩ = some (.string a0_6) := (blk_cell BK123.out 6).trans rfl
        have hcz16_7 : wr.cell? ⟨gb123, 7, none⟩ = some (.string a0_7) := (blk_cell BK123.out 7).trans rfl
        have hcz16_8 : wr.cell? ⟨gb123, 8, none⟩ = some (.string a0_8) := (blk_cell BK123.out 8).trans rfl
        have hfz16_0 := blk_frozen BK123.out 0
        have hfz16_1 := blk_frozen BK123.out 1
        have hfz16_2 := blk_frozen BK123.out 2
        have hfz16_3 := blk_frozen BK123.out 3
        have hfz16_4 := blk_frozen BK123.out 4
        have hfz16_5 := blk_frozen BK123.out 5
        have hfz16_6 := blk_frozen BK123.out 6
        have hfz16_7 := blk_frozen BK123.out 7
        have hfz16_8 := blk_frozen BK123.out 8
        go_wp2_with (first | ((with_reducible refine gate_dst (N := 38) rfl ?_); refine rangeL_ (some 38) rfl rfl rfl Tryd.underlying9 a0_5 rfl ?_; (with_reducible refine (itr_make.calls a0_5 t129 t130 w _ ?side1 A15.out).mono ?_); (case side1 => repeat (first | (with_reducible first | exact HB.out | apply below_alloc | apply pw_below_drewN | apply below_drew1 | refine below_set ?_ GE123.out) | exact HB.out)); rintro e w17 ⟨g131, rfl, hi, hb, hb2, hge⟩; refine ⟨_, rfl, ?_⟩; have n0_ := Aside0.mk (Kd.R_below (by (with_reducible repeat (first | apply Kd.R_alloc | apply Kd.R_drewN | apply Kd.R_drew)); exact HO_21.out) hb2); have n1_ := Aside0.mk (blk_below (g := gb123) (o := .cells #[.int .i64 a0_0, .string a0_1, .string a0_2, .string a0_3, .string a0_4, .string a0_5, .string a0_6, .string a0_7, .string a0_8] 24 (0, 0)) (by (with_reducible repeat (first | refine blk_drewN ?_ _ | refine blk_drew ?_ | refine blk_alloc ?_ _)); exact BK123.out) hb2); have n2_ := Aside0.mk (hb); have n3_ := Aside0.mk (hi); have n4_ := Aside0.mk (IsS159.ne_blk hi (blk_below (g := gb123) (o := .cells #[.int .i64 a0_0, .string a0_1, .string a0_2, .string a0_3, .string a0_4, .string a0_5, .string a0_6, .string a0_7, .string a0_8] 24 (0, 0)) (by (with_reducible repeat (first | refine blk_drewN ?_ _ | refine blk_drew ?_ | refine blk_alloc ?_ _)); exact BK123.out) hb2) (by decide)); have n5_ := Aside0.mk (Ne.symm (IsS159.ne_blk hi (blk_below (g := gb123) (o := .cells #[.int .i64 a0_0, .string a0_1, .string a0_2, .string a0_3, .string a0_4, .string a0_5, .string a0_6, .string a0_7, .string a0_8] 24 (0, 0)) (by (with_reducible repeat (first | refine blk_drewN ?_ _ | refine blk_drew ?_ | refine blk_alloc ?_ _)); exact BK123.out) hb2) (by decide))); clear HO_21; clear BK123; clear HB; have HO_21 := n0_; have BK123 := n1_; have HB := n2_; have HI131 := n3_; have NB131_123 := n4_; have NB123_131 := n5_; clear n0_ n1_ n2_ n3_ n4_ n5_; (try clear hb); (try clear hb2); (try clear hk); (try clear hi)))
        (try simp only [Act.put, List.setIfInBounds_toArray, List.set_cons_zero, List.set_cons_succ])
        go_loopg [] k1 (fun kq w' => ∃ (x132001_2 : Int), Aside0 (spec_LsStyled.l1 kq a0_0 a0_1 a0_2 a0_3 a0_4 a0_5 a0_6 a0_7 a0_8 t129 x132001_2 = some r) ∧ Aside0 (kq ≤ k1) ∧ Aside0 (w'.heap[gb123]? = some (.cells #[.int .i64 a0_0, .string a0_1, .string a0_2, .string a0_3, .string a0_4, .string a0_5, .string a0_6, .string a0_7, .string a0_8] 24 (0, 0))) ∧ Aside0 (IsS159 w w' g131 t129 x132001_2) ∧ Aside0 (Below w.heap.size w w'))
        case atStart => exact ⟨(t130), H', ⟨Nat.le_refl _⟩, ⟨by (with_reducible repeat (first | refine blk_drewN ?_ _ | refine blk_drew ?_ | refine blk_alloc ?_ _)); exact BK123.out⟩, ⟨by repeat (first | (with_reducible first | exact HI131.out | apply IsS159.alloc | apply IsS159.drewN | apply IsS159.drew | apply IsS159.set_1 | refine IsS159.far ?_ NB131_123.out _) | exact HI131.out)⟩, ⟨by repeat (first | (with_reducible first | exact HB.out | apply below_alloc | apply pw_below_drewN | apply below_drew1 | refine below_set ?_ (IsS159.ge HI131.out) | refine below_set ?_ GE123.out) | exact HB.out)⟩⟩
        case round =>
          clear H'
          try clear c1
          try clear p1
          try clear q1
          try clear hx1
          try clear p2
          try clear p6
          try clear c7
          try clear c7b0
          try clear c8
          try clear c8b0
          try clear c9
          try clear c9b0
          try clear c10
          try clear c10b0
          try clear c10b1
          try clear c12
          try clear p12
          try clear q12
          try clear hx12
          try clear hcz16_0
          try clear hcz16_1
          try clear hcz16_2
          try clear hcz16_3
          try clear hcz16_4
          try clear hcz16_5
          try clear hcz16_6
          try clear hcz16_7
          try clear hcz16_8
          try clear hcz3_0
          try clear hcz3_1
          try clear hcz3_2
          try clear hcz3_3
          try clear hcz3_4
          try clear hcz3_5
          try clear hcz3_6
          try clear hcz3_7
          try clear hcz3_8
          try clear hfz16_0
          try clear hfz16_1
          try clear hfz16_2
          try clear hfz16_3
          try clear hfz16_4
          try clear hfz16_5
          try clear hfz16_6
          try clear hfz16_7
          try clear hfz16_8
          try clear hfz3_0
          try clear hfz3_1
          try clear hfz3_2
          try clear hfz3_3
          try clear hfz3_4
          try clear hfz3_5
          try clear hfz3_6
          try clear hfz3_7
          try clear hfz3_8
          try clear hx127_0
          try clear p127
          try clear p2
          try clear q127
          obtain ⟨x132001_2, HA, HK2, BK123, HI131, HB⟩ := hrel
          cases gk with
          | zero => exact absurd HA.out (by simp [spec_LsStyled.l1])
          | succ k2 =>
            have H := HA.out
            clear HA
            simp only [spec_LsStyled.l1] at H
            by_cases c18 : x132001_2 < (t129.size : Int)
            · rw [if_pos c18] at H
              have c18b0 : decide (x132001_2 < (t129.size : Int)) = true := decide_eq_true c18
              clear c18
              replace H := Option.bind_eq_some_iff.mp H
              obtain ⟨⟨t132, t133, t134⟩, A190, H⟩ := H
              replace H : ((spec_TxWide.f t133).bind fun t135 => (if t135 = true then (some false) else (spec_LsStyled.l1 k2 a0_0 a0_1 a0_2 a0_3 a0_4 a0_5 a0_6 a0_7 a0_8 t129 t134))) = some r := H
              have A19 := Aside0.mk A190
              clear A190
              replace H := Option.bind_eq_some_iff.mp H
              obtain ⟨t135, A200, H⟩ := H
              replace H : (if t135 = true then (some false) else (spec_LsStyled.l1 k2 a0_0 a0_1 a0_2 a0_3 a0_4 a0_5 a0_6 a0_7 a0_8 t129 t134)) = some r := H
              have A20 := Aside0.mk A200
              clear A200
              by_cases c21 : t135 = true
              · subst c21
                have H1 : (some false) = some r := by rw [if_pos rfl] at H; exact H
                clear H
                have H := H1
                clear H1
                obtain rfl := Option.some.inj H
                go_wp2_with (first | ((with_reducible refine gate_dst (N := 39) rfl ?_); refine nextL_ (some 39) rfl rfl rfl (.pointer (some ⟨g131, 0, none⟩)) rfl ?_; (with_reducible refine (itr_more.calls g131 t129 x132001_2 t132 t133 t134 w _ ?side1 ?side2 A19.out).mono ?_); (case side1 => repeat (first | (with_reducible first | exact HI131.out | apply IsS159.alloc | apply IsS159.drewN | apply IsS159.drew | apply IsS159.set_1 | refine IsS159.far ?_ NB131_123.out _) | exact HI131.out)); (case side2 => repeat (first | (with_reducible first | exact HB.out | apply below_alloc | apply pw_below_drewN | apply below_drew1 | refine below_set ?_ (IsS159.ge HI131.out) | refine below_set ?_ GE123.out) | exact HB.out)); rintro e w22 ⟨rfl, hi, hb, hk⟩; refine ⟨_, rfl, ?_⟩; have n0_ := Aside0.mk (KeepBut.blk hk (g' := gb123) (o := .cells #[.int .i64 a0_0, .string a0_1, .string a0_2, .string a0_3, .string a0_4, .string a0_5, .string a0_6, .string a0_7, .string a0_8] 24 (0, 0)) (by (with_reducible repeat (first | refine blk_drewN ?_ _ | refine blk_drew ?_ | refine blk_alloc ?_ _)); exact BK123.out) NB123_131.out (by simp)); have n1_ := Aside0.mk (hb); have n2_ := Aside0.mk (hi); clear BK123; clear HB; clear HI131; have BK123 := n0_; have HB := n1_; have HI131 := n2_; clear n0_ n1_ n2_; (try clear hb); (try clear hb2); (try clear hk); (try clear hi)) | ((with_reducible refine gate_callee (f := 19) rfl ?_); refine goesL_ (some 43) rfl rfl Tryd.func19 (by kernel_rfl) rfl #[.int .i32 t133] rfl (by (try simp only [List.map_toArray, List.map_cons, List.map_nil]); first | done | rfl | (simp only [List.length_drop, List.length_take]; rfl)) ?_; (with_reducible refine (spec_TxWide.calls t133 true _ A20.out).mono ?_); rintro e w' ⟨rfl, ⟨nd, rfl⟩⟩; refine ⟨_, rfl, ?_⟩))
                go_ret
                exact ⟨by first | rfl | (simp [errW_none, errW_some] <;> rfl) | (simp [*, errW_none, errW_some] <;> rfl), by repeat (first | (with_reducible first | exact HB.out | apply below_alloc | apply pw_below_drewN | apply below_drew1 | refine below_set ?_ (IsS159.ge HI131.out) | refine below_set ?_ GE123.out) | exact HB.out)⟩
              · replace c21 := Bool.eq_false_iff.mpr c21
                subst c21
                have H1 : (spec_LsStyled.l1 k2 a0_0 a0_1 a0_2 a0_3 a0_4 a0_5 a0_6 a0_7 a0_8 t129 t134) = some r := by rw [if_neg (show ¬ (false = true) by decide)] at H; exact H
                clear H
                have H := H1
                clear H1
                have H' := Aside0.mk H
                clear H
                go_wp2_with (first | ((with_reducible refine gate_dst (N := 39) rfl ?_); refine nextL_ (some 39) rfl rfl rfl (.pointer (some ⟨g131, 0, none⟩)) rfl ?_; (with_reducible refine (itr_more.calls g131 t129 x132001_2 t132 t133 t134 w _ ?side1 ?side2 A19.out).mono ?_); (case side1 => repeat (first | (with_reducible first | exact HI131.out | apply IsS159.alloc | apply IsS159.drewN | apply IsS159.drew | apply IsS159.set_1 | refine IsS159.far ?_ NB131_123.out _) | exact HI131.out)); (case side2 => repeat (first | (with_reducible first | exact HB.out | apply below_alloc | apply pw_below_drewN | apply below_drew1 | refine below_set ?_ (IsS159.ge HI131.out) | refine below_set ?_ GE123.out) | exact HB.out)); rintro e w23 ⟨rfl, hi, hb, hk⟩; refine ⟨_, rfl, ?_⟩; have n0_ := Aside0.mk (KeepBut.blk hk (g' := gb123) (o := .cells #[.int .i64 a0_0, .string a0_1, .string a0_2, .string a0_3, .string a0_4, .string a0_5, .string a0_6, .string a0_7, .string a0_8] 24 (0, 0)) (by (with_reducible repeat (first | refine blk_drewN ?_ _ | refine blk_drew ?_ | refine blk_alloc ?_ _)); exact BK123.out) NB123_131.out (by simp)); have n1_ := Aside0.mk (hb); have n2_ := Aside0.mk (hi); clear BK123; clear HB; clear HI131; have BK123 := n0_; have HB := n1_; have HI131 := n2_; clear n0_ n1_ n2_; (try clear hb); (try clear hb2); (try clear hk); (try clear hi)) | ((with_reducible refine gate_callee (f := 19) rfl ?_); refine goesL_ (some 43) rfl rfl Tryd.func19 (by kernel_rfl) rfl #[.int .i32 t133] rfl (by (try simp only [List.map_toArray, List.map_cons, List.map_nil]); first | done | rfl | (simp only [List.length_drop, List.length_take]; rfl)) ?_; (with_reducible refine (spec_TxWide.calls t133 false _ A20.out).mono ?_); rintro e w' ⟨rfl, ⟨nd, rfl⟩⟩; refine ⟨_, rfl, ?_⟩))
                go_roundg k2
                case measure => have := HK1.out; have := HK2.out; omega
                case rel => exact ⟨(t134), H', ⟨by have := HK1.out; have := HK2.out; omega⟩, ⟨by (with_reducible repeat (first | refine blk_drewN ?_ _ | refine blk_drew ?_ | refine blk_alloc ?_ _)); exact BK123.out⟩, ⟨by repeat (first | (with_reducible first | exact HI131.out | apply IsS159.alloc | apply IsS159.drewN | apply IsS159.drew | apply IsS159.set_1 | refine IsS159.far ?_ NB131_123.out _) | exact HI131.out)⟩, ⟨by repeat (first | (with_reducible first | exact HB.out | apply below_alloc | apply pw_below_drewN | apply below_drew1 | refine below_set ?_ (IsS159.ge HI131.out) | refine below_set ?_ GE123.out) | exact HB.out)⟩⟩
            · rw [if_neg c18] at H
              have c18b0 : decide (x132001_2 < (t129.size : Int)) = false := decide_eq_false c18
              clear c18
              replace H := Option.bind_eq_some_iff.mp H
              obtain ⟨t136, A240, H⟩ := H
              replace H : (if a0_0 = 0 then (some (a0_7.toList == ([10] : List UInt8))) else (some false)) = some r := H
              have A24 := Aside0.mk A240
              clear A240
              by_cases c25 : a0_0 = 0
              · rw [if_pos c25] at H
                have c25b0 : (a0_0 == 0) = true := beq_iff_eq.mpr c25
                have c25b1 : (a0_0 != 0) = false := bne_eq_false_iff_eq.mpr c25
                clear c25
                obtain rfl := Option.some.inj H
                go_wp2_with (first | ((with_reducible refine gate_dst (N := 39) rfl ?_); refine nextL_ (some 39) rfl rfl rfl (.pointer (some ⟨g131, 0, none⟩)) rfl ?_; (with_reducible refine (itr_end.calls g131 t129 x132001_2 t136 w _ ?side1 ?side2 A24.out).mono ?_); (case side1 => repeat (first | (with_reducible first | exact HI131.out | apply IsS159.alloc | apply IsS159.drewN | apply IsS159.drew | apply IsS159.set_1 | refine IsS159.far ?_ NB131_123.out _) | exact HI131.out)); (case side2 => repeat (first | (with_reducible first | exact HB.out | apply below_alloc | apply pw_below_drewN | apply below_drew1 | refine below_set ?_ (IsS159.ge HI131.out) | refine below_set ?_ GE123.out) | exact HB.out)); rintro e w26 ⟨rfl, hi, hb, hk⟩; refine ⟨_, rfl, ?_⟩; have n0_ := Aside0.mk (KeepBut.blk hk (g' := gb123) (o := .cells #[.int .i64 a0_0, .string a0_1, .string a0_2, .string a0_3, .string a0_4, .string a0_5, .string a0_6, .string a0_7, .string a0_8] 24 (0, 0)) (by (with_reducible repeat (first | refine blk_drewN ?_ _ | refine blk_drew ?_ | refine blk_alloc ?_ _)); exact BK123.out) NB123_131.out (by simp)); have n1_ := Aside0.mk (hb); have n2_ := Aside0.mk (hi); clear BK123; clear HB; clear HI131; have BK123 := n0_; have HB := n1_; have HI131 := n2_; clear n0_ n1_ n2_; (try clear hb); (try clear hb2); (try clear hk); (try clear hi); have hnb27 := NB123_131.out; have hnc27 := NB131_123.out; have hcz28_0 : w26.cell? ⟨gb123, 0, none⟩ = some (.int .i64 a0_0) := (blk_cell BK123.out 0).trans rfl; have hcz28_1 : w26.cell? ⟨gb123, 1, none⟩ = some (.string a0_1) := (blk_cell BK123.out 1).trans rfl; have hcz28_2 : w26.cell? ⟨gb123, 2, none⟩ = some (.string a0_2) := (blk_cell BK123.out 2).trans rfl; have hcz28_3 : w26.cell? ⟨gb123, 3, none⟩ = some (.string a0_3) := (blk_cell BK123.out 3).trans rfl; have hcz28_4 : w26.cell? ⟨gb123, 4, none⟩ = some (.string a0_4) := (blk_cell BK123.out 4).trans rfl; have hcz28_5 : w26.cell? ⟨gb123, 5, none⟩ = some (.string a0_5) := (blk_cell BK123.out 5).trans rfl; have hcz28_6 : w26.cell? ⟨gb123, 6, none⟩ = some (.string a0_6) := (blk_cell BK123.out 6).trans rfl; have hcz28_7 : w26.cell? ⟨gb123, 7, none⟩ = some (.string a0_7) := (blk_cell BK123.out 7).trans rfl; have hcz28_8 : w26.cell? ⟨gb123, 8, none⟩ = some (.string a0_8) := (blk_cell BK123.out 8).trans rfl; have hfz28_0 := blk_frozen BK123.out 0; have hfz28_1 := blk_frozen BK123.out 1; have hfz28_2 := blk_frozen BK123.out 2; have hfz28_3 := blk_frozen BK123.out 3; have hfz28_4 := blk_frozen BK123.out 4; have hfz28_5 := blk_frozen BK123.out 5; have hfz28_6 := blk_frozen BK123.out 6; have hfz28_7 := blk_frozen BK123.out 7; have hfz28_8 := blk_frozen BK123.out 8))
                go_ret
                exact ⟨by first | rfl | (simp [errW_none, errW_some] <;> rfl) | (simp [*, errW_none, errW_some] <;> rfl), by repeat (first | (with_reducible first | exact HB.out | apply below_alloc | apply pw_below_drewN | apply below_drew1 | refine below_set ?_ (IsS159.ge HI131.out) | refine below_set ?_ GE123.out) | exact HB.out)⟩
              · rw [if_neg c25] at H
                have c25b0 : (a0_0 == 0) = false := beq_eq_false_iff_ne.mpr c25
                have c25b1 : (a0_0 != 0) = true := bne_iff_ne.mpr c25
                obtain rfl := Option.some.inj H
                go_wp2_with (first | ((with_reducible refine gate_dst (N := 39) rfl ?_); refine nextL_ (some 39) rfl rfl rfl (.pointer (some ⟨g131, 0, none⟩)) rfl ?_; (with_reducible refine (itr_end.calls g131 t129 x132001_2 t136 w _ ?side1 ?side2 A24.out).mono ?_); (case side1 => repeat (first | (with_reducible first | exact HI131.out | apply IsS159.alloc | apply IsS159.drewN | apply IsS159.drew | apply IsS159.set_1 | refine IsS159.far ?_ NB131_123.out _) | exact HI131.out)); (case side2 => repeat (first | (with_reducible first | exact HB.out | apply below_alloc | apply pw_below_drewN | apply below_drew1 | refine below_set ?_ (IsS159.ge HI131.out) | refine below_set ?_ GE123.out) | exact HB.out)); rintro e w29 ⟨rfl, hi, hb, hk⟩; refine ⟨_, rfl, ?_⟩; have n0_ := Aside0.mk (KeepBut.blk hk (g' := gb123) (o := .cells #[.int .i64 a0_0, .string a0_1, .string a0_2, .string a0_3, .string a0_4, .string a0_5, .string a0_6, .string a0_7, .string a0_8] 24 (0, 0)) (by (with_reducible repeat (first | refine blk_drewN ?_ _ | refine blk_drew ?_ | refine blk_alloc ?_ _)); exact BK123.out) NB123_131.out (by simp)); have n1_ := Aside0.mk (hb); have n2_ := Aside0.mk (hi); clear BK123; clear HB; clear HI131; have BK123 := n0_; have HB := n1_; have HI131 := n2_; clear n0_ n1_ n2_; (try clear hb); (try clear hb2); (try clear hk); (try clear hi); have hnb30 := NB123_131.out; have hnc30 := NB131_123.out; have hcz31_0 : w29.cell? ⟨gb123, 0, none⟩ = some (.int .i64 a0_0) := (blk_cell BK123.out 0).trans rfl; have hcz31_1 : w29.cell? ⟨gb123, 1, none⟩ = some (.string a0_1) := (blk_cell BK123.out 1).trans rfl; have hcz31_2 : w29.cell? ⟨gb123, 2, none⟩ = some (.string a0_2) := (blk_cell BK123.out 2).trans rfl; have hcz31_3 : w29.cell? ⟨gb123, 3, none⟩ = some (.string a0_3) := (blk_cell BK123.out 3).trans rfl; have hcz31_4 : w29.cell? ⟨gb123, 4, none⟩ = some (.string a0_4) := (blk_cell BK123.out 4).trans rfl; have hcz31_5 : w29.cell? ⟨gb123, 5, none⟩ = some (.string a0_5) := (blk_cell BK123.out 5).trans rfl; have hcz31_6 : w29.cell? ⟨gb123, 6, none⟩ = some (.string a0_6) := (blk_cell BK123.out 6).trans rfl; have hcz31_7 : w29.cell? ⟨gb123, 7, none⟩ = some (.string a0_7) := (blk_cell BK123.out 7).trans rfl; have hcz31_8 : w29.cell? ⟨gb123, 8, none⟩ = some (.string a0_8) := (blk_cell BK123.out 8).trans rfl; have hfz31_0 := blk_frozen BK123.out 0; have hfz31_1 := blk_frozen BK123.out 1; have hfz31_2 := blk_frozen BK123.out 2; have hfz31_3 := blk_frozen BK123.out 3; have hfz31_4 := blk_frozen BK123.out 4; have hfz31_5 := blk_frozen BK123.out 5; have hfz31_6 := blk_frozen BK123.out 6; have hfz31_7 := blk_frozen BK123.out 7; have hfz31_8 := blk_frozen BK123.out 8))
                go_ret
                exact ⟨by first | rfl | (simp [errW_none, errW_some] <;> rfl) | (simp [*, errW_none, errW_some] <;> rfl), by repeat (first | (with_reducible first | exact HB.out | apply below_alloc | apply pw_below_drewN | apply below_drew1 | refine below_set ?_ (IsS159.ge HI131.out) | refine below_set ?_ GE123.out) | exact HB.out)⟩

end
end Go.Proofs.YthjkmjimlhpbfaaDoor.GFnListMarkdownLines
