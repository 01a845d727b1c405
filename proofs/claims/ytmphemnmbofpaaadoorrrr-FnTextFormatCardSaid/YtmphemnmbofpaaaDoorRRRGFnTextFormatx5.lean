-- Written by gprint.py, a program of this session over the kit's printer, with contracts of its own for what the printer does not take. Not trusted: Lean checks it.
import Derived.Test.YtmphemnmbofpaaaDoorRRRGFnTextFormatx0
import Derived.Test.YtmphemnmbofpaaaDoorRRRGFnTextFormatx1
import Derived.Test.YtmphemnmbofpaaaDoorRRRGFnTextFormatx3
import Derived.Test.YtmphemnmbofpaaaDoorRRRGFnTextFormatx4
namespace Go.Proofs.YtmphemnmbofpaaaDoorRRR.GFnTextFormat
open Go.RowKit Go.Proofs.YtmphemnmbofpaaaDoorRRR.Itr Go.Proofs.YtmphemnmbofpaaaDoorRRRW.PrintWords Go.Proofs.YtmphemnmbofpaaaDoorRRRW.PrintLast Go.Proofs.YtmphemnmbofpaaaDoorRRRW.PrintMore
attribute [local go_sem] max2_int min2_int max_two min_two max_three min_three max_four min_four   -- for this text's walks alone
set_option linter.unusedVariables false
set_option linter.unusedSimpArgs false

/-! ### laws_FnTextFormat: function 3 -/
def laws_FnTextFormat.j0 : Nat → Int → List (S32) → Bool → Option (Bool)
  | 0, _, _, _ => none
  | k + 1, x0, x1, x21 => if x21 = true then (some true) else ((spec_TxWritten.f k x1).bind fun t146 => ((impl_TextFormat.f (wrap64 (Int.tmod x0 4)) t146).bind fun t147 => ((spec_TxCased.f k x1 (wrap64 (Int.tmod x0 4))).bind fun t148 => (some (t147.toList == t148.toList)))))
def laws_FnTextFormat.f (k : Nat) (a0 : Int) (l1 : List (S32)) : Option (Bool) := (laws_zzFits15.f k l1).bind fun t142 => (if t142 = true then ((spec_TxGood.f k l1 true).bind fun t143 => (if t143 = true then ((spec_TxPlain.f k l1).bind fun t144 => ((spec_TxASCII.f k t144 true).bind fun t145 => (if t145 = true then (laws_FnTextFormat.j0 k a0 l1 ((Int.tmod a0 4) == 2)) else (laws_FnTextFormat.j0 k a0 l1 true)))) else (laws_FnTextFormat.j0 k a0 l1 true))) else (some true))
theorem laws_FnTextFormat.mono_l : ∀ k, (∀ y0 y1 y2, LeO (laws_FnTextFormat.j0 k y0 y1 y2) (laws_FnTextFormat.j0 (k + 1) y0 y1 y2))
  | 0 => fun _ _ _ r h => by simp [laws_FnTextFormat.j0] at h
  | k + 1 => by
    have ih0 := laws_FnTextFormat.mono_l k
    · intro y0 y1 y2
      unfold laws_FnTextFormat.j0
      repeat' first
      | (with_reducible exact ih0 _ _ _)
      | (with_reducible exact laws_zzFits15.mono _ _)
      | (with_reducible exact spec_TxASCII.mono _ _ _)
      | (with_reducible exact spec_TxCased.mono _ _ _)
      | (with_reducible exact spec_TxGood.mono _ _ _)
      | (with_reducible exact spec_TxPlain.mono _ _)
      | (with_reducible exact spec_TxWritten.mono _ _)
      | (with_reducible exact LeO.refl _)
      | (with_reducible exact LeO.none _)
      | (with_reducible refine LeO.ite ?_ ?_)
      | (with_reducible refine LeO.bind ?_ (fun _ => ?_))
      | exact ih0 _ _ _
      | exact laws_zzFits15.mono _ _
      | exact spec_TxASCII.mono _ _ _
      | exact spec_TxCased.mono _ _ _
      | exact spec_TxGood.mono _ _ _
      | exact spec_TxPlain.mono _ _
      | exact spec_TxWritten.mono _ _
      | exact LeO.none _
      | refine LeO.ite ?_ ?_
      | refine LeO.bind ?_ (fun _ => ?_)
theorem laws_FnTextFormat.mono : ∀ a0 a1 k, LeO (laws_FnTextFormat.f k a0 a1) (laws_FnTextFormat.f (k + 1) a0 a1) := by
  intro a0 a1 k
  have ih0 := laws_FnTextFormat.mono_l k
  unfold laws_FnTextFormat.f
  repeat' first
      | (with_reducible exact ih0 _ _ _)
      | (with_reducible exact laws_zzFits15.mono _ _)
      | (with_reducible exact spec_TxASCII.mono _ _ _)
      | (with_reducible exact spec_TxCased.mono _ _ _)
      | (with_reducible exact spec_TxGood.mono _ _ _)
      | (with_reducible exact spec_TxPlain.mono _ _)
      | (with_reducible exact spec_TxWritten.mono _ _)
      | (with_reducible exact LeO.refl _)
      | (with_reducible exact LeO.none _)
      | (with_reducible refine LeO.ite ?_ ?_)
      | (with_reducible refine LeO.bind ?_ (fun _ => ?_))
      | exact ih0 _ _ _
      | exact laws_zzFits15.mono _ _
      | exact spec_TxASCII.mono _ _ _
      | exact spec_TxCased.mono _ _ _
      | exact spec_TxGood.mono _ _ _
      | exact spec_TxPlain.mono _ _
      | exact spec_TxWritten.mono _ _
      | exact LeO.none _
      | refine LeO.ite ?_ ?_
      | refine LeO.bind ?_ (fun _ => ?_)
set_option maxHeartbeats 8000000 in
set_option maxRecDepth 100000 in
theorem laws_FnTextFormat.calls (k : Nat) (a0 : Int) (A1 : Option Addr) (c1 : Nat) (l1 : List (S32)) (r : Bool) (w : World) (hr1 : Kd.C k32 w A1 l1.length l1) (hc1 : l1.length ≤ c1) (h : laws_FnTextFormat.f k a0 l1 = some r) (hT_ : Sqa.Tb w) :
    Calls Tryd.prog 3 #[.int .u8 a0, .slice A1 l1.length c1] w fun e w' => e = .returned (.bool r) ∧ Below w.heap.size w w' := by
  have HT_P := Aside0.mk hT_
  clear hT_
  have HR1 := Aside0.mk hr1
  have HC1 := Aside0.mk hc1
  clear hr1 hc1
  have HB := Aside0.mk (Below.refl w.heap.size w)
  have H : ((laws_zzFits15.f k l1).bind fun t142 => (if t142 = true then ((spec_TxGood.f k l1 true).bind fun t143 => (if t143 = true then ((spec_TxPlain.f k l1).bind fun t144 => ((spec_TxASCII.f k t144 true).bind fun t145 => (if t145 = true then (laws_FnTextFormat.j0 k a0 l1 ((Int.tmod a0 4) == 2)) else (laws_FnTextFormat.j0 k a0 l1 true)))) else (laws_FnTextFormat.j0 k a0 l1 true))) else (some true))) = some r := h
  clear h
  replace H := Option.bind_eq_some_iff.mp H
  obtain ⟨t142, A30, H⟩ := H
  replace H : (if t142 = true then ((spec_TxGood.f k l1 true).bind fun t143 => (if t143 = true then ((spec_TxPlain.f k l1).bind fun t144 => ((spec_TxASCII.f k t144 true).bind fun t145 => (if t145 = true then (laws_FnTextFormat.j0 k a0 l1 ((Int.tmod a0 4) == 2)) else (laws_FnTextFormat.j0 k a0 l1 true)))) else (laws_FnTextFormat.j0 k a0 l1 true))) else (some true)) = some r := H
  have A3 := Aside0.mk A30
  clear A30
  by_cases c4 : t142 = true
  · subst c4
    have H1 : ((spec_TxGood.f k l1 true).bind fun t143 => (if t143 = true then ((spec_TxPlain.f k l1).bind fun t144 => ((spec_TxASCII.f k t144 true).bind fun t145 => (if t145 = true then (laws_FnTextFormat.j0 k a0 l1 ((Int.tmod a0 4) == 2)) else (laws_FnTextFormat.j0 k a0 l1 true)))) else (laws_FnTextFormat.j0 k a0 l1 true))) = some r := by rw [if_pos rfl] at H; exact H
    clear H
    have H := H1
    clear H1
    have HC5 := Aside0.mk H
    clear H
    go_enter Tryd.func3, Tryd.ntmps3
    go_upto_region 3 with (first | ((with_reducible refine gate_callee (f := 4) rfl ?_); refine goesL_ (some 6) rfl rfl Tryd.func4 (by kernel_rfl) rfl #[.slice A1 l1.length c1] rfl (by (try simp only [List.map_toArray, List.map_cons, List.map_nil]); first | done | rfl | (simp only [List.length_drop, List.length_take]; rfl)) ?_; (with_reducible refine (laws_zzFits15.calls k _ _ l1 true _ ?side1 ?side2 A3.out).mono ?_); (case side1 => repeat (first | exact HR1.out | (with_reducible refine Kd.C_alloc ?_ _) | (with_reducible refine Kd.C_drewN ?_ _) | (with_reducible refine Kd.C_drew ?_))); (case side2 => exact HC1.out); rintro e w6 ⟨rfl, hb⟩; refine ⟨_, rfl, ?_⟩; have n0_ := Aside0.mk (below_step (by repeat (first | (with_reducible first | exact HB.out | apply below_alloc | apply pw_below_drewN | apply below_drew1) | exact HB.out)) hb); clear HB; have HB := n0_; clear n0_; (try clear hb); (try clear hb2); (try clear hk); (try clear hi)))
    (try simp only [Act.put, List.setIfInBounds_toArray, List.set_cons_zero, List.set_cons_succ])
    go_cut [21] (fun v21 wc => ∃ (kq : Nat) (x21_4 : Bool), v21 = .bool x21_4 ∧ Aside0 (laws_FnTextFormat.j0 kq a0 l1 x21_4 = some r) ∧ Aside0 (kq ≤ k) ∧ Aside0 (Below w.heap.size w wc))
    case first =>
      have H := HC5.out
      clear HC5
      replace H := Option.bind_eq_some_iff.mp H
      obtain ⟨t143, A70, H⟩ := H
      replace H : (if t143 = true then ((spec_TxPlain.f k l1).bind fun t144 => ((spec_TxASCII.f k t144 true).bind fun t145 => (if t145 = true then (laws_FnTextFormat.j0 k a0 l1 ((Int.tmod a0 4) == 2)) else (laws_FnTextFormat.j0 k a0 l1 true)))) else (laws_FnTextFormat.j0 k a0 l1 true)) = some r := H
      have A7 := Aside0.mk A70
      clear A70
      by_cases c8 : t143 = true
      · subst c8
        have H1 : ((spec_TxPlain.f k l1).bind fun t144 => ((spec_TxASCII.f k t144 true).bind fun t145 => (if t145 = true then (laws_FnTextFormat.j0 k a0 l1 ((Int.tmod a0 4) == 2)) else (laws_FnTextFormat.j0 k a0 l1 true)))) = some r := by rw [if_pos rfl] at H; exact H
        clear H
        have H := H1
        clear H1
        replace H := Option.bind_eq_some_iff.mp H
        obtain ⟨t144, A90, H⟩ := H
        replace H : ((spec_TxASCII.f k t144 true).bind fun t145 => (if t145 = true then (laws_FnTextFormat.j0 k a0 l1 ((Int.tmod a0 4) == 2)) else (laws_FnTextFormat.j0 k a0 l1 true))) = some r := H
        have A9 := Aside0.mk A90
        clear A90
        replace H := Option.bind_eq_some_iff.mp H
        obtain ⟨t145, A100, H⟩ := H
        replace H : (if t145 = true then (laws_FnTextFormat.j0 k a0 l1 ((Int.tmod a0 4) == 2)) else (laws_FnTextFormat.j0 k a0 l1 true)) = some r := H
        have A10 := Aside0.mk A100
        clear A100
        by_cases c11 : t145 = true
        · subst c11
          have H1 : (laws_FnTextFormat.j0 k a0 l1 ((Int.tmod a0 4) == 2)) = some r := by rw [if_pos rfl] at H; exact H
          clear H
          have H := H1
          clear H1
          have H' := Aside0.mk H
          clear H
          go_wp2_with (first | ((with_reducible refine gate_callee (f := 5) rfl ?_); refine goesL_ (some 9) rfl rfl Tryd.func5 (by kernel_rfl) rfl #[.slice A1 l1.length c1, .bool true] rfl (by (try simp only [List.map_toArray, List.map_cons, List.map_nil]); first | done | rfl | (simp only [List.length_drop, List.length_take]; rfl)) ?_; (with_reducible refine (spec_TxGood.calls k _ _ l1 true true _ ?side1 ?side2 A7.out).mono ?_); (case side1 => repeat (first | exact (Kd.C_below HR1.out HB.out) | (with_reducible refine Kd.C_alloc ?_ _) | (with_reducible refine Kd.C_drewN ?_ _) | (with_reducible refine Kd.C_drew ?_))); (case side2 => exact HC1.out); rintro e w12 ⟨rfl, hb⟩; refine ⟨_, rfl, ?_⟩; have n0_ := Aside0.mk (below_step (by repeat (first | (with_reducible first | exact HB.out | apply below_alloc | apply pw_below_drewN | apply below_drew1) | exact HB.out)) hb); clear HB; have HB := n0_; clear n0_; (try clear hb); (try clear hb2); (try clear hk); (try clear hi)) | (go_at_call 7; (with_reducible refine (spec_TxPlain.calls k _ _ l1 t144 _ ?side1 ?side2 A9.out).mono ?_); (case side1 => repeat (first | exact (Kd.C_below HR1.out HB.out) | (with_reducible refine Kd.C_alloc ?_ _) | (with_reducible refine Kd.C_drewN ?_ _) | (with_reducible refine Kd.C_drew ?_))); (case side2 => exact HC1.out); rintro e w13 ⟨rfl, hb⟩; have n0_ := Aside0.mk (below_step (by repeat (first | (with_reducible first | exact HB.out | apply below_alloc | apply pw_below_drewN | apply below_drew1) | exact HB.out)) hb); clear HB; have HB := n0_; clear n0_; (try clear hb); (try clear hb2); (try clear hk); (try clear hi)) | (go_at_call 6; (with_reducible refine (spec_TxASCII.calls k t144 true true _ A10.out).mono ?_); rintro e w' ⟨rfl, ⟨nd, rfl⟩⟩))
          go_meet
          case rel => exact ⟨_, (((Int.tmod a0 4) == 2)), (by first | rfl | (simp; done) | (simp [*]; done)), H', ⟨by first | omega | exact Nat.le_refl _⟩, ⟨by repeat (first | (with_reducible first | exact HB.out | apply below_alloc | apply pw_below_drewN | apply below_drew1) | exact HB.out)⟩⟩
        · replace c11 := Bool.eq_false_iff.mpr c11
          subst c11
          have H1 : (laws_FnTextFormat.j0 k a0 l1 true) = some r := by rw [if_neg (show ¬ (false = true) by decide)] at H; exact H
          clear H
          have H := H1
          clear H1
          have H' := Aside0.mk H
          clear H
          go_wp2_with (first | ((with_reducible refine gate_callee (f := 5) rfl ?_); refine goesL_ (some 9) rfl rfl Tryd.func5 (by kernel_rfl) rfl #[.slice A1 l1.length c1, .bool true] rfl (by (try simp only [List.map_toArray, List.map_cons, List.map_nil]); first | done | rfl | (simp only [List.length_drop, List.length_take]; rfl)) ?_; (with_reducible refine (spec_TxGood.calls k _ _ l1 true true _ ?side1 ?side2 A7.out).mono ?_); (case side1 => repeat (first | exact (Kd.C_below HR1.out HB.out) | (with_reducible refine Kd.C_alloc ?_ _) | (with_reducible refine Kd.C_drewN ?_ _) | (with_reducible refine Kd.C_drew ?_))); (case side2 => exact HC1.out); rintro e w14 ⟨rfl, hb⟩; refine ⟨_, rfl, ?_⟩; have n0_ := Aside0.mk (below_step (by repeat (first | (with_reducible first | exact HB.out | apply below_alloc | apply pw_below_drewN | apply below_drew1) | exact HB.out)) hb); clear HB; have HB := n0_; clear n0_; (try clear hb); (try clear hb2); (try clear hk); (try clear hi)) | (go_at_call 7; (with_reducible refine (spec_TxPlain.calls k _ _ l1 t144 _ ?side1 ?side2 A9.out).mono ?_); (case side1 => repeat (first | exact (Kd.C_below HR1.out HB.out) | (with_reducible refine Kd.C_alloc ?_ _) | (with_reducible refine Kd.C_drewN ?_ _) | (with_reducible refine Kd.C_drew ?_))); (case side2 => exact HC1.out); rintro e w15 ⟨rfl, hb⟩; have n0_ := Aside0.mk (below_step (by repeat (first | (with_reducible first | exact HB.out | apply below_alloc | apply pw_below_drewN | apply below_drew1) | exact HB.out)) hb); clear HB; have HB := n0_; clear n0_; (try clear hb); (try clear hb2); (try clear hk); (try clear hi)) | (go_at_call 6; (with_reducible refine (spec_TxASCII.calls k t144 true false _ A10.out).mono ?_); rintro e w' ⟨rfl, ⟨nd, rfl⟩⟩))
          go_meet
          case rel => exact ⟨_, (true), (by first | rfl | (simp; done) | (simp [*]; done)), H', ⟨by first | omega | exact Nat.le_refl _⟩, ⟨by repeat (first | (with_reducible first | exact HB.out | apply below_alloc | apply pw_below_drewN | apply below_drew1) | exact HB.out)⟩⟩
      · replace c8 := Bool.eq_false_iff.mpr c8
        subst c8
        have H1 : (laws_FnTextFormat.j0 k a0 l1 true) = some r := by rw [if_neg (show ¬ (false = true) by decide)] at H; exact H
        clear H
        have H := H1
        clear H1
        have H' := Aside0.mk H
        clear H
        go_wp2_with (first | ((with_reducible refine gate_callee (f := 5) rfl ?_); refine goesL_ (some 9) rfl rfl Tryd.func5 (by kernel_rfl) rfl #[.slice A1 l1.length c1, .bool true] rfl (by (try simp only [List.map_toArray, List.map_cons, List.map_nil]); first | done | rfl | (simp only [List.length_drop, List.length_take]; rfl)) ?_; (with_reducible refine (spec_TxGood.calls k _ _ l1 true false _ ?side1 ?side2 A7.out).mono ?_); (case side1 => repeat (first | exact (Kd.C_below HR1.out HB.out) | (with_reducible refine Kd.C_alloc ?_ _) | (with_reducible refine Kd.C_drewN ?_ _) | (with_reducible refine Kd.C_drew ?_))); (case side2 => exact HC1.out); rintro e w16 ⟨rfl, hb⟩; refine ⟨_, rfl, ?_⟩; have n0_ := Aside0.mk (below_step (by repeat (first | (with_reducible first | exact HB.out | apply below_alloc | apply pw_below_drewN | apply below_drew1) | exact HB.out)) hb); clear HB; have HB := n0_; clear n0_; (try clear hb); (try clear hb2); (try clear hk); (try clear hi)))
        go_meet
        case rel => exact ⟨_, (true), (by first | rfl | (simp; done) | (simp [*]; done)), H', ⟨by first | omega | exact Nat.le_refl _⟩, ⟨by repeat (first | (with_reducible first | exact HB.out | apply below_alloc | apply pw_below_drewN | apply below_drew1) | exact HB.out)⟩⟩
    case rest =>
      clear HC5
      try clear c1
      try clear p2
      try clear c3
      try clear c4
      try clear c5
      try clear c8
      try clear c11
      obtain ⟨kq, x21_4, rfl, HA, HJ4, HB⟩ := hcut
      cases kq with
      | zero => exact absurd HA.out (by simp [laws_FnTextFormat.j0])
      | succ kj4 =>
        have H := HA.out
        clear HA
        simp only [laws_FnTextFormat.j0] at H
        by_cases c17 : x21_4 = true
        · subst c17
          have H1 : (some true) = some r := by rw [if_pos rfl] at H; exact H
          clear H
          have H := H1
          clear H1
          obtain rfl := Option.some.inj H
          go_wp2
          go_ret
          exact ⟨by first | rfl | (simp [errW_none, errW_some] <;> rfl) | (simp [*, errW_none, errW_some] <;> rfl), by repeat (first | (with_reducible first | exact HB.out | apply below_alloc | apply pw_below_drewN | apply below_drew1) | exact HB.out)⟩
        · replace c17 := Bool.eq_false_iff.mpr c17
          subst c17
          have H1 : ((spec_TxWritten.f kj4 l1).bind fun t146 => ((impl_TextFormat.f (wrap64 (Int.tmod a0 4)) t146).bind fun t147 => ((spec_TxCased.f kj4 l1 (wrap64 (Int.tmod a0 4))).bind fun t148 => (some (t147.toList == t148.toList))))) = some r := by rw [if_neg (show ¬ (false = true) by decide)] at H; exact H
          clear H
          have H := H1
          clear H1
          replace H := Option.bind_eq_some_iff.mp H
          obtain ⟨t146, A180, H⟩ := H
          replace H : ((impl_TextFormat.f (wrap64 (Int.tmod a0 4)) t146).bind fun t147 => ((spec_TxCased.f kj4 l1 (wrap64 (Int.tmod a0 4))).bind fun t148 => (some (t147.toList == t148.toList)))) = some r := H
          have A18 := Aside0.mk A180
          clear A180
          replace H := Option.bind_eq_some_iff.mp H
          obtain ⟨t147, A190, H⟩ := H
          replace H : ((spec_TxCased.f kj4 l1 (wrap64 (Int.tmod a0 4))).bind fun t148 => (some (t147.toList == t148.toList))) = some r := H
          have A19 := Aside0.mk A190
          clear A190
          replace H := Option.bind_eq_some_iff.mp H
          obtain ⟨t148, A200, H⟩ := H
          replace H : (some (t147.toList == t148.toList)) = some r := H
          have A20 := Aside0.mk A200
          clear A200
          obtain rfl := Option.some.inj H
          go_wp2_with (first | ((with_reducible refine gate_callee (f := 9) rfl ?_); refine goesL_ (some 26) rfl rfl Tryd.func9 (by kernel_rfl) rfl #[.slice A1 l1.length c1] rfl (by (try simp only [List.map_toArray, List.map_cons, List.map_nil]); first | done | rfl | (simp only [List.length_drop, List.length_take]; rfl)) ?_; (with_reducible refine (spec_TxWritten.calls kj4 _ _ l1 t146 _ ?side1 ?side2 A18.out (Sqa.Tb.below HT_P.out (by repeat (first | (with_reducible first | exact HB.out | apply below_alloc | apply pw_below_drewN | apply below_drew1 | refine below_set ?_ (by assumption)) | exact HB.out | exact Below.refl _ _)))).mono ?_); (case side1 => repeat (first | exact (Kd.C_below HR1.out HB.out) | (with_reducible refine Kd.C_alloc ?_ _) | (with_reducible refine Kd.C_drewN ?_ _) | (with_reducible refine Kd.C_drew ?_))); (case side2 => exact HC1.out); rintro e w21 ⟨rfl, hb⟩; refine ⟨_, rfl, ?_⟩; have n0_ := Aside0.mk (below_step (by repeat (first | (with_reducible first | exact HB.out | apply below_alloc | apply pw_below_drewN | apply below_drew1) | exact HB.out)) hb); clear HB; have HB := n0_; clear n0_; (try clear hb); (try clear hb2); (try clear hk); (try clear hi)) | ((with_reducible refine gate_callee (f := 8) rfl ?_); refine goesL_ (some 27) rfl rfl Tryd.func8 (by kernel_rfl) rfl #[.int .i64 (wrap64 (Int.tmod a0 4)), .string t146] rfl (by (try simp only [List.map_toArray, List.map_cons, List.map_nil]); first | done | rfl | (simp only [List.length_drop, List.length_take]; rfl)) ?_; (with_reducible refine (impl_TextFormat.calls (wrap64 (Int.tmod a0 4)) t146 t147 _ A19.out).mono ?_); rintro e w22 ⟨rfl, hb⟩; refine ⟨_, rfl, ?_⟩; have n0_ := Aside0.mk (below_step (by repeat (first | (with_reducible first | exact HB.out | apply below_alloc | apply pw_below_drewN | apply below_drew1) | exact HB.out)) hb); clear HB; have HB := n0_; clear n0_; (try clear hb); (try clear hb2); (try clear hk); (try clear hi)) | ((with_reducible refine gate_callee (f := 10) rfl ?_); refine goesL_ (some 32) rfl rfl Tryd.func10 (by kernel_rfl) rfl #[.slice A1 l1.length c1, .int .i64 (wrap64 (Int.tmod a0 4))] rfl (by (try simp only [List.map_toArray, List.map_cons, List.map_nil]); first | done | rfl | (simp only [List.length_drop, List.length_take]; rfl)) ?_; (with_reducible refine (spec_TxCased.calls kj4 _ _ l1 (wrap64 (Int.tmod a0 4)) t148 _ ?side1 ?side2 A20.out (Sqa.Tb.below HT_P.out (by repeat (first | (with_reducible first | exact HB.out | apply below_alloc | apply pw_below_drewN | apply below_drew1 | refine below_set ?_ (by assumption)) | exact HB.out | exact Below.refl _ _)))).mono ?_); (case side1 => repeat (first | exact (Kd.C_below HR1.out HB.out) | (with_reducible refine Kd.C_alloc ?_ _) | (with_reducible refine Kd.C_drewN ?_ _) | (with_reducible refine Kd.C_drew ?_))); (case side2 => exact HC1.out); rintro e w23 ⟨rfl, hb⟩; refine ⟨_, rfl, ?_⟩; have n0_ := Aside0.mk (below_step (by repeat (first | (with_reducible first | exact HB.out | apply below_alloc | apply pw_below_drewN | apply below_drew1) | exact HB.out)) hb); clear HB; have HB := n0_; clear n0_; (try clear hb); (try clear hb2); (try clear hk); (try clear hi)))
          go_ret
          exact ⟨by first | rfl | (simp [errW_none, errW_some] <;> rfl) | (simp [*, errW_none, errW_some] <;> rfl), by repeat (first | (with_reducible first | exact HB.out | apply below_alloc | apply pw_below_drewN | apply below_drew1) | exact HB.out)⟩
  · replace c4 := Bool.eq_false_iff.mpr c4
    subst c4
    have H1 : (some true) = some r := by rw [if_neg (show ¬ (false = true) by decide)] at H; exact H
    clear H
    have H := H1
    clear H1
    obtain rfl := Option.some.inj H
    go_enter Tryd.func3, Tryd.ntmps3
    go_wp2_with (first | ((with_reducible refine gate_callee (f := 4) rfl ?_); refine goesL_ (some 6) rfl rfl Tryd.func4 (by kernel_rfl) rfl #[.slice A1 l1.length c1] rfl (by (try simp only [List.map_toArray, List.map_cons, List.map_nil]); first | done | rfl | (simp only [List.length_drop, List.length_take]; rfl)) ?_; (with_reducible refine (laws_zzFits15.calls k _ _ l1 false _ ?side1 ?side2 A3.out).mono ?_); (case side1 => repeat (first | exact HR1.out | (with_reducible refine Kd.C_alloc ?_ _) | (with_reducible refine Kd.C_drewN ?_ _) | (with_reducible refine Kd.C_drew ?_))); (case side2 => exact HC1.out); rintro e w24 ⟨rfl, hb⟩; refine ⟨_, rfl, ?_⟩; have n0_ := Aside0.mk (below_step (by repeat (first | (with_reducible first | exact HB.out | apply below_alloc | apply pw_below_drewN | apply below_drew1) | exact HB.out)) hb); clear HB; have HB := n0_; clear n0_; (try clear hb); (try clear hb2); (try clear hk); (try clear hi)))
    go_ret
    exact ⟨by first | rfl | (simp [errW_none, errW_some] <;> rfl) | (simp [*, errW_none, errW_some] <;> rfl), by repeat (first | (with_reducible first | exact HB.out | apply below_alloc | apply pw_below_drewN | apply below_drew1) | exact HB.out)⟩

end Go.Proofs.YtmphemnmbofpaaaDoorRRR.GFnTextFormat
