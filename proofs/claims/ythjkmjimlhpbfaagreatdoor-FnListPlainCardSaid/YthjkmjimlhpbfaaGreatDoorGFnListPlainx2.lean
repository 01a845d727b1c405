-- Written by gprint.py, a program of this session over the kit's printer, with contracts of its own for what the printer does not take. Not trusted: Lean checks it.
import Derived.Test.YthjkmjimlhpbfaaGreatDoorGFnListPlainx0
import Derived.Test.YthjkmjimlhpbfaaGreatDoorGFnListPlainx1
namespace Go.Proofs.YthjkmjimlhpbfaaGreatDoor.GFnListPlain
open Go.RowKit Go.Proofs.YthjkmjimlhpbfaaGreatDoor.Itr Go.Proofs.YthjkmjimlhpbfaaGreatDoorW.PrintWords Go.Proofs.YthjkmjimlhpbfaaGreatDoorW.PrintLast Go.Proofs.YthjkmjimlhpbfaaGreatDoorW.PrintMore
attribute [local go_sem] max2_int min2_int max_two min_two max_three min_three max_four min_four   -- for this text's walks alone
set_option linter.unusedVariables false
set_option linter.unusedSimpArgs false
noncomputable section

/-! ### spec_TxSimple: function 12 -/
def spec_TxSimple.l0 : Nat → Bool → ByteArray → Int → Option (Bool)
  | 0, _, _, _ => none
  | k + 1, x1, x112000, x112001 => if x112001 < (x112000.size : Int) then ((itr_more.f x112000 x112001).bind fun bt112 => ((spec_TxKnown.f bt112.2.1).bind fun t115 => (if t115 = true then (spec_TxSimple.l0 k x1 x112000 bt112.2.2) else (if x1 = true then (if bt112.2.1 = 10 then (spec_TxSimple.l0 k x1 x112000 bt112.2.2) else (some false)) else (some false))))) else ((itr_end.f x112000 x112001).bind fun t116 => (some true))
def spec_TxSimple.f (k : Nat) (a0 : ByteArray) (a1 : Bool) : Option (Bool) := (itr_make.f a0).bind fun bt109 => (spec_TxSimple.l0 k a1 bt109.1 bt109.2)
theorem spec_TxSimple.mono_l : ∀ k, (∀ y0 y1 y2, LeO (spec_TxSimple.l0 k y0 y1 y2) (spec_TxSimple.l0 (k + 1) y0 y1 y2))
  | 0 => fun _ _ _ r h => by simp [spec_TxSimple.l0] at h
  | k + 1 => by
    have ih0 := spec_TxSimple.mono_l k
    · intro y0 y1 y2
      unfold spec_TxSimple.l0
      repeat' first
      | (with_reducible exact ih0 _ _ _)
      | (with_reducible exact LeO.refl _)
      | (with_reducible exact LeO.none _)
      | (with_reducible refine LeO.ite ?_ ?_)
      | (with_reducible refine LeO.bind ?_ (fun _ => ?_))
      | exact ih0 _ _ _
      | exact LeO.none _
      | refine LeO.ite ?_ ?_
      | refine LeO.bind ?_ (fun _ => ?_)
theorem spec_TxSimple.mono : ∀ a0 a1 k, LeO (spec_TxSimple.f k a0 a1) (spec_TxSimple.f (k + 1) a0 a1) := by
  intro a0 a1 k
  have ih0 := spec_TxSimple.mono_l k
  unfold spec_TxSimple.f
  repeat' first
      | (with_reducible exact ih0 _ _ _)
      | (with_reducible exact LeO.refl _)
      | (with_reducible exact LeO.none _)
      | (with_reducible refine LeO.ite ?_ ?_)
      | (with_reducible refine LeO.bind ?_ (fun _ => ?_))
      | exact ih0 _ _ _
      | exact LeO.none _
      | refine LeO.ite ?_ ?_
      | refine LeO.bind ?_ (fun _ => ?_)
set_option maxHeartbeats 8000000 in
set_option maxRecDepth 100000 in
theorem spec_TxSimple.calls (k : Nat) (a0 : ByteArray) (a1 : Bool) (r : Bool) (w : World) (h : spec_TxSimple.f k a0 a1 = some r) :
    Calls Tryz.prog 12 #[.string a0, .bool a1] w fun e w' => e = .returned (.bool r) ∧ Below w.heap.size w w' := by
  have HB := Aside0.mk (Below.refl w.heap.size w)
  have H : ((itr_make.f a0).bind fun bt109 => (spec_TxSimple.l0 k a1 bt109.1 bt109.2)) = some r := h
  clear h
  replace H := Option.bind_eq_some_iff.mp H
  obtain ⟨⟨t109, t110⟩, A30, H⟩ := H
  replace H : (spec_TxSimple.l0 k a1 t109 t110) = some r := H
  have A3 := Aside0.mk A30
  clear A30
  have H' := Aside0.mk H
  clear H
  go_enter Tryz.func12, Tryz.ntmps12
  go_wp2_with (first | ((with_reducible refine gate_dst (N := 8) rfl ?_); refine rangeL_ (some 8) rfl rfl rfl Tryz.underlying9 a0 rfl ?_; (with_reducible refine (itr_make.calls a0 t109 t110 w _ ?side1 A3.out).mono ?_); (case side1 => repeat (first | (with_reducible first | exact HB.out | apply below_alloc | apply pw_below_drewN | apply below_drew1) | exact HB.out)); rintro e w4 ⟨g111, rfl, hi, hb, hb2, hge⟩; refine ⟨_, rfl, ?_⟩; have n0_ := Aside0.mk (hb); have n1_ := Aside0.mk (hi); clear HB; have HB := n0_; have HI111 := n1_; clear n0_ n1_; (try clear hb); (try clear hb2); (try clear hk); (try clear hi)))
  (try simp only [Act.put, List.setIfInBounds_toArray, List.set_cons_zero, List.set_cons_succ])
  go_loopg [] k (fun kq w' => ∃ (x112001_1 : Int), Aside0 (spec_TxSimple.l0 kq a1 t109 x112001_1 = some r) ∧ Aside0 (kq ≤ k) ∧ Aside0 (IsS156 w w' g111 t109 x112001_1) ∧ Aside0 (Below w.heap.size w w'))
  case atStart => exact ⟨(t110), H', ⟨Nat.le_refl _⟩, ⟨by repeat (first | (with_reducible first | exact HI111.out | apply IsS156.alloc | apply IsS156.drewN | apply IsS156.drew | apply IsS156.set_1) | exact HI111.out)⟩, ⟨by repeat (first | (with_reducible first | exact HB.out | apply below_alloc | apply pw_below_drewN | apply below_drew1 | refine below_set ?_ (IsS156.ge HI111.out)) | exact HB.out)⟩⟩
  case round =>
    clear H'
    try clear c1
    try clear p2
    obtain ⟨x112001_1, HA, HK1, HI111, HB⟩ := hrel
    cases gk with
    | zero => exact absurd HA.out (by simp [spec_TxSimple.l0])
    | succ k1 =>
      have H := HA.out
      clear HA
      simp only [spec_TxSimple.l0] at H
      by_cases c5 : x112001_1 < (t109.size : Int)
      · rw [if_pos c5] at H
        have c5b0 : decide (x112001_1 < (t109.size : Int)) = true := decide_eq_true c5
        clear c5
        replace H := Option.bind_eq_some_iff.mp H
        obtain ⟨⟨t112, t113, t114⟩, A60, H⟩ := H
        replace H : ((spec_TxKnown.f t113).bind fun t115 => (if t115 = true then (spec_TxSimple.l0 k1 a1 t109 t114) else (if a1 = true then (if t113 = 10 then (spec_TxSimple.l0 k1 a1 t109 t114) else (some false)) else (some false)))) = some r := H
        have A6 := Aside0.mk A60
        clear A60
        replace H := Option.bind_eq_some_iff.mp H
        obtain ⟨t115, A70, H⟩ := H
        replace H : (if t115 = true then (spec_TxSimple.l0 k1 a1 t109 t114) else (if a1 = true then (if t113 = 10 then (spec_TxSimple.l0 k1 a1 t109 t114) else (some false)) else (some false))) = some r := H
        have A7 := Aside0.mk A70
        clear A70
        by_cases c8 : t115 = true
        · subst c8
          have H1 : (spec_TxSimple.l0 k1 a1 t109 t114) = some r := by rw [if_pos rfl] at H; exact H
          clear H
          have H := H1
          clear H1
          have H' := Aside0.mk H
          clear H
          go_wp2_with (first | ((with_reducible refine gate_dst (N := 9) rfl ?_); refine nextL_ (some 9) rfl rfl rfl (.pointer (some ⟨g111, 0, none⟩)) rfl ?_; (with_reducible refine (itr_more.calls g111 t109 x112001_1 t112 t113 t114 w _ ?side1 ?side2 A6.out).mono ?_); (case side1 => repeat (first | (with_reducible first | exact HI111.out | apply IsS156.alloc | apply IsS156.drewN | apply IsS156.drew | apply IsS156.set_1) | exact HI111.out)); (case side2 => repeat (first | (with_reducible first | exact HB.out | apply below_alloc | apply pw_below_drewN | apply below_drew1 | refine below_set ?_ (IsS156.ge HI111.out)) | exact HB.out)); rintro e w9 ⟨rfl, hi, hb, hk⟩; refine ⟨_, rfl, ?_⟩; have n0_ := Aside0.mk (hb); have n1_ := Aside0.mk (hi); clear HB; clear HI111; have HB := n0_; have HI111 := n1_; clear n0_ n1_; (try clear hb); (try clear hb2); (try clear hk); (try clear hi)) | ((with_reducible refine gate_callee (f := 28) rfl ?_); refine goesL_ (some 13) rfl rfl Tryz.func28 (by kernel_rfl) rfl #[.int .i32 t113] rfl (by (try simp only [List.map_toArray, List.map_cons, List.map_nil]); first | done | rfl | (simp only [List.length_drop, List.length_take]; rfl)) ?_; (with_reducible refine (spec_TxKnown.calls t113 true _ A7.out).mono ?_); rintro e w' ⟨rfl, ⟨nd, rfl⟩⟩; refine ⟨_, rfl, ?_⟩))
          go_roundg k1
          case measure => have := HK1.out; omega
          case rel => exact ⟨(t114), H', ⟨by have := HK1.out; omega⟩, ⟨by repeat (first | (with_reducible first | exact HI111.out | apply IsS156.alloc | apply IsS156.drewN | apply IsS156.drew | apply IsS156.set_1) | exact HI111.out)⟩, ⟨by repeat (first | (with_reducible first | exact HB.out | apply below_alloc | apply pw_below_drewN | apply below_drew1 | refine below_set ?_ (IsS156.ge HI111.out)) | exact HB.out)⟩⟩
        · replace c8 := Bool.eq_false_iff.mpr c8
          subst c8
          have H1 : (if a1 = true then (if t113 = 10 then (spec_TxSimple.l0 k1 a1 t109 t114) else (some false)) else (some false)) = some r := by rw [if_neg (show ¬ (false = true) by decide)] at H; exact H
          clear H
          have H := H1
          clear H1
          by_cases c10 : a1 = true
          · subst c10
            have H1 : (if t113 = 10 then (spec_TxSimple.l0 k1 true t109 t114) else (some false)) = some r := by rw [if_pos rfl] at H; exact H
            clear H
            have H := H1
            clear H1
            by_cases c11 : t113 = 10
            · rw [if_pos c11] at H
              have c11b0 : (t113 == 10) = true := beq_iff_eq.mpr c11
              have c11b1 : (t113 != 10) = false := bne_eq_false_iff_eq.mpr c11
              clear c11
              have H' := Aside0.mk H
              clear H
              go_wp2_with (first | ((with_reducible refine gate_dst (N := 9) rfl ?_); refine nextL_ (some 9) rfl rfl rfl (.pointer (some ⟨g111, 0, none⟩)) rfl ?_; (with_reducible refine (itr_more.calls g111 t109 x112001_1 t112 t113 t114 w _ ?side1 ?side2 A6.out).mono ?_); (case side1 => repeat (first | (with_reducible first | exact HI111.out | apply IsS156.alloc | apply IsS156.drewN | apply IsS156.drew | apply IsS156.set_1) | exact HI111.out)); (case side2 => repeat (first | (with_reducible first | exact HB.out | apply below_alloc | apply pw_below_drewN | apply below_drew1 | refine below_set ?_ (IsS156.ge HI111.out)) | exact HB.out)); rintro e w12 ⟨rfl, hi, hb, hk⟩; refine ⟨_, rfl, ?_⟩; have n0_ := Aside0.mk (hb); have n1_ := Aside0.mk (hi); clear HB; clear HI111; have HB := n0_; have HI111 := n1_; clear n0_ n1_; (try clear hb); (try clear hb2); (try clear hk); (try clear hi)) | ((with_reducible refine gate_callee (f := 28) rfl ?_); refine goesL_ (some 13) rfl rfl Tryz.func28 (by kernel_rfl) rfl #[.int .i32 t113] rfl (by (try simp only [List.map_toArray, List.map_cons, List.map_nil]); first | done | rfl | (simp only [List.length_drop, List.length_take]; rfl)) ?_; (with_reducible refine (spec_TxKnown.calls t113 false _ A7.out).mono ?_); rintro e w' ⟨rfl, ⟨nd, rfl⟩⟩; refine ⟨_, rfl, ?_⟩))
              go_roundg k1
              case measure => have := HK1.out; omega
              case rel => exact ⟨(t114), H', ⟨by have := HK1.out; omega⟩, ⟨by repeat (first | (with_reducible first | exact HI111.out | apply IsS156.alloc | apply IsS156.drewN | apply IsS156.drew | apply IsS156.set_1) | exact HI111.out)⟩, ⟨by repeat (first | (with_reducible first | exact HB.out | apply below_alloc | apply pw_below_drewN | apply below_drew1 | refine below_set ?_ (IsS156.ge HI111.out)) | exact HB.out)⟩⟩
            · rw [if_neg c11] at H
              have c11b0 : (t113 == 10) = false := beq_eq_false_iff_ne.mpr c11
              have c11b1 : (t113 != 10) = true := bne_iff_ne.mpr c11
              obtain rfl := Option.some.inj H
              go_wp2_with (first | ((with_reducible refine gate_dst (N := 9) rfl ?_); refine nextL_ (some 9) rfl rfl rfl (.pointer (some ⟨g111, 0, none⟩)) rfl ?_; (with_reducible refine (itr_more.calls g111 t109 x112001_1 t112 t113 t114 w _ ?side1 ?side2 A6.out).mono ?_); (case side1 => repeat (first | (with_reducible first | exact HI111.out | apply IsS156.alloc | apply IsS156.drewN | apply IsS156.drew | apply IsS156.set_1) | exact HI111.out)); (case side2 => repeat (first | (with_reducible first | exact HB.out | apply below_alloc | apply pw_below_drewN | apply below_drew1 | refine below_set ?_ (IsS156.ge HI111.out)) | exact HB.out)); rintro e w13 ⟨rfl, hi, hb, hk⟩; refine ⟨_, rfl, ?_⟩; have n0_ := Aside0.mk (hb); have n1_ := Aside0.mk (hi); clear HB; clear HI111; have HB := n0_; have HI111 := n1_; clear n0_ n1_; (try clear hb); (try clear hb2); (try clear hk); (try clear hi)) | ((with_reducible refine gate_callee (f := 28) rfl ?_); refine goesL_ (some 13) rfl rfl Tryz.func28 (by kernel_rfl) rfl #[.int .i32 t113] rfl (by (try simp only [List.map_toArray, List.map_cons, List.map_nil]); first | done | rfl | (simp only [List.length_drop, List.length_take]; rfl)) ?_; (with_reducible refine (spec_TxKnown.calls t113 false _ A7.out).mono ?_); rintro e w' ⟨rfl, ⟨nd, rfl⟩⟩; refine ⟨_, rfl, ?_⟩))
              go_ret
              exact ⟨by first | rfl | (simp [errW_none, errW_some] <;> rfl) | (simp [*, errW_none, errW_some] <;> rfl), by repeat (first | (with_reducible first | exact HB.out | apply below_alloc | apply pw_below_drewN | apply below_drew1 | refine below_set ?_ (IsS156.ge HI111.out)) | exact HB.out)⟩
          · replace c10 := Bool.eq_false_iff.mpr c10
            subst c10
            have H1 : (some false) = some r := by rw [if_neg (show ¬ (false = true) by decide)] at H; exact H
            clear H
            have H := H1
            clear H1
            obtain rfl := Option.some.inj H
            go_wp2_with (first | ((with_reducible refine gate_dst (N := 9) rfl ?_); refine nextL_ (some 9) rfl rfl rfl (.pointer (some ⟨g111, 0, none⟩)) rfl ?_; (with_reducible refine (itr_more.calls g111 t109 x112001_1 t112 t113 t114 w _ ?side1 ?side2 A6.out).mono ?_); (case side1 => repeat (first | (with_reducible first | exact HI111.out | apply IsS156.alloc | apply IsS156.drewN | apply IsS156.drew | apply IsS156.set_1) | exact HI111.out)); (case side2 => repeat (first | (with_reducible first | exact HB.out | apply below_alloc | apply pw_below_drewN | apply below_drew1 | refine below_set ?_ (IsS156.ge HI111.out)) | exact HB.out)); rintro e w14 ⟨rfl, hi, hb, hk⟩; refine ⟨_, rfl, ?_⟩; have n0_ := Aside0.mk (hb); have n1_ := Aside0.mk (hi); clear HB; clear HI111; have HB := n0_; have HI111 := n1_; clear n0_ n1_; (try clear hb); (try clear hb2); (try clear hk); (try clear hi)) | ((with_reducible refine gate_callee (f := 28) rfl ?_); refine goesL_ (some 13) rfl rfl Tryz.func28 (by kernel_rfl) rfl #[.int .i32 t113] rfl (by (try simp only [List.map_toArray, List.map_cons, List.map_nil]); first | done | rfl | (simp only [List.length_drop, List.length_take]; rfl)) ?_; (with_reducible refine (spec_TxKnown.calls t113 false _ A7.out).mono ?_); rintro e w' ⟨rfl, ⟨nd, rfl⟩⟩; refine ⟨_, rfl, ?_⟩))
            go_ret
            exact ⟨by first | rfl | (simp [errW_none, errW_some] <;> rfl) | (simp [*, errW_none, errW_some] <;> rfl), by repeat (first | (with_reducible first | exact HB.out | apply below_alloc | apply pw_below_drewN | apply below_drew1 | refine below_set ?_ (IsS156.ge HI111.out)) | exact HB.out)⟩
      · rw [if_neg c5] at H
        have c5b0 : decide (x112001_1 < (t109.size : Int)) = false := decide_eq_false c5
        clear c5
        replace H := Option.bind_eq_some_iff.mp H
        obtain ⟨t116, A150, H⟩ := H
        replace H : (some true) = some r := H
        have A15 := Aside0.mk A150
        clear A150
        obtain rfl := Option.some.inj H
        go_wp2_with (first | ((with_reducible refine gate_dst (N := 9) rfl ?_); refine nextL_ (some 9) rfl rfl rfl (.pointer (some ⟨g111, 0, none⟩)) rfl ?_; (with_reducible refine (itr_end.calls g111 t109 x112001_1 t116 w _ ?side1 ?side2 A15.out).mono ?_); (case side1 => repeat (first | (with_reducible first | exact HI111.out | apply IsS156.alloc | apply IsS156.drewN | apply IsS156.drew | apply IsS156.set_1) | exact HI111.out)); (case side2 => repeat (first | (with_reducible first | exact HB.out | apply below_alloc | apply pw_below_drewN | apply below_drew1 | refine below_set ?_ (IsS156.ge HI111.out)) | exact HB.out)); rintro e w16 ⟨rfl, hi, hb, hk⟩; refine ⟨_, rfl, ?_⟩; have n0_ := Aside0.mk (hb); have n1_ := Aside0.mk (hi); clear HB; clear HI111; have HB := n0_; have HI111 := n1_; clear n0_ n1_; (try clear hb); (try clear hb2); (try clear hk); (try clear hi)))
        go_ret
        exact ⟨by first | rfl | (simp [errW_none, errW_some] <;> rfl) | (simp [*, errW_none, errW_some] <;> rfl), by repeat (first | (with_reducible first | exact HB.out | apply below_alloc | apply pw_below_drewN | apply below_drew1 | refine below_set ?_ (IsS156.ge HI111.out)) | exact HB.out)⟩

/-! ### spec_LsRight: function 5 -/
def spec_LsRight.l0 : Nat → List (S33) → List (S33) → Int → Int → Option (Bool)
  | 0, _, _, _, _ => none
  | k + 1, x0, x6, x7, x8 => if x8 < x7 then (if 0 ≤ x8 then (if x8 < (x6.length : Int) then (if x8 > 0 then (if 0 ≤ (wrap64 (x8 - 1)) then (if (wrap64 (x8 - 1)) < (x0.length : Int) then (if ((rd_T33 x6 x8).f1) < 0 then (some false) else (if ((rd_T33 x6 x8).f1) > (wrap64 (((rd_T33 x0 (wrap64 (x8 - 1))).f1) + 1)) then (some false) else (if (((rd_T33 x6 x8).f0).size : Int) > 200 then (some false) else ((spec_TxSimple.f k ((rd_T33 x6 x8).f0) false).bind fun t120 => (if t120 = true then (spec_LsRight.l0 k x0 x6 x7 (wrap64 (x8 + 1))) else (some false)))))) else (none)) else (none)) else (if ((rd_T33 x6 x8).f1) < 0 then (some false) else (if ((rd_T33 x6 x8).f1) > 0 then (some false) else (if (((rd_T33 x6 x8).f0).size : Int) > 200 then (some false) else ((spec_TxSimple.f k ((rd_T33 x6 x8).f0) false).bind fun t121 => (if t121 = true then (spec_LsRight.l0 k x0 x6 x7 (wrap64 (x8 + 1))) else (some false))))))) else (none)) else (none)) else (some (decide ((x0.length : Int) ≤ 60)))
def spec_LsRight.f (k : Nat) (l0 : List (S33)) : Option (Bool) := spec_LsRight.l0 k l0 l0 (l0.length : Int) 0
theorem spec_LsRight.mono_l : ∀ k, (∀ y0 y1 y2 y3, LeO (spec_LsRight.l0 k y0 y1 y2 y3) (spec_LsRight.l0 (k + 1) y0 y1 y2 y3))
  | 0 => fun _ _ _ _ r h => by simp [spec_LsRight.l0] at h
  | k + 1 => by
    have ih0 := spec_LsRight.mono_l k
    · intro y0 y1 y2 y3
      unfold spec_LsRight.l0
      repeat' first
      | (with_reducible exact ih0 _ _ _ _)
      | (with_reducible exact spec_TxSimple.mono _ _ _)
      | (with_reducible exact LeO.refl _)
      | (with_reducible exact LeO.none _)
      | (with_reducible refine LeO.ite ?_ ?_)
      | (with_reducible refine LeO.bind ?_ (fun _ => ?_))
      | exact ih0 _ _ _ _
      | exact spec_TxSimple.mono _ _ _
      | exact LeO.none _
      | refine LeO.ite ?_ ?_
      | refine LeO.bind ?_ (fun _ => ?_)
theorem spec_LsRight.mono : ∀ a0 k, LeO (spec_LsRight.f k a0) (spec_LsRight.f (k + 1) a0) := by
  intro a0 k
  have ih0 := spec_LsRight.mono_l k
  unfold spec_LsRight.f
  repeat' first
      | (with_reducible exact ih0 _ _ _ _)
      | (with_reducible exact spec_TxSimple.mono _ _ _)
      | (with_reducible exact LeO.refl _)
      | (with_reducible exact LeO.none _)
      | (with_reducible refine LeO.ite ?_ ?_)
      | (with_reducible refine LeO.bind ?_ (fun _ => ?_))
      | exact ih0 _ _ _ _
      | exact spec_TxSimple.mono _ _ _
      | exact LeO.none _
      | refine LeO.ite ?_ ?_
      | refine LeO.bind ?_ (fun _ => ?_)
set_option maxHeartbeats 8000000 in
set_option maxRecDepth 100000 in
theorem spec_LsRight.calls (k : Nat) (A0 : Option Addr) (c0 : Nat) (l0 : List (S33)) (r : Bool) (w : World) (hr0 : Kd.C k33 w A0 l0.length l0) (hc0 : l0.length ≤ c0) (h : spec_LsRight.f k l0 = some r) :
    Calls Tryz.prog 5 #[.slice A0 l0.length c0] w fun e w' => e = .returned (.bool r) ∧ Below w.heap.size w w' := by
  have hu33 := Tryz.underlying33
  have HR0 := Aside0.mk hr0
  have HC0 := Aside0.mk hc0
  clear hr0 hc0
  have HB := Aside0.mk (Below.refl w.heap.size w)
  have H : (spec_LsRight.l0 k l0 l0 (l0.length : Int) 0) = some r := h
  clear h
  have H' := Aside0.mk H
  clear H
  go_enter Tryz.func5, Tryz.ntmps5
  go_wp2
  (try simp only [Act.put, List.setIfInBounds_toArray, List.set_cons_zero, List.set_cons_succ])
  go_loopg [8] k (fun kq v8 w' => ∃ (x8_1 : Int), v8 = .int .i64 x8_1 ∧ Aside0 (spec_LsRight.l0 kq l0 l0 (l0.length : Int) x8_1 = some r) ∧ Aside0 (kq ≤ k) ∧ Aside0 (Below w.heap.size w w'))
  case atStart => exact ⟨(0), (by first | rfl | (simp; done) | (simp [*]; done)), H', ⟨Nat.le_refl _⟩, ⟨by repeat (first | (with_reducible first | exact HB.out | apply below_alloc | apply pw_below_drewN | apply below_drew1) | exact HB.out)⟩⟩
  case round =>
    clear H'
    obtain ⟨x8_1, rfl, HA, HK1, HB⟩ := hrel
    cases gk with
    | zero => exact absurd HA.out (by simp [spec_LsRight.l0])
    | succ k1 =>
      have H := HA.out
      clear HA
      simp only [spec_LsRight.l0] at H
      by_cases c2 : x8_1 < (l0.length : Int)
      · rw [if_pos c2] at H
        have c2b0 : decide (x8_1 < (l0.length : Int)) = true := decide_eq_true c2
        clear c2
        by_cases c3 : 0 ≤ x8_1
        · rw [if_pos c3] at H
          have c3b0 : decide (0 ≤ x8_1) = true := decide_eq_true c3
          clear c3
          by_cases c4 : x8_1 < (l0.length : Int)
          · rw [if_pos c4] at H
            have c4b0 : decide (x8_1 < (l0.length : Int)) = true := decide_eq_true c4
            clear c4
            by_cases c5 : x8_1 > 0
            · rw [if_pos c5] at H
              have c5b0 : decide (0 < x8_1) = true := decide_eq_true c5
              clear c5
              obtain ⟨ji6, hji6⟩ : ∃ j_ : Int, (wrap64 (x8_1 - 1)) = j_ := ⟨_, rfl⟩
              replace H : (if 0 ≤ (ji6) then (if (ji6) < (l0.length : Int) then (if ((rd_T33 l0 x8_1).f1) < 0 then (some false) else (if ((rd_T33 l0 x8_1).f1) > (wrap64 (((rd_T33 l0 (ji6)).f1) + 1)) then (some false) else (if (((rd_T33 l0 x8_1).f0).size : Int) > 200 then (some false) else ((spec_TxSimple.f k1 ((rd_T33 l0 x8_1).f0) false).bind fun t120 => (if t120 = true then (spec_LsRight.l0 k1 l0 l0 (l0.length : Int) (wrap64 (x8_1 + 1))) else (some false)))))) else (none)) else (none)) = some r := by first | (rw [hji6] at H; exact H) | (simp only [hji6] at H ⊢; exact H)
              have hji6w : (IntKind.i64.wrap (x8_1 - 1)) = ji6 := (i64_w _).trans hji6
              by_cases c7 : 0 ≤ (ji6)
              · rw [if_pos c7] at H
                have c7b0 : decide (0 ≤ (ji6)) = true := decide_eq_true c7
                clear c7
                by_cases c8 : (ji6) < (l0.length : Int)
                · rw [if_pos c8] at H
                  have c8b0 : decide ((ji6) < (l0.length : Int)) = true := decide_eq_true c8
                  clear c8
                  by_cases c9 : ((rd_T33 l0 x8_1).f1) < 0
                  · rw [if_pos c9] at H
                    have c9b0 : decide (((rd_T33 l0 x8_1).f1) < 0) = true := decide_eq_true c9
                    clear c9
                    obtain rfl := Option.some.inj H
                    have p117 : 0 ≤ (x8_1 : Int) := of_decide_eq_true (by first | (with_reducible assumption) | assumption)
                    have q117 : x8_1 < (l0.length : Int) := of_decide_eq_true (by first | (with_reducible assumption) | assumption)
                    obtain ⟨ad117, e117, hx117_0, hx117_1⟩ := at_T33 HR0.out x8_1 p117 q117
                    cases e117
                    replace hx117_0 := (HB.out.cell (World.block_lt_of_cell? w _ hx117_0)).trans hx117_0
                    replace hx117_1 := (HB.out.cell (World.block_lt_of_cell? w _ hx117_1)).trans hx117_1
                    replace p117 := eq_true p117
                    replace q117 := eq_true q117
                    go_wp2_with (first | ((with_reducible refine gate_dst (N := 4) rfl ?_); (try (refine gate_guard (by rfl) ?_; dsimp only)); refine box_event ?hg (N := 4) ?hd (cs := #[.string (⟨#[]⟩ : ByteArray), .int .i64 0]) (t := 33) ?hr ?_; (case hd => rfl); (case hg => rfl); (case hr => first | (go_simp; done) | (go_simp; rfl)); intro gb118 hg w10 hbox hb; have n0_ := Aside0.mk (below_step (by repeat (first | (with_reducible first | exact HB.out | apply below_alloc | apply pw_below_drewN | apply below_drew1) | exact HB.out)) hb); have n1_ := Aside0.mk (hbox); have n2_ := Aside0.mk ((by rw [hg]; exact (below_size (by repeat (first | (with_reducible first | exact HB.out | apply below_alloc | apply pw_below_drewN | apply below_drew1) | exact HB.out))) : w.heap.size ≤ gb118)); have n3_ := Aside0.mk ((by rw [hg]; exact (below_size (by repeat (first | (with_reducible first | exact HB.out | apply below_alloc | apply pw_below_drewN | apply below_drew1) | exact HB.out))) : w.heap.size ≤ gb118)); clear HB; have HB := n0_; have BK118 := n1_; have GW118 := n2_; have GE118 := n3_; clear n0_ n1_ n2_ n3_; clear hb hbox hg; have hcz11_0 : w10.cell? ⟨gb118, 0, none⟩ = some (.string (⟨#[]⟩ : ByteArray)) := (blk_cell BK118.out 0).trans rfl; have hcz11_1 : w10.cell? ⟨gb118, 1, none⟩ = some (.int .i64 0) := (blk_cell BK118.out 1).trans rfl; have hfz11_0 := blk_frozen BK118.out 0; have hfz11_1 := blk_frozen BK118.out 1; have p119 : 0 ≤ ((ji6) : Int) := of_decide_eq_true (by first | (with_reducible assumption) | assumption); have q119 : (ji6) < (l0.length : Int) := of_decide_eq_true (by first | (with_reducible assumption) | assumption); obtain ⟨ad119, e119, hx119_0, hx119_1⟩ := at_T33 HR0.out (ji6) p119 q119; obtain rfl : ad117 = ad119 := (by injection e119); have hn119_0 : ad117.block ≠ gb118 := Nat.ne_of_lt (Nat.lt_of_lt_of_le (by have := World.block_lt_of_cell? _ _ hx119_0; first | rwa [add_block] at this | exact this) GW118.out); have hn119_1 : ad117.block ≠ gb118 := Nat.ne_of_lt (Nat.lt_of_lt_of_le (by have := World.block_lt_of_cell? _ _ hx119_0; first | rwa [add_block] at this | exact this) GW118.out); replace hx119_0 := (HB.out.cell (World.block_lt_of_cell? w _ hx119_0)).trans hx119_0; replace hx119_1 := (HB.out.cell (World.block_lt_of_cell? w _ hx119_1)).trans hx119_1; replace hx119_0 := (cell_far (p := ⟨gb118, 0, none⟩) (by first | (rw [add_block]; exact hn119_0) | (show (Addr.add _ _).block ≠ _; rw [add_block]; exact hn119_0) | exact hn119_0) (.string ((rd_T33 l0 x8_1).f0))).trans hx119_0; replace hx119_1 := (cell_far (p := ⟨gb118, 0, none⟩) (by first | (rw [add_block]; exact hn119_0) | (show (Addr.add _ _).block ≠ _; rw [add_block]; exact hn119_0) | exact hn119_0) (.string ((rd_T33 l0 x8_1).f0))).trans hx119_1; replace hx119_0 := (cell_far (p := ⟨gb118, 1, none⟩) (by first | (rw [add_block]; exact hn119_1) | (show (Addr.add _ _).block ≠ _; rw [add_block]; exact hn119_1) | exact hn119_1) (.int .i64 ((rd_T33 l0 x8_1).f1))).trans hx119_0; replace hx119_1 := (cell_far (p := ⟨gb118, 1, none⟩) (by first | (rw [add_block]; exact hn119_1) | (show (Addr.add _ _).block ≠ _; rw [add_block]; exact hn119_1) | exact hn119_1) (.int .i64 ((rd_T33 l0 x8_1).f1))).trans hx119_1; clear hn119_0; clear hn119_1; replace p119 := eq_true p119; replace q119 := eq_true q119))
                    go_ret
                    exact ⟨by first | rfl | (simp [errW_none, errW_some] <;> rfl) | (simp only [← hji6]; first | rfl | (simp [errW_none, errW_some] <;> rfl)) | (simp [*, errW_none, errW_some] <;> rfl), by repeat (first | (with_reducible first | exact HB.out | apply below_alloc | apply pw_below_drewN | apply below_drew1 | refine below_set ?_ GE118.out) | exact HB.out)⟩
                  · rw [if_neg c9] at H
                    have c9b0 : decide (((rd_T33 l0 x8_1).f1) < 0) = false := decide_eq_false c9
                    clear c9
                    by_cases c12 : ((rd_T33 l0 x8_1).f1) > (wrap64 (((rd_T33 l0 (ji6)).f1) + 1))
                    · rw [if_pos c12] at H
                      have c12b0 : decide ((wrap64 (((rd_T33 l0 (ji6)).f1) + 1)) < ((rd_T33 l0 x8_1).f1)) = true := decide_eq_true c12
                      clear c12
                      obtain rfl := Option.some.inj H
                      have p117 : 0 ≤ (x8_1 : Int) := of_decide_eq_true (by first | (with_reducible assumption) | assumption)
                      have q117 : x8_1 < (l0.length : Int) := of_decide_eq_true (by first | (with_reducible assumption) | assumption)
                      obtain ⟨ad117, e117, hx117_0, hx117_1⟩ := at_T33 HR0.out x8_1 p117 q117
                      cases e117
                      replace hx117_0 := (HB.out.cell (World.block_lt_of_cell? w _ hx117_0)).trans hx117_0
                      replace hx117_1 := (HB.out.cell (World.block_lt_of_cell? w _ hx117_1)).trans hx117_1
                      replace p117 := eq_true p117
                      replace q117 := eq_true q117
                      go_wp2_with (first | ((with_reducible refine gate_dst (N := 4) rfl ?_); (try (refine gate_guard (by rfl) ?_; dsimp only)); refine box_event ?hg (N := 4) ?hd (cs := #[.string (⟨#[]⟩ : ByteArray), .int .i64 0]) (t := 33) ?hr ?_; (case hd => rfl); (case hg => rfl); (case hr => first | (go_simp; done) | (go_simp; rfl)); intro gb118 hg w13 hbox hb; have n0_ := Aside0.mk (below_step (by repeat (first | (with_reducible first | exact HB.out | apply below_alloc | apply pw_below_drewN | apply below_drew1) | exact HB.out)) hb); have n1_ := Aside0.mk (hbox); have n2_ := Aside0.mk ((by rw [hg]; exact (below_size (by repeat (first | (with_reducible first | exact HB.out | apply below_alloc | apply pw_below_drewN | apply below_drew1) | exact HB.out))) : w.heap.size ≤ gb118)); have n3_ := Aside0.mk ((by rw [hg]; exact (below_size (by repeat (first | (with_reducible first | exact HB.out | apply below_alloc | apply pw_below_drewN | apply below_drew1) | exact HB.out))) : w.heap.size ≤ gb118)); clear HB; have HB := n0_; have BK118 := n1_; have GW118 := n2_; have GE118 := n3_; clear n0_ n1_ n2_ n3_; clear hb hbox hg; have hcz14_0 : w13.cell? ⟨gb118, 0, none⟩ = some (.string (⟨#[]⟩ : ByteArray)) := (blk_cell BK118.out 0).trans rfl; have hcz14_1 : w13.cell? ⟨gb118, 1, none⟩ = some (.int .i64 0) := (blk_cell BK118.out 1).trans rfl; have hfz14_0 := blk_frozen BK118.out 0; have hfz14_1 := blk_frozen BK118.out 1; have p119 : 0 ≤ ((ji6) : Int) := of_decide_eq_true (by first | (with_reducible assumption) | assumption); have q119 : (ji6) < (l0.length : Int) := of_decide_eq_true (by first | (with_reducible assumption) | assumption); obtain ⟨ad119, e119, hx119_0, hx119_1⟩ := at_T33 HR0.out (ji6) p119 q119; obtain rfl : ad117 = ad119 := (by injection e119); have hn119_0 : ad117.block ≠ gb118 := Nat.ne_of_lt (Nat.lt_of_lt_of_le (by have := World.block_lt_of_cell? _ _ hx119_0; first | rwa [add_block] at this | exact this) GW118.out); have hn119_1 : ad117.block ≠ gb118 := Nat.ne_of_lt (Nat.lt_of_lt_of_le (by have := World.block_lt_of_cell? _ _ hx119_0; first | rwa [add_block] at this | exact this) GW118.out); replace hx119_0 := (HB.out.cell (World.block_lt_of_cell? w _ hx119_0)).trans hx119_0; replace hx119_1 := (HB.out.cell (World.block_lt_of_cell? w _ hx119_1)).trans hx119_1; replace hx119_0 := (cell_far (p := ⟨gb118, 0, none⟩) (by first | (rw [add_block]; exact hn119_0) | (show (Addr.add _ _).block ≠ _; rw [add_block]; exact hn119_0) | exact hn119_0) (.string ((rd_T33 l0 x8_1).f0))).trans hx119_0; replace hx119_1 := (cell_far (p := ⟨gb118, 0, none⟩) (by first | (rw [add_block]; exact hn119_0) | (show (Addr.add _ _).block ≠ _; rw [add_block]; exact hn119_0) | exact hn119_0) (.string ((rd_T33 l0 x8_1).f0))).trans hx119_1; replace hx119_0 := (cell_far (p := ⟨gb118, 1, none⟩) (by first | (rw [add_block]; exact hn119_1) | (show (Addr.add _ _).block ≠ _; rw [add_block]; exact hn119_1) | exact hn119_1) (.int .i64 ((rd_T33 l0 x8_1).f1))).trans hx119_0; replace hx119_1 := (cell_far (p := ⟨gb118, 1, none⟩) (by first | (rw [add_block]; exact hn119_1) | (show (Addr.add _ _).block ≠ _; rw [add_block]; exact hn119_1) | exact hn119_1) (.int .i64 ((rd_T33 l0 x8_1).f1))).trans hx119_1; clear hn119_0; clear hn119_1; replace p119 := eq_true p119; replace q119 := eq_true q119))
                      go_ret
                      exact ⟨by first | rfl | (simp [errW_none, errW_some] <;> rfl) | (simp only [← hji6]; first | rfl | (simp [errW_none, errW_some] <;> rfl)) | (simp [*, errW_none, errW_some] <;> rfl), by repeat (first | (with_reducible first | exact HB.out | apply below_alloc | apply pw_below_drewN | apply below_drew1 | refine below_set ?_ GE118.out) | exact HB.out)⟩
                    · rw [if_neg c12] at H
                      have c12b0 : decide ((wrap64 (((rd_T33 l0 (ji6)).f1) + 1)) < ((rd_T33 l0 x8_1).f1)) = false := decide_eq_false c12
                      clear c12
                      by_cases c15 : (((rd_T33 l0 x8_1).f0).size : Int) > 200
                      · rw [if_pos c15] at H
                        have c15b0 : decide (200 < (((rd_T33 l0 x8_1).f0).size : Int)) = true := decide_eq_true c15
                        have c15b1 : decide (200 < ((rd_T33 l0 x8_1).f0).size) = true := decide_eq_true (by omega)
                        clear c15
                        obtain rfl := Option.some.inj H
                        have p117 : 0 ≤ (x8_1 : Int) := of_decide_eq_true (by first | (with_reducible assumption) | assumption)
                        have q117 : x8_1 < (l0.length : Int) := of_decide_eq_true (by first | (with_reducible assumption) | assumption)
                        obtain ⟨ad117, e117, hx117_0, hx117_1⟩ := at_T33 HR0.out x8_1 p117 q117
                        cases e117
                        replace hx117_0 := (HB.out.cell (World.block_lt_of_cell? w _ hx117_0)).trans hx117_0
                        replace hx117_1 := (HB.out.cell (World.block_lt_of_cell? w _ hx117_1)).trans hx117_1
                        replace p117 := eq_true p117
                        replace q117 := eq_true q117
                        go_wp2_with (first | ((with_reducible refine gate_dst (N := 4) rfl ?_); (try (refine gate_guard (by rfl) ?_; dsimp only)); refine box_event ?hg (N := 4) ?hd (cs := #[.string (⟨#[]⟩ : ByteArray), .int .i64 0]) (t := 33) ?hr ?_; (case hd => rfl); (case hg => rfl); (case hr => first | (go_simp; done) | (go_simp; rfl)); intro gb118 hg w16 hbox hb; have n0_ := Aside0.mk (below_step (by repeat (first | (with_reducible first | exact HB.out | apply below_alloc | apply pw_below_drewN | apply below_drew1) | exact HB.out)) hb); have n1_ := Aside0.mk (hbox); have n2_ := Aside0.mk ((by rw [hg]; exact (below_size (by repeat (first | (with_reducible first | exact HB.out | apply below_alloc | apply pw_below_drewN | apply below_drew1) | exact HB.out))) : w.heap.size ≤ gb118)); have n3_ := Aside0.mk ((by rw [hg]; exact (below_size (by repeat (first | (with_reducible first | exact HB.out | apply below_alloc | apply pw_below_drewN | apply below_drew1) | exact HB.out))) : w.heap.size ≤ gb118)); clear HB; have HB := n0_; have BK118 := n1_; have GW118 := n2_; have GE118 := n3_; clear n0_ n1_ n2_ n3_; clear hb hbox hg; have hcz17_0 : w16.cell? ⟨gb118, 0, none⟩ = some (.string (⟨#[]⟩ : ByteArray)) := (blk_cell BK118.out 0).trans rfl; have hcz17_1 : w16.cell? ⟨gb118, 1, none⟩ = some (.int .i64 0) := (blk_cell BK118.out 1).trans rfl; have hfz17_0 := blk_frozen BK118.out 0; have hfz17_1 := blk_frozen BK118.out 1; have p119 : 0 ≤ ((ji6) : Int) := of_decide_eq_true (by first | (with_reducible assumption) | assumption); have q119 : (ji6) < (l0.length : Int) := of_decide_eq_true (by first | (with_reducible assumption) | assumption); obtain ⟨ad119, e119, hx119_0, hx119_1⟩ := at_T33 HR0.out (ji6) p119 q119; obtain rfl : ad117 = ad119 := (by injection e119); have hn119_0 : ad117.block ≠ gb118 := Nat.ne_of_lt (Nat.lt_of_lt_of_le (by have := World.block_lt_of_cell? _ _ hx119_0; first | rwa [add_block] at this | exact this) GW118.out); have hn119_1 : ad117.block ≠ gb118 := Nat.ne_of_lt (Nat.lt_of_lt_of_le (by have := World.block_lt_of_cell? _ _ hx119_0; first | rwa [add_block] at this | exact this) GW118.out); replace hx119_0 := (HB.out.cell (World.block_lt_of_cell? w _ hx119_0)).trans hx119_0; replace hx119_1 := (HB.out.cell (World.block_lt_of_cell? w _ hx119_1)).trans hx119_1; replace hx119_0 := (cell_far (p := ⟨gb118, 0, none⟩) (by first | (rw [add_block]; exact hn119_0) | (show (Addr.add _ _).block ≠ _; rw [add_block]; exact hn119_0) | exact hn119_0) (.string ((rd_T33 l0 x8_1).f0))).trans hx119_0; replace hx119_1 := (cell_far (p := ⟨gb118, 0, none⟩) (by first | (rw [add_block]; exact hn119_0) | (show (Addr.add _ _).block ≠ _; rw [add_block]; exact hn119_0) | exact hn119_0) (.string ((rd_T33 l0 x8_1).f0))).trans hx119_1; replace hx119_0 := (cell_far (p := ⟨gb118, 1, none⟩) (by first | (rw [add_block]; exact hn119_1) | (show (Addr.add _ _).block ≠ _; rw [add_block]; exact hn119_1) | exact hn119_1) (.int .i64 ((rd_T33 l0 x8_1).f1))).trans hx119_0; replace hx119_1 := (cell_far (p := ⟨gb118, 1, none⟩) (by first | (rw [add_block]; exact hn119_1) | (show (Addr.add _ _).block ≠ _; rw [add_block]; exact hn119_1) | exact hn119_1) (.int .i64 ((rd_T33 l0 x8_1).f1))).trans hx119_1; clear hn119_0; clear hn119_1; replace p119 := eq_true p119; replace q119 := eq_true q119))
                        go_ret
                        exact ⟨by first | rfl | (simp [errW_none, errW_some] <;> rfl) | (simp only [← hji6]; first | rfl | (simp [errW_none, errW_some] <;> rfl)) | (simp [*, errW_none, errW_some] <;> rfl), by repeat (first | (with_reducible first | exact HB.out | apply below_alloc | apply pw_below_drewN | apply below_drew1 | refine below_set ?_ GE118.out) | exact HB.out)⟩
                      · rw [if_neg c15] at H
                        have c15b0 : decide (200 < (((rd_T33 l0 x8_1).f0).size : Int)) = false := decide_eq_false c15
                        have c15b1 : decide (200 < ((rd_T33 l0 x8_1).f0).size) = false := decide_eq_false (by omega)
                        clear c15
                        replace H := Option.bind_eq_some_iff.mp H
                        obtain ⟨t120, A180, H⟩ := H
                        replace H : (if t120 = true then (spec_LsRight.l0 k1 l0 l0 (l0.length : Int) (wrap64 (x8_1 + 1))) else (some false)) = some r := H
                        have A18 := Aside0.mk A180
                        clear A180
                        by_cases c19 : t120 = true
                        · subst c19
                          have H1 : (spec_LsRight.l0 k1 l0 l0 (l0.length : Int) (wrap64 (x8_1 + 1))) = some r := by rw [if_pos rfl] at H; exact H
                          clear H
                          have H := H1
                          clear H1
                          have H' := Aside0.mk H
                          clear H
                          have p117 : 0 ≤ (x8_1 : Int) := of_decide_eq_true (by first | (with_reducible assumption) | assumption)
                          have q117 : x8_1 < (l0.length : Int) := of_decide_eq_true (by first | (with_reducible assumption) | assumption)
                          obtain ⟨ad117, e117, hx117_0, hx117_1⟩ := at_T33 HR0.out x8_1 p117 q117
                          cases e117
                          replace hx117_0 := (HB.out.cell (World.block_lt_of_cell? w _ hx117_0)).trans hx117_0
                          replace hx117_1 := (HB.out.cell (World.block_lt_of_cell? w _ hx117_1)).trans hx117_1
                          replace p117 := eq_true p117
                          replace q117 := eq_true q117
                          go_wp2_with (first | ((with_reducible refine gate_dst (N := 4) rfl ?_); (try (refine gate_guard (by rfl) ?_; dsimp only)); refine box_event ?hg (N := 4) ?hd (cs := #[.string (⟨#[]⟩ : ByteArray), .int .i64 0]) (t := 33) ?hr ?_; (case hd => rfl); (case hg => rfl); (case hr => first | (go_simp; done) | (go_simp; rfl)); intro gb118 hg w20 hbox hb; have n0_ := Aside0.mk (below_step (by repeat (first | (with_reducible first | exact HB.out | apply below_alloc | apply pw_below_drewN | apply below_drew1) | exact HB.out)) hb); have n1_ := Aside0.mk (hbox); have n2_ := Aside0.mk ((by rw [hg]; exact (below_size (by repeat (first | (with_reducible first | exact HB.out | apply below_alloc | apply pw_below_drewN | apply below_drew1) | exact HB.out))) : w.heap.size ≤ gb118)); have n3_ := Aside0.mk ((by rw [hg]; exact (below_size (by repeat (first | (with_reducible first | exact HB.out | apply below_alloc | apply pw_below_drewN | apply below_drew1) | exact HB.out))) : w.heap.size ≤ gb118)); clear HB; have HB := n0_; have BK118 := n1_; have GW118 := n2_; have GE118 := n3_; clear n0_ n1_ n2_ n3_; clear hb hbox hg; have hcz21_0 : w20.cell? ⟨gb118, 0, none⟩ = some (.string (⟨#[]⟩ : ByteArray)) := (blk_cell BK118.out 0).trans rfl; have hcz21_1 : w20.cell? ⟨gb118, 1, none⟩ = some (.int .i64 0) := (blk_cell BK118.out 1).trans rfl; have hfz21_0 := blk_frozen BK118.out 0; have hfz21_1 := blk_frozen BK118.out 1; have p119 : 0 ≤ ((ji6) : Int) := of_decide_eq_true (by first | (with_reducible assumption) | assumption); have q119 : (ji6) < (l0.length : Int) := of_decide_eq_true (by first | (with_reducible assumption) | assumption); obtain ⟨ad119, e119, hx119_0, hx119_1⟩ := at_T33 HR0.out (ji6) p119 q119; obtain rfl : ad117 = ad119 := (by injection e119); have hn119_0 : ad117.block ≠ gb118 := Nat.ne_of_lt (Nat.lt_of_lt_of_le (by have := World.block_lt_of_cell? _ _ hx119_0; first | rwa [add_block] at this | exact this) GW118.out); have hn119_1 : ad117.block ≠ gb118 := Nat.ne_of_lt (Nat.lt_of_lt_of_le (by have := World.block_lt_of_cell? _ _ hx119_0; first | rwa [add_block] at this | exact this) GW118.out); replace hx119_0 := (HB.out.cell (World.block_lt_of_cell? w _ hx119_0)).trans hx119_0; replace hx119_1 := (HB.out.cell (World.block_lt_of_cell? w _ hx119_1)).trans hx119_1; replace hx119_0 := (cell_far (p := ⟨gb118, 0, none⟩) (by first | (rw [add_block]; exact hn119_0) | (show (Addr.add _ _).block ≠ _; rw [add_block]; exact hn119_0) | exact hn119_0) (.string ((rd_T33 l0 x8_1).f0))).trans hx119_0; replace hx119_1 := (cell_far (p := ⟨gb118, 0, none⟩) (by first | (rw [add_block]; exact hn119_0) | (show (Addr.add _ _).block ≠ _; rw [add_block]; exact hn119_0) | exact hn119_0) (.string ((rd_T33 l0 x8_1).f0))).trans hx119_1; replace hx119_0 := (cell_far (p := ⟨gb118, 1, none⟩) (by first | (rw [add_block]; exact hn119_1) | (show (Addr.add _ _).block ≠ _; rw [add_block]; exact hn119_1) | exact hn119_1) (.int .i64 ((rd_T33 l0 x8_1).f1))).trans hx119_0; replace hx119_1 := (cell_far (p := ⟨gb118, 1, none⟩) (by first | (rw [add_block]; exact hn119_1) | (show (Addr.add _ _).block ≠ _; rw [add_block]; exact hn119_1) | exact hn119_1) (.int .i64 ((rd_T33 l0 x8_1).f1))).trans hx119_1; clear hn119_0; clear hn119_1; replace p119 := eq_true p119; replace q119 := eq_true q119) | (go_at_call 12; (with_reducible refine (spec_TxSimple.calls k1 ((rd_T33 l0 x8_1).f0) false true _ A18.out).mono ?_); rintro e w22 ⟨rfl, hb⟩; have n0_ := Aside0.mk (blk_below (g := gb118) (o := .cells #[.string ((rd_T33 l0 x8_1).f0), .int .i64 ((rd_T33 l0 x8_1).f1)] 33 (0, 0)) (by (with_reducible repeat (first | refine blk_drewN ?_ _ | refine blk_drew ?_ | refine blk_alloc ?_ _)); refine blk_put (cs := #[.string ((rd_T33 l0 x8_1).f0), .int .i64 0]) ?_ 1 _ rfl; (with_reducible repeat (first | refine blk_drewN ?_ _ | refine blk_drew ?_ | refine blk_alloc ?_ _)); refine blk_put (cs := #[.string (⟨#[]⟩ : ByteArray), .int .i64 0]) ?_ 0 _ rfl; (with_reducible repeat (first | refine blk_drewN ?_ _ | refine blk_drew ?_ | refine blk_alloc ?_ _)); exact BK118.out) hb); have n1_ := Aside0.mk (below_step (by repeat (first | (with_reducible first | exact HB.out | apply below_alloc | apply pw_below_drewN | apply below_drew1 | refine below_set ?_ GE118.out) | exact HB.out)) hb); clear BK118; clear HB; have BK118 := n0_; have HB := n1_; clear n0_ n1_; (try clear hb); (try clear hb2); (try clear hk); (try clear hi)))
                          go_roundg k1
                          case measure => have := HK1.out; omega
                          case rel => exact ⟨(wrap64 (x8_1 + 1)), (by first | rfl | (simp; done) | (simp [*]; done)), H', ⟨by have := HK1.out; omega⟩, ⟨by repeat (first | (with_reducible first | exact HB.out | apply below_alloc | apply pw_below_drewN | apply below_drew1 | refine below_set ?_ GE118.out) | exact HB.out)⟩⟩
                        · replace c19 := Bool.eq_false_iff.mpr c19
                          subst c19
                          have H1 : (some false) = some r := by rw [if_neg (show ¬ (false = true) by decide)] at H; exact H
                          clear H
                          have H := H1
                          clear H1
                          obtain rfl := Option.some.inj H
                          have p117 : 0 ≤ (x8_1 : Int) := of_decide_eq_true (by first | (with_reducible assumption) | assumption)
                          have q117 : x8_1 < (l0.length : Int) := of_decide_eq_true (by first | (with_reducible assumption) | assumption)
                          obtain ⟨ad117, e117, hx117_0, hx117_1⟩ := at_T33 HR0.out x8_1 p117 q117
                          cases e117
                          replace hx117_0 := (HB.out.cell (World.block_lt_of_cell? w _ hx117_0)).trans hx117_0
                          replace hx117_1 := (HB.out.cell (World.block_lt_of_cell? w _ hx117_1)).trans hx117_1
                          replace p117 := eq_true p117
                          replace q117 := eq_true q117
                          go_wp2_with (first | ((with_reducible refine gate_dst (N := 4) rfl ?_); (try (refine gate_guard (by rfl) ?_; dsimp only)); refine box_event ?hg (N := 4) ?hd (cs := #[.string (⟨#[]⟩ : ByteArray), .int .i64 0]) (t := 33) ?hr ?_; (case hd => rfl); (case hg => rfl); (case hr => first | (go_simp; done) | (go_simp; rfl)); intro gb118 hg w23 hbox hb; have n0_ := Aside0.mk (below_step (by repeat (first | (with_reducible first | exact HB.out | apply below_alloc | apply pw_below_drewN | apply below_drew1) | exact HB.out)) hb); have n1_ := Aside0.mk (hbox); have n2_ := Aside0.mk ((by rw [hg]; exact (below_size (by repeat (first | (with_reducible first | exact HB.out | apply below_alloc | apply pw_below_drewN | apply below_drew1) | exact HB.out))) : w.heap.size ≤ gb118)); have n3_ := Aside0.mk ((by rw [hg]; exact (below_size (by repeat (first | (with_reducible first | exact HB.out | apply below_alloc | apply pw_below_drewN | apply below_drew1) | exact HB.out))) : w.heap.size ≤ gb118)); clear HB; have HB := n0_; have BK118 := n1_; have GW118 := n2_; have GE118 := n3_; clear n0_ n1_ n2_ n3_; clear hb hbox hg; have hcz24_0 : w23.cell? ⟨gb118, 0, none⟩ = some (.string (⟨#[]⟩ : ByteArray)) := (blk_cell BK118.out 0).trans rfl; have hcz24_1 : w23.cell? ⟨gb118, 1, none⟩ = some (.int .i64 0) := (blk_cell BK118.out 1).trans rfl; have hfz24_0 := blk_frozen BK118.out 0; have hfz24_1 := blk_frozen BK118.out 1; have p119 : 0 ≤ ((ji6) : Int) := of_decide_eq_true (by first | (with_reducible assumption) | assumption); have q119 : (ji6) < (l0.length : Int) := of_decide_eq_true (by first | (with_reducible assumption) | assumption); obtain ⟨ad119, e119, hx119_0, hx119_1⟩ := at_T33 HR0.out (ji6) p119 q119; obtain rfl : ad117 = ad119 := (by injection e119); have hn119_0 : ad117.block ≠ gb118 := Nat.ne_of_lt (Nat.lt_of_lt_of_le (by have := World.block_lt_of_cell? _ _ hx119_0; first | rwa [add_block] at this | exact this) GW118.out); have hn119_1 : ad117.block ≠ gb118 := Nat.ne_of_lt (Nat.lt_of_lt_of_le (by have := World.block_lt_of_cell? _ _ hx119_0; first | rwa [add_block] at this | exact this) GW118.out); replace hx119_0 := (HB.out.cell (World.block_lt_of_cell? w _ hx119_0)).trans hx119_0; replace hx119_1 := (HB.out.cell (World.block_lt_of_cell? w _ hx119_1)).trans hx119_1; replace hx119_0 := (cell_far (p := ⟨gb118, 0, none⟩) (by first | (rw [add_block]; exact hn119_0) | (show (Addr.add _ _).block ≠ _; rw [add_block]; exact hn119_0) | exact hn119_0) (.string ((rd_T33 l0 x8_1).f0))).trans hx119_0; replace hx119_1 := (cell_far (p := ⟨gb118, 0, none⟩) (by first | (rw [add_block]; exact hn119_0) | (show (Addr.add _ _).block ≠ _; rw [add_block]; exact hn119_0) | exact hn119_0) (.string ((rd_T33 l0 x8_1).f0))).trans hx119_1; replace hx119_0 := (cell_far (p := ⟨gb118, 1, none⟩) (by first | (rw [add_block]; exact hn119_1) | (show (Addr.add _ _).block ≠ _; rw [add_block]; exact hn119_1) | exact hn119_1) (.int .i64 ((rd_T33 l0 x8_1).f1))).trans hx119_0; replace hx119_1 := (cell_far (p := ⟨gb118, 1, none⟩) (by first | (rw [add_block]; exact hn119_1) | (show (Addr.add _ _).block ≠ _; rw [add_block]; exact hn119_1) | exact hn119_1) (.int .i64 ((rd_T33 l0 x8_1).f1))).trans hx119_1; clear hn119_0; clear hn119_1; replace p119 := eq_true p119; replace q119 := eq_true q119) | (go_at_call 12; (with_reducible refine (spec_TxSimple.calls k1 ((rd_T33 l0 x8_1).f0) false false _ A18.out).mono ?_); rintro e w25 ⟨rfl, hb⟩; have n0_ := Aside0.mk (blk_below (g := gb118) (o := .cells #[.string ((rd_T33 l0 x8_1).f0), .int .i64 ((rd_T33 l0 x8_1).f1)] 33 (0, 0)) (by (with_reducible repeat (first | refine blk_drewN ?_ _ | refine blk_drew ?_ | refine blk_alloc ?_ _)); refine blk_put (cs := #[.string ((rd_T33 l0 x8_1).f0), .int .i64 0]) ?_ 1 _ rfl; (with_reducible repeat (first | refine blk_drewN ?_ _ | refine blk_drew ?_ | refine blk_alloc ?_ _)); refine blk_put (cs := #[.string (⟨#[]⟩ : ByteArray), .int .i64 0]) ?_ 0 _ rfl; (with_reducible repeat (first | refine blk_drewN ?_ _ | refine blk_drew ?_ | refine blk_alloc ?_ _)); exact BK118.out) hb); have n1_ := Aside0.mk (below_step (by repeat (first | (with_reducible first | exact HB.out | apply below_alloc | apply pw_below_drewN | apply below_drew1 | refine below_set ?_ GE118.out) | exact HB.out)) hb); clear BK118; clear HB; have BK118 := n0_; have HB := n1_; clear n0_ n1_; (try clear hb); (try clear hb2); (try clear hk); (try clear hi)))
                          go_ret
                          exact ⟨by first | rfl | (simp [errW_none, errW_some] <;> rfl) | (simp only [← hji6]; first | rfl | (simp [errW_none, errW_some] <;> rfl)) | (simp [*, errW_none, errW_some] <;> rfl), by repeat (first | (with_reducible first | exact HB.out | apply below_alloc | apply pw_below_drewN | apply below_drew1 | refine below_set ?_ GE118.out) | exact HB.out)⟩
                · rw [if_neg c8] at H
                  exact absurd H (by simp)
              · rw [if_neg c7] at H
                exact absurd H (by simp)
            · rw [if_neg c5] at H
              have c5b0 : decide (0 < x8_1) = false := decide_eq_false c5
              clear c5
              by_cases c26 : ((rd_T33 l0 x8_1).f1) < 0
              · rw [if_pos c26] at H
                have c26b0 : decide (((rd_T33 l0 x8_1).f1) < 0) = true := decide_eq_true c26
                clear c26
                obtain rfl := Option.some.inj H
                have p117 : 0 ≤ (x8_1 : Int) := of_decide_eq_true (by first | (with_reducible assumption) | assumption)
                have q117 : x8_1 < (l0.length : Int) := of_decide_eq_true (by first | (with_reducible assumption) | assumption)
                obtain ⟨ad117, e117, hx117_0, hx117_1⟩ := at_T33 HR0.out x8_1 p117 q117
                cases e117
                replace hx117_0 := (HB.out.cell (World.block_lt_of_cell? w _ hx117_0)).trans hx117_0
                replace hx117_1 := (HB.out.cell (World.block_lt_of_cell? w _ hx117_1)).trans hx117_1
                replace p117 := eq_true p117
                replace q117 := eq_true q117
                go_wp2_with (first | ((with_reducible refine gate_dst (N := 4) rfl ?_); (try (refine gate_guard (by rfl) ?_; dsimp only)); refine box_event ?hg (N := 4) ?hd (cs := #[.string (⟨#[]⟩ : ByteArray), .int .i64 0]) (t := 33) ?hr ?_; (case hd => rfl); (case hg => rfl); (case hr => first | (go_simp; done) | (go_simp; rfl)); intro gb118 hg w27 hbox hb; have n0_ := Aside0.mk (below_step (by repeat (first | (with_reducible first | exact HB.out | apply below_alloc | apply pw_below_drewN | apply below_drew1) | exact HB.out)) hb); have n1_ := Aside0.mk (hbox); have n2_ := Aside0.mk ((by rw [hg]; exact (below_size (by repeat (first | (with_reducible first | exact HB.out | apply below_alloc | apply pw_below_drewN | apply below_drew1) | exact HB.out))) : w.heap.size ≤ gb118)); have n3_ := Aside0.mk ((by rw [hg]; exact (below_size (by repeat (first | (with_reducible first | exact HB.out | apply below_alloc | apply pw_below_drewN | apply below_drew1) | exact HB.out))) : w.heap.size ≤ gb118)); clear HB; have HB := n0_; have BK118 := n1_; have GW118 := n2_; have GE118 := n3_; clear n0_ n1_ n2_ n3_; clear hb hbox hg; have hcz28_0 : w27.cell? ⟨gb118, 0, none⟩ = some (.string (⟨#[]⟩ : ByteArray)) := (blk_cell BK118.out 0).trans rfl; have hcz28_1 : w27.cell? ⟨gb118, 1, none⟩ = some (.int .i64 0) := (blk_cell BK118.out 1).trans rfl; have hfz28_0 := blk_frozen BK118.out 0; have hfz28_1 := blk_frozen BK118.out 1))
                go_ret
                exact ⟨by first | rfl | (simp [errW_none, errW_some] <;> rfl) | (simp [*, errW_none, errW_some] <;> rfl), by repeat (first | (with_reducible first | exact HB.out | apply below_alloc | apply pw_below_drewN | apply below_drew1 | refine below_set ?_ GE118.out) | exact HB.out)⟩
              · rw [if_neg c26] at H
                have c26b0 : decide (((rd_T33 l0 x8_1).f1) < 0) = false := decide_eq_false c26
                clear c26
                by_cases c29 : ((rd_T33 l0 x8_1).f1) > 0
                · rw [if_pos c29] at H
                  have c29b0 : decide (0 < ((rd_T33 l0 x8_1).f1)) = true := decide_eq_true c29
                  clear c29
                  obtain rfl := Option.some.inj H
                  have p117 : 0 ≤ (x8_1 : Int) := of_decide_eq_true (by first | (with_reducible assumption) | assumption)
                  have q117 : x8_1 < (l0.length : Int) := of_decide_eq_true (by first | (with_reducible assumption) | assumption)
                  obtain ⟨ad117, e117, hx117_0, hx117_1⟩ := at_T33 HR0.out x8_1 p117 q117
                  cases e117
                  replace hx117_0 := (HB.out.cell (World.block_lt_of_cell? w _ hx117_0)).trans hx117_0
                  replace hx117_1 := (HB.out.cell (World.block_lt_of_cell? w _ hx117_1)).trans hx117_1
                  replace p117 := eq_true p117
                  replace q117 := eq_true q117
                  go_wp2_with (first | ((with_reducible refine gate_dst (N := 4) rfl ?_); (try (refine gate_guard (by rfl) ?_; dsimp only)); refine box_event ?hg (N := 4) ?hd (cs := #[.string (⟨#[]⟩ : ByteArray), .int .i64 0]) (t := 33) ?hr ?_; (case hd => rfl); (case hg => rfl); (case hr => first | (go_simp; done) | (go_simp; rfl)); intro gb118 hg w30 hbox hb; have n0_ := Aside0.mk (below_step (by repeat (first | (with_reducible first | exact HB.out | apply below_alloc | apply pw_below_drewN | apply below_drew1) | exact HB.out)) hb); have n1_ := Aside0.mk (hbox); have n2_ := Aside0.mk ((by rw [hg]; exact (below_size (by repeat (first | (with_reducible first | exact HB.out | apply below_alloc | apply pw_below_drewN | apply below_drew1) | exact HB.out))) : w.heap.size ≤ gb118)); have n3_ := Aside0.mk ((by rw [hg]; exact (below_size (by repeat (first | (with_reducible first | exact HB.out | apply below_alloc | apply pw_below_drewN | apply below_drew1) | exact HB.out))) : w.heap.size ≤ gb118)); clear HB; have HB := n0_; have BK118 := n1_; have GW118 := n2_; have GE118 := n3_; clear n0_ n1_ n2_ n3_; clear hb hbox hg; have hcz31_0 : w30.cell? ⟨gb118, 0, none⟩ = some (.string (⟨#[]⟩ : ByteArray)) := (blk_cell BK118.out 0).trans rfl; have hcz31_1 : w30.cell? ⟨gb118, 1, none⟩ = some (.int .i64 0) := (blk_cell BK118.out 1).trans rfl; have hfz31_0 := blk_frozen BK118.out 0; have hfz31_1 := blk_frozen BK118.out 1))
                  go_ret
                  exact ⟨by first | rfl | (simp [errW_none, errW_some] <;> rfl) | (simp [*, errW_none, errW_some] <;> rfl), by repeat (first | (with_reducible first | exact HB.out | apply below_alloc | apply pw_below_drewN | apply below_drew1 | refine below_set ?_ GE118.out) | exact HB.out)⟩
                · rw [if_neg c29] at H
                  have c29b0 : decide (0 < ((rd_T33 l0 x8_1).f1)) = false := decide_eq_false c29
                  clear c29
                  by_cases c32 : (((rd_T33 l0 x8_1).f0).size : Int) > 200
                  · rw [if_pos c32] at H
                    have c32b0 : decide (200 < (((rd_T33 l0 x8_1).f0).size : Int)) = true := decide_eq_true c32
                    have c32b1 : decide (200 < ((rd_T33 l0 x8_1).f0).size) = true := decide_eq_true (by omega)
                    clear c32
                    obtain rfl := Option.some.inj H
                    have p117 : 0 ≤ (x8_1 : Int) := of_decide_eq_true (by first | (with_reducible assumption) | assumption)
                    have q117 : x8_1 < (l0.length : Int) := of_decide_eq_true (by first | (with_reducible assumption) | assumption)
                    obtain ⟨ad117, e117, hx117_0, hx117_1⟩ := at_T33 HR0.out x8_1 p117 q117
                    cases e117
                    replace hx117_0 := (HB.out.cell (World.block_lt_of_cell? w _ hx117_0)).trans hx117_0
                    replace hx117_1 := (HB.out.cell (World.block_lt_of_cell? w _ hx117_1)).trans hx117_1
                    replace p117 := eq_true p117
                    replace q117 := eq_true q117
                    go_wp2_with (first | ((with_reducible refine gate_dst (N := 4) rfl ?_); (try (refine gate_guard (by rfl) ?_; dsimp only)); refine box_event ?hg (N := 4) ?hd (cs := #[.string (⟨#[]⟩ : ByteArray), .int .i64 0]) (t := 33) ?hr ?_; (case hd => rfl); (case hg => rfl); (case hr => first | (go_simp; done) | (go_simp; rfl)); intro gb118 hg w33 hbox hb; have n0_ := Aside0.mk (below_step (by repeat (first | (with_reducible first | exact HB.out | apply below_alloc | apply pw_below_drewN | apply below_drew1) | exact HB.out)) hb); have n1_ := Aside0.mk (hbox); have n2_ := Aside0.mk ((by rw [hg]; exact (below_size (by repeat (first | (with_reducible first | exact HB.out | apply below_alloc | apply pw_below_drewN | apply below_drew1) | exact HB.out))) : w.heap.size ≤ gb118)); have n3_ := Aside0.mk ((by rw [hg]; exact (below_size (by repeat (first | (with_reducible first | exact HB.out | apply below_alloc | apply pw_below_drewN | apply below_drew1) | exact HB.out))) : w.heap.size ≤ gb118)); clear HB; have HB := n0_; have BK118 := n1_; have GW118 := n2_; have GE118 := n3_; clear n0_ n1_ n2_ n3_; clear hb hbox hg; have hcz34_0 : w33.cell? ⟨gb118, 0, none⟩ = some (.string (⟨#[]⟩ : ByteArray)) := (blk_cell BK118.out 0).trans rfl; have hcz34_1 : w33.cell? ⟨gb118, 1, none⟩ = some (.int .i64 0) := (blk_cell BK118.out 1).trans rfl; have hfz34_0 := blk_frozen BK118.out 0; have hfz34_1 := blk_frozen BK118.out 1))
                    go_ret
                    exact ⟨by first | rfl | (simp [errW_none, errW_some] <;> rfl) | (simp [*, errW_none, errW_some] <;> rfl), by repeat (first | (with_reducible first | exact HB.out | apply below_alloc | apply pw_below_drewN | apply below_drew1 | refine below_set ?_ GE118.out) | exact HB.out)⟩
                  · rw [if_neg c32] at H
                    have c32b0 : decide (200 < (((rd_T33 l0 x8_1).f0).size : Int)) = false := decide_eq_false c32
                    have c32b1 : decide (200 < ((rd_T33 l0 x8_1).f0).size) = false := decide_eq_false (by omega)
                    clear c32
                    replace H := Option.bind_eq_some_iff.mp H
                    obtain ⟨t121, A350, H⟩ := H
                    replace H : (if t121 = true then (spec_LsRight.l0 k1 l0 l0 (l0.length : Int) (wrap64 (x8_1 + 1))) else (some false)) = some r := H
                    have A35 := Aside0.mk A350
                    clear A350
                    by_cases c36 : t121 = true
                    · subst c36
                      have H1 : (spec_LsRight.l0 k1 l0 l0 (l0.length : Int) (wrap64 (x8_1 + 1))) = some r := by rw [if_pos rfl] at H; exact H
                      clear H
                      have H := H1
                      clear H1
                      have H' := Aside0.mk H
                      clear H
                      have p117 : 0 ≤ (x8_1 : Int) := of_decide_eq_true (by first | (with_reducible assumption) | assumption)
                      have q117 : x8_1 < (l0.length : Int) := of_decide_eq_true (by first | (with_reducible assumption) | assumption)
                      obtain ⟨ad117, e117, hx117_0, hx117_1⟩ := at_T33 HR0.out x8_1 p117 q117
                      cases e117
                      replace hx117_0 := (HB.out.cell (World.block_lt_of_cell? w _ hx117_0)).trans hx117_0
                      replace hx117_1 := (HB.out.cell (World.block_lt_of_cell? w _ hx117_1)).trans hx117_1
                      replace p117 := eq_true p117
                      replace q117 := eq_true q117
                      go_wp2_with (first | ((with_reducible refine gate_dst (N := 4) rfl ?_); (try (refine gate_guard (by rfl) ?_; dsimp only)); refine box_event ?hg (N := 4) ?hd (cs := #[.string (⟨#[]⟩ : ByteArray), .int .i64 0]) (t := 33) ?hr ?_; (case hd => rfl); (case hg => rfl); (case hr => first | (go_simp; done) | (go_simp; rfl)); intro gb118 hg w37 hbox hb; have n0_ := Aside0.mk (below_step (by repeat (first | (with_reducible first | exact HB.out | apply below_alloc | apply pw_below_drewN | apply below_drew1) | exact HB.out)) hb); have n1_ := Aside0.mk (hbox); have n2_ := Aside0.mk ((by rw [hg]; exact (below_size (by repeat (first | (with_reducible first | exact HB.out | apply below_alloc | apply pw_below_drewN | apply below_drew1) | exact HB.out))) : w.heap.size ≤ gb118)); have n3_ := Aside0.mk ((by rw [hg]; exact (below_size (by repeat (first | (with_reducible first | exact HB.out | apply below_alloc | apply pw_below_drewN | apply below_drew1) | exact HB.out))) : w.heap.size ≤ gb118)); clear HB; have HB := n0_; have BK118 := n1_; have GW118 := n2_; have GE118 := n3_; clear n0_ n1_ n2_ n3_; clear hb hbox hg; have hcz38_0 : w37.cell? ⟨gb118, 0, none⟩ = some (.string (⟨#[]⟩ : ByteArray)) := (blk_cell BK118.out 0).trans rfl; have hcz38_1 : w37.cell? ⟨gb118, 1, none⟩ = some (.int .i64 0) := (blk_cell BK118.out 1).trans rfl; have hfz38_0 := blk_frozen BK118.out 0; have hfz38_1 := blk_frozen BK118.out 1) | (go_at_call 12; (with_reducible refine (spec_TxSimple.calls k1 ((rd_T33 l0 x8_1).f0) false true _ A35.out).mono ?_); rintro e w39 ⟨rfl, hb⟩; have n0_ := Aside0.mk (blk_below (g := gb118) (o := .cells #[.string ((rd_T33 l0 x8_1).f0), .int .i64 ((rd_T33 l0 x8_1).f1)] 33 (0, 0)) (by (with_reducible repeat (first | refine blk_drewN ?_ _ | refine blk_drew ?_ | refine blk_alloc ?_ _)); refine blk_put (cs := #[.string ((rd_T33 l0 x8_1).f0), .int .i64 0]) ?_ 1 _ rfl; (with_reducible repeat (first | refine blk_drewN ?_ _ | refine blk_drew ?_ | refine blk_alloc ?_ _)); refine blk_put (cs := #[.string (⟨#[]⟩ : ByteArray), .int .i64 0]) ?_ 0 _ rfl; (with_reducible repeat (first | refine blk_drewN ?_ _ | refine blk_drew ?_ | refine blk_alloc ?_ _)); exact BK118.out) hb); have n1_ := Aside0.mk (below_step (by repeat (first | (with_reducible first | exact HB.out | apply below_alloc | apply pw_below_drewN | apply below_drew1 | refine below_set ?_ GE118.out) | exact HB.out)) hb); clear BK118; clear HB; have BK118 := n0_; have HB := n1_; clear n0_ n1_; (try clear hb); (try clear hb2); (try clear hk); (try clear hi)))
                      go_roundg k1
                      case measure => have := HK1.out; omega
                      case rel => exact ⟨(wrap64 (x8_1 + 1)), (by first | rfl | (simp; done) | (simp [*]; done)), H', ⟨by have := HK1.out; omega⟩, ⟨by repeat (first | (with_reducible first | exact HB.out | apply below_alloc | apply pw_below_drewN | apply below_drew1 | refine below_set ?_ GE118.out) | exact HB.out)⟩⟩
                    · replace c36 := Bool.eq_false_iff.mpr c36
                      subst c36
                      have H1 : (some false) = some r := by rw [if_neg (show ¬ (false = true) by decide)] at H; exact H
                      clear H
                      have H := H1
                      clear H1
                      obtain rfl := Option.some.inj H
                      have p117 : 0 ≤ (x8_1 : Int) := of_decide_eq_true (by first | (with_reducible assumption) | assumption)
                      have q117 : x8_1 < (l0.length : Int) := of_decide_eq_true (by first | (with_reducible assumption) | assumption)
                      obtain ⟨ad117, e117, hx117_0, hx117_1⟩ := at_T33 HR0.out x8_1 p117 q117
                      cases e117
                      replace hx117_0 := (HB.out.cell (World.block_lt_of_cell? w _ hx117_0)).trans hx117_0
                      replace hx117_1 := (HB.out.cell (World.block_lt_of_cell? w _ hx117_1)).trans hx117_1
                      replace p117 := eq_true p117
                      replace q117 := eq_true q117
                      go_wp2_with (first | ((with_reducible refine gate_dst (N := 4) rfl ?_); (try (refine gate_guard (by rfl) ?_; dsimp only)); refine box_event ?hg (N := 4) ?hd (cs := #[.string (⟨#[]⟩ : ByteArray), .int .i64 0]) (t := 33) ?hr ?_; (case hd => rfl); (case hg => rfl); (case hr => first | (go_simp; done) | (go_simp; rfl)); intro gb118 hg w40 hbox hb; have n0_ := Aside0.mk (below_step (by repeat (first | (with_reducible first | exact HB.out | apply below_alloc | apply pw_below_drewN | apply below_drew1) | exact HB.out)) hb); have n1_ := Aside0.mk (hbox); have n2_ := Aside0.mk ((by rw [hg]; exact (below_size (by repeat (first | (with_reducible first | exact HB.out | apply below_alloc | apply pw_below_drewN | apply below_drew1) | exact HB.out))) : w.heap.size ≤ gb118)); have n3_ := Aside0.mk ((by rw [hg]; exact (below_size (by repeat (first | (with_reducible first | exact HB.out | apply below_alloc | apply pw_below_drewN | apply below_drew1) | exact HB.out))) : w.heap.size ≤ gb118)); clear HB; have HB := n0_; have BK118 := n1_; have GW118 := n2_; have GE118 := n3_; clear n0_ n1_ n2_ n3_; clear hb hbox hg; have hcz41_0 : w40.cell? ⟨gb118, 0, none⟩ = some (.string (⟨#[]⟩ : ByteArray)) := (blk_cell BK118.out 0).trans rfl; have hcz41_1 : w40.cell? ⟨gb118, 1, none⟩ = some (.int .i64 0) := (blk_cell BK118.out 1).trans rfl; have hfz41_0 := blk_frozen BK118.out 0; have hfz41_1 := blk_frozen BK118.out 1) | (go_at_call 12; (with_reducible refine (spec_TxSimple.calls k1 ((rd_T33 l0 x8_1).f0) false false _ A35.out).mono ?_); rintro e w42 ⟨rfl, hb⟩; have n0_ := Aside0.mk (blk_below (g := gb118) (o := .cells #[.string ((rd_T33 l0 x8_1).f0), .int .i64 ((rd_T33 l0 x8_1).f1)] 33 (0, 0)) (by (with_reducible repeat (first | refine blk_drewN ?_ _ | refine blk_drew ?_ | refine blk_alloc ?_ _)); refine blk_put (cs := #[.string ((rd_T33 l0 x8_1).f0), .int .i64 0]) ?_ 1 _ rfl; (with_reducible repeat (first | refine blk_drewN ?_ _ | refine blk_drew ?_ | refine blk_alloc ?_ _)); refine blk_put (cs := #[.string (⟨#[]⟩ : ByteArray), .int .i64 0]) ?_ 0 _ rfl; (with_reducible repeat (first | refine blk_drewN ?_ _ | refine blk_drew ?_ | refine blk_alloc ?_ _)); exact BK118.out) hb); have n1_ := Aside0.mk (below_step (by repeat (first | (with_reducible first | exact HB.out | apply below_alloc | apply pw_below_drewN | apply below_drew1 | refine below_set ?_ GE118.out) | exact HB.out)) hb); clear BK118; clear HB; have BK118 := n0_; have HB := n1_; clear n0_ n1_; (try clear hb); (try clear hb2); (try clear hk); (try clear hi)))
                      go_ret
                      exact ⟨by first | rfl | (simp [errW_none, errW_some] <;> rfl) | (simp [*, errW_none, errW_some] <;> rfl), by repeat (first | (with_reducible first | exact HB.out | apply below_alloc | apply pw_below_drewN | apply below_drew1 | refine below_set ?_ GE118.out) | exact HB.out)⟩
          · rw [if_neg c4] at H
            exact absurd H (by simp)
        · rw [if_neg c3] at H
          exact absurd H (by simp)
      · rw [if_neg c2] at H
        have c2b0 : decide (x8_1 < (l0.length : Int)) = false := decide_eq_false c2
        clear c2
        obtain rfl := Option.some.inj H
        go_wp2
        go_ret
        exact ⟨by first | rfl | (simp [errW_none, errW_some] <;> rfl) | (simp [*, errW_none, errW_some] <;> rfl), by repeat (first | (with_reducible first | exact HB.out | apply below_alloc | apply pw_below_drewN | apply below_drew1) | exact HB.out)⟩

/-! ### list_StyleDefault: function 17 -/
def list_StyleDefault.f  : Option (Int × ByteArray × ByteArray × ByteArray × ByteArray × ByteArray × ByteArray × ByteArray × ByteArray × ByteArray) := some (0, (⟨#[42]⟩ : ByteArray), (⟨#[42]⟩ : ByteArray), (⟨#[42]⟩ : ByteArray), (⟨#[42]⟩ : ByteArray), (⟨#[32, 32]⟩ : ByteArray), (⟨#[42]⟩ : ByteArray), (⟨#[10]⟩ : ByteArray), (⟨#[]⟩ : ByteArray), (⟨#[83, 116, 121, 108, 101, 68, 101, 102, 97, 117, 108, 116]⟩ : ByteArray))
set_option maxHeartbeats 8000000 in
set_option maxRecDepth 100000 in
theorem list_StyleDefault.calls  (r1 : Int) (r2 : ByteArray) (r3 : ByteArray) (r4 : ByteArray) (r5 : ByteArray) (r6 : ByteArray) (r7 : ByteArray) (r8 : ByteArray) (r9 : ByteArray) (r10 : ByteArray) (w : World) (h : list_StyleDefault.f  = some (r1, r2, r3, r4, r5, r6, r7, r8, r9, r10)) :
    Calls Tryz.prog 17 #[] w fun e w' => e = .returned (.agg #[.int .i64 r1, .string r2, .string r3, .string r4, .string r5, .string r6, .string r7, .string r8, .string r9, .string r10]) ∧ Below w.heap.size w w' := by
  have hu45 := Tryz.underlying45
  have HB := Aside0.mk (Below.refl w.heap.size w)
  have H : (some (0, (⟨#[42]⟩ : ByteArray), (⟨#[42]⟩ : ByteArray), (⟨#[42]⟩ : ByteArray), (⟨#[42]⟩ : ByteArray), (⟨#[32, 32]⟩ : ByteArray), (⟨#[42]⟩ : ByteArray), (⟨#[10]⟩ : ByteArray), (⟨#[]⟩ : ByteArray), (⟨#[83, 116, 121, 108, 101, 68, 101, 102, 97, 117, 108, 116]⟩ : ByteArray))) = some (r1, r2, r3, r4, r5, r6, r7, r8, r9, r10) := h
  clear h
  simp only [Option.some.injEq, Prod.mk.injEq] at H
  obtain ⟨rfl, rfl, rfl, rfl, rfl, rfl, rfl, rfl, rfl, rfl⟩ := H
  go_enter Tryz.func17, Tryz.ntmps17
  go_wp2_with (first | ((with_reducible refine gate_dst (N := 0) rfl ?_); refine box_event ?hg (N := 0) ?hd (cs := #[.int .i64 0, .string (⟨#[]⟩ : ByteArray), .string (⟨#[]⟩ : ByteArray), .string (⟨#[]⟩ : ByteArray), .string (⟨#[]⟩ : ByteArray), .string (⟨#[]⟩ : ByteArray), .string (⟨#[]⟩ : ByteArray), .string (⟨#[]⟩ : ByteArray), .string (⟨#[]⟩ : ByteArray), .string (⟨#[]⟩ : ByteArray)]) (t := 45) ?hr ?_; (case hd => rfl); (case hg => rfl); (case hr => first | (go_simp; done) | (go_simp; rfl)); intro gb122 hg w1 hbox hb; have n0_ := Aside0.mk (below_step (by repeat (first | (with_reducible first | exact HB.out | apply below_alloc | apply pw_below_drewN | apply below_drew1) | exact HB.out)) hb); have n1_ := Aside0.mk (hbox); have n2_ := Aside0.mk ((by rw [hg]; exact (below_size (by repeat (first | (with_reducible first | exact HB.out | apply below_alloc | apply pw_below_drewN | apply below_drew1) | exact HB.out))) : w.heap.size ≤ gb122)); have n3_ := Aside0.mk ((by rw [hg]; exact (below_size (by repeat (first | (with_reducible first | exact HB.out | apply below_alloc | apply pw_below_drewN | apply below_drew1) | exact HB.out))) : w.heap.size ≤ gb122)); clear HB; have HB := n0_; have BK122 := n1_; have GW122 := n2_; have GE122 := n3_; clear n0_ n1_ n2_ n3_; clear hb hbox hg; have hcz2_0 : w1.cell? ⟨gb122, 0, none⟩ = some (.int .i64 0) := (blk_cell BK122.out 0).trans rfl; have hcz2_1 : w1.cell? ⟨gb122, 1, none⟩ = some (.string (⟨#[]⟩ : ByteArray)) := (blk_cell BK122.out 1).trans rfl; have hcz2_2 : w1.cell? ⟨gb122, 2, none⟩ = some (.string (⟨#[]⟩ : ByteArray)) := (blk_cell BK122.out 2).trans rfl; have hcz2_3 : w1.cell? ⟨gb122, 3, none⟩ = some (.string (⟨#[]⟩ : ByteArray)) := (blk_cell BK122.out 3).trans rfl; have hcz2_4 : w1.cell? ⟨gb122, 4, none⟩ = some (.string (⟨#[]⟩ : ByteArray)) := (blk_cell BK122.out 4).trans rfl; have hcz2_5 : w1.cell? ⟨gb122, 5, none⟩ = some (.string (⟨#[]⟩ : ByteArray)) := (blk_cell BK122.out 5).trans rfl; have hcz2_6 : w1.cell? ⟨gb122, 6, none⟩ = some (.string (⟨#[]⟩ : ByteArray)) := (blk_cell BK122.out 6).trans rfl; have hcz2_7 : w1.cell? ⟨gb122, 7, none⟩ = some (.string (⟨#[]⟩ : ByteArray)) := (blk_cell BK122.out 7).trans rfl; have hcz2_8 : w1.cell? ⟨gb122, 8, none⟩ = some (.string (⟨#[]⟩ : ByteArray)) := (blk_cell BK122.out 8).trans rfl; have hcz2_9 : w1.cell? ⟨gb122, 9, none⟩ = some (.string (⟨#[]⟩ : ByteArray)) := (blk_cell BK122.out 9).trans rfl; have hfz2_0 := blk_frozen BK122.out 0; have hfz2_1 := blk_frozen BK122.out 1; have hfz2_2 := blk_frozen BK122.out 2; have hfz2_3 := blk_frozen BK122.out 3; have hfz2_4 := blk_frozen BK122.out 4; have hfz2_5 := blk_frozen BK122.out 5; have hfz2_6 := blk_frozen BK122.out 6; have hfz2_7 := blk_frozen BK122.out 7; have hfz2_8 := blk_frozen BK122.out 8; have hfz2_9 := blk_frozen BK122.out 9))
  refine bodyPost_ret (results_cell_row rfl _ _ gb122 45 #[.int .i64 0, .string (⟨#[42]⟩ : ByteArray), .string (⟨#[42]⟩ : ByteArray), .string (⟨#[42]⟩ : ByteArray), .string (⟨#[42]⟩ : ByteArray), .string (⟨#[32, 32]⟩ : ByteArray), .string (⟨#[42]⟩ : ByteArray), .string (⟨#[10]⟩ : ByteArray), .string (⟨#[]⟩ : ByteArray), .string (⟨#[83, 116, 121, 108, 101, 68, 101, 102, 97, 117, 108, 116]⟩ : ByteArray)] (0, 0) _ rfl (by (with_reducible repeat (first | refine blk_drewN ?_ _ | refine blk_drew ?_ | refine blk_alloc ?_ _)); refine blk_put (cs := #[.int .i64 0, .string (⟨#[42]⟩ : ByteArray), .string (⟨#[42]⟩ : ByteArray), .string (⟨#[42]⟩ : ByteArray), .string (⟨#[42]⟩ : ByteArray), .string (⟨#[32, 32]⟩ : ByteArray), .string (⟨#[42]⟩ : ByteArray), .string (⟨#[10]⟩ : ByteArray), .string (⟨#[]⟩ : ByteArray), .string (⟨#[]⟩ : ByteArray)]) ?_ 9 _ rfl; (with_reducible repeat (first | refine blk_drewN ?_ _ | refine blk_drew ?_ | refine blk_alloc ?_ _)); refine blk_put (cs := #[.int .i64 0, .string (⟨#[42]⟩ : ByteArray), .string (⟨#[42]⟩ : ByteArray), .string (⟨#[42]⟩ : ByteArray), .string (⟨#[42]⟩ : ByteArray), .string (⟨#[32, 32]⟩ : ByteArray), .string (⟨#[42]⟩ : ByteArray), .string (⟨#[10]⟩ : ByteArray), .string (⟨#[]⟩ : ByteArray), .string (⟨#[]⟩ : ByteArray)]) ?_ 8 _ rfl; (with_reducible repeat (first | refine blk_drewN ?_ _ | refine blk_drew ?_ | refine blk_alloc ?_ _)); refine blk_put (cs := #[.int .i64 0, .string (⟨#[42]⟩ : ByteArray), .string (⟨#[42]⟩ : ByteArray), .string (⟨#[42]⟩ : ByteArray), .string (⟨#[42]⟩ : ByteArray), .string (⟨#[32, 32]⟩ : ByteArray), .string (⟨#[42]⟩ : ByteArray), .string (⟨#[]⟩ : ByteArray), .string (⟨#[]⟩ : ByteArray), .string (⟨#[]⟩ : ByteArray)]) ?_ 7 _ rfl; (with_reducible repeat (first | refine blk_drewN ?_ _ | refine blk_drew ?_ | refine blk_alloc ?_ _)); refine blk_put (cs := #[.int .i64 0, .string (⟨#[42]⟩ : ByteArray), .string (⟨#[42]⟩ : ByteArray), .string (⟨#[42]⟩ : ByteArray), .string (⟨#[42]⟩ : ByteArray), .string (⟨#[32, 32]⟩ : ByteArray), .string (⟨#[]⟩ : ByteArray), .string (⟨#[]⟩ : ByteArray), .string (⟨#[]⟩ : ByteArray), .string (⟨#[]⟩ : ByteArray)]) ?_ 6 _ rfl; (with_reducible repeat (first | refine blk_drewN ?_ _ | refine blk_drew ?_ | refine blk_alloc ?_ _)); refine blk_put (cs := #[.int .i64 0, .string (⟨#[42]⟩ : ByteArray), .string (⟨#[42]⟩ : ByteArray), .string (⟨#[42]⟩ : ByteArray), .string (⟨#[42]⟩ : ByteArray), .string (⟨#[]⟩ : ByteArray), .string (⟨#[]⟩ : ByteArray), .string (⟨#[]⟩ : ByteArray), .string (⟨#[]⟩ : ByteArray), .string (⟨#[]⟩ : ByteArray)]) ?_ 5 _ rfl; (with_reducible repeat (first | refine blk_drewN ?_ _ | refine blk_drew ?_ | refine blk_alloc ?_ _)); refine blk_put (cs := #[.int .i64 0, .string (⟨#[42]⟩ : ByteArray), .string (⟨#[42]⟩ : ByteArray), .string (⟨#[42]⟩ : ByteArray), .string (⟨#[]⟩ : ByteArray), .string (⟨#[]⟩ : ByteArray), .string (⟨#[]⟩ : ByteArray), .string (⟨#[]⟩ : ByteArray), .string (⟨#[]⟩ : ByteArray), .string (⟨#[]⟩ : ByteArray)]) ?_ 4 _ rfl; (with_reducible repeat (first | refine blk_drewN ?_ _ | refine blk_drew ?_ | refine blk_alloc ?_ _)); refine blk_put (cs := #[.int .i64 0, .string (⟨#[42]⟩ : ByteArray), .string (⟨#[42]⟩ : ByteArray), .string (⟨#[]⟩ : ByteArray), .string (⟨#[]⟩ : ByteArray), .string (⟨#[]⟩ : ByteArray), .string (⟨#[]⟩ : ByteArray), .string (⟨#[]⟩ : ByteArray), .string (⟨#[]⟩ : ByteArray), .string (⟨#[]⟩ : ByteArray)]) ?_ 3 _ rfl; (with_reducible repeat (first | refine blk_drewN ?_ _ | refine blk_drew ?_ | refine blk_alloc ?_ _)); refine blk_put (cs := #[.int .i64 0, .string (⟨#[42]⟩ : ByteArray), .string (⟨#[]⟩ : ByteArray), .string (⟨#[]⟩ : ByteArray), .string (⟨#[]⟩ : ByteArray), .string (⟨#[]⟩ : ByteArray), .string (⟨#[]⟩ : ByteArray), .string (⟨#[]⟩ : ByteArray), .string (⟨#[]⟩ : ByteArray), .string (⟨#[]⟩ : ByteArray)]) ?_ 2 _ rfl; (with_reducible repeat (first | refine blk_drewN ?_ _ | refine blk_drew ?_ | refine blk_alloc ?_ _)); refine blk_put (cs := #[.int .i64 0, .string (⟨#[]⟩ : ByteArray), .string (⟨#[]⟩ : ByteArray), .string (⟨#[]⟩ : ByteArray), .string (⟨#[]⟩ : ByteArray), .string (⟨#[]⟩ : ByteArray), .string (⟨#[]⟩ : ByteArray), .string (⟨#[]⟩ : ByteArray), .string (⟨#[]⟩ : ByteArray), .string (⟨#[]⟩ : ByteArray)]) ?_ 1 _ rfl; (with_reducible repeat (first | refine blk_drewN ?_ _ | refine blk_drew ?_ | refine blk_alloc ?_ _)); refine blk_put (cs := #[.int .i64 0, .string (⟨#[]⟩ : ByteArray), .string (⟨#[]⟩ : ByteArray), .string (⟨#[]⟩ : ByteArray), .string (⟨#[]⟩ : ByteArray), .string (⟨#[]⟩ : ByteArray), .string (⟨#[]⟩ : ByteArray), .string (⟨#[]⟩ : ByteArray), .string (⟨#[]⟩ : ByteArray), .string (⟨#[]⟩ : ByteArray)]) ?_ 0 _ rfl; (with_reducible repeat (first | refine blk_drewN ?_ _ | refine blk_drew ?_ | refine blk_alloc ?_ _)); exact BK122.out) Tryz.underlying45 rfl (by kernel_rfl)) rfl ?_
  exact ⟨by first | rfl | (simp [errW_none, errW_some] <;> rfl) | (simp [*, errW_none, errW_some] <;> rfl), by repeat (first | (with_reducible first | exact HB.out | apply below_alloc | apply pw_below_drewN | apply below_drew1 | refine below_set ?_ GE122.out) | exact HB.out)⟩

/-! ### impl_ListPlain: function 6 -/
def impl_ListPlain.f (l0 : List (S41)) : Option (ByteArray) := @ite _ (Lrn.GoodP (l0.map fun x => (x.f0, x.f1))) (Classical.propDecidable _) (some (Lrn.R (l0.map fun x => (x.f0, x.f1)) Lrn.d1 Lrn.d1 Lrn.d1 Lrn.d1 Lrn.d5 Lrn.d1 Lrn.e0)) none
theorem impl_ListPlain.calls (A0 : Option Addr) (c0 : Nat) (l0 : List (S41)) (r : ByteArray) (w : World) (hr0 : Kd.C k41 w A0 l0.length l0) (hc0 : l0.length ≤ c0) (h : impl_ListPlain.f l0 = some r) :
    Calls Tryz.prog 6 #[.slice A0 l0.length c0] w fun e w' => e = .returned (.string r) ∧ Below w.heap.size w w' := by
  unfold impl_ListPlain.f at h
  by_cases hg : Lrn.GoodP (l0.map fun x => (x.f0, x.f1))
  · rw [if_pos hg] at h
    obtain rfl := Option.some.inj h
    obtain ⟨hn, hok⟩ := hg
    refine Lrn.listPlain A0 c0 l0.length _ w (by simp) (by simpa using hn) hok (fun w' hw j hj => ?_)
    obtain ⟨ad, A2, c2, rfl, h0, h1, h2⟩ := at_T41 (Kd.C_below hr0 hw) (j : Int) (Int.natCast_nonneg j) (by simpa using hj)
    have e : rd_T41 l0 (j : Int) = l0[j] := by simp [rd_T41, hj]
    rw [e] at h0 h1 h2
    rw [Int.toNat_natCast] at h0 h1 h2
    have hsp := Lrn.spot_none h0
    refine ⟨ad, (l0[j].f0, l0[j].f1), _, _, _, _, _, rfl, by simp [hj], Lrn.addr_eta hsp, ?_, h1, h2.1⟩
    rw [← Lrn.addr_eta hsp]; exact h0
  · rw [if_neg hg] at h
    exact absurd h (by simp)

/-! ### spec_LsSteps: function 7 -/
mutual
def spec_LsSteps.l0 : Nat → List (S41) → Int → List (S33) → Int → Int → Option ((List (S41)))
  | 0, _, _, _, _, _ => none
  | k + 1, x3, x4, x7, x8, x9 => if x9 < x8 then (if 0 ≤ x9 then (if x9 < (x7.length : Int) then (spec_LsSteps.l1 k x3 x4 x7 x8 x9 ((rd_T33 x7 x9).f0) ((rd_T33 x7 x9).f1)) else (none)) else (none)) else (some x3)
def spec_LsSteps.l1 : Nat → List (S41) → Int → List (S33) → Int → Int → ByteArray → Int → Option ((List (S41)))
  | 0, _, _, _, _, _, _, _ => none
  | k + 1, x3, x4, x7, x8, x9, x125000, x125001 => if x4 < x125001 then (if x3.length < 2932031007402 then (spec_LsSteps.l1 k (x3 ++ [(⟨2, (⟨#[]⟩ : ByteArray), ([] : List ByteArray)⟩ : S41)]) (wrap64 (x4 + 1)) x7 x8 x9 x125000 x125001) else (none)) else (spec_LsSteps.l2 k x3 x4 x7 x8 x9 x125000 x125001)
def spec_LsSteps.l2 : Nat → List (S41) → Int → List (S33) → Int → Int → ByteArray → Int → Option ((List (S41)))
  | 0, _, _, _, _, _, _, _ => none
  | k + 1, x3, x4, x7, x8, x9, x125000, x125001 => if x4 > x125001 then (if x3.length < 2932031007402 then (spec_LsSteps.l2 k (x3 ++ [(⟨3, (⟨#[]⟩ : ByteArray), ([] : List ByteArray)⟩ : S41)]) (wrap64 (x4 - 1)) x7 x8 x9 x125000 x125001) else (none)) else (if x3.length < 2932031007402 then (spec_LsSteps.l0 k (x3 ++ [(⟨0, x125000, ([] : List ByteArray)⟩ : S41)]) x4 x7 x8 (wrap64 (x9 + 1))) else (none))
end
def spec_LsSteps.f (k : Nat) (l0 : List (S33)) : Option ((List (S41))) := spec_LsSteps.l0 k ([] : List (S41)) 0 l0 (l0.length : Int) 0
theorem spec_LsSteps.mono_l : ∀ k, (∀ y0 y1 y2 y3 y4, LeO (spec_LsSteps.l0 k y0 y1 y2 y3 y4) (spec_LsSteps.l0 (k + 1) y0 y1 y2 y3 y4)) ∧ (∀ y0 y1 y2 y3 y4 y5 y6, LeO (spec_LsSteps.l1 k y0 y1 y2 y3 y4 y5 y6) (spec_LsSteps.l1 (k + 1) y0 y1 y2 y3 y4 y5 y6)) ∧ (∀ y0 y1 y2 y3 y4 y5 y6, LeO (spec_LsSteps.l2 k y0 y1 y2 y3 y4 y5 y6) (spec_LsSteps.l2 (k + 1) y0 y1 y2 y3 y4 y5 y6))
  | 0 => ⟨fun _ _ _ _ _ r h => by simp [spec_LsSteps.l0] at h, fun _ _ _ _ _ _ _ r h => by simp [spec_LsSteps.l1] at h, fun _ _ _ _ _ _ _ r h => by simp [spec_LsSteps.l2] at h⟩
  | k + 1 => by
    obtain ⟨ih0, ih1, ih2⟩ := spec_LsSteps.mono_l k
    refine ⟨?_, ?_, ?_⟩
    · intro y0 y1 y2 y3 y4
      unfold spec_LsSteps.l0
      repeat' first
      | (with_reducible exact ih0 _ _ _ _ _)
      | (with_reducible exact ih1 _ _ _ _ _ _ _)
      | (with_reducible exact ih2 _ _ _ _ _ _ _)
      | (with_reducible exact LeO.refl _)
      | (with_reducible exact LeO.none _)
      | (with_reducible refine LeO.ite ?_ ?_)
      | (with_reducible refine LeO.bind ?_ (fun _ => ?_))
      | exact ih0 _ _ _ _ _
      | exact ih1 _ _ _ _ _ _ _
      | exact ih2 _ _ _ _ _ _ _
      | exact LeO.none _
      | refine LeO.ite ?_ ?_
      | refine LeO.bind ?_ (fun _ => ?_)
    · intro y0 y1 y2 y3 y4 y5 y6
      unfold spec_LsSteps.l1
      repeat' first
      | (with_reducible exact ih0 _ _ _ _ _)
      | (with_reducible exact ih1 _ _ _ _ _ _ _)
      | (with_reducible exact ih2 _ _ _ _ _ _ _)
      | (with_reducible exact LeO.refl _)
      | (with_reducible exact LeO.none _)
      | (with_reducible refine LeO.ite ?_ ?_)
      | (with_reducible refine LeO.bind ?_ (fun _ => ?_))
      | exact ih0 _ _ _ _ _
      | exact ih1 _ _ _ _ _ _ _
      | exact ih2 _ _ _ _ _ _ _
      | exact LeO.none _
      | refine LeO.ite ?_ ?_
      | refine LeO.bind ?_ (fun _ => ?_)
    · intro y0 y1 y2 y3 y4 y5 y6
      unfold spec_LsSteps.l2
      repeat' first
      | (with_reducible exact ih0 _ _ _ _ _)
      | (with_reducible exact ih1 _ _ _ _ _ _ _)
      | (with_reducible exact ih2 _ _ _ _ _ _ _)
      | (with_reducible exact LeO.refl _)
      | (with_reducible exact LeO.none _)
      | (with_reducible refine LeO.ite ?_ ?_)
      | (with_reducible refine LeO.bind ?_ (fun _ => ?_))
      | exact ih0 _ _ _ _ _
      | exact ih1 _ _ _ _ _ _ _
      | exact ih2 _ _ _ _ _ _ _
      | exact LeO.none _
      | refine LeO.ite ?_ ?_
      | refine LeO.bind ?_ (fun _ => ?_)
theorem spec_LsSteps.mono : ∀ a0 k, LeO (spec_LsSteps.f k a0) (spec_LsSteps.f (k + 1) a0) := by
  intro a0 k
  obtain ⟨ih0, ih1, ih2⟩ := spec_LsSteps.mono_l k
  unfold spec_LsSteps.f
  repeat' first
      | (with_reducible exact ih0 _ _ _ _ _)
      | (with_reducible exact ih1 _ _ _ _ _ _ _)
      | (with_reducible exact ih2 _ _ _ _ _ _ _)
      | (with_reducible exact LeO.refl _)
      | (with_reducible exact LeO.none _)
      | (with_reducible refine LeO.ite ?_ ?_)
      | (with_reducible refine LeO.bind ?_ (fun _ => ?_))
      | exact ih0 _ _ _ _ _
      | exact ih1 _ _ _ _ _ _ _
      | exact ih2 _ _ _ _ _ _ _
      | exact LeO.none _
      | refine LeO.ite ?_ ?_
      | refine LeO.bind ?_ (fun _ => ?_)
set_option maxHeartbeats 8000000 in
set_option maxRecDepth 100000 in
theorem spec_LsSteps.calls (k : Nat) (A0 : Option Addr) (c0 : Nat) (l0 : List (S33)) (r : List (S41)) (w : World) (hr0 : Kd.C k33 w A0 l0.length l0) (hc0 : l0.length ≤ c0) (h : spec_LsSteps.f k l0 = some r) :
    Calls Tryz.prog 7 #[.slice A0 l0.length c0] w fun e w' => ∃ v0_ : Value, e = .returned (v0_) ∧ Kd.S k41 41 w' w.heap.size (fun _ => True) v0_ r ∧ Below w.heap.size w w' := by
  have hu33 := Tryz.underlying33
  have hu41 := Tryz.underlying41
  have HR0 := Aside0.mk hr0
  have HC0 := Aside0.mk hc0
  clear hr0 hc0
  have HB := Aside0.mk (Below.refl w.heap.size w)
  have H : (spec_LsSteps.l0 k ([] : List (S41)) 0 l0 (l0.length : Int) 0) = some r := h
  clear h
  have H' := Aside0.mk H
  clear H
  go_enter Tryz.func7, Tryz.ntmps7
  go_wp2
  (try simp only [Act.put, List.setIfInBounds_toArray, List.set_cons_zero, List.set_cons_succ])
  go_loopg [3, 4, 9] k (fun kq v3 v4 v9 w' => ∃ (x3_1 : List (S41)) (x4_1 : Int) (x9_1 : Int), v4 = .int .i64 x4_1 ∧ v9 = .int .i64 x9_1 ∧ Aside0 (spec_LsSteps.l0 kq x3_1 x4_1 l0 (l0.length : Int) x9_1 = some r) ∧ Aside0 (kq ≤ k) ∧ Aside0 (Kd.S k41 41 w' w.heap.size (fun _ => True) v3 x3_1) ∧ Aside0 (Below w.heap.size w w'))
  case atStart => exact ⟨(([] : List (S41))), (0), (0), (by first | rfl | (simp; done) | (simp [*]; done)), (by first | rfl | (simp; done) | (simp [*]; done)), H', ⟨Nat.le_refl _⟩, ⟨by first | exact Kd.S_nil _ _ _ _ _ | exact Kd.N_nil _ _ _ _ _ | exact Kd.V_nil _ _ _ _ _ | exact Kd.Q_nil _ _ _ _ _ | exact Kd.R_nil _ _ _ _ _⟩, ⟨by repeat (first | (with_reducible first | exact HB.out | apply below_alloc | apply pw_below_drewN | apply below_drew1) | exact HB.out)⟩⟩
  case round =>
    clear H'
    obtain ⟨x3_1, x4_1, x9_1, rfl, rfl, HA, HK1, HO_3, HB⟩ := hrel
    cases gk with
    | zero => exact absurd HA.out (by simp [spec_LsSteps.l0])
    | succ k1 =>
      have H := HA.out
      clear HA
      simp only [spec_LsSteps.l0] at H
      by_cases c2 : x9_1 < (l0.length : Int)
      · rw [if_pos c2] at H
        have c2b0 : decide (x9_1 < (l0.length : Int)) = true := decide_eq_true c2
        clear c2
        by_cases c3 : 0 ≤ x9_1
        · rw [if_pos c3] at H
          have c3b0 : decide (0 ≤ x9_1) = true := decide_eq_true c3
          clear c3
          by_cases c4 : x9_1 < (l0.length : Int)
          · rw [if_pos c4] at H
            have c4b0 : decide (x9_1 < (l0.length : Int)) = true := decide_eq_true c4
            clear c4
            have H' := Aside0.mk H
            clear H
            have p123 : 0 ≤ (x9_1 : Int) := of_decide_eq_true (by first | (with_reducible assumption) | assumption)
            have q123 : x9_1 < (l0.length : Int) := of_decide_eq_true (by first | (with_reducible assumption) | assumption)
            obtain ⟨ad123, e123, hx123_0, hx123_1⟩ := at_T33 HR0.out x9_1 p123 q123
            cases e123
            replace hx123_0 := (HB.out.cell (World.block_lt_of_cell? w _ hx123_0)).trans hx123_0
            replace hx123_1 := (HB.out.cell (World.block_lt_of_cell? w _ hx123_1)).trans hx123_1
            replace p123 := eq_true p123
            replace q123 := eq_true q123
            go_wp2_with (first | ((with_reducible refine gate_dst (N := 6) rfl ?_); refine box_event ?hg (N := 6) ?hd (cs := #[.string (⟨#[]⟩ : ByteArray), .int .i64 0]) (t := 33) ?hr ?_; (case hd => rfl); (case hg => rfl); (case hr => first | (go_simp; done) | (go_simp; rfl)); intro gb124 hg w5 hbox hb; have n0_ := Aside0.mk (Kd.S_below (by (with_reducible repeat (first | apply Kd.S_alloc | apply Kd.S_drewN | apply Kd.S_drew)); exact HO_3.out) hb); have n1_ := Aside0.mk (below_step (by repeat (first | (with_reducible first | exact HB.out | apply below_alloc | apply pw_below_drewN | apply below_drew1) | exact HB.out)) hb); have n2_ := Aside0.mk (hbox); have n3_ := Aside0.mk ((by rw [hg]; exact (below_size (by repeat (first | (with_reducible first | exact HB.out | apply below_alloc | apply pw_below_drewN | apply below_drew1) | exact HB.out))) : w.heap.size ≤ gb124)); have n4_ := Aside0.mk ((by rw [hg]; exact (below_size (by repeat (first | (with_reducible first | exact HB.out | apply below_alloc | apply pw_below_drewN | apply below_drew1) | exact HB.out))) : w.heap.size ≤ gb124)); clear HO_3; clear HB; have HO_3 := n0_; have HB := n1_; have BK124 := n2_; have GW124 := n3_; have GE124 := n4_; clear n0_ n1_ n2_ n3_ n4_; clear hb hbox hg; have hcz6_0 : w5.cell? ⟨gb124, 0, none⟩ = some (.string (⟨#[]⟩ : ByteArray)) := (blk_cell BK124.out 0).trans rfl; have hcz6_1 : w5.cell? ⟨gb124, 1, none⟩ = some (.int .i64 0) := (blk_cell BK124.out 1).trans rfl; have hfz6_0 := blk_frozen BK124.out 0; have hfz6_1 := blk_frozen BK124.out 1))
            (try simp only [Act.put, List.setIfInBounds_toArray, List.set_cons_zero, List.set_cons_succ])
            go_loopg [3, 4] k1 (fun kq v3 v4 w' => ∃ (x3_2 : List (S41)) (x4_2 : Int), v4 = .int .i64 x4_2 ∧ Aside0 (spec_LsSteps.l1 kq x3_2 x4_2 l0 (l0.length : Int) x9_1 ((rd_T33 l0 x9_1).f0) ((rd_T33 l0 x9_1).f1) = some r) ∧ Aside0 (kq ≤ k1) ∧ Aside0 (Kd.S k41 41 w' w.heap.size (fun _ => True) v3 x3_2) ∧ Aside0 (w'.heap[gb124]? = some (.cells #[.string ((rd_T33 l0 x9_1).f0), .int .i64 ((rd_T33 l0 x9_1).f1)] 33 (0, 0))) ∧ Aside0 (Below w.heap.size w w'))
            case atStart => exact ⟨(x3_1), (x4_1), (by first | rfl | (simp; done) | (simp [*]; done)), H', ⟨Nat.le_refl _⟩, ⟨by (with_reducible repeat (first | apply Kd.S_alloc | apply Kd.S_drewN | apply Kd.S_drew)); exact Kd.S_mono (Kd.S_far (p := ⟨gb124, 1, none⟩) (Kd.S_far (p := ⟨gb124, 0, none⟩) (Kd.S_types HO_3.out BK124.out (by decide)) (fun _ hk => hk.2) (.string ((rd_T33 l0 x9_1).f0))) (fun _ hk => hk.2) (.int .i64 ((rd_T33 l0 x9_1).f1))) (fun _ hk => trivial)⟩, ⟨by (with_reducible repeat (first | refine blk_drewN ?_ _ | refine blk_drew ?_ | refine blk_alloc ?_ _)); refine blk_put (cs := #[.string ((rd_T33 l0 x9_1).f0), .int .i64 0]) ?_ 1 _ rfl; (with_reducible repeat (first | refine blk_drewN ?_ _ | refine blk_drew ?_ | refine blk_alloc ?_ _)); refine blk_put (cs := #[.string (⟨#[]⟩ : ByteArray), .int .i64 0]) ?_ 0 _ rfl; (with_reducible repeat (first | refine blk_drewN ?_ _ | refine blk_drew ?_ | refine blk_alloc ?_ _)); exact BK124.out⟩, ⟨by repeat (first | (with_reducible first | exact HB.out | apply below_alloc | apply pw_below_drewN | apply below_drew1 | refine below_set ?_ GE124.out) | exact HB.out)⟩⟩
            case round =>
              clear H'
              try clear p1
              try clear q1
              try clear hx1
              try clear c2
              try clear c2b0
              try clear p2
              try clear c3
              try clear c3b0
              try clear c4
              try clear c4b0
              try clear hcz6_0
              try clear hcz6_1
              try clear hfz6_0
              try clear hfz6_1
              try clear hx123_0
              try clear hx123_1
              try clear p123
              try clear q123
              obtain ⟨x3_2, x4_2, rfl, HA, HK2, HO_3, BK124, HB⟩ := hrel
              cases gk with
              | zero => exact absurd HA.out (by simp [spec_LsSteps.l1])
              | succ k2 =>
                have H := HA.out
                clear HA
                simp only [spec_LsSteps.l1] at H
                by_cases c7 : x4_2 < ((rd_T33 l0 x9_1).f1)
                · rw [if_pos c7] at H
                  have c7b0 : decide (x4_2 < ((rd_T33 l0 x9_1).f1)) = true := decide_eq_true c7
                  clear c7
                  by_cases c8 : x3_2.length < 2932031007402
                  · rw [if_pos c8] at H
                    have LMc8 := Aside0.mk c8
                    clear c8
                    obtain ⟨y125, hy125⟩ : ∃ y_ : List (S41), y_ = (x3_2 ++ [(⟨2, (⟨#[]⟩ : ByteArray), ([] : List ByteArray)⟩ : S41)]) := ⟨_, rfl⟩
                    replace H : (spec_LsSteps.l1 k2 y125 (wrap64 (x4_2 + 1)) l0 (l0.length : Int) x9_1 ((rd_T33 l0 x9_1).f0) ((rd_T33 l0 x9_1).f1)) = some r := by first | (rw [hy125]; with_reducible exact H) | (have H2_ := (Option.bind_some _ _).symm.trans H; rw [hy125]; with_reducible exact H2_) | (have H2_ := (Option.bind_some _ _).symm.trans H; with_reducible exact H2_) | with_reducible exact H | (rw [hy125]; exact H) | exact H
                    have Ny125 := Aside0.mk hy125
                    clear hy125
                    have H' := Aside0.mk H
                    clear H
                    have hcz9_0 : wr.cell? ⟨gb124, 0, none⟩ = some (.string ((rd_T33 l0 x9_1).f0)) := (blk_cell BK124.out 0).trans rfl
                    have hcz9_1 : wr.cell? ⟨gb124, 1, none⟩ = some (.int .i64 ((rd_T33 l0 x9_1).f1)) := (blk_cell BK124.out 1).trans rfl
                    have hfz9_0 := blk_frozen BK124.out 0
                    have hfz9_1 := blk_frozen BK124.out 1
                    go_wp2_with (first | ((with_reducible refine gate_builtin (b := .append) (xs := #[.tmp 19, .tmp 21]) rfl ?_); at_builtin; refine Kd.S_append k41 (w0 := w) w.heap.size rfl (.tmp 19) (.tmp 21) 25 41 (.agg #[(.int .i64 0), (.string ⟨#[]⟩), (.slice none 0 0)]) 48 rfl Tryz.underlying25 info41 rfl (by decide) (by omega) u3 x3_2 (⟨2, (⟨#[]⟩ : ByteArray), ([] : List ByteArray)⟩ : S41) [.int .i64 2, .string (⟨#[]⟩ : ByteArray), .slice none 0 0] (fun _ => True) (fun _ => False) rfl rfl ?aP (fun k_ hk_ => hk_.elim) ?aF ?aO ?aB ?aS ?aL ?_; (case aP => exact k41_mkM _ _ _ (⟨2, (⟨#[]⟩ : ByteArray), ([] : List ByteArray)⟩ : S41) (Kd.R_nil _ _ _ _ _)); (case aB => exact (by repeat (first | (with_reducible first | exact HB.out | apply below_alloc | apply pw_below_drewN | apply below_drew1 | refine below_set ?_ GE124.out) | exact HB.out))); (case aF => exact (fun _ _ => trivial)); (case aO => exact (by (with_reducible repeat (first | apply Kd.S_alloc | apply Kd.S_drewN | apply Kd.S_drew)); exact Kd.S_mono HO_3.out (fun k_ hk => ⟨trivial, fun e_ => e_⟩))); (case aS => exact (below_size (by repeat (first | (with_reducible first | exact HB.out | apply below_alloc | apply pw_below_drewN | apply below_drew1 | refine below_set ?_ GE124.out) | exact HB.out)))); (case aL => have := LMc8.out; first | omega | exact this | exact Nat.le_of_lt this); intro v126 w10 ho hb hg hat; rw [← Ny125.out] at ho; have n0_ := Aside0.mk (blk_grown (g := gb124) (o := .cells #[.string ((rd_T33 l0 x9_1).f0), .int .i64 ((rd_T33 l0 x9_1).f1)] 33 (0, 0)) (by (with_reducible repeat (first | refine blk_drewN ?_ _ | refine blk_drew ?_ | refine blk_alloc ?_ _)); exact BK124.out) hg (Kd.S_ne HO_3.out BK124.out (by decide))); have n1_ := Aside0.mk (hb); have n2_ := Aside0.mk (ho); clear BK124; clear HB; clear HO_3; have BK124 := n0_; have HB := n1_; have HO127 := n2_; clear n0_ n1_ n2_; clear ho hb hg hat))
                    go_roundg k2
                    case measure => have := HK1.out; have := HK2.out; omega
                    case rel => exact ⟨(y125), (wrap64 (x4_2 + 1)), (by first | rfl | (simp; done) | (simp [*]; done)), H', ⟨by have := HK1.out; have := HK2.out; omega⟩, ⟨by (with_reducible repeat (first | apply Kd.S_alloc | apply Kd.S_drewN | apply Kd.S_drew)); exact HO127.out⟩, ⟨by (with_reducible repeat (first | refine blk_drewN ?_ _ | refine blk_drew ?_ | refine blk_alloc ?_ _)); exact BK124.out⟩, ⟨by repeat (first | (with_reducible first | exact HB.out | apply below_alloc | apply pw_below_drewN | apply below_drew1 | refine below_set ?_ GE124.out) | exact HB.out)⟩⟩
                  · rw [if_neg c8] at H
                    exact absurd H (by simp)
                · rw [if_neg c7] at H
                  have c7b0 : decide (x4_2 < ((rd_T33 l0 x9_1).f1)) = false := decide_eq_false c7
                  clear c7
                  have H' := Aside0.mk H
                  clear H
                  have hcz11_0 : wr.cell? ⟨gb124, 0, none⟩ = some (.string ((rd_T33 l0 x9_1).f0)) := (blk_cell BK124.out 0).trans rfl
                  have hcz11_1 : wr.cell? ⟨gb124, 1, none⟩ = some (.int .i64 ((rd_T33 l0 x9_1).f1)) := (blk_cell BK124.out 1).trans rfl
                  have hfz11_0 := blk_frozen BK124.out 0
                  have hfz11_1 := blk_frozen BK124.out 1
                  go_wp2
                  (try simp only [Act.put, List.setIfInBounds_toArray, List.set_cons_zero, List.set_cons_succ])
                  go_loopg [3, 4] k2 (fun kq v3 v4 w' => ∃ (x3_3 : List (S41)) (x4_3 : Int), v4 = .int .i64 x4_3 ∧ Aside0 (spec_LsSteps.l2 kq x3_3 x4_3 l0 (l0.length : Int) x9_1 ((rd_T33 l0 x9_1).f0) ((rd_T33 l0 x9_1).f1) = some r) ∧ Aside0 (kq ≤ k2) ∧ Aside0 (Kd.S k41 41 w' w.heap.size (fun _ => True) v3 x3_3) ∧ Aside0 (w'.heap[gb124]? = some (.cells #[.string ((rd_T33 l0 x9_1).f0), .int .i64 ((rd_T33 l0 x9_1).f1)] 33 (0, 0))) ∧ Aside0 (Below w.heap.size w w'))
                  case atStart => exact ⟨(x3_2), (x4_2), (by first | rfl | (simp; done) | (simp [*]; done)), H', ⟨Nat.le_refl _⟩, ⟨by (with_reducible repeat (first | apply Kd.S_alloc | apply Kd.S_drewN | apply Kd.S_drew)); exact HO_3.out⟩, ⟨by (with_reducible repeat (first | refine blk_drewN ?_ _ | refine blk_drew ?_ | refine blk_alloc ?_ _)); exact BK124.out⟩, ⟨by repeat (first | (with_reducible first | exact HB.out | apply below_alloc | apply pw_below_drewN | apply below_drew1 | refine below_set ?_ GE124.out) | exact HB.out)⟩⟩
                  case round =>
                    clear H'
                    try clear p1
                    try clear q1
                    try clear hx1
                    try clear c2
                    try clear c2b0
                    try clear p2
                    try clear c3
                    try clear c3b0
                    try clear c4
                    try clear c4b0
                    try clear p6
                    try clear c7
                    try clear c7b0
                    try clear c8
                    try clear hcz11_0
                    try clear hcz11_1
                    try clear hcz6_0
                    try clear hcz6_1
                    try clear hcz9_0
                    try clear hcz9_1
                    try clear hfz11_0
                    try clear hfz11_1
                    try clear hfz6_0
                    try clear hfz6_1
                    try clear hfz9_0
                    try clear hfz9_1
                    try clear hx123_0
                    try clear hx123_1
                    try clear p1
                    try clear p123
                    try clear p2
                    try clear q1
                    try clear q123
                    obtain ⟨x3_3, x4_3, rfl, HA, HK3, HO_3, BK124, HB⟩ := hrel
                    cases gk with
                    | zero => exact absurd HA.out (by simp [spec_LsSteps.l2])
                    | succ k3 =>
                      have H := HA.out
                      clear HA
                      simp only [spec_LsSteps.l2] at H
                      by_cases c12 : x4_3 > ((rd_T33 l0 x9_1).f1)
                      · rw [if_pos c12] at H
                        have c12b0 : decide (((rd_T33 l0 x9_1).f1) < x4_3) = true := decide_eq_true c12
                        clear c12
                        by_cases c13 : x3_3.length < 2932031007402
                        · rw [if_pos c13] at H
                          have LMc13 := Aside0.mk c13
                          clear c13
                          obtain ⟨y128, hy128⟩ : ∃ y_ : List (S41), y_ = (x3_3 ++ [(⟨3, (⟨#[]⟩ : ByteArray), ([] : List ByteArray)⟩ : S41)]) := ⟨_, rfl⟩
                          replace H : (spec_LsSteps.l2 k3 y128 (wrap64 (x4_3 - 1)) l0 (l0.length : Int) x9_1 ((rd_T33 l0 x9_1).f0) ((rd_T33 l0 x9_1).f1)) = some r := by first | (rw [hy128]; with_reducible exact H) | (have H2_ := (Option.bind_some _ _).symm.trans H; rw [hy128]; with_reducible exact H2_) | (have H2_ := (Option.bind_some _ _).symm.trans H; with_reducible exact H2_) | with_reducible exact H | (rw [hy128]; exact H) | exact H
                          have Ny128 := Aside0.mk hy128
                          clear hy128
                          have H' := Aside0.mk H
                          clear H
                          have hcz14_0 : wr.cell? ⟨gb124, 0, none⟩ = some (.string ((rd_T33 l0 x9_1).f0)) := (blk_cell BK124.out 0).trans rfl
                          have hcz14_1 : wr.cell? ⟨gb124, 1, none⟩ = some (.int .i64 ((rd_T33 l0 x9_1).f1)) := (blk_cell BK124.out 1).trans rfl
                          have hfz14_0 := blk_frozen BK124.out 0
                          have hfz14_1 := blk_frozen BK124.out 1
                          go_wp2_with (first | ((with_reducible refine gate_builtin (b := .append) (xs := #[.tmp 29, .tmp 31]) rfl ?_); at_builtin; refine Kd.S_append k41 (w0 := w) w.heap.size rfl (.tmp 29) (.tmp 31) 25 41 (.agg #[(.int .i64 0), (.string ⟨#[]⟩), (.slice none 0 0)]) 48 rfl Tryz.underlying25 info41 rfl (by decide) (by omega) u3 x3_3 (⟨3, (⟨#[]⟩ : ByteArray), ([] : List ByteArray)⟩ : S41) [.int .i64 3, .string (⟨#[]⟩ : ByteArray), .slice none 0 0] (fun _ => True) (fun _ => False) rfl rfl ?aP (fun k_ hk_ => hk_.elim) ?aF ?aO ?aB ?aS ?aL ?_; (case aP => exact k41_mkM _ _ _ (⟨3, (⟨#[]⟩ : ByteArray), ([] : List ByteArray)⟩ : S41) (Kd.R_nil _ _ _ _ _)); (case aB => exact (by repeat (first | (with_reducible first | exact HB.out | apply below_alloc | apply pw_below_drewN | apply below_drew1 | refine below_set ?_ GE124.out) | exact HB.out))); (case aF => exact (fun _ _ => trivial)); (case aO => exact (by (with_reducible repeat (first | apply Kd.S_alloc | apply Kd.S_drewN | apply Kd.S_drew)); exact Kd.S_mono HO_3.out (fun k_ hk => ⟨trivial, fun e_ => e_⟩))); (case aS => exact (below_size (by repeat (first | (with_reducible first | exact HB.out | apply below_alloc | apply pw_below_drewN | apply below_drew1 | refine below_set ?_ GE124.out) | exact HB.out)))); (case aL => have := LMc13.out; first | omega | exact this | exact Nat.le_of_lt this); intro v129 w15 ho hb hg hat; rw [← Ny128.out] at ho; have n0_ := Aside0.mk (blk_grown (g := gb124) (o := .cells #[.string ((rd_T33 l0 x9_1).f0), .int .i64 ((rd_T33 l0 x9_1).f1)] 33 (0, 0)) (by (with_reducible repeat (first | refine blk_drewN ?_ _ | refine blk_drew ?_ | refine blk_alloc ?_ _)); exact BK124.out) hg (Kd.S_ne HO_3.out BK124.out (by decide))); have n1_ := Aside0.mk (hb); have n2_ := Aside0.mk (ho); clear BK124; clear HB; clear HO_3; have BK124 := n0_; have HB := n1_; have HO130 := n2_; clear n0_ n1_ n2_; clear ho hb hg hat))
                          go_roundg k3
                          case measure => have := HK1.out; have := HK2.out; have := HK3.out; omega
                          case rel => exact ⟨(y128), (wrap64 (x4_3 - 1)), (by first | rfl | (simp; done) | (simp [*]; done)), H', ⟨by have := HK1.out; have := HK2.out; have := HK3.out; omega⟩, ⟨by (with_reducible repeat (first | apply Kd.S_alloc | apply Kd.S_drewN | apply Kd.S_drew)); exact HO130.out⟩, ⟨by (with_reducible repeat (first | refine blk_drewN ?_ _ | refine blk_drew ?_ | refine blk_alloc ?_ _)); exact BK124.out⟩, ⟨by repeat (first | (with_reducible first | exact HB.out | apply below_alloc | apply pw_below_drewN | apply below_drew1 | refine below_set ?_ GE124.out) | exact HB.out)⟩⟩
                        · rw [if_neg c13] at H
                          exact absurd H (by simp)
                      · rw [if_neg c12] at H
                        have c12b0 : decide (((rd_T33 l0 x9_1).f1) < x4_3) = false := decide_eq_false c12
                        clear c12
                        by_cases c16 : x3_3.length < 2932031007402
                        · rw [if_pos c16] at H
                          have LMc16 := Aside0.mk c16
                          clear c16
                          obtain ⟨y131, hy131⟩ : ∃ y_ : List (S41), y_ = (x3_3 ++ [(⟨0, ((rd_T33 l0 x9_1).f0), ([] : List ByteArray)⟩ : S41)]) := ⟨_, rfl⟩
                          replace H : (spec_LsSteps.l0 k3 y131 x4_3 l0 (l0.length : Int) (wrap64 (x9_1 + 1))) = some r := by first | (rw [hy131]; with_reducible exact H) | (have H2_ := (Option.bind_some _ _).symm.trans H; rw [hy131]; with_reducible exact H2_) | (have H2_ := (Option.bind_some _ _).symm.trans H; with_reducible exact H2_) | with_reducible exact H | (rw [hy131]; exact H) | exact H
                          have Ny131 := Aside0.mk hy131
                          clear hy131
                          have H' := Aside0.mk H
                          clear H
                          have hcz17_0 : wr.cell? ⟨gb124, 0, none⟩ = some (.string ((rd_T33 l0 x9_1).f0)) := (blk_cell BK124.out 0).trans rfl
                          have hcz17_1 : wr.cell? ⟨gb124, 1, none⟩ = some (.int .i64 ((rd_T33 l0 x9_1).f1)) := (blk_cell BK124.out 1).trans rfl
                          have hfz17_0 := blk_frozen BK124.out 0
                          have hfz17_1 := blk_frozen BK124.out 1
                          go_wp2_with (first | ((with_reducible refine gate_builtin (b := .append) (xs := #[.tmp 33, .tmp 37]) rfl ?_); at_builtin; refine Kd.S_append k41 (w0 := w) w.heap.size rfl (.tmp 33) (.tmp 37) 25 41 (.agg #[(.int .i64 0), (.string ⟨#[]⟩), (.slice none 0 0)]) 48 rfl Tryz.underlying25 info41 rfl (by decide) (by omega) u3 x3_3 (⟨0, ((rd_T33 l0 x9_1).f0), ([] : List ByteArray)⟩ : S41) [.int .i64 0, .string ((rd_T33 l0 x9_1).f0), .slice none 0 0] (fun _ => True) (fun _ => False) rfl rfl ?aP (fun k_ hk_ => hk_.elim) ?aF ?aO ?aB ?aS ?aL ?_; (case aP => exact k41_mkM _ _ _ (⟨0, ((rd_T33 l0 x9_1).f0), ([] : List ByteArray)⟩ : S41) (Kd.R_nil _ _ _ _ _)); (case aB => exact (by repeat (first | (with_reducible first | exact HB.out | apply below_alloc | apply pw_below_drewN | apply below_drew1 | refine below_set ?_ GE124.out) | exact HB.out))); (case aF => exact (fun _ _ => trivial)); (case aO => exact (by (with_reducible repeat (first | apply Kd.S_alloc | apply Kd.S_drewN | apply Kd.S_drew)); exact Kd.S_mono HO_3.out (fun k_ hk => ⟨trivial, fun e_ => e_⟩))); (case aS => exact (below_size (by repeat (first | (with_reducible first | exact HB.out | apply below_alloc | apply pw_below_drewN | apply below_drew1 | refine below_set ?_ GE124.out) | exact HB.out)))); (case aL => have := LMc16.out; first | omega | exact this | exact Nat.le_of_lt this); intro v132 w18 ho hb hg hat; rw [← Ny131.out] at ho; have n0_ := Aside0.mk (blk_grown (g := gb124) (o := .cells #[.string ((rd_T33 l0 x9_1).f0), .int .i64 ((rd_T33 l0 x9_1).f1)] 33 (0, 0)) (by (with_reducible repeat (first | refine blk_drewN ?_ _ | refine blk_drew ?_ | refine blk_alloc ?_ _)); exact BK124.out) hg (Kd.S_ne HO_3.out BK124.out (by decide))); have n1_ := Aside0.mk (hb); have n2_ := Aside0.mk (ho); clear BK124; clear HB; clear HO_3; have BK124 := n0_; have HB := n1_; have HO133 := n2_; clear n0_ n1_ n2_; clear ho hb hg hat))
                          go_roundg k3
                          case measure => have := HK1.out; have := HK2.out; have := HK3.out; omega
                          case rel => exact ⟨(y131), (x4_3), (wrap64 (x9_1 + 1)), (by first | rfl | (simp; done) | (simp [*]; done)), (by first | rfl | (simp; done) | (simp [*]; done)), H', ⟨by have := HK1.out; have := HK2.out; have := HK3.out; omega⟩, ⟨by (with_reducible repeat (first | apply Kd.S_alloc | apply Kd.S_drewN | apply Kd.S_drew)); exact HO133.out⟩, ⟨by repeat (first | (with_reducible first | exact HB.out | apply below_alloc | apply pw_below_drewN | apply below_drew1 | refine below_set ?_ GE124.out) | exact HB.out)⟩⟩
                        · rw [if_neg c16] at H
                          exact absurd H (by simp)
          · rw [if_neg c4] at H
            exact absurd H (by simp)
        · rw [if_neg c3] at H
          exact absurd H (by simp)
      · rw [if_neg c2] at H
        have c2b0 : decide (x9_1 < (l0.length : Int)) = false := decide_eq_false c2
        clear c2
        obtain rfl := Option.some.inj H
        go_wp2
        go_ret
        exact ⟨_, by first | rfl | (simp [errW_none, errW_some] <;> rfl) | (simp [*, errW_none, errW_some] <;> rfl), by (with_reducible repeat (first | apply Kd.S_alloc | apply Kd.S_drewN | apply Kd.S_drew)); exact HO_3.out, by repeat (first | (with_reducible first | exact HB.out | apply below_alloc | apply pw_below_drewN | apply below_drew1) | exact HB.out)⟩

/-! ### impl_ListRender: function 8 -/
def impl_ListRender.f (l0 : List (S41)) (a1_0 : Int) (a1_1 : ByteArray) (a1_2 : ByteArray) (a1_3 : ByteArray) (a1_4 : ByteArray) (a1_5 : ByteArray) (a1_6 : ByteArray) (a1_7 : ByteArray) (a1_8 : ByteArray) : Option (ByteArray) := @ite _ (Lrn.Good (l0.map fun x => (x.f0, x.f1)) a1_0 a1_1 a1_2 a1_3 a1_4 a1_5 a1_6 a1_7 a1_8) (Classical.propDecidable _) (some (Lrn.R (l0.map fun x => (x.f0, x.f1)) a1_1 a1_2 a1_3 a1_4 a1_5 a1_6 a1_8)) none
theorem impl_ListRender.calls (A0 : Option Addr) (c0 : Nat) (l0 : List (S41)) (a1_0 : Int) (a1_1 : ByteArray) (a1_2 : ByteArray) (a1_3 : ByteArray) (a1_4 : ByteArray) (a1_5 : ByteArray) (a1_6 : ByteArray) (a1_7 : ByteArray) (a1_8 : ByteArray) (r : ByteArray) (w : World) (hr0 : Kd.C k41 w A0 l0.length l0) (hc0 : l0.length ≤ c0) (h : impl_ListRender.f l0 a1_0 a1_1 a1_2 a1_3 a1_4 a1_5 a1_6 a1_7 a1_8 = some r) :
    Calls Tryz.prog 8 #[.slice A0 l0.length c0, .agg #[.int .i64 a1_0, .string a1_1, .string a1_2, .string a1_3, .string a1_4, .string a1_5, .string a1_6, .string a1_7, .string a1_8]] w fun e w' => e = .returned (.string r) ∧ Below w.heap.size w w' := by
  unfold impl_ListRender.f at h
  by_cases hg : Lrn.Good (l0.map fun x => (x.f0, x.f1)) a1_0 a1_1 a1_2 a1_3 a1_4 a1_5 a1_6 a1_7 a1_8
  · rw [if_pos hg] at h
    obtain rfl := Option.some.inj h
    obtain ⟨rfl, hn, hok, hs⟩ := hg
    refine Lrn.listRender A0 c0 l0.length _ w (by simp) (by simpa using hn) hok (fun w' hw j hj => ?_) hs
    obtain ⟨ad, A2, c2, rfl, h0, h1, h2⟩ := at_T41 (Kd.C_below hr0 hw) (j : Int) (Int.natCast_nonneg j) (by simpa using hj)
    have e : rd_T41 l0 (j : Int) = l0[j] := by simp [rd_T41, hj]
    rw [e] at h0 h1 h2
    rw [Int.toNat_natCast] at h0 h1 h2
    have hsp := Lrn.spot_none h0
    refine ⟨ad, (l0[j].f0, l0[j].f1), _, _, _, _, _, rfl, by simp [hj], Lrn.addr_eta hsp, ?_, h1, h2.1⟩
    rw [← Lrn.addr_eta hsp]; exact h0
  · rw [if_neg hg] at h
    exact absurd h (by simp)

/-! ### list_StyleBulletCircle: function 18 -/
def list_StyleBulletCircle.f  : Option (Int × ByteArray × ByteArray × ByteArray × ByteArray × ByteArray × ByteArray × ByteArray × ByteArray × ByteArray) := some (0, (⟨#[226, 151, 143]⟩ : ByteArray), (⟨#[226, 151, 143]⟩ : ByteArray), (⟨#[226, 151, 143]⟩ : ByteArray), (⟨#[226, 151, 143]⟩ : ByteArray), (⟨#[32, 32]⟩ : ByteArray), (⟨#[226, 151, 143]⟩ : ByteArray), (⟨#[10]⟩ : ByteArray), (⟨#[]⟩ : ByteArray), (⟨#[83, 116, 121, 108, 101, 66, 117, 108, 108, 101, 116, 67, 105, 114, 99, 108, 101]⟩ : ByteArray))
set_option maxHeartbeats 8000000 in
set_option maxRecDepth 100000 in
theorem list_StyleBulletCircle.calls  (r1 : Int) (r2 : ByteArray) (r3 : ByteArray) (r4 : ByteArray) (r5 : ByteArray) (r6 : ByteArray) (r7 : ByteArray) (r8 : ByteArray) (r9 : ByteArray) (r10 : ByteArray) (w : World) (h : list_StyleBulletCircle.f  = some (r1, r2, r3, r4, r5, r6, r7, r8, r9, r10)) :
    Calls Tryz.prog 18 #[] w fun e w' => e = .returned (.agg #[.int .i64 r1, .string r2, .string r3, .string r4, .string r5, .string r6, .string r7, .string r8, .string r9, .string r10]) ∧ Below w.heap.size w w' := by
  have hu45 := Tryz.underlying45
  have HB := Aside0.mk (Below.refl w.heap.size w)
  have H : (some (0, (⟨#[226, 151, 143]⟩ : ByteArray), (⟨#[226, 151, 143]⟩ : ByteArray), (⟨#[226, 151, 143]⟩ : ByteArray), (⟨#[226, 151, 143]⟩ : ByteArray), (⟨#[32, 32]⟩ : ByteArray), (⟨#[226, 151, 143]⟩ : ByteArray), (⟨#[10]⟩ : ByteArray), (⟨#[]⟩ : ByteArray), (⟨#[83, 116, 121, 108, 101, 66, 117, 108, 108, 101, 116, 67, 105, 114, 99, 108, 101]⟩ : ByteArray))) = some (r1, r2, r3, r4, r5, r6, r7, r8, r9, r10) := h
  clear h
  simp only [Option.some.injEq, Prod.mk.injEq] at H
  obtain ⟨rfl, rfl, rfl, rfl, rfl, rfl, rfl, rfl, rfl, rfl⟩ := H
  go_enter Tryz.func18, Tryz.ntmps18
  go_wp2_with (first | ((with_reducible refine gate_dst (N := 0) rfl ?_); refine box_event ?hg (N := 0) ?hd (cs := #[.int .i64 0, .string (⟨#[]⟩ : ByteArray), .string (⟨#[]⟩ : ByteArray), .string (⟨#[]⟩ : ByteArray), .string (⟨#[]⟩ : ByteArray), .string (⟨#[]⟩ : ByteArray), .string (⟨#[]⟩ : ByteArray), .string (⟨#[]⟩ : ByteArray), .string (⟨#[]⟩ : ByteArray), .string (⟨#[]⟩ : ByteArray)]) (t := 45) ?hr ?_; (case hd => rfl); (case hg => rfl); (case hr => first | (go_simp; done) | (go_simp; rfl)); intro gb134 hg w1 hbox hb; have n0_ := Aside0.mk (below_step (by repeat (first | (with_reducible first | exact HB.out | apply below_alloc | apply pw_below_drewN | apply below_drew1) | exact HB.out)) hb); have n1_ := Aside0.mk (hbox); have n2_ := Aside0.mk ((by rw [hg]; exact (below_size (by repeat (first | (with_reducible first | exact HB.out | apply below_alloc | apply pw_below_drewN | apply below_drew1) | exact HB.out))) : w.heap.size ≤ gb134)); have n3_ := Aside0.mk ((by rw [hg]; exact (below_size (by repeat (first | (with_reducible first | exact HB.out | apply below_alloc | apply pw_below_drewN | apply below_drew1) | exact HB.out))) : w.heap.size ≤ gb134)); clear HB; have HB := n0_; have BK134 := n1_; have GW134 := n2_; have GE134 := n3_; clear n0_ n1_ n2_ n3_; clear hb hbox hg; have hcz2_0 : w1.cell? ⟨gb134, 0, none⟩ = some (.int .i64 0) := (blk_cell BK134.out 0).trans rfl; have hcz2_1 : w1.cell? ⟨gb134, 1, none⟩ = some (.string (⟨#[]⟩ : ByteArray)) := (blk_cell BK134.out 1).trans rfl; have hcz2_2 : w1.cell? ⟨gb134, 2, none⟩ = some (.string (⟨#[]⟩ : ByteArray)) := (blk_cell BK134.out 2).trans rfl; have hcz2_3 : w1.cell? ⟨gb134, 3, none⟩ = some (.string (⟨#[]⟩ : ByteArray)) := (blk_cell BK134.out 3).trans rfl; have hcz2_4 : w1.cell? ⟨gb134, 4, none⟩ = some (.string (⟨#[]⟩ : ByteArray)) := (blk_cell BK134.out 4).trans rfl; have hcz2_5 : w1.cell? ⟨gb134, 5, none⟩ = some (.string (⟨#[]⟩ : ByteArray)) := (blk_cell BK134.out 5).trans rfl; have hcz2_6 : w1.cell? ⟨gb134, 6, none⟩ = some (.string (⟨#[]⟩ : ByteArray)) := (blk_cell BK134.out 6).trans rfl; have hcz2_7 : w1.cell? ⟨gb134, 7, none⟩ = some (.string (⟨#[]⟩ : ByteArray)) := (blk_cell BK134.out 7).trans rfl; have hcz2_8 : w1.cell? ⟨gb134, 8, none⟩ = some (.string (⟨#[]⟩ : ByteArray)) := (blk_cell BK134.out 8).trans rfl; have hcz2_9 : w1.cell? ⟨gb134, 9, none⟩ = some (.string (⟨#[]⟩ : ByteArray)) := (blk_cell BK134.out 9).trans rfl; have hfz2_0 := blk_frozen BK134.out 0; have hfz2_1 := blk_frozen BK134.out 1; have hfz2_2 := blk_frozen BK134.out 2; have hfz2_3 := blk_frozen BK134.out 3; have hfz2_4 := blk_frozen BK134.out 4; have hfz2_5 := blk_frozen BK134.out 5; have hfz2_6 := blk_frozen BK134.out 6; have hfz2_7 := blk_frozen BK134.out 7; have hfz2_8 := blk_frozen BK134.out 8; have hfz2_9 := blk_frozen BK134.out 9))
  refine bodyPost_ret (results_cell_row rfl _ _ gb134 45 #[.int .i64 0, .string (⟨#[226, 151, 143]⟩ : ByteArray), .string (⟨#[226, 151, 143]⟩ : ByteArray), .string (⟨#[226, 151, 143]⟩ : ByteArray), .string (⟨#[226, 151, 143]⟩ : ByteArray), .string (⟨#[32, 32]⟩ : ByteArray), .string (⟨#[226, 151, 143]⟩ : ByteArray), .string (⟨#[10]⟩ : ByteArray), .string (⟨#[]⟩ : ByteArray), .string (⟨#[83, 116, 121, 108, 101, 66, 117, 108, 108, 101, 116, 67, 105, 114, 99, 108, 101]⟩ : ByteArray)] (0, 0) _ rfl (by (with_reducible repeat (first | refine blk_drewN ?_ _ | refine blk_drew ?_ | refine blk_alloc ?_ _)); refine blk_put (cs := #[.int .i64 0, .string (⟨#[226, 151, 143]⟩ : ByteArray), .string (⟨#[226, 151, 143]⟩ : ByteArray), .string (⟨#[226, 151, 143]⟩ : ByteArray), .string (⟨#[226, 151, 143]⟩ : ByteArray), .string (⟨#[32, 32]⟩ : ByteArray), .string (⟨#[226, 151, 143]⟩ : ByteArray), .string (⟨#[10]⟩ : ByteArray), .string (⟨#[]⟩ : ByteArray), .string (⟨#[]⟩ : ByteArray)]) ?_ 9 _ rfl; (with_reducible repeat (first | refine blk_drewN ?_ _ | refine blk_drew ?_ | refine blk_alloc ?_ _)); refine blk_put (cs := #[.int .i64 0, .string (⟨#[226, 151, 143]⟩ : ByteArray), .string (⟨#[226, 151, 143]⟩ : ByteArray), .string (⟨#[226, 151, 143]⟩ : ByteArray), .string (⟨#[226, 151, 143]⟩ : ByteArray), .string (⟨#[32, 32]⟩ : ByteArray), .string (⟨#[226, 151, 143]⟩ : ByteArray), .string (⟨#[10]⟩ : ByteArray), .string (⟨#[]⟩ : ByteArray), .string (⟨#[]⟩ : ByteArray)]) ?_ 8 _ rfl; (with_reducible repeat (first | refine blk_drewN ?_ _ | refine blk_drew ?_ | refine blk_alloc ?_ _)); refine blk_put (cs := #[.int .i64 0, .string (⟨#[226, 151, 143]⟩ : ByteArray), .string (⟨#[226, 151, 143]⟩ : ByteArray), .string (⟨#[226, 151, 143]⟩ : ByteArray), .string (⟨#[226, 151, 143]⟩ : ByteArray), .string (⟨#[32, 32]⟩ : ByteArray), .string (⟨#[226, 151, 143]⟩ : ByteArray), .string (⟨#[]⟩ : ByteArray), .string (⟨#[]⟩ : ByteArray), .string (⟨#[]⟩ : ByteArray)]) ?_ 7 _ rfl; (with_reducible repeat (first | refine blk_drewN ?_ _ | refine blk_drew ?_ | refine blk_alloc ?_ _)); refine blk_put (cs := #[.int .i64 0, .string (⟨#[226, 151, 143]⟩ : ByteArray), .string (⟨#[226, 151, 143]⟩ : ByteArray), .string (⟨#[226, 151, 143]⟩ : ByteArray), .string (⟨#[226, 151, 143]⟩ : ByteArray), .string (⟨#[32, 32]⟩ : ByteArray), .string (⟨#[]⟩ : ByteArray), .string (⟨#[]⟩ : ByteArray), .string (⟨#[]⟩ : ByteArray), .string (⟨#[]⟩ : ByteArray)]) ?_ 6 _ rfl; (with_reducible repeat (first | refine blk_drewN ?_ _ | refine blk_drew ?_ | refine blk_alloc ?_ _)); refine blk_put (cs := #[.int .i64 0, .string (⟨#[226, 151, 143]⟩ : ByteArray), .string (⟨#[226, 151, 143]⟩ : ByteArray), .string (⟨#[226, 151, 143]⟩ : ByteArray), .string (⟨#[226, 151, 143]⟩ : ByteArray), .string (⟨#[]⟩ : ByteArray), .string (⟨#[]⟩ : ByteArray), .string (⟨#[]⟩ : ByteArray), .string (⟨#[]⟩ : ByteArray), .string (⟨#[]⟩ : ByteArray)]) ?_ 5 _ rfl; (with_reducible repeat (first | refine blk_drewN ?_ _ | refine blk_drew ?_ | refine blk_alloc ?_ _)); refine blk_put (cs := #[.int .i64 0, .string (⟨#[226, 151, 143]⟩ : ByteArray), .string (⟨#[226, 151, 143]⟩ : ByteArray), .string (⟨#[226, 151, 143]⟩ : ByteArray), .string (⟨#[]⟩ : ByteArray), .string (⟨#[]⟩ : ByteArray), .string (⟨#[]⟩ : ByteArray), .string (⟨#[]⟩ : ByteArray), .string (⟨#[]⟩ : ByteArray), .string (⟨#[]⟩ : ByteArray)]) ?_ 4 _ rfl; (with_reducible repeat (first | refine blk_drewN ?_ _ | refine blk_drew ?_ | refine blk_alloc ?_ _)); refine blk_put (cs := #[.int .i64 0, .string (⟨#[226, 151, 143]⟩ : ByteArray), .string (⟨#[226, 151, 143]⟩ : ByteArray), .string (⟨#[]⟩ : ByteArray), .string (⟨#[]⟩ : ByteArray), .string (⟨#[]⟩ : ByteArray), .string (⟨#[]⟩ : ByteArray), .string (⟨#[]⟩ : ByteArray), .string (⟨#[]⟩ : ByteArray), .string (⟨#[]⟩ : ByteArray)]) ?_ 3 _ rfl; (with_reducible repeat (first | refine blk_drewN ?_ _ | refine blk_drew ?_ | refine blk_alloc ?_ _)); refine blk_put (cs := #[.int .i64 0, .string (⟨#[226, 151, 143]⟩ : ByteArray), .string (⟨#[]⟩ : ByteArray), .string (⟨#[]⟩ : ByteArray), .string (⟨#[]⟩ : ByteArray), .string (⟨#[]⟩ : ByteArray), .string (⟨#[]⟩ : ByteArray), .string (⟨#[]⟩ : ByteArray), .string (⟨#[]⟩ : ByteArray), .string (⟨#[]⟩ : ByteArray)]) ?_ 2 _ rfl; (with_reducible repeat (first | refine blk_drewN ?_ _ | refine blk_drew ?_ | refine blk_alloc ?_ _)); refine blk_put (cs := #[.int .i64 0, .string (⟨#[]⟩ : ByteArray), .string (⟨#[]⟩ : ByteArray), .string (⟨#[]⟩ : ByteArray), .string (⟨#[]⟩ : ByteArray), .string (⟨#[]⟩ : ByteArray), .string (⟨#[]⟩ : ByteArray), .string (⟨#[]⟩ : ByteArray), .string (⟨#[]⟩ : ByteArray), .string (⟨#[]⟩ : ByteArray)]) ?_ 1 _ rfl; (with_reducible repeat (first | refine blk_drewN ?_ _ | refine blk_drew ?_ | refine blk_alloc ?_ _)); refine blk_put (cs := #[.int .i64 0, .string (⟨#[]⟩ : ByteArray), .string (⟨#[]⟩ : ByteArray), .string (⟨#[]⟩ : ByteArray), .string (⟨#[]⟩ : ByteArray), .string (⟨#[]⟩ : ByteArray), .string (⟨#[]⟩ : ByteArray), .string (⟨#[]⟩ : ByteArray), .string (⟨#[]⟩ : ByteArray), .string (⟨#[]⟩ : ByteArray)]) ?_ 0 _ rfl; (with_reducible repeat (first | refine blk_drewN ?_ _ | refine blk_drew ?_ | refine blk_alloc ?_ _)); exact BK134.out) Tryz.underlying45 rfl (by kernel_rfl)) rfl ?_
  exact ⟨by first | rfl | (simp [errW_none, errW_some] <;> rfl) | (simp [*, errW_none, errW_some] <;> rfl), by repeat (first | (with_reducible first | exact HB.out | apply below_alloc | apply pw_below_drewN | apply below_drew1 | refine below_set ?_ GE134.out) | exact HB.out)⟩

/-! ### list_StyleBulletFlower: function 19 -/
def list_StyleBulletFlower.f  : Option (Int × ByteArray × ByteArray × ByteArray × ByteArray × ByteArray × ByteArray × ByteArray × ByteArray × ByteArray) := some (0, (⟨#[226, 156, 189]⟩ : ByteArray), (⟨#[226, 156, 189]⟩ : ByteArray), (⟨#[226, 156, 189]⟩ : ByteArray), (⟨#[226, 156, 189]⟩ : ByteArray), (⟨#[32, 32]⟩ : ByteArray), (⟨#[226, 156, 189]⟩ : ByteArray), (⟨#[10]⟩ : ByteArray), (⟨#[]⟩ : ByteArray), (⟨#[83, 116, 121, 108, 101, 66, 117, 108, 108, 101, 116, 70, 108, 111, 119, 101, 114]⟩ : ByteArray))
set_option maxHeartbeats 8000000 in
set_option maxRecDepth 100000 in
theorem list_StyleBulletFlower.calls  (r1 : Int) (r2 : ByteArray) (r3 : ByteArray) (r4 : ByteArray) (r5 : ByteArray) (r6 : ByteArray) (r7 : ByteArray) (r8 : ByteArray) (r9 : ByteArray) (r10 : ByteArray) (w : World) (h : list_StyleBulletFlower.f  = some (r1, r2, r3, r4, r5, r6, r7, r8, r9, r10)) :
    Calls Tryz.prog 19 #[] w fun e w' => e = .returned (.agg #[.int .i64 r1, .string r2, .string r3, .string r4, .string r5, .string r6, .string r7, .string r8, .string r9, .string r10]) ∧ Below w.heap.size w w' := by
  have hu45 := Tryz.underlying45
  have HB := Aside0.mk (Below.refl w.heap.size w)
  have H : (some (0, (⟨#[226, 156, 189]⟩ : ByteArray), (⟨#[226, 156, 189]⟩ : ByteArray), (⟨#[226, 156, 189]⟩ : ByteArray), (⟨#[226, 156, 189]⟩ : ByteArray), (⟨#[32, 32]⟩ : ByteArray), (⟨#[226, 156, 189]⟩ : ByteArray), (⟨#[10]⟩ : ByteArray), (⟨#[]⟩ : ByteArray), (⟨#[83, 116, 121, 108, 101, 66, 117, 108, 108, 101, 116, 70, 108, 111, 119, 101, 114]⟩ : ByteArray))) = some (r1, r2, r3, r4, r5, r6, r7, r8, r9, r10) := h
  clear h
  simp only [Option.some.injEq, Prod.mk.injEq] at H
  obtain ⟨rfl, rfl, rfl, rfl, rfl, rfl, rfl, rfl, rfl, rfl⟩ := H
  go_enter Tryz.func19, Tryz.ntmps19
  go_wp2_with (first | ((with_reducible refine gate_dst (N := 0) rfl ?_); refine box_event ?hg (N := 0) ?hd (cs := #[.int .i64 0, .string (⟨#[]⟩ : ByteArray), .string (⟨#[]⟩ : ByteArray), .string (⟨#[]⟩ : ByteArray), .string (⟨#[]⟩ : ByteArray), .string (⟨#[]⟩ : ByteArray), .string (⟨#[]⟩ : ByteArray), .string (⟨#[]⟩ : ByteArray), .string (⟨#[]⟩ : ByteArray), .string (⟨#[]⟩ : ByteArray)]) (t := 45) ?hr ?_; (case hd => rfl); (case hg => rfl); (case hr => first | (go_simp; done) | (go_simp; rfl)); intro gb135 hg w1 hbox hb; have n0_ := Aside0.mk (below_step (by repeat (first | (with_reducible first | exact HB.out | apply below_alloc | apply pw_below_drewN | apply below_drew1) | exact HB.out)) hb); have n1_ := Aside0.mk (hbox); have n2_ := Aside0.mk ((by rw [hg]; exact (below_size (by repeat (first | (with_reducible first | exact HB.out | apply below_alloc | apply pw_below_drewN | apply below_drew1) | exact HB.out))) : w.heap.size ≤ gb135)); have n3_ := Aside0.mk ((by rw [hg]; exact (below_size (by repeat (first | (with_reducible first | exact HB.out | apply below_alloc | apply pw_below_drewN | apply below_drew1) | exact HB.out))) : w.heap.size ≤ gb135)); clear HB; have HB := n0_; have BK135 := n1_; have GW135 := n2_; have GE135 := n3_; clear n0_ n1_ n2_ n3_; clear hb hbox hg; have hcz2_0 : w1.cell? ⟨gb135, 0, none⟩ = some (.int .i64 0) := (blk_cell BK135.out 0).trans rfl; have hcz2_1 : w1.cell? ⟨gb135, 1, none⟩ = some (.string (⟨#[]⟩ : ByteArray)) := (blk_cell BK135.out 1).trans rfl; have hcz2_2 : w1.cell? ⟨gb135, 2, none⟩ = some (.string (⟨#[]⟩ : ByteArray)) := (blk_cell BK135.out 2).trans rfl; have hcz2_3 : w1.cell? ⟨gb135, 3, none⟩ = some (.string (⟨#[]⟩ : ByteArray)) := (blk_cell BK135.out 3).trans rfl; have hcz2_4 : w1.cell? ⟨gb135, 4, none⟩ = some (.string (⟨#[]⟩ : ByteArray)) := (blk_cell BK135.out 4).trans rfl; have hcz2_5 : w1.cell? ⟨gb135, 5, none⟩ = some (.string (⟨#[]⟩ : ByteArray)) := (blk_cell BK135.out 5).trans rfl; have hcz2_6 : w1.cell? ⟨gb135, 6, none⟩ = some (.string (⟨#[]⟩ : ByteArray)) := (blk_cell BK135.out 6).trans rfl; have hcz2_7 : w1.cell? ⟨gb135, 7, none⟩ = some (.string (⟨#[]⟩ : ByteArray)) := (blk_cell BK135.out 7).trans rfl; have hcz2_8 : w1.cell? ⟨gb135, 8, none⟩ = some (.string (⟨#[]⟩ : ByteArray)) := (blk_cell BK135.out 8).trans rfl; have hcz2_9 : w1.cell? ⟨gb135, 9, none⟩ = some (.string (⟨#[]⟩ : ByteArray)) := (blk_cell BK135.out 9).trans rfl; have hfz2_0 := blk_frozen BK135.out 0; have hfz2_1 := blk_frozen BK135.out 1; have hfz2_2 := blk_frozen BK135.out 2; have hfz2_3 := blk_frozen BK135.out 3; have hfz2_4 := blk_frozen BK135.out 4; have hfz2_5 := blk_frozen BK135.out 5; have hfz2_6 := blk_frozen BK135.out 6; have hfz2_7 := blk_frozen BK135.out 7; have hfz2_8 := blk_frozen BK135.out 8; have hfz2_9 := blk_frozen BK135.out 9))
  refine bodyPost_ret (results_cell_row rfl _ _ gb135 45 #[.int .i64 0, .string (⟨#[226, 156, 189]⟩ : ByteArray), .string (⟨#[226, 156, 189]⟩ : ByteArray), .string (⟨#[226, 156, 189]⟩ : ByteArray), .string (⟨#[226, 156, 189]⟩ : ByteArray), .string (⟨#[32, 32]⟩ : ByteArray), .string (⟨#[226, 156, 189]⟩ : ByteArray), .string (⟨#[10]⟩ : ByteArray), .string (⟨#[]⟩ : ByteArray), .string (⟨#[83, 116, 121, 108, 101, 66, 117, 108, 108, 101, 116, 70, 108, 111, 119, 101, 114]⟩ : ByteArray)] (0, 0) _ rfl (by (with_reducible repeat (first | refine blk_drewN ?_ _ | refine blk_drew ?_ | refine blk_alloc ?_ _)); refine blk_put (cs := #[.int .i64 0, .string (⟨#[226, 156, 189]⟩ : ByteArray), .string (⟨#[226, 156, 189]⟩ : ByteArray), .string (⟨#[226, 156, 189]⟩ : ByteArray), .string (⟨#[226, 156, 189]⟩ : ByteArray), .string (⟨#[32, 32]⟩ : ByteArray), .string (⟨#[226, 156, 189]⟩ : ByteArray), .string (⟨#[10]⟩ : ByteArray), .string (⟨#[]⟩ : ByteArray), .string (⟨#[]⟩ : ByteArray)]) ?_ 9 _ rfl; (with_reducible repeat (first | refine blk_drewN ?_ _ | refine blk_drew ?_ | refine blk_alloc ?_ _)); refine blk_put (cs := #[.int .i64 0, .string (⟨#[226, 156, 189]⟩ : ByteArray), .string (⟨#[226, 156, 189]⟩ : ByteArray), .string (⟨#[226, 156, 189]⟩ : ByteArray), .string (⟨#[226, 156, 189]⟩ : ByteArray), .string (⟨#[32, 32]⟩ : ByteArray), .string (⟨#[226, 156, 189]⟩ : ByteArray), .string (⟨#[10]⟩ : ByteArray), .string (⟨#[]⟩ : ByteArray), .string (⟨#[]⟩ : ByteArray)]) ?_ 8 _ rfl; (with_reducible repeat (first | refine blk_drewN ?_ _ | refine blk_drew ?_ | refine blk_alloc ?_ _)); refine blk_put (cs := #[.int .i64 0, .string (⟨#[226, 156, 189]⟩ : ByteArray), .string (⟨#[226, 156, 189]⟩ : ByteArray), .string (⟨#[226, 156, 189]⟩ : ByteArray), .string (⟨#[226, 156, 189]⟩ : ByteArray), .string (⟨#[32, 32]⟩ : ByteArray), .string (⟨#[226, 156, 189]⟩ : ByteArray), .string (⟨#[]⟩ : ByteArray), .string (⟨#[]⟩ : ByteArray), .string (⟨#[]⟩ : ByteArray)]) ?_ 7 _ rfl; (with_reducible repeat (first | refine blk_drewN ?_ _ | refine blk_drew ?_ | refine blk_alloc ?_ _)); refine blk_put (cs := #[.int .i64 0, .string (⟨#[226, 156, 189]⟩ : ByteArray), .string (⟨#[226, 156, 189]⟩ : ByteArray), .string (⟨#[226, 156, 189]⟩ : ByteArray), .string (⟨#[226, 156, 189]⟩ : ByteArray), .string (⟨#[32, 32]⟩ : ByteArray), .string (⟨#[]⟩ : ByteArray), .string (⟨#[]⟩ : ByteArray), .string (⟨#[]⟩ : ByteArray), .string (⟨#[]⟩ : ByteArray)]) ?_ 6 _ rfl; (with_reducible repeat (first | refine blk_drewN ?_ _ | refine blk_drew ?_ | refine blk_alloc ?_ _)); refine blk_put (cs := #[.int .i64 0, .string (⟨#[226, 156, 189]⟩ : ByteArray), .string (⟨#[226, 156, 189]⟩ : ByteArray), .string (⟨#[226, 156, 189]⟩ : ByteArray), .string (⟨#[226, 156, 189]⟩ : ByteArray), .string (⟨#[]⟩ : ByteArray), .string (⟨#[]⟩ : ByteArray), .string (⟨#[]⟩ : ByteArray), .string (⟨#[]⟩ : ByteArray), .string (⟨#[]⟩ : ByteArray)]) ?_ 5 _ rfl; (with_reducible repeat (first | refine blk_drewN ?_ _ | refine blk_drew ?_ | refine blk_alloc ?_ _)); refine blk_put (cs := #[.int .i64 0, .string (⟨#[226, 156, 189]⟩ : ByteArray), .string (⟨#[226, 156, 189]⟩ : ByteArray), .string (⟨#[226, 156, 189]⟩ : ByteArray), .string (⟨#[]⟩ : ByteArray), .string (⟨#[]⟩ : ByteArray), .string (⟨#[]⟩ : ByteArray), .string (⟨#[]⟩ : ByteArray), .string (⟨#[]⟩ : ByteArray), .string (⟨#[]⟩ : ByteArray)]) ?_ 4 _ rfl; (with_reducible repeat (first | refine blk_drewN ?_ _ | refine blk_drew ?_ | refine blk_alloc ?_ _)); refine blk_put (cs := #[.int .i64 0, .string (⟨#[226, 156, 189]⟩ : ByteArray), .string (⟨#[226, 156, 189]⟩ : ByteArray), .string (⟨#[]⟩ : ByteArray), .string (⟨#[]⟩ : ByteArray), .string (⟨#[]⟩ : ByteArray), .string (⟨#[]⟩ : ByteArray), .string (⟨#[]⟩ : ByteArray), .string (⟨#[]⟩ : ByteArray), .string (⟨#[]⟩ : ByteArray)]) ?_ 3 _ rfl; (with_reducible repeat (first | refine blk_drewN ?_ _ | refine blk_drew ?_ | refine blk_alloc ?_ _)); refine blk_put (cs := #[.int .i64 0, .string (⟨#[226, 156, 189]⟩ : ByteArray), .string (⟨#[]⟩ : ByteArray), .string (⟨#[]⟩ : ByteArray), .string (⟨#[]⟩ : ByteArray), .string (⟨#[]⟩ : ByteArray), .string (⟨#[]⟩ : ByteArray), .string (⟨#[]⟩ : ByteArray), .string (⟨#[]⟩ : ByteArray), .string (⟨#[]⟩ : ByteArray)]) ?_ 2 _ rfl; (with_reducible repeat (first | refine blk_drewN ?_ _ | refine blk_drew ?_ | refine blk_alloc ?_ _)); refine blk_put (cs := #[.int .i64 0, .string (⟨#[]⟩ : ByteArray), .string (⟨#[]⟩ : ByteArray), .string (⟨#[]⟩ : ByteArray), .string (⟨#[]⟩ : ByteArray), .string (⟨#[]⟩ : ByteArray), .string (⟨#[]⟩ : ByteArray), .string (⟨#[]⟩ : ByteArray), .string (⟨#[]⟩ : ByteArray), .string (⟨#[]⟩ : ByteArray)]) ?_ 1 _ rfl; (with_reducible repeat (first | refine blk_drewN ?_ _ | refine blk_drew ?_ | refine blk_alloc ?_ _)); refine blk_put (cs := #[.int .i64 0, .string (⟨#[]⟩ : ByteArray), .string (⟨#[]⟩ : ByteArray), .string (⟨#[]⟩ : ByteArray), .string (⟨#[]⟩ : ByteArray), .string (⟨#[]⟩ : ByteArray), .string (⟨#[]⟩ : ByteArray), .string (⟨#[]⟩ : ByteArray), .string (⟨#[]⟩ : ByteArray), .string (⟨#[]⟩ : ByteArray)]) ?_ 0 _ rfl; (with_reducible repeat (first | refine blk_drewN ?_ _ | refine blk_drew ?_ | refine blk_alloc ?_ _)); exact BK135.out) Tryz.underlying45 rfl (by kernel_rfl)) rfl ?_
  exact ⟨by first | rfl | (simp [errW_none, errW_some] <;> rfl) | (simp [*, errW_none, errW_some] <;> rfl), by repeat (first | (with_reducible first | exact HB.out | apply below_alloc | apply pw_below_drewN | apply below_drew1 | refine below_set ?_ GE135.out) | exact HB.out)⟩

/-! ### list_StyleBulletSquare: function 20 -/
def list_StyleBulletSquare.f  : Option (Int × ByteArray × ByteArray × ByteArray × ByteArray × ByteArray × ByteArray × ByteArray × ByteArray × ByteArray) := some (0, (⟨#[226, 150, 160]⟩ : ByteArray), (⟨#[226, 150, 160]⟩ : ByteArray), (⟨#[226, 150, 160]⟩ : ByteArray), (⟨#[226, 150, 160]⟩ : ByteArray), (⟨#[32, 32]⟩ : ByteArray), (⟨#[226, 150, 160]⟩ : ByteArray), (⟨#[10]⟩ : ByteArray), (⟨#[]⟩ : ByteArray), (⟨#[83, 116, 121, 108, 101, 66, 117, 108, 108, 101, 116, 83, 113, 117, 97, 114, 101]⟩ : ByteArray))
set_option maxHeartbeats 8000000 in
set_option maxRecDepth 100000 in
theorem list_StyleBulletSquare.calls  (r1 : Int) (r2 : ByteArray) (r3 : ByteArray) (r4 : ByteArray) (r5 : ByteArray) (r6 : ByteArray) (r7 : ByteArray) (r8 : ByteArray) (r9 : ByteArray) (r10 : ByteArray) (w : World) (h : list_StyleBulletSquare.f  = some (r1, r2, r3, r4, r5, r6, r7, r8, r9, r10)) :
    Calls Tryz.prog 20 #[] w fun e w' => e = .returned (.agg #[.int .i64 r1, .string r2, .string r3, .string r4, .string r5, .string r6, .string r7, .string r8, .string r9, .string r10]) ∧ Below w.heap.size w w' := by
  have hu45 := Tryz.underlying45
  have HB := Aside0.mk (Below.refl w.heap.size w)
  have H : (some (0, (⟨#[226, 150, 160]⟩ : ByteArray), (⟨#[226, 150, 160]⟩ : ByteArray), (⟨#[226, 150, 160]⟩ : ByteArray), (⟨#[226, 150, 160]⟩ : ByteArray), (⟨#[32, 32]⟩ : ByteArray), (⟨#[226, 150, 160]⟩ : ByteArray), (⟨#[10]⟩ : ByteArray), (⟨#[]⟩ : ByteArray), (⟨#[83, 116, 121, 108, 101, 66, 117, 108, 108, 101, 116, 83, 113, 117, 97, 114, 101]⟩ : ByteArray))) = some (r1, r2, r3, r4, r5, r6, r7, r8, r9, r10) := h
  clear h
  simp only [Option.some.injEq, Prod.mk.injEq] at H
  obtain ⟨rfl, rfl, rfl, rfl, rfl, rfl, rfl, rfl, rfl, rfl⟩ := H
  go_enter Tryz.func20, Tryz.ntmps20
  go_wp2_with (first | ((with_reducible refine gate_dst (N := 0) rfl ?_); refine box_event ?hg (N := 0) ?hd (cs := #[.int .i64 0, .string (⟨#[]⟩ : ByteArray), .string (⟨#[]⟩ : ByteArray), .string (⟨#[]⟩ : ByteArray), .string (⟨#[]⟩ : ByteArray), .string (⟨#[]⟩ : ByteArray), .string (⟨#[]⟩ : ByteArray), .string (⟨#[]⟩ : ByteArray), .string (⟨#[]⟩ : ByteArray), .string (⟨#[]⟩ : ByteArray)]) (t := 45) ?hr ?_; (case hd => rfl); (case hg => rfl); (case hr => first | (go_simp; done) | (go_simp; rfl)); intro gb136 hg w1 hbox hb; have n0_ := Aside0.mk (below_step (by repeat (first | (with_reducible first | exact HB.out | apply below_alloc | apply pw_below_drewN | apply below_drew1) | exact HB.out)) hb); have n1_ := Aside0.mk (hbox); have n2_ := Aside0.mk ((by rw [hg]; exact (below_size (by repeat (first | (with_reducible first | exact HB.out | apply below_alloc | apply pw_below_drewN | apply below_drew1) | exact HB.out))) : w.heap.size ≤ gb136)); have n3_ := Aside0.mk ((by rw [hg]; exact (below_size (by repeat (first | (with_reducible first | exact HB.out | apply below_alloc | apply pw_below_drewN | apply below_drew1) | exact HB.out))) : w.heap.size ≤ gb136)); clear HB; have HB := n0_; have BK136 := n1_; have GW136 := n2_; have GE136 := n3_; clear n0_ n1_ n2_ n3_; clear hb hbox hg; have hcz2_0 : w1.cell? ⟨gb136, 0, none⟩ = some (.int .i64 0) := (blk_cell BK136.out 0).trans rfl; have hcz2_1 : w1.cell? ⟨gb136, 1, none⟩ = some (.string (⟨#[]⟩ : ByteArray)) := (blk_cell BK136.out 1).trans rfl; have hcz2_2 : w1.cell? ⟨gb136, 2, none⟩ = some (.string (⟨#[]⟩ : ByteArray)) := (blk_cell BK136.out 2).trans rfl; have hcz2_3 : w1.cell? ⟨gb136, 3, none⟩ = some (.string (⟨#[]⟩ : ByteArray)) := (blk_cell BK136.out 3).trans rfl; have hcz2_4 : w1.cell? ⟨gb136, 4, none⟩ = some (.string (⟨#[]⟩ : ByteArray)) := (blk_cell BK136.out 4).trans rfl; have hcz2_5 : w1.cell? ⟨gb136, 5, none⟩ = some (.string (⟨#[]⟩ : ByteArray)) := (blk_cell BK136.out 5).trans rfl; have hcz2_6 : w1.cell? ⟨gb136, 6, none⟩ = some (.string (⟨#[]⟩ : ByteArray)) := (blk_cell BK136.out 6).trans rfl; have hcz2_7 : w1.cell? ⟨gb136, 7, none⟩ = some (.string (⟨#[]⟩ : ByteArray)) := (blk_cell BK136.out 7).trans rfl; have hcz2_8 : w1.cell? ⟨gb136, 8, none⟩ = some (.string (⟨#[]⟩ : ByteArray)) := (blk_cell BK136.out 8).trans rfl; have hcz2_9 : w1.cell? ⟨gb136, 9, none⟩ = some (.string (⟨#[]⟩ : ByteArray)) := (blk_cell BK136.out 9).trans rfl; have hfz2_0 := blk_frozen BK136.out 0; have hfz2_1 := blk_frozen BK136.out 1; have hfz2_2 := blk_frozen BK136.out 2; have hfz2_3 := blk_frozen BK136.out 3; have hfz2_4 := blk_frozen BK136.out 4; have hfz2_5 := blk_frozen BK136.out 5; have hfz2_6 := blk_frozen BK136.out 6; have hfz2_7 := blk_frozen BK136.out 7; have hfz2_8 := blk_frozen BK136.out 8; have hfz2_9 := blk_frozen BK136.out 9))
  refine bodyPost_ret (results_cell_row rfl _ _ gb136 45 #[.int .i64 0, .string (⟨#[226, 150, 160]⟩ : ByteArray), .string (⟨#[226, 150, 160]⟩ : ByteArray), .string (⟨#[226, 150, 160]⟩ : ByteArray), .string (⟨#[226, 150, 160]⟩ : ByteArray), .string (⟨#[32, 32]⟩ : ByteArray), .string (⟨#[226, 150, 160]⟩ : ByteArray), .string (⟨#[10]⟩ : ByteArray), .string (⟨#[]⟩ : ByteArray), .string (⟨#[83, 116, 121, 108, 101, 66, 117, 108, 108, 101, 116, 83, 113, 117, 97, 114, 101]⟩ : ByteArray)] (0, 0) _ rfl (by (with_reducible repeat (first | refine blk_drewN ?_ _ | refine blk_drew ?_ | refine blk_alloc ?_ _)); refine blk_put (cs := #[.int .i64 0, .string (⟨#[226, 150, 160]⟩ : ByteArray), .string (⟨#[226, 150, 160]⟩ : ByteArray), .string (⟨#[226, 150, 160]⟩ : ByteArray), .string (⟨#[226, 150, 160]⟩ : ByteArray), .string (⟨#[32, 32]⟩ : ByteArray), .string (⟨#[226, 150, 160]⟩ : ByteArray), .string (⟨#[10]⟩ : ByteArray), .string (⟨#[]⟩ : ByteArray), .string (⟨#[]⟩ : ByteArray)]) ?_ 9 _ rfl; (with_reducible repeat (first | refine blk_drewN ?_ _ | refine blk_drew ?_ | refine blk_alloc ?_ _)); refine blk_put (cs := #[.int .i64 0, .string (⟨#[226, 150, 160]⟩ : ByteArray), .string (⟨#[226, 150, 160]⟩ : ByteArray), .string (⟨#[226, 150, 160]⟩ : ByteArray), .string (⟨#[226, 150, 160]⟩ : ByteArray), .string (⟨#[32, 32]⟩ : ByteArray), .string (⟨#[226, 150, 160]⟩ : ByteArray), .string (⟨#[10]⟩ : ByteArray), .string (⟨#[]⟩ : ByteArray), .string (⟨#[]⟩ : ByteArray)]) ?_ 8 _ rfl; (with_reducible repeat (first | refine blk_drewN ?_ _ | refine blk_drew ?_ | refine blk_alloc ?_ _)); refine blk_put (cs := #[.int .i64 0, .string (⟨#[226, 150, 160]⟩ : ByteArray), .string (⟨#[226, 150, 160]⟩ : ByteArray), .string (⟨#[226, 150, 160]⟩ : ByteArray), .string (⟨#[226, 150, 160]⟩ : ByteArray), .string (⟨#[32, 32]⟩ : ByteArray), .string (⟨#[226, 150, 160]⟩ : ByteArray), .string (⟨#[]⟩ : ByteArray), .string (⟨#[]⟩ : ByteArray), .string (⟨#[]⟩ : ByteArray)]) ?_ 7 _ rfl; (with_reducible repeat (first | refine blk_drewN ?_ _ | refine blk_drew ?_ | refine blk_alloc ?_ _)); refine blk_put (cs := #[.int .i64 0, .string (⟨#[226, 150, 160]⟩ : ByteArray), .string (⟨#[226, 150, 160]⟩ : ByteArray), .string (⟨#[226, 150, 160]⟩ : ByteArray), .string (⟨#[226, 150, 160]⟩ : ByteArray), .string (⟨#[32, 32]⟩ : ByteArray), .string (⟨#[]⟩ : ByteArray), .string (⟨#[]⟩ : ByteArray), .string (⟨#[]⟩ : ByteArray), .string (⟨#[]⟩ : ByteArray)]) ?_ 6 _ rfl; (with_reducible repeat (first | refine blk_drewN ?_ _ | refine blk_drew ?_ | refine blk_alloc ?_ _)); refine blk_put (cs := #[.int .i64 0, .string (⟨#[226, 150, 160]⟩ : ByteArray), .string (⟨#[226, 150, 160]⟩ : ByteArray), .string (⟨#[226, 150, 160]⟩ : ByteArray), .string (⟨#[226, 150, 160]⟩ : ByteArray), .string (⟨#[]⟩ : ByteArray), .string (⟨#[]⟩ : ByteArray), .string (⟨#[]⟩ : ByteArray), .string (⟨#[]⟩ : ByteArray), .string (⟨#[]⟩ : ByteArray)]) ?_ 5 _ rfl; (with_reducible repeat (first | refine blk_drewN ?_ _ | refine blk_drew ?_ | refine blk_alloc ?_ _)); refine blk_put (cs := #[.int .i64 0, .string (⟨#[226, 150, 160]⟩ : ByteArray), .string (⟨#[226, 150, 160]⟩ : ByteArray), .string (⟨#[226, 150, 160]⟩ : ByteArray), .string (⟨#[]⟩ : ByteArray), .string (⟨#[]⟩ : ByteArray), .string (⟨#[]⟩ : ByteArray), .string (⟨#[]⟩ : ByteArray), .string (⟨#[]⟩ : ByteArray), .string (⟨#[]⟩ : ByteArray)]) ?_ 4 _ rfl; (with_reducible repeat (first | refine blk_drewN ?_ _ | refine blk_drew ?_ | refine blk_alloc ?_ _)); refine blk_put (cs := #[.int .i64 0, .string (⟨#[226, 150, 160]⟩ : ByteArray), .string (⟨#[226, 150, 160]⟩ : ByteArray), .string (⟨#[]⟩ : ByteArray), .string (⟨#[]⟩ : ByteArray), .string (⟨#[]⟩ : ByteArray), .string (⟨#[]⟩ : ByteArray), .string (⟨#[]⟩ : ByteArray), .string (⟨#[]⟩ : ByteArray), .string (⟨#[]⟩ : ByteArray)]) ?_ 3 _ rfl; (with_reducible repeat (first | refine blk_drewN ?_ _ | refine blk_drew ?_ | refine blk_alloc ?_ _)); refine blk_put (cs := #[.int .i64 0, .string (⟨#[226, 150, 160]⟩ : ByteArray), .string (⟨#[]⟩ : ByteArray), .string (⟨#[]⟩ : ByteArray), .string (⟨#[]⟩ : ByteArray), .string (⟨#[]⟩ : ByteArray), .string (⟨#[]⟩ : ByteArray), .string (⟨#[]⟩ : ByteArray), .string (⟨#[]⟩ : ByteArray), .string (⟨#[]⟩ : ByteArray)]) ?_ 2 _ rfl; (with_reducible repeat (first | refine blk_drewN ?_ _ | refine blk_drew ?_ | refine blk_alloc ?_ _)); refine blk_put (cs := #[.int .i64 0, .string (⟨#[]⟩ : ByteArray), .string (⟨#[]⟩ : ByteArray), .string (⟨#[]⟩ : ByteArray), .string (⟨#[]⟩ : ByteArray), .string (⟨#[]⟩ : ByteArray), .string (⟨#[]⟩ : ByteArray), .string (⟨#[]⟩ : ByteArray), .string (⟨#[]⟩ : ByteArray), .string (⟨#[]⟩ : ByteArray)]) ?_ 1 _ rfl; (with_reducible repeat (first | refine blk_drewN ?_ _ | refine blk_drew ?_ | refine blk_alloc ?_ _)); refine blk_put (cs := #[.int .i64 0, .string (⟨#[]⟩ : ByteArray), .string (⟨#[]⟩ : ByteArray), .string (⟨#[]⟩ : ByteArray), .string (⟨#[]⟩ : ByteArray), .string (⟨#[]⟩ : ByteArray), .string (⟨#[]⟩ : ByteArray), .string (⟨#[]⟩ : ByteArray), .string (⟨#[]⟩ : ByteArray), .string (⟨#[]⟩ : ByteArray)]) ?_ 0 _ rfl; (with_reducible repeat (first | refine blk_drewN ?_ _ | refine blk_drew ?_ | refine blk_alloc ?_ _)); exact BK136.out) Tryz.underlying45 rfl (by kernel_rfl)) rfl ?_
  exact ⟨by first | rfl | (simp [errW_none, errW_some] <;> rfl) | (simp [*, errW_none, errW_some] <;> rfl), by repeat (first | (with_reducible first | exact HB.out | apply below_alloc | apply pw_below_drewN | apply below_drew1 | refine below_set ?_ GE136.out) | exact HB.out)⟩

/-! ### list_StyleBulletStar: function 21 -/
def list_StyleBulletStar.f  : Option (Int × ByteArray × ByteArray × ByteArray × ByteArray × ByteArray × ByteArray × ByteArray × ByteArray × ByteArray) := some (0, (⟨#[226, 152, 133]⟩ : ByteArray), (⟨#[226, 152, 133]⟩ : ByteArray), (⟨#[226, 152, 133]⟩ : ByteArray), (⟨#[226, 152, 133]⟩ : ByteArray), (⟨#[32, 32]⟩ : ByteArray), (⟨#[226, 152, 133]⟩ : ByteArray), (⟨#[10]⟩ : ByteArray), (⟨#[]⟩ : ByteArray), (⟨#[83, 116, 121, 108, 101, 66, 117, 108, 108, 101, 116, 83, 116, 97, 114]⟩ : ByteArray))
set_option maxHeartbeats 8000000 in
set_option maxRecDepth 100000 in
theorem list_StyleBulletStar.calls  (r1 : Int) (r2 : ByteArray) (r3 : ByteArray) (r4 : ByteArray) (r5 : ByteArray) (r6 : ByteArray) (r7 : ByteArray) (r8 : ByteArray) (r9 : ByteArray) (r10 : ByteArray) (w : World) (h : list_StyleBulletStar.f  = some (r1, r2, r3, r4, r5, r6, r7, r8, r9, r10)) :
    Calls Tryz.prog 21 #[] w fun e w' => e = .returned (.agg #[.int .i64 r1, .string r2, .string r3, .string r4, .string r5, .string r6, .string r7, .string r8, .string r9, .string r10]) ∧ Below w.heap.size w w' := by
  have hu45 := Tryz.underlying45
  have HB := Aside0.mk (Below.refl w.heap.size w)
  have H : (some (0, (⟨#[226, 152, 133]⟩ : ByteArray), (⟨#[226, 152, 133]⟩ : ByteArray), (⟨#[226, 152, 133]⟩ : ByteArray), (⟨#[226, 152, 133]⟩ : ByteArray), (⟨#[32, 32]⟩ : ByteArray), (⟨#[226, 152, 133]⟩ : ByteArray), (⟨#[10]⟩ : ByteArray), (⟨#[]⟩ : ByteArray), (⟨#[83, 116, 121, 108, 101, 66, 117, 108, 108, 101, 116, 83, 116, 97, 114]⟩ : ByteArray))) = some (r1, r2, r3, r4, r5, r6, r7, r8, r9, r10) := h
  clear h
  simp only [Option.some.injEq, Prod.mk.injEq] at H
  obtain ⟨rfl, rfl, rfl, rfl, rfl, rfl, rfl, rfl, rfl, rfl⟩ := H
  go_enter Tryz.func21, Tryz.ntmps21
  go_wp2_with (first | ((with_reducible refine gate_dst (N := 0) rfl ?_); refine box_event ?hg (N := 0) ?hd (cs := #[.int .i64 0, .string (⟨#[]⟩ : ByteArray), .string (⟨#[]⟩ : ByteArray), .string (⟨#[]⟩ : ByteArray), .string (⟨#[]⟩ : ByteArray), .string (⟨#[]⟩ : ByteArray), .string (⟨#[]⟩ : ByteArray), .string (⟨#[]⟩ : ByteArray), .string (⟨#[]⟩ : ByteArray), .string (⟨#[]⟩ : ByteArray)]) (t := 45) ?hr ?_; (case hd => rfl); (case hg => rfl); (case hr => first | (go_simp; done) | (go_simp; rfl)); intro gb137 hg w1 hbox hb; have n0_ := Aside0.mk (below_step (by repeat (first | (with_reducible first | exact HB.out | apply below_alloc | apply pw_below_drewN | apply below_drew1) | exact HB.out)) hb); have n1_ := Aside0.mk (hbox); have n2_ := Aside0.mk ((by rw [hg]; exact (below_size (by repeat (first | (with_reducible first | exact HB.out | apply below_alloc | apply pw_below_drewN | apply below_drew1) | exact HB.out))) : w.heap.size ≤ gb137)); have n3_ := Aside0.mk ((by rw [hg]; exact (below_size (by repeat (first | (with_reducible first | exact HB.out | apply below_alloc | apply pw_below_drewN | apply below_drew1) | exact HB.out))) : w.heap.size ≤ gb137)); clear HB; have HB := n0_; have BK137 := n1_; have GW137 := n2_; have GE137 := n3_; clear n0_ n1_ n2_ n3_; clear hb hbox hg; have hcz2_0 : w1.cell? ⟨gb137, 0, none⟩ = some (.int .i64 0) := (blk_cell BK137.out 0).trans rfl; have hcz2_1 : w1.cell? ⟨gb137, 1, none⟩ = some (.string (⟨#[]⟩ : ByteArray)) := (blk_cell BK137.out 1).trans rfl; have hcz2_2 : w1.cell? ⟨gb137, 2, none⟩ = some (.string (⟨#[]⟩ : ByteArray)) := (blk_cell BK137.out 2).trans rfl; have hcz2_3 : w1.cell? ⟨gb137, 3, none⟩ = some (.string (⟨#[]⟩ : ByteArray)) := (blk_cell BK137.out 3).trans rfl; have hcz2_4 : w1.cell? ⟨gb137, 4, none⟩ = some (.string (⟨#[]⟩ : ByteArray)) := (blk_cell BK137.out 4).trans rfl; have hcz2_5 : w1.cell? ⟨gb137, 5, none⟩ = some (.string (⟨#[]⟩ : ByteArray)) := (blk_cell BK137.out 5).trans rfl; have hcz2_6 : w1.cell? ⟨gb137, 6, none⟩ = some (.string (⟨#[]⟩ : ByteArray)) := (blk_cell BK137.out 6).trans rfl; have hcz2_7 : w1.cell? ⟨gb137, 7, none⟩ = some (.string (⟨#[]⟩ : ByteArray)) := (blk_cell BK137.out 7).trans rfl; have hcz2_8 : w1.cell? ⟨gb137, 8, none⟩ = some (.string (⟨#[]⟩ : ByteArray)) := (blk_cell BK137.out 8).trans rfl; have hcz2_9 : w1.cell? ⟨gb137, 9, none⟩ = some (.string (⟨#[]⟩ : ByteArray)) := (blk_cell BK137.out 9).trans rfl; have hfz2_0 := blk_frozen BK137.out 0; have hfz2_1 := blk_frozen BK137.out 1; have hfz2_2 := blk_frozen BK137.out 2; have hfz2_3 := blk_frozen BK137.out 3; have hfz2_4 := blk_frozen BK137.out 4; have hfz2_5 := blk_frozen BK137.out 5; have hfz2_6 := blk_frozen BK137.out 6; have hfz2_7 := blk_frozen BK137.out 7; have hfz2_8 := blk_frozen BK137.out 8; have hfz2_9 := blk_frozen BK137.out 9))
  refine bodyPost_ret (results_cell_row rfl _ _ gb137 45 #[.int .i64 0, .string (⟨#[226, 152, 133]⟩ : ByteArray), .string (⟨#[226, 152, 133]⟩ : ByteArray), .string (⟨#[226, 152, 133]⟩ : ByteArray), .string (⟨#[226, 152, 133]⟩ : ByteArray), .string (⟨#[32, 32]⟩ : ByteArray), .string (⟨#[226, 152, 133]⟩ : ByteArray), .string (⟨#[10]⟩ : ByteArray), .string (⟨#[]⟩ : ByteArray), .string (⟨#[83, 116, 121, 108, 101, 66, 117, 108, 108, 101, 116, 83, 116, 97, 114]⟩ : ByteArray)] (0, 0) _ rfl (by (with_reducible repeat (first | refine blk_drewN ?_ _ | refine blk_drew ?_ | refine blk_alloc ?_ _)); refine blk_put (cs := #[.int .i64 0, .string (⟨#[226, 152, 133]⟩ : ByteArray), .string (⟨#[226, 152, 133]⟩ : ByteArray), .string (⟨#[226, 152, 133]⟩ : ByteArray), .string (⟨#[226, 152, 133]⟩ : ByteArray), .string (⟨#[32, 32]⟩ : ByteArray), .string (⟨#[226, 152, 133]⟩ : ByteArray), .string (⟨#[10]⟩ : ByteArray), .string (⟨#[]⟩ : ByteArray), .string (⟨#[]⟩ : ByteArray)]) ?_ 9 _ rfl; (with_reducible repeat (first | refine blk_drewN ?_ _ | refine blk_drew ?_ | refine blk_alloc ?_ _)); refine blk_put (cs := #[.int .i64 0, .string (⟨#[226, 152, 133]⟩ : ByteArray), .string (⟨#[226, 152, 133]⟩ : ByteArray), .string (⟨#[226, 152, 133]⟩ : ByteArray), .string (⟨#[226, 152, 133]⟩ : ByteArray), .string (⟨#[32, 32]⟩ : ByteArray), .string (⟨#[226, 152, 133]⟩ : ByteArray), .string (⟨#[10]⟩ : ByteArray), .string (⟨#[]⟩ : ByteArray), .string (⟨#[]⟩ : ByteArray)]) ?_ 8 _ rfl; (with_reducible repeat (first | refine blk_drewN ?_ _ | refine blk_drew ?_ | refine blk_alloc ?_ _)); refine blk_put (cs := #[.int .i64 0, .string (⟨#[226, 152, 133]⟩ : ByteArray), .string (⟨#[226, 152, 133]⟩ : ByteArray), .string (⟨#[226, 152, 133]⟩ : ByteArray), .string (⟨#[226, 152, 133]⟩ : ByteArray), .string (⟨#[32, 32]⟩ : ByteArray), .string (⟨#[226, 152, 133]⟩ : ByteArray), .string (⟨#[]⟩ : ByteArray), .string (⟨#[]⟩ : ByteArray), .string (⟨#[]⟩ : ByteArray)]) ?_ 7 _ rfl; (with_reducible repeat (first | refine blk_drewN ?_ _ | refine blk_drew ?_ | refine blk_alloc ?_ _)); refine blk_put (cs := #[.int .i64 0, .string (⟨#[226, 152, 133]⟩ : ByteArray), .string (⟨#[226, 152, 133]⟩ : ByteArray), .string (⟨#[226, 152, 133]⟩ : ByteArray), .string (⟨#[226, 152, 133]⟩ : ByteArray), .string (⟨#[32, 32]⟩ : ByteArray), .string (⟨#[]⟩ : ByteArray), .string (⟨#[]⟩ : ByteArray), .string (⟨#[]⟩ : ByteArray), .string (⟨#[]⟩ : ByteArray)]) ?_ 6 _ rfl; (with_reducible repeat (first | refine blk_drewN ?_ _ | refine blk_drew ?_ | refine blk_alloc ?_ _)); refine blk_put (cs := #[.int .i64 0, .string (⟨#[226, 152, 133]⟩ : ByteArray), .string (⟨#[226, 152, 133]⟩ : ByteArray), .string (⟨#[226, 152, 133]⟩ : ByteArray), .string (⟨#[226, 152, 133]⟩ : ByteArray), .string (⟨#[]⟩ : ByteArray), .string (⟨#[]⟩ : ByteArray), .string (⟨#[]⟩ : ByteArray), .string (⟨#[]⟩ : ByteArray), .string (⟨#[]⟩ : ByteArray)]) ?_ 5 _ rfl; (with_reducible repeat (first | refine blk_drewN ?_ _ | refine blk_drew ?_ | refine blk_alloc ?_ _)); refine blk_put (cs := #[.int .i64 0, .string (⟨#[226, 152, 133]⟩ : ByteArray), .string (⟨#[226, 152, 133]⟩ : ByteArray), .string (⟨#[226, 152, 133]⟩ : ByteArray), .string (⟨#[]⟩ : ByteArray), .string (⟨#[]⟩ : ByteArray), .string (⟨#[]⟩ : ByteArray), .string (⟨#[]⟩ : ByteArray), .string (⟨#[]⟩ : ByteArray), .string (⟨#[]⟩ : ByteArray)]) ?_ 4 _ rfl; (with_reducible repeat (first | refine blk_drewN ?_ _ | refine blk_drew ?_ | refine blk_alloc ?_ _)); refine blk_put (cs := #[.int .i64 0, .string (⟨#[226, 152, 133]⟩ : ByteArray), .string (⟨#[226, 152, 133]⟩ : ByteArray), .string (⟨#[]⟩ : ByteArray), .string (⟨#[]⟩ : ByteArray), .string (⟨#[]⟩ : ByteArray), .string (⟨#[]⟩ : ByteArray), .string (⟨#[]⟩ : ByteArray), .string (⟨#[]⟩ : ByteArray), .string (⟨#[]⟩ : ByteArray)]) ?_ 3 _ rfl; (with_reducible repeat (first | refine blk_drewN ?_ _ | refine blk_drew ?_ | refine blk_alloc ?_ _)); refine blk_put (cs := #[.int .i64 0, .string (⟨#[226, 152, 133]⟩ : ByteArray), .string (⟨#[]⟩ : ByteArray), .string (⟨#[]⟩ : ByteArray), .string (⟨#[]⟩ : ByteArray), .string (⟨#[]⟩ : ByteArray), .string (⟨#[]⟩ : ByteArray), .string (⟨#[]⟩ : ByteArray), .string (⟨#[]⟩ : ByteArray), .string (⟨#[]⟩ : ByteArray)]) ?_ 2 _ rfl; (with_reducible repeat (first | refine blk_drewN ?_ _ | refine blk_drew ?_ | refine blk_alloc ?_ _)); refine blk_put (cs := #[.int .i64 0, .string (⟨#[]⟩ : ByteArray), .string (⟨#[]⟩ : ByteArray), .string (⟨#[]⟩ : ByteArray), .string (⟨#[]⟩ : ByteArray), .string (⟨#[]⟩ : ByteArray), .string (⟨#[]⟩ : ByteArray), .string (⟨#[]⟩ : ByteArray), .string (⟨#[]⟩ : ByteArray), .string (⟨#[]⟩ : ByteArray)]) ?_ 1 _ rfl; (with_reducible repeat (first | refine blk_drewN ?_ _ | refine blk_drew ?_ | refine blk_alloc ?_ _)); refine blk_put (cs := #[.int .i64 0, .string (⟨#[]⟩ : ByteArray), .string (⟨#[]⟩ : ByteArray), .string (⟨#[]⟩ : ByteArray), .string (⟨#[]⟩ : ByteArray), .string (⟨#[]⟩ : ByteArray), .string (⟨#[]⟩ : ByteArray), .string (⟨#[]⟩ : ByteArray), .string (⟨#[]⟩ : ByteArray), .string (⟨#[]⟩ : ByteArray)]) ?_ 0 _ rfl; (with_reducible repeat (first | refine blk_drewN ?_ _ | refine blk_drew ?_ | refine blk_alloc ?_ _)); exact BK137.out) Tryz.underlying45 rfl (by kernel_rfl)) rfl ?_
  exact ⟨by first | rfl | (simp [errW_none, errW_some] <;> rfl) | (simp [*, errW_none, errW_some] <;> rfl), by repeat (first | (with_reducible first | exact HB.out | apply below_alloc | apply pw_below_drewN | apply below_drew1 | refine below_set ?_ GE137.out) | exact HB.out)⟩

/-! ### list_StyleBulletTriangle: function 22 -/
def list_StyleBulletTriangle.f  : Option (Int × ByteArray × ByteArray × ByteArray × ByteArray × ByteArray × ByteArray × ByteArray × ByteArray × ByteArray) := some (0, (⟨#[226, 150, 182]⟩ : ByteArray), (⟨#[226, 150, 182]⟩ : ByteArray), (⟨#[226, 150, 182]⟩ : ByteArray), (⟨#[226, 150, 182]⟩ : ByteArray), (⟨#[32, 32]⟩ : ByteArray), (⟨#[226, 150, 182]⟩ : ByteArray), (⟨#[10]⟩ : ByteArray), (⟨#[]⟩ : ByteArray), (⟨#[83, 116, 121, 108, 101, 66, 117, 108, 108, 101, 116, 84, 114, 105, 97, 110, 103, 108, 101]⟩ : ByteArray))
set_option maxHeartbeats 8000000 in
set_option maxRecDepth 100000 in
theorem list_StyleBulletTriangle.calls  (r1 : Int) (r2 : ByteArray) (r3 : ByteArray) (r4 : ByteArray) (r5 : ByteArray) (r6 : ByteArray) (r7 : ByteArray) (r8 : ByteArray) (r9 : ByteArray) (r10 : ByteArray) (w : World) (h : list_StyleBulletTriangle.f  = some (r1, r2, r3, r4, r5, r6, r7, r8, r9, r10)) :
    Calls Tryz.prog 22 #[] w fun e w' => e = .returned (.agg #[.int .i64 r1, .string r2, .string r3, .string r4, .string r5, .string r6, .string r7, .string r8, .string r9, .string r10]) ∧ Below w.heap.size w w' := by
  have hu45 := Tryz.underlying45
  have HB := Aside0.mk (Below.refl w.heap.size w)
  have H : (some (0, (⟨#[226, 150, 182]⟩ : ByteArray), (⟨#[226, 150, 182]⟩ : ByteArray), (⟨#[226, 150, 182]⟩ : ByteArray), (⟨#[226, 150, 182]⟩ : ByteArray), (⟨#[32, 32]⟩ : ByteArray), (⟨#[226, 150, 182]⟩ : ByteArray), (⟨#[10]⟩ : ByteArray), (⟨#[]⟩ : ByteArray), (⟨#[83, 116, 121, 108, 101, 66, 117, 108, 108, 101, 116, 84, 114, 105, 97, 110, 103, 108, 101]⟩ : ByteArray))) = some (r1, r2, r3, r4, r5, r6, r7, r8, r9, r10) := h
  clear h
  simp only [Option.some.injEq, Prod.mk.injEq] at H
  obtain ⟨rfl, rfl, rfl, rfl, rfl, rfl, rfl, rfl, rfl, rfl⟩ := H
  go_enter Tryz.func22, Tryz.ntmps22
  go_wp2_with (first | ((with_reducible refine gate_dst (N := 0) rfl ?_); refine box_event ?hg (N := 0) ?hd (cs := #[.int .i64 0, .string (⟨#[]⟩ : ByteArray), .string (⟨#[]⟩ : ByteArray), .string (⟨#[]⟩ : ByteArray), .string (⟨#[]⟩ : ByteArray), .string (⟨#[]⟩ : ByteArray), .string (⟨#[]⟩ : ByteArray), .string (⟨#[]⟩ : ByteArray), .string (⟨#[]⟩ : ByteArray), .string (⟨#[]⟩ : ByteArray)]) (t := 45) ?hr ?_; (case hd => rfl); (case hg => rfl); (case hr => first | (go_simp; done) | (go_simp; rfl)); intro gb138 hg w1 hbox hb; have n0_ := Aside0.mk (below_step (by repeat (first | (with_reducible first | exact HB.out | apply below_alloc | apply pw_below_drewN | apply below_drew1) | exact HB.out)) hb); have n1_ := Aside0.mk (hbox); have n2_ := Aside0.mk ((by rw [hg]; exact (below_size (by repeat (first | (with_reducible first | exact HB.out | apply below_alloc | apply pw_below_drewN | apply below_drew1) | exact HB.out))) : w.heap.size ≤ gb138)); have n3_ := Aside0.mk ((by rw [hg]; exact (below_size (by repeat (first | (with_reducible first | exact HB.out | apply below_alloc | apply pw_below_drewN | apply below_drew1) | exact HB.out))) : w.heap.size ≤ gb138)); clear HB; have HB := n0_; have BK138 := n1_; have GW138 := n2_; have GE138 := n3_; clear n0_ n1_ n2_ n3_; clear hb hbox hg; have hcz2_0 : w1.cell? ⟨gb138, 0, none⟩ = some (.int .i64 0) := (blk_cell BK138.out 0).trans rfl; have hcz2_1 : w1.cell? ⟨gb138, 1, none⟩ = some (.string (⟨#[]⟩ : ByteArray)) := (blk_cell BK138.out 1).trans rfl; have hcz2_2 : w1.cell? ⟨gb138, 2, none⟩ = some (.string (⟨#[]⟩ : ByteArray)) := (blk_cell BK138.out 2).trans rfl; have hcz2_3 : w1.cell? ⟨gb138, 3, none⟩ = some (.string (⟨#[]⟩ : ByteArray)) := (blk_cell BK138.out 3).trans rfl; have hcz2_4 : w1.cell? ⟨gb138, 4, none⟩ = some (.string (⟨#[]⟩ : ByteArray)) := (blk_cell BK138.out 4).trans rfl; have hcz2_5 : w1.cell? ⟨gb138, 5, none⟩ = some (.string (⟨#[]⟩ : ByteArray)) := (blk_cell BK138.out 5).trans rfl; have hcz2_6 : w1.cell? ⟨gb138, 6, none⟩ = some (.string (⟨#[]⟩ : ByteArray)) := (blk_cell BK138.out 6).trans rfl; have hcz2_7 : w1.cell? ⟨gb138, 7, none⟩ = some (.string (⟨#[]⟩ : ByteArray)) := (blk_cell BK138.out 7).trans rfl; have hcz2_8 : w1.cell? ⟨gb138, 8, none⟩ = some (.string (⟨#[]⟩ : ByteArray)) := (blk_cell BK138.out 8).trans rfl; have hcz2_9 : w1.cell? ⟨gb138, 9, none⟩ = some (.string (⟨#[]⟩ : ByteArray)) := (blk_cell BK138.out 9).trans rfl; have hfz2_0 := blk_frozen BK138.out 0; have hfz2_1 := blk_frozen BK138.out 1; have hfz2_2 := blk_frozen BK138.out 2; have hfz2_3 := blk_frozen BK138.out 3; have hfz2_4 := blk_frozen BK138.out 4; have hfz2_5 := blk_frozen BK138.out 5; have hfz2_6 := blk_frozen BK138.out 6; have hfz2_7 := blk_frozen BK138.out 7; have hfz2_8 := blk_frozen BK138.out 8; have hfz2_9 := blk_frozen BK138.out 9))
  refine bodyPost_ret (results_cell_row rfl _ _ gb138 45 #[.int .i64 0, .string (⟨#[226, 150, 182]⟩ : ByteArray), .string (⟨#[226, 150, 182]⟩ : ByteArray), .string (⟨#[226, 150, 182]⟩ : ByteArray), .string (⟨#[226, 150, 182]⟩ : ByteArray), .string (⟨#[32, 32]⟩ : ByteArray), .string (⟨#[226, 150, 182]⟩ : ByteArray), .string (⟨#[10]⟩ : ByteArray), .string (⟨#[]⟩ : ByteArray), .string (⟨#[83, 116, 121, 108, 101, 66, 117, 108, 108, 101, 116, 84, 114, 105, 97, 110, 103, 108, 101]⟩ : ByteArray)] (0, 0) _ rfl (by (with_reducible repeat (first | refine blk_drewN ?_ _ | refine blk_drew ?_ | refine blk_alloc ?_ _)); refine blk_put (cs := #[.int .i64 0, .string (⟨#[226, 150, 182]⟩ : ByteArray), .string (⟨#[226, 150, 182]⟩ : ByteArray), .string (⟨#[226, 150, 182]⟩ : ByteArray), .string (⟨#[226, 150, 182]⟩ : ByteArray), .string (⟨#[32, 32]⟩ : ByteArray), .string (⟨#[226, 150, 182]⟩ : ByteArray), .string (⟨#[10]⟩ : ByteArray), .string (⟨#[]⟩ : ByteArray), .string (⟨#[]⟩ : ByteArray)]) ?_ 9 _ rfl; (with_reducible repeat (first | refine blk_drewN ?_ _ | refine blk_drew ?_ | refine blk_alloc ?_ _)); refine blk_put (cs := #[.int .i64 0, .string (⟨#[226, 150, 182]⟩ : ByteArray), .string (⟨#[226, 150, 182]⟩ : ByteArray), .string (⟨#[226, 150, 182]⟩ : ByteArray), .string (⟨#[226, 150, 182]⟩ : ByteArray), .string (⟨#[32, 32]⟩ : ByteArray), .string (⟨#[226, 150, 182]⟩ : ByteArray), .string (⟨#[10]⟩ : ByteArray), .string (⟨#[]⟩ : ByteArray), .string (⟨#[]⟩ : ByteArray)]) ?_ 8 _ rfl; (with_reducible repeat (first | refine blk_drewN ?_ _ | refine blk_drew ?_ | refine blk_alloc ?_ _)); refine blk_put (cs := #[.int .i64 0, .string (⟨#[226, 150, 182]⟩ : ByteArray), .string (⟨#[226, 150, 182]⟩ : ByteArray), .string (⟨#[226, 150, 182]⟩ : ByteArray), .string (⟨#[226, 150, 182]⟩ : ByteArray), .string (⟨#[32, 32]⟩ : ByteArray), .string (⟨#[226, 150, 182]⟩ : ByteArray), .string (⟨#[]⟩ : ByteArray), .string (⟨#[]⟩ : ByteArray), .string (⟨#[]⟩ : ByteArray)]) ?_ 7 _ rfl; (with_reducible repeat (first | refine blk_drewN ?_ _ | refine blk_drew ?_ | refine blk_alloc ?_ _)); refine blk_put (cs := #[.int .i64 0, .string (⟨#[226, 150, 182]⟩ : ByteArray), .string (⟨#[226, 150, 182]⟩ : ByteArray), .string (⟨#[226, 150, 182]⟩ : ByteArray), .string (⟨#[226, 150, 182]⟩ : ByteArray), .string (⟨#[32, 32]⟩ : ByteArray), .string (⟨#[]⟩ : ByteArray), .string (⟨#[]⟩ : ByteArray), .string (⟨#[]⟩ : ByteArray), .string (⟨#[]⟩ : ByteArray)]) ?_ 6 _ rfl; (with_reducible repeat (first | refine blk_drewN ?_ _ | refine blk_drew ?_ | refine blk_alloc ?_ _)); refine blk_put (cs := #[.int .i64 0, .string (⟨#[226, 150, 182]⟩ : ByteArray), .string (⟨#[226, 150, 182]⟩ : ByteArray), .string (⟨#[226, 150, 182]⟩ : ByteArray), .string (⟨#[226, 150, 182]⟩ : ByteArray), .string (⟨#[]⟩ : ByteArray), .string (⟨#[]⟩ : ByteArray), .string (⟨#[]⟩ : ByteArray), .string (⟨#[]⟩ : ByteArray), .string (⟨#[]⟩ : ByteArray)]) ?_ 5 _ rfl; (with_reducible repeat (first | refine blk_drewN ?_ _ | refine blk_drew ?_ | refine blk_alloc ?_ _)); refine blk_put (cs := #[.int .i64 0, .string (⟨#[226, 150, 182]⟩ : ByteArray), .string (⟨#[226, 150, 182]⟩ : ByteArray), .string (⟨#[226, 150, 182]⟩ : ByteArray), .string (⟨#[]⟩ : ByteArray), .string (⟨#[]⟩ : ByteArray), .string (⟨#[]⟩ : ByteArray), .string (⟨#[]⟩ : ByteArray), .string (⟨#[]⟩ : ByteArray), .string (⟨#[]⟩ : ByteArray)]) ?_ 4 _ rfl; (with_reducible repeat (first | refine blk_drewN ?_ _ | refine blk_drew ?_ | refine blk_alloc ?_ _)); refine blk_put (cs := #[.int .i64 0, .string (⟨#[226, 150, 182]⟩ : ByteArray), .string (⟨#[226, 150, 182]⟩ : ByteArray), .string (⟨#[]⟩ : ByteArray), .string (⟨#[]⟩ : ByteArray), .string (⟨#[]⟩ : ByteArray), .string (⟨#[]⟩ : ByteArray), .string (⟨#[]⟩ : ByteArray), .string (⟨#[]⟩ : ByteArray), .string (⟨#[]⟩ : ByteArray)]) ?_ 3 _ rfl; (with_reducible repeat (first | refine blk_drewN ?_ _ | refine blk_drew ?_ | refine blk_alloc ?_ _)); refine blk_put (cs := #[.int .i64 0, .string (⟨#[226, 150, 182]⟩ : ByteArray), .string (⟨#[]⟩ : ByteArray), .string (⟨#[]⟩ : ByteArray), .string (⟨#[]⟩ : ByteArray), .string (⟨#[]⟩ : ByteArray), .string (⟨#[]⟩ : ByteArray), .string (⟨#[]⟩ : ByteArray), .string (⟨#[]⟩ : ByteArray), .string (⟨#[]⟩ : ByteArray)]) ?_ 2 _ rfl; (with_reducible repeat (first | refine blk_drewN ?_ _ | refine blk_drew ?_ | refine blk_alloc ?_ _)); refine blk_put (cs := #[.int .i64 0, .string (⟨#[]⟩ : ByteArray), .string (⟨#[]⟩ : ByteArray), .string (⟨#[]⟩ : ByteArray), .string (⟨#[]⟩ : ByteArray), .string (⟨#[]⟩ : ByteArray), .string (⟨#[]⟩ : ByteArray), .string (⟨#[]⟩ : ByteArray), .string (⟨#[]⟩ : ByteArray), .string (⟨#[]⟩ : ByteArray)]) ?_ 1 _ rfl; (with_reducible repeat (first | refine blk_drewN ?_ _ | refine blk_drew ?_ | refine blk_alloc ?_ _)); refine blk_put (cs := #[.int .i64 0, .string (⟨#[]⟩ : ByteArray), .string (⟨#[]⟩ : ByteArray), .string (⟨#[]⟩ : ByteArray), .string (⟨#[]⟩ : ByteArray), .string (⟨#[]⟩ : ByteArray), .string (⟨#[]⟩ : ByteArray), .string (⟨#[]⟩ : ByteArray), .string (⟨#[]⟩ : ByteArray), .string (⟨#[]⟩ : ByteArray)]) ?_ 0 _ rfl; (with_reducible repeat (first | refine blk_drewN ?_ _ | refine blk_drew ?_ | refine blk_alloc ?_ _)); exact BK138.out) Tryz.underlying45 rfl (by kernel_rfl)) rfl ?_
  exact ⟨by first | rfl | (simp [errW_none, errW_some] <;> rfl) | (simp [*, errW_none, errW_some] <;> rfl), by repeat (first | (with_reducible first | exact HB.out | apply below_alloc | apply pw_below_drewN | apply below_drew1 | refine below_set ?_ GE138.out) | exact HB.out)⟩

end
end Go.Proofs.YthjkmjimlhpbfaaGreatDoor.GFnListPlain
