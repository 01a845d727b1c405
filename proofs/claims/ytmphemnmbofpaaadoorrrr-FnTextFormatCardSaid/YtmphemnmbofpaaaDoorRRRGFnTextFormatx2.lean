-- Written by gprint.py, a program of this session over the kit's printer, with contracts of its own for what the printer does not take. Not trusted: Lean checks it.
import Derived.Test.YtmphemnmbofpaaaDoorRRRGFnTextFormatx0
import Derived.Test.YtmphemnmbofpaaaDoorRRRGFnTextFormatx1
namespace Go.Proofs.YtmphemnmbofpaaaDoorRRR.GFnTextFormat
open Go.RowKit Go.Proofs.YtmphemnmbofpaaaDoorRRR.Itr Go.Proofs.YtmphemnmbofpaaaDoorRRRW.PrintWords Go.Proofs.YtmphemnmbofpaaaDoorRRRW.PrintLast Go.Proofs.YtmphemnmbofpaaaDoorRRRW.PrintMore
attribute [local go_sem] max2_int min2_int max_two min_two max_three min_three max_four min_four   -- for this text's walks alone
set_option linter.unusedVariables false
set_option linter.unusedSimpArgs false

/-! ### spec_TxSimple: function 12 -/
def spec_TxSimple.l0 : Nat → Bool → ByteArray → Int → Option (Bool)
  | 0, _, _, _ => none
  | k + 1, x1, x112000, x112001 => if x112001 < (x112000.size : Int) then ((itr_more.f x112000 x112001).bind fun bt112 => ((spec_TxKnown.f bt112.2.1).bind fun t115 => (if t115 = true then (spec_TxSimple.l0 k x1 x112000 bt112.2.2) else (if x1 = true then (if bt112.2.1 = 10 then (spec_TxSimple.l0 k x1 x112000 bt112.2.2) else (some false)) else (some false))))) else ((itr_end.f x112000 x112001).bind fun t116 => (some true))
def spec_TxSimple.f (k : Nat) (a0 : ByteArray) (a1 : Bool) : Option (Bool) := (itr_make.f a0).bind fun bt109 => (spec_TxSimple.l0 k a1 bt109.1 bt109.2)
theorem spec_TxSimple.mono_l : ∀ k, (∀ y0 y1 y2, LeO (spec_TxSimple.l0 k y0 y1 y2) (spec_TxSimple.l0 (k + 1) y0 y1 y2))
  | 0 => fun _ _ _ r h => by simp [spec_TxSimple.l0] at h
  | k + 1 => by
    have ih0 := spec_TxSimple.mono_l k
    · intro y0 y1 y2
      unfold spec_TxSimple.l0
      repeat' first
      | (with_reducible exact ih0 _ _ _)
      | (with_reducible exact LeO.refl _)
      | (with_reducible exact LeO.none _)
      | (with_reducible refine LeO.ite ?_ ?_)
      | (with_reducible refine LeO.bind ?_ (fun _ => ?_))
      | exact ih0 _ _ _
      | exact LeO.none _
      | refine LeO.ite ?_ ?_
      | refine LeO.bind ?_ (fun _ => ?_)
theorem spec_TxSimple.mono : ∀ a0 a1 k, LeO (spec_TxSimple.f k a0 a1) (spec_TxSimple.f (k + 1) a0 a1) := by
  intro a0 a1 k
  have ih0 := spec_TxSimple.mono_l k
  unfold spec_TxSimple.f
  repeat' first
      | (with_reducible exact ih0 _ _ _)
      | (with_reducible exact LeO.refl _)
      | (with_reducible exact LeO.none _)
      | (with_reducible refine LeO.ite ?_ ?_)
      | (with_reducible refine LeO.bind ?_ (fun _ => ?_))
      | exact ih0 _ _ _
      | exact LeO.none _
      | refine LeO.ite ?_ ?_
      | refine LeO.bind ?_ (fun _ => ?_)
set_option maxHeartbeats 8000000 in
set_option maxRecDepth 100000 in
theorem spec_TxSimple.calls (k : Nat) (a0 : ByteArray) (a1 : Bool) (r : Bool) (w : World) (h : spec_TxSimple.f k a0 a1 = some r) :
    Calls Tryd.prog 12 #[.string a0, .bool a1] w fun e w' => e = .returned (.bool r) ∧ Below w.heap.size w w' := by
  have HB := Aside0.mk (Below.refl w.heap.size w)
  have H : ((itr_make.f a0).bind fun bt109 => (spec_TxSimple.l0 k a1 bt109.1 bt109.2)) = some r := h
  clear h
  replace H := Option.bind_eq_some_iff.mp H
  obtain ⟨⟨t109, t110⟩, A30, H⟩ := H
  replace H : (spec_TxSimple.l0 k a1 t109 t110) = some r := H
  have A3 := Aside0.mk A30
  clear A30
  have H' := Aside0.mk H
  clear H
  go_enter Tryd.func12, Tryd.ntmps12
  go_wp2_with (first | ((with_reducible refine gate_dst (N := 8) rfl ?_); refine rangeL_ (some 8) rfl rfl rfl Tryd.underlying9 a0 rfl ?_; (with_reducible refine (itr_make.calls a0 t109 t110 w _ ?side1 A3.out).mono ?_); (case side1 => repeat (first | (with_reducible first | exact HB.out | apply below_alloc | apply pw_below_drewN | apply below_drew1) | exact HB.out)); rintro e w4 ⟨g111, rfl, hi, hb, hb2, hge⟩; refine ⟨_, rfl, ?_⟩; have n0_ := Aside0.mk (hb); have n1_ := Aside0.mk (hi); clear HB; have HB := n0_; have HI111 := n1_; clear n0_ n1_; (try clear hb); (try clear hb2); (try clear hk); (try clear hi)))
  (try simp only [Act.put, List.setIfInBounds_toArray, List.set_cons_zero, List.set_cons_succ])
  go_loopg [] k (fun kq w' => ∃ (x112001_1 : Int), Aside0 (spec_TxSimple.l0 kq a1 t109 x112001_1 = some r) ∧ Aside0 (kq ≤ k) ∧ Aside0 (IsS123 w w' g111 t109 x112001_1) ∧ Aside0 (Below w.heap.size w w'))
  case atStart => exact ⟨(t110), H', ⟨Nat.le_refl _⟩, ⟨by repeat (first | (with_reducible first | exact HI111.out | apply IsS123.alloc | apply IsS123.drewN | apply IsS123.drew | apply IsS123.set_1) | exact HI111.out)⟩, ⟨by repeat (first | (with_reducible first | exact HB.out | apply below_alloc | apply pw_below_drewN | apply below_drew1 | refine below_set ?_ (IsS123.ge HI111.out)) | exact HB.out)⟩⟩
  case round =>
    clear H'
    try clear c1
    try clear p2
    obtain ⟨x112001_1, HA, HK1, HI111, HB⟩ := hrel
    cases gk with
    | zero => exact absurd HA.out (by simp [spec_TxSimple.l0])
    | succ k1 =>
      have H := HA.out
      clear HA
      simp only [spec_TxSimple.l0] at H
      by_cases c5 : x112001_1 < (t109.size : Int)
      · rw [if_pos c5] at H
        have c5b0 : decide (x112001_1 < (t109.size : Int)) = true := decide_eq_true c5
        clear c5
        replace H := Option.bind_eq_some_iff.mp H
        obtain ⟨⟨t112, t113, t114⟩, A60, H⟩ := H
        replace H : ((spec_TxKnown.f t113).bind fun t115 => (if t115 = true then (spec_TxSimple.l0 k1 a1 t109 t114) else (if a1 = true then (if t113 = 10 then (spec_TxSimple.l0 k1 a1 t109 t114) else (some false)) else (some false)))) = some r := H
        have A6 := Aside0.mk A60
        clear A60
        replace H := Option.bind_eq_some_iff.mp H
        obtain ⟨t115, A70, H⟩ := H
        replace H : (if t115 = true then (spec_TxSimple.l0 k1 a1 t109 t114) else (if a1 = true then (if t113 = 10 then (spec_TxSimple.l0 k1 a1 t109 t114) else (some false)) else (some false))) = some r := H
        have A7 := Aside0.mk A70
        clear A70
        by_cases c8 : t115 = true
        · subst c8
          have H1 : (spec_TxSimple.l0 k1 a1 t109 t114) = some r := by rw [if_pos rfl] at H; exact H
          clear H
          have H := H1
          clear H1
          have H' := Aside0.mk H
          clear H
          go_wp2_with (first | ((with_reducible refine gate_dst (N := 9) rfl ?_); refine nextL_ (some 9) rfl rfl rfl (.pointer (some ⟨g111, 0, none⟩)) rfl ?_; (with_reducible refine (itr_more.calls g111 t109 x112001_1 t112 t113 t114 w _ ?side1 ?side2 A6.out).mono ?_); (case side1 => repeat (first | (with_reducible first | exact HI111.out | apply IsS123.alloc | apply IsS123.drewN | apply IsS123.drew | apply IsS123.set_1) | exact HI111.out)); (case side2 => repeat (first | (with_reducible first | exact HB.out | apply below_alloc | apply pw_below_drewN | apply below_drew1 | refine below_set ?_ (IsS123.ge HI111.out)) | exact HB.out)); rintro e w9 ⟨rfl, hi, hb, hk⟩; refine ⟨_, rfl, ?_⟩; have n0_ := Aside0.mk (hb); have n1_ := Aside0.mk (hi); clear HB; clear HI111; have HB := n0_; have HI111 := n1_; clear n0_ n1_; (try clear hb); (try clear hb2); (try clear hk); (try clear hi)) | ((with_reducible refine gate_callee (f := 17) rfl ?_); refine goesL_ (some 13) rfl rfl Tryd.func17 (by kernel_rfl) rfl #[.int .i32 t113] rfl (by (try simp only [List.map_toArray, List.map_cons, List.map_nil]); first | done | rfl | (simp only [List.length_drop, List.length_take]; rfl)) ?_; (with_reducible refine (spec_TxKnown.calls t113 true _ A7.out).mono ?_); rintro e w' ⟨rfl, ⟨nd, rfl⟩⟩; refine ⟨_, rfl, ?_⟩))
          go_roundg k1
          case measure => have := HK1.out; omega
          case rel => exact ⟨(t114), H', ⟨by have := HK1.out; omega⟩, ⟨by repeat (first | (with_reducible first | exact HI111.out | apply IsS123.alloc | apply IsS123.drewN | apply IsS123.drew | apply IsS123.set_1) | exact HI111.out)⟩, ⟨by repeat (first | (with_reducible first | exact HB.out | apply below_alloc | apply pw_below_drewN | apply below_drew1 | refine below_set ?_ (IsS123.ge HI111.out)) | exact HB.out)⟩⟩
        · replace c8 := Bool.eq_false_iff.mpr c8
          subst c8
          have H1 : (if a1 = true then (if t113 = 10 then (spec_TxSimple.l0 k1 a1 t109 t114) else (some false)) else (some false)) = some r := by rw [if_neg (show ¬ (false = true) by decide)] at H; exact H
          clear H
          have H := H1
          clear H1
          by_cases c10 : a1 = true
          · subst c10
            have H1 : (if t113 = 10 then (spec_TxSimple.l0 k1 true t109 t114) else (some false)) = some r := by rw [if_pos rfl] at H; exact H
            clear H
            have H := H1
            clear H1
            by_cases c11 : t113 = 10
            · rw [if_pos c11] at H
              have c11b0 : (t113 == 10) = true := beq_iff_eq.mpr c11
              have c11b1 : (t113 != 10) = false := bne_eq_false_iff_eq.mpr c11
              clear c11
              have H' := Aside0.mk H
              clear H
              go_wp2_with (first | ((with_reducible refine gate_dst (N := 9) rfl ?_); refine nextL_ (some 9) rfl rfl rfl (.pointer (some ⟨g111, 0, none⟩)) rfl ?_; (with_reducible refine (itr_more.calls g111 t109 x112001_1 t112 t113 t114 w _ ?side1 ?side2 A6.out).mono ?_); (case side1 => repeat (first | (with_reducible first | exact HI111.out | apply IsS123.alloc | apply IsS123.drewN | apply IsS123.drew | apply IsS123.set_1) | exact HI111.out)); (case side2 => repeat (first | (with_reducible first | exact HB.out | apply below_alloc | apply pw_below_drewN | apply below_drew1 | refine below_set ?_ (IsS123.ge HI111.out)) | exact HB.out)); rintro e w12 ⟨rfl, hi, hb, hk⟩; refine ⟨_, rfl, ?_⟩; have n0_ := Aside0.mk (hb); have n1_ := Aside0.mk (hi); clear HB; clear HI111; have HB := n0_; have HI111 := n1_; clear n0_ n1_; (try clear hb); (try clear hb2); (try clear hk); (try clear hi)) | ((with_reducible refine gate_callee (f := 17) rfl ?_); refine goesL_ (some 13) rfl rfl Tryd.func17 (by kernel_rfl) rfl #[.int .i32 t113] rfl (by (try simp only [List.map_toArray, List.map_cons, List.map_nil]); first | done | rfl | (simp only [List.length_drop, List.length_take]; rfl)) ?_; (with_reducible refine (spec_TxKnown.calls t113 false _ A7.out).mono ?_); rintro e w' ⟨rfl, ⟨nd, rfl⟩⟩; refine ⟨_, rfl, ?_⟩))
              go_roundg k1
              case measure => have := HK1.out; omega
              case rel => exact ⟨(t114), H', ⟨by have := HK1.out; omega⟩, ⟨by repeat (first | (with_reducible first | exact HI111.out | apply IsS123.alloc | apply IsS123.drewN | apply IsS123.drew | apply IsS123.set_1) | exact HI111.out)⟩, ⟨by repeat (first | (with_reducible first | exact HB.out | apply below_alloc | apply pw_below_drewN | apply below_drew1 | refine below_set ?_ (IsS123.ge HI111.out)) | exact HB.out)⟩⟩
            · rw [if_neg c11] at H
              have c11b0 : (t113 == 10) = false := beq_eq_false_iff_ne.mpr c11
              have c11b1 : (t113 != 10) = true := bne_iff_ne.mpr c11
              obtain rfl := Option.some.inj H
              go_wp2_with (first | ((with_reducible refine gate_dst (N := 9) rfl ?_); refine nextL_ (some 9) rfl rfl rfl (.pointer (some ⟨g111, 0, none⟩)) rfl ?_; (with_reducible refine (itr_more.calls g111 t109 x112001_1 t112 t113 t114 w _ ?side1 ?side2 A6.out).mono ?_); (case side1 => repeat (first | (with_reducible first | exact HI111.out | apply IsS123.alloc | apply IsS123.drewN | apply IsS123.drew | apply IsS123.set_1) | exact HI111.out)); (case side2 => repeat (first | (with_reducible first | exact HB.out | apply below_alloc | apply pw_below_drewN | apply below_drew1 | refine below_set ?_ (IsS123.ge HI111.out)) | exact HB.out)); rintro e w13 ⟨rfl, hi, hb, hk⟩; refine ⟨_, rfl, ?_⟩; have n0_ := Aside0.mk (hb); have n1_ := Aside0.mk (hi); clear HB; clear HI111; have HB := n0_; have HI111 := n1_; clear n0_ n1_; (try clear hb); (try clear hb2); (try clear hk); (try clear hi)) | ((with_reducible refine gate_callee (f := 17) rfl ?_); refine goesL_ (some 13) rfl rfl Tryd.func17 (by kernel_rfl) rfl #[.int .i32 t113] rfl (by (try simp only [List.map_toArray, List.map_cons, List.map_nil]); first | done | rfl | (simp only [List.length_drop, List.length_take]; rfl)) ?_; (with_reducible refine (spec_TxKnown.calls t113 false _ A7.out).mono ?_); rintro e w' ⟨rfl, ⟨nd, rfl⟩⟩; refine ⟨_, rfl, ?_⟩))
              go_ret
              exact ⟨by first | rfl | (simp [errW_none, errW_some] <;> rfl) | (simp [*, errW_none, errW_some] <;> rfl), by repeat (first | (with_reducible first | exact HB.out | apply below_alloc | apply pw_below_drewN | apply below_drew1 | refine below_set ?_ (IsS123.ge HI111.out)) | exact HB.out)⟩
          · replace c10 := Bool.eq_false_iff.mpr c10
            subst c10
            have H1 : (some false) = some r := by rw [if_neg (show ¬ (false = true) by decide)] at H; exact H
            clear H
            have H := H1
            clear H1
            obtain rfl := Option.some.inj H
            go_wp2_with (first | ((with_reducible refine gate_dst (N := 9) rfl ?_); refine nextL_ (some 9) rfl rfl rfl (.pointer (some ⟨g111, 0, none⟩)) rfl ?_; (with_reducible refine (itr_more.calls g111 t109 x112001_1 t112 t113 t114 w _ ?side1 ?side2 A6.out).mono ?_); (case side1 => repeat (first | (with_reducible first | exact HI111.out | apply IsS123.alloc | apply IsS123.drewN | apply IsS123.drew | apply IsS123.set_1) | exact HI111.out)); (case side2 => repeat (first | (with_reducible first | exact HB.out | apply below_alloc | apply pw_below_drewN | apply below_drew1 | refine below_set ?_ (IsS123.ge HI111.out)) | exact HB.out)); rintro e w14 ⟨rfl, hi, hb, hk⟩; refine ⟨_, rfl, ?_⟩; have n0_ := Aside0.mk (hb); have n1_ := Aside0.mk (hi); clear HB; clear HI111; have HB := n0_; have HI111 := n1_; clear n0_ n1_; (try clear hb); (try clear hb2); (try clear hk); (try clear hi)) | ((with_reducible refine gate_callee (f := 17) rfl ?_); refine goesL_ (some 13) rfl rfl Tryd.func17 (by kernel_rfl) rfl #[.int .i32 t113] rfl (by (try simp only [List.map_toArray, List.map_cons, List.map_nil]); first | done | rfl | (simp only [List.length_drop, List.length_take]; rfl)) ?_; (with_reducible refine (spec_TxKnown.calls t113 false _ A7.out).mono ?_); rintro e w' ⟨rfl, ⟨nd, rfl⟩⟩; refine ⟨_, rfl, ?_⟩))
            go_ret
            exact ⟨by first | rfl | (simp [errW_none, errW_some] <;> rfl) | (simp [*, errW_none, errW_some] <;> rfl), by repeat (first | (with_reducible first | exact HB.out | apply below_alloc | apply pw_below_drewN | apply below_drew1 | refine below_set ?_ (IsS123.ge HI111.out)) | exact HB.out)⟩
      · rw [if_neg c5] at H
        have c5b0 : decide (x112001_1 < (t109.size : Int)) = false := decide_eq_false c5
        clear c5
        replace H := Option.bind_eq_some_iff.mp H
        obtain ⟨t116, A150, H⟩ := H
        replace H : (some true) = some r := H
        have A15 := Aside0.mk A150
        clear A150
        obtain rfl := Option.some.inj H
        go_wp2_with (first | ((with_reducible refine gate_dst (N := 9) rfl ?_); refine nextL_ (some 9) rfl rfl rfl (.pointer (some ⟨g111, 0, none⟩)) rfl ?_; (with_reducible refine (itr_end.calls g111 t109 x112001_1 t116 w _ ?side1 ?side2 A15.out).mono ?_); (case side1 => repeat (first | (with_reducible first | exact HI111.out | apply IsS123.alloc | apply IsS123.drewN | apply IsS123.drew | apply IsS123.set_1) | exact HI111.out)); (case side2 => repeat (first | (with_reducible first | exact HB.out | apply below_alloc | apply pw_below_drewN | apply below_drew1 | refine below_set ?_ (IsS123.ge HI111.out)) | exact HB.out)); rintro e w16 ⟨rfl, hi, hb, hk⟩; refine ⟨_, rfl, ?_⟩; have n0_ := Aside0.mk (hb); have n1_ := Aside0.mk (hi); clear HB; clear HI111; have HB := n0_; have HI111 := n1_; clear n0_ n1_; (try clear hb); (try clear hb2); (try clear hk); (try clear hi)))
        go_ret
        exact ⟨by first | rfl | (simp [errW_none, errW_some] <;> rfl) | (simp [*, errW_none, errW_some] <;> rfl), by repeat (first | (with_reducible first | exact HB.out | apply below_alloc | apply pw_below_drewN | apply below_drew1 | refine below_set ?_ (IsS123.ge HI111.out)) | exact HB.out)⟩

/-! ### spec_TxAttribute: function 13 -/
def spec_TxAttribute.f (a0 : Int) : Option (Bool) := if a0 ≥ 1 then (if a0 ≤ 9 then (some true) else (if a0 ≥ 30 then (if a0 ≤ 37 then (some true) else (if a0 ≥ 40 then (if a0 ≤ 47 then (some true) else (if a0 ≥ 90 then (if a0 ≤ 97 then (some true) else (if a0 ≥ 100 then (some (decide (a0 ≤ 107))) else (some false))) else (if a0 ≥ 100 then (some (decide (a0 ≤ 107))) else (some false)))) else (if a0 ≥ 90 then (if a0 ≤ 97 then (some true) else (if a0 ≥ 100 then (some (decide (a0 ≤ 107))) else (some false))) else (if a0 ≥ 100 then (some (decide (a0 ≤ 107))) else (some false))))) else (if a0 ≥ 40 then (if a0 ≤ 47 then (some true) else (if a0 ≥ 90 then (if a0 ≤ 97 then (some true) else (if a0 ≥ 100 then (some (decide (a0 ≤ 107))) else (some false))) else (if a0 ≥ 100 then (some (decide (a0 ≤ 107))) else (some false)))) else (if a0 ≥ 90 then (if a0 ≤ 97 then (some true) else (if a0 ≥ 100 then (some (decide (a0 ≤ 107))) else (some false))) else (if a0 ≥ 100 then (some (decide (a0 ≤ 107))) else (some false)))))) else (if a0 ≥ 30 then (if a0 ≤ 37 then (some true) else (if a0 ≥ 40 then (if a0 ≤ 47 then (some true) else (if a0 ≥ 90 then (if a0 ≤ 97 then (some true) else (if a0 ≥ 100 then (some (decide (a0 ≤ 107))) else (some false))) else (if a0 ≥ 100 then (some (decide (a0 ≤ 107))) else (some false)))) else (if a0 ≥ 90 then (if a0 ≤ 97 then (some true) else (if a0 ≥ 100 then (some (decide (a0 ≤ 107))) else (some false))) else (if a0 ≥ 100 then (some (decide (a0 ≤ 107))) else (some false))))) else (if a0 ≥ 40 then (if a0 ≤ 47 then (some true) else (if a0 ≥ 90 then (if a0 ≤ 97 then (some true) else (if a0 ≥ 100 then (some (decide (a0 ≤ 107))) else (some false))) else (if a0 ≥ 100 then (some (decide (a0 ≤ 107))) else (some false)))) else (if a0 ≥ 90 then (if a0 ≤ 97 then (some true) else (if a0 ≥ 100 then (some (decide (a0 ≤ 107))) else (some false))) else (if a0 ≥ 100 then (some (decide (a0 ≤ 107))) else (some false)))))
set_option maxHeartbeats 8000000 in
set_option maxRecDepth 100000 in
theorem spec_TxAttribute.calls (a0 : Int) (r : Bool) (w : World) (h : spec_TxAttribute.f a0 = some r) :
    Calls Tryd.prog 13 #[.int .i64 a0] w fun e w' => e = .returned (.bool r) ∧ Drawn0 w w' := by
  have H : (if a0 ≥ 1 then (if a0 ≤ 9 then (some true) else (if a0 ≥ 30 then (if a0 ≤ 37 then (some true) else (if a0 ≥ 40 then (if a0 ≤ 47 then (some true) else (if a0 ≥ 90 then (if a0 ≤ 97 then (some true) else (if a0 ≥ 100 then (some (decide (a0 ≤ 107))) else (some false))) else (if a0 ≥ 100 then (some (decide (a0 ≤ 107))) else (some false)))) else (if a0 ≥ 90 then (if a0 ≤ 97 then (some true) else (if a0 ≥ 100 then (some (decide (a0 ≤ 107))) else (some false))) else (if a0 ≥ 100 then (some (decide (a0 ≤ 107))) else (some false))))) else (if a0 ≥ 40 then (if a0 ≤ 47 then (some true) else (if a0 ≥ 90 then (if a0 ≤ 97 then (some true) else (if a0 ≥ 100 then (some (decide (a0 ≤ 107))) else (some false))) else (if a0 ≥ 100 then (some (decide (a0 ≤ 107))) else (some false)))) else (if a0 ≥ 90 then (if a0 ≤ 97 then (some true) else (if a0 ≥ 100 then (some (decide (a0 ≤ 107))) else (some false))) else (if a0 ≥ 100 then (some (decide (a0 ≤ 107))) else (some false)))))) else (if a0 ≥ 30 then (if a0 ≤ 37 then (some true) else (if a0 ≥ 40 then (if a0 ≤ 47 then (some true) else (if a0 ≥ 90 then (if a0 ≤ 97 then (some true) else (if a0 ≥ 100 then (some (decide (a0 ≤ 107))) else (some false))) else (if a0 ≥ 100 then (some (decide (a0 ≤ 107))) else (some false)))) else (if a0 ≥ 90 then (if a0 ≤ 97 then (some true) else (if a0 ≥ 100 then (some (decide (a0 ≤ 107))) else (some false))) else (if a0 ≥ 100 then (some (decide (a0 ≤ 107))) else (some false))))) else (if a0 ≥ 40 then (if a0 ≤ 47 then (some true) else (if a0 ≥ 90 then (if a0 ≤ 97 then (some true) else (if a0 ≥ 100 then (some (decide (a0 ≤ 107))) else (some false))) else (if a0 ≥ 100 then (some (decide (a0 ≤ 107))) else (some false)))) else (if a0 ≥ 90 then (if a0 ≤ 97 then (some true) else (if a0 ≥ 100 then (some (decide (a0 ≤ 107))) else (some false))) else (if a0 ≥ 100 then (some (decide (a0 ≤ 107))) else (some false)))))) = some r := h
  clear h
  by_cases c2 : a0 ≥ 1
  · rw [if_pos c2] at H
    have c2b0 : decide (1 ≤ a0) = true := decide_eq_true c2
    clear c2
    by_cases c3 : a0 ≤ 9
    · rw [if_pos c3] at H
      have c3b0 : decide (a0 ≤ 9) = true := decide_eq_true c3
      clear c3
      obtain rfl := Option.some.inj H
      go_enter Tryd.func13, Tryd.ntmps13
      go_wp2
      go_ret
      exact ⟨by first | rfl | (simp; done) | (simp [*]; done), by repeat (first | exact Drawn0.refl _ | apply Drawn0.step)⟩
    · rw [if_neg c3] at H
      have c3b0 : decide (a0 ≤ 9) = false := decide_eq_false c3
      clear c3
      by_cases c4 : a0 ≥ 30
      · rw [if_pos c4] at H
        have c4b0 : decide (30 ≤ a0) = true := decide_eq_true c4
        clear c4
        by_cases c5 : a0 ≤ 37
        · rw [if_pos c5] at H
          have c5b0 : decide (a0 ≤ 37) = true := decide_eq_true c5
          clear c5
          obtain rfl := Option.some.inj H
          go_enter Tryd.func13, Tryd.ntmps13
          go_wp2
          go_ret
          exact ⟨by first | rfl | (simp; done) | (simp [*]; done), by repeat (first | exact Drawn0.refl _ | apply Drawn0.step)⟩
        · rw [if_neg c5] at H
          have c5b0 : decide (a0 ≤ 37) = false := decide_eq_false c5
          clear c5
          by_cases c6 : a0 ≥ 40
          · rw [if_pos c6] at H
            have c6b0 : decide (40 ≤ a0) = true := decide_eq_true c6
            clear c6
            by_cases c7 : a0 ≤ 47
            · rw [if_pos c7] at H
              have c7b0 : decide (a0 ≤ 47) = true := decide_eq_true c7
              clear c7
              obtain rfl := Option.some.inj H
              go_enter Tryd.func13, Tryd.ntmps13
              go_wp2
              go_ret
              exact ⟨by first | rfl | (simp; done) | (simp [*]; done), by repeat (first | exact Drawn0.refl _ | apply Drawn0.step)⟩
            · rw [if_neg c7] at H
              have c7b0 : decide (a0 ≤ 47) = false := decide_eq_false c7
              clear c7
              by_cases c8 : a0 ≥ 90
              · rw [if_pos c8] at H
                have c8b0 : decide (90 ≤ a0) = true := decide_eq_true c8
                clear c8
                by_cases c9 : a0 ≤ 97
                · rw [if_pos c9] at H
                  have c9b0 : decide (a0 ≤ 97) = true := decide_eq_true c9
                  clear c9
                  obtain rfl := Option.some.inj H
                  go_enter Tryd.func13, Tryd.ntmps13
                  go_wp2
                  go_ret
                  exact ⟨by first | rfl | (simp; done) | (simp [*]; done), by repeat (first | exact Drawn0.refl _ | apply Drawn0.step)⟩
                · rw [if_neg c9] at H
                  have c9b0 : decide (a0 ≤ 97) = false := decide_eq_false c9
                  clear c9
                  by_cases c10 : a0 ≥ 100
                  · rw [if_pos c10] at H
                    have c10b0 : decide (100 ≤ a0) = true := decide_eq_true c10
                    clear c10
                    obtain rfl := Option.some.inj H
                    go_enter Tryd.func13, Tryd.ntmps13
                    go_wp2
                    go_ret
                    exact ⟨by first | rfl | (simp; done) | (simp [*]; done), by repeat (first | exact Drawn0.refl _ | apply Drawn0.step)⟩
                  · rw [if_neg c10] at H
                    have c10b0 : decide (100 ≤ a0) = false := decide_eq_false c10
                    clear c10
                    obtain rfl := Option.some.inj H
                    go_enter Tryd.func13, Tryd.ntmps13
                    go_wp2
                    go_ret
                    exact ⟨by first | rfl | (simp; done) | (simp [*]; done), by repeat (first | exact Drawn0.refl _ | apply Drawn0.step)⟩
              · rw [if_neg c8] at H
                have c8b0 : decide (90 ≤ a0) = false := decide_eq_false c8
                clear c8
                by_cases c11 : a0 ≥ 100
                · rw [if_pos c11] at H
                  have c11b0 : decide (100 ≤ a0) = true := decide_eq_true c11
                  clear c11
                  obtain rfl := Option.some.inj H
                  go_enter Tryd.func13, Tryd.ntmps13
                  go_wp2
                  go_ret
                  exact ⟨by first | rfl | (simp; done) | (simp [*]; done), by repeat (first | exact Drawn0.refl _ | apply Drawn0.step)⟩
                · rw [if_neg c11] at H
                  have c11b0 : decide (100 ≤ a0) = false := decide_eq_false c11
                  clear c11
                  obtain rfl := Option.some.inj H
                  go_enter Tryd.func13, Tryd.ntmps13
                  go_wp2
                  go_ret
                  exact ⟨by first | rfl | (simp; done) | (simp [*]; done), by repeat (first | exact Drawn0.refl _ | apply Drawn0.step)⟩
          · rw [if_neg c6] at H
            have c6b0 : decide (40 ≤ a0) = false := decide_eq_false c6
            clear c6
            by_cases c12 : a0 ≥ 90
            · rw [if_pos c12] at H
              have c12b0 : decide (90 ≤ a0) = true := decide_eq_true c12
              clear c12
              by_cases c13 : a0 ≤ 97
              · rw [if_pos c13] at H
                have c13b0 : decide (a0 ≤ 97) = true := decide_eq_true c13
                clear c13
                obtain rfl := Option.some.inj H
                go_enter Tryd.func13, Tryd.ntmps13
                go_wp2
                go_ret
                exact ⟨by first | rfl | (simp; done) | (simp [*]; done), by repeat (first | exact Drawn0.refl _ | apply Drawn0.step)⟩
              · rw [if_neg c13] at H
                have c13b0 : decide (a0 ≤ 97) = false := decide_eq_false c13
                clear c13
                by_cases c14 : a0 ≥ 100
                · rw [if_pos c14] at H
                  have c14b0 : decide (100 ≤ a0) = true := decide_eq_true c14
                  clear c14
                  obtain rfl := Option.some.inj H
                  go_enter Tryd.func13, Tryd.ntmps13
                  go_wp2
                  go_ret
                  exact ⟨by first | rfl | (simp; done) | (simp [*]; done), by repeat (first | exact Drawn0.refl _ | apply Drawn0.step)⟩
                · rw [if_neg c14] at H
                  have c14b0 : decide (100 ≤ a0) = false := decide_eq_false c14
                  clear c14
                  obtain rfl := Option.some.inj H
                  go_enter Tryd.func13, Tryd.ntmps13
                  go_wp2
                  go_ret
                  exact ⟨by first | rfl | (simp; done) | (simp [*]; done), by repeat (first | exact Drawn0.refl _ | apply Drawn0.step)⟩
            · rw [if_neg c12] at H
              have c12b0 : decide (90 ≤ a0) = false := decide_eq_false c12
              clear c12
              by_cases c15 : a0 ≥ 100
              · rw [if_pos c15] at H
                have c15b0 : decide (100 ≤ a0) = true := decide_eq_true c15
                clear c15
                obtain rfl := Option.some.inj H
                go_enter Tryd.func13, Tryd.ntmps13
                go_wp2
                go_ret
                exact ⟨by first | rfl | (simp; done) | (simp [*]; done), by repeat (first | exact Drawn0.refl _ | apply Drawn0.step)⟩
              · rw [if_neg c15] at H
                have c15b0 : decide (100 ≤ a0) = false := decide_eq_false c15
                clear c15
                obtain rfl := Option.some.inj H
                go_enter Tryd.func13, Tryd.ntmps13
                go_wp2
                go_ret
                exact ⟨by first | rfl | (simp; done) | (simp [*]; done), by repeat (first | exact Drawn0.refl _ | apply Drawn0.step)⟩
      · rw [if_neg c4] at H
        have c4b0 : decide (30 ≤ a0) = false := decide_eq_false c4
        clear c4
        by_cases c16 : a0 ≥ 40
        · rw [if_pos c16] at H
          have c16b0 : decide (40 ≤ a0) = true := decide_eq_true c16
          clear c16
          by_cases c17 : a0 ≤ 47
          · rw [if_pos c17] at H
            have c17b0 : decide (a0 ≤ 47) = true := decide_eq_true c17
            clear c17
            obtain rfl := Option.some.inj H
            go_enter Tryd.func13, Tryd.ntmps13
            go_wp2
            go_ret
            exact ⟨by first | rfl | (simp; done) | (simp [*]; done), by repeat (first | exact Drawn0.refl _ | apply Drawn0.step)⟩
          · rw [if_neg c17] at H
            have c17b0 : decide (a0 ≤ 47) = false := decide_eq_false c17
            clear c17
            by_cases c18 : a0 ≥ 90
            · rw [if_pos c18] at H
              have c18b0 : decide (90 ≤ a0) = true := decide_eq_true c18
              clear c18
              by_cases c19 : a0 ≤ 97
              · rw [if_pos c19] at H
                have c19b0 : decide (a0 ≤ 97) = true := decide_eq_true c19
                clear c19
                obtain rfl := Option.some.inj H
                go_enter Tryd.func13, Tryd.ntmps13
                go_wp2
                go_ret
                exact ⟨by first | rfl | (simp; done) | (simp [*]; done), by repeat (first | exact Drawn0.refl _ | apply Drawn0.step)⟩
              · rw [if_neg c19] at H
                have c19b0 : decide (a0 ≤ 97) = false := decide_eq_false c19
                clear c19
                by_cases c20 : a0 ≥ 100
                · rw [if_pos c20] at H
                  have c20b0 : decide (100 ≤ a0) = true := decide_eq_true c20
                  clear c20
                  obtain rfl := Option.some.inj H
                  go_enter Tryd.func13, Tryd.ntmps13
                  go_wp2
                  go_ret
                  exact ⟨by first | rfl | (simp; done) | (simp [*]; done), by repeat (first | exact Drawn0.refl _ | apply Drawn0.step)⟩
                · rw [if_neg c20] at H
                  have c20b0 : decide (100 ≤ a0) = false := decide_eq_false c20
                  clear c20
                  obtain rfl := Option.some.inj H
                  go_enter Tryd.func13, Tryd.ntmps13
                  go_wp2
                  go_ret
                  exact ⟨by first | rfl | (simp; done) | (simp [*]; done), by repeat (first | exact Drawn0.refl _ | apply Drawn0.step)⟩
            · rw [if_neg c18] at H
              have c18b0 : decide (90 ≤ a0) = false := decide_eq_false c18
              clear c18
              by_cases c21 : a0 ≥ 100
              · rw [if_pos c21] at H
                have c21b0 : decide (100 ≤ a0) = true := decide_eq_true c21
                clear c21
                obtain rfl := Option.some.inj H
                go_enter Tryd.func13, Tryd.ntmps13
                go_wp2
                go_ret
                exact ⟨by first | rfl | (simp; done) | (simp [*]; done), by repeat (first | exact Drawn0.refl _ | apply Drawn0.step)⟩
              · rw [if_neg c21] at H
                have c21b0 : decide (100 ≤ a0) = false := decide_eq_false c21
                clear c21
                obtain rfl := Option.some.inj H
                go_enter Tryd.func13, Tryd.ntmps13
                go_wp2
                go_ret
                exact ⟨by first | rfl | (simp; done) | (simp [*]; done), by repeat (first | exact Drawn0.refl _ | apply Drawn0.step)⟩
        · rw [if_neg c16] at H
          have c16b0 : decide (40 ≤ a0) = false := decide_eq_false c16
          clear c16
          by_cases c22 : a0 ≥ 90
          · rw [if_pos c22] at H
            have c22b0 : decide (90 ≤ a0) = true := decide_eq_true c22
            clear c22
            by_cases c23 : a0 ≤ 97
            · rw [if_pos c23] at H
              have c23b0 : decide (a0 ≤ 97) = true := decide_eq_true c23
              clear c23
              obtain rfl := Option.some.inj H
              go_enter Tryd.func13, Tryd.ntmps13
              go_wp2
              go_ret
              exact ⟨by first | rfl | (simp; done) | (simp [*]; done), by repeat (first | exact Drawn0.refl _ | apply Drawn0.step)⟩
            · rw [if_neg c23] at H
              have c23b0 : decide (a0 ≤ 97) = false := decide_eq_false c23
              clear c23
              by_cases c24 : a0 ≥ 100
              · rw [if_pos c24] at H
                have c24b0 : decide (100 ≤ a0) = true := decide_eq_true c24
                clear c24
                obtain rfl := Option.some.inj H
                go_enter Tryd.func13, Tryd.ntmps13
                go_wp2
                go_ret
                exact ⟨by first | rfl | (simp; done) | (simp [*]; done), by repeat (first | exact Drawn0.refl _ | apply Drawn0.step)⟩
              · rw [if_neg c24] at H
                have c24b0 : decide (100 ≤ a0) = false := decide_eq_false c24
                clear c24
                obtain rfl := Option.some.inj H
                go_enter Tryd.func13, Tryd.ntmps13
                go_wp2
                go_ret
                exact ⟨by first | rfl | (simp; done) | (simp [*]; done), by repeat (first | exact Drawn0.refl _ | apply Drawn0.step)⟩
          · rw [if_neg c22] at H
            have c22b0 : decide (90 ≤ a0) = false := decide_eq_false c22
            clear c22
            by_cases c25 : a0 ≥ 100
            · rw [if_pos c25] at H
              have c25b0 : decide (100 ≤ a0) = true := decide_eq_true c25
              clear c25
              obtain rfl := Option.some.inj H
              go_enter Tryd.func13, Tryd.ntmps13
              go_wp2
              go_ret
              exact ⟨by first | rfl | (simp; done) | (simp [*]; done), by repeat (first | exact Drawn0.refl _ | apply Drawn0.step)⟩
            · rw [if_neg c25] at H
              have c25b0 : decide (100 ≤ a0) = false := decide_eq_false c25
              clear c25
              obtain rfl := Option.some.inj H
              go_enter Tryd.func13, Tryd.ntmps13
              go_wp2
              go_ret
              exact ⟨by first | rfl | (simp; done) | (simp [*]; done), by repeat (first | exact Drawn0.refl _ | apply Drawn0.step)⟩
  · rw [if_neg c2] at H
    have c2b0 : decide (1 ≤ a0) = false := decide_eq_false c2
    clear c2
    by_cases c26 : a0 ≥ 30
    · rw [if_pos c26] at H
      have c26b0 : decide (30 ≤ a0) = true := decide_eq_true c26
      clear c26
      by_cases c27 : a0 ≤ 37
      · rw [if_pos c27] at H
        have c27b0 : decide (a0 ≤ 37) = true := decide_eq_true c27
        clear c27
        obtain rfl := Option.some.inj H
        go_enter Tryd.func13, Tryd.ntmps13
        go_wp2
        go_ret
        exact ⟨by first | rfl | (simp; done) | (simp [*]; done), by repeat (first | exact Drawn0.refl _ | apply Drawn0.step)⟩
      · rw [if_neg c27] at H
        have c27b0 : decide (a0 ≤ 37) = false := decide_eq_false c27
        clear c27
        by_cases c28 : a0 ≥ 40
        · rw [if_pos c28] at H
          have c28b0 : decide (40 ≤ a0) = true := decide_eq_true c28
          clear c28
          by_cases c29 : a0 ≤ 47
          · rw [if_pos c29] at H
            have c29b0 : decide (a0 ≤ 47) = true := decide_eq_true c29
            clear c29
            obtain rfl := Option.some.inj H
            go_enter Tryd.func13, Tryd.ntmps13
            go_wp2
            go_ret
            exact ⟨by first | rfl | (simp; done) | (simp [*]; done), by repeat (first | exact Drawn0.refl _ | apply Drawn0.step)⟩
          · rw [if_neg c29] at H
            have c29b0 : decide (a0 ≤ 47) = false := decide_eq_false c29
            clear c29
            by_cases c30 : a0 ≥ 90
            · rw [if_pos c30] at H
              have c30b0 : decide (90 ≤ a0) = true := decide_eq_true c30
              clear c30
              by_cases c31 : a0 ≤ 97
              · rw [if_pos c31] at H
                have c31b0 : decide (a0 ≤ 97) = true := decide_eq_true c31
                clear c31
                obtain rfl := Option.some.inj H
                go_enter Tryd.func13, Tryd.ntmps13
                go_wp2
                go_ret
                exact ⟨by first | rfl | (simp; done) | (simp [*]; done), by repeat (first | exact Drawn0.refl _ | apply Drawn0.step)⟩
              · rw [if_neg c31] at H
                have c31b0 : decide (a0 ≤ 97) = false := decide_eq_false c31
                clear c31
                by_cases c32 : a0 ≥ 100
                · rw [if_pos c32] at H
                  have c32b0 : decide (100 ≤ a0) = true := decide_eq_true c32
                  clear c32
                  obtain rfl := Option.some.inj H
                  go_enter Tryd.func13, Tryd.ntmps13
                  go_wp2
                  go_ret
                  exact ⟨by first | rfl | (simp; done) | (simp [*]; done), by repeat (first | exact Drawn0.refl _ | apply Drawn0.step)⟩
                · rw [if_neg c32] at H
                  have c32b0 : decide (100 ≤ a0) = false := decide_eq_false c32
                  clear c32
                  obtain rfl := Option.some.inj H
                  go_enter Tryd.func13, Tryd.ntmps13
                  go_wp2
                  go_ret
                  exact ⟨by first | rfl | (simp; done) | (simp [*]; done), by repeat (first | exact Drawn0.refl _ | apply Drawn0.step)⟩
            · rw [if_neg c30] at H
              have c30b0 : decide (90 ≤ a0) = false := decide_eq_false c30
              clear c30
              by_cases c33 : a0 ≥ 100
              · rw [if_pos c33] at H
                have c33b0 : decide (100 ≤ a0) = true := decide_eq_true c33
                clear c33
                obtain rfl := Option.some.inj H
                go_enter Tryd.func13, Tryd.ntmps13
                go_wp2
                go_ret
                exact ⟨by first | rfl | (simp; done) | (simp [*]; done), by repeat (first | exact Drawn0.refl _ | apply Drawn0.step)⟩
              · rw [if_neg c33] at H
                have c33b0 : decide (100 ≤ a0) = false := decide_eq_false c33
                clear c33
                obtain rfl := Option.some.inj H
                go_enter Tryd.func13, Tryd.ntmps13
                go_wp2
                go_ret
                exact ⟨by first | rfl | (simp; done) | (simp [*]; done), by repeat (first | exact Drawn0.refl _ | apply Drawn0.step)⟩
        · rw [if_neg c28] at H
          have c28b0 : decide (40 ≤ a0) = false := decide_eq_false c28
          clear c28
          by_cases c34 : a0 ≥ 90
          · rw [if_pos c34] at H
            have c34b0 : decide (90 ≤ a0) = true := decide_eq_true c34
            clear c34
            by_cases c35 : a0 ≤ 97
            · rw [if_pos c35] at H
              have c35b0 : decide (a0 ≤ 97) = true := decide_eq_true c35
              clear c35
              obtain rfl := Option.some.inj H
              go_enter Tryd.func13, Tryd.ntmps13
              go_wp2
              go_ret
              exact ⟨by first | rfl | (simp; done) | (simp [*]; done), by repeat (first | exact Drawn0.refl _ | apply Drawn0.step)⟩
            · rw [if_neg c35] at H
              have c35b0 : decide (a0 ≤ 97) = false := decide_eq_false c35
              clear c35
              by_cases c36 : a0 ≥ 100
              · rw [if_pos c36] at H
                have c36b0 : decide (100 ≤ a0) = true := decide_eq_true c36
                clear c36
                obtain rfl := Option.some.inj H
                go_enter Tryd.func13, Tryd.ntmps13
                go_wp2
                go_ret
                exact ⟨by first | rfl | (simp; done) | (simp [*]; done), by repeat (first | exact Drawn0.refl _ | apply Drawn0.step)⟩
              · rw [if_neg c36] at H
                have c36b0 : decide (100 ≤ a0) = false := decide_eq_false c36
                clear c36
                obtain rfl := Option.some.inj H
                go_enter Tryd.func13, Tryd.ntmps13
                go_wp2
                go_ret
                exact ⟨by first | rfl | (simp; done) | (simp [*]; done), by repeat (first | exact Drawn0.refl _ | apply Drawn0.step)⟩
          · rw [if_neg c34] at H
            have c34b0 : decide (90 ≤ a0) = false := decide_eq_false c34
            clear c34
            by_cases c37 : a0 ≥ 100
            · rw [if_pos c37] at H
              have c37b0 : decide (100 ≤ a0) = true := decide_eq_true c37
              clear c37
              obtain rfl := Option.some.inj H
              go_enter Tryd.func13, Tryd.ntmps13
              go_wp2
              go_ret
              exact ⟨by first | rfl | (simp; done) | (simp [*]; done), by repeat (first | exact Drawn0.refl _ | apply Drawn0.step)⟩
            · rw [if_neg c37] at H
              have c37b0 : decide (100 ≤ a0) = false := decide_eq_false c37
              clear c37
              obtain rfl := Option.some.inj H
              go_enter Tryd.func13, Tryd.ntmps13
              go_wp2
              go_ret
              exact ⟨by first | rfl | (simp; done) | (simp [*]; done), by repeat (first | exact Drawn0.refl _ | apply Drawn0.step)⟩
    · rw [if_neg c26] at H
      have c26b0 : decide (30 ≤ a0) = false := decide_eq_false c26
      clear c26
      by_cases c38 : a0 ≥ 40
      · rw [if_pos c38] at H
        have c38b0 : decide (40 ≤ a0) = true := decide_eq_true c38
        clear c38
        by_cases c39 : a0 ≤ 47
        · rw [if_pos c39] at H
          have c39b0 : decide (a0 ≤ 47) = true := decide_eq_true c39
          clear c39
          obtain rfl := Option.some.inj H
          go_enter Tryd.func13, Tryd.ntmps13
          go_wp2
          go_ret
          exact ⟨by first | rfl | (simp; done) | (simp [*]; done), by repeat (first | exact Drawn0.refl _ | apply Drawn0.step)⟩
        · rw [if_neg c39] at H
          have c39b0 : decide (a0 ≤ 47) = false := decide_eq_false c39
          clear c39
          by_cases c40 : a0 ≥ 90
          · rw [if_pos c40] at H
            have c40b0 : decide (90 ≤ a0) = true := decide_eq_true c40
            clear c40
            by_cases c41 : a0 ≤ 97
            · rw [if_pos c41] at H
              have c41b0 : decide (a0 ≤ 97) = true := decide_eq_true c41
              clear c41
              obtain rfl := Option.some.inj H
              go_enter Tryd.func13, Tryd.ntmps13
              go_wp2
              go_ret
              exact ⟨by first | rfl | (simp; done) | (simp [*]; done), by repeat (first | exact Drawn0.refl _ | apply Drawn0.step)⟩
            · rw [if_neg c41] at H
              have c41b0 : decide (a0 ≤ 97) = false := decide_eq_false c41
              clear c41
              by_cases c42 : a0 ≥ 100
              · rw [if_pos c42] at H
                have c42b0 : decide (100 ≤ a0) = true := decide_eq_true c42
                clear c42
                obtain rfl := Option.some.inj H
                go_enter Tryd.func13, Tryd.ntmps13
                go_wp2
                go_ret
                exact ⟨by first | rfl | (simp; done) | (simp [*]; done), by repeat (first | exact Drawn0.refl _ | apply Drawn0.step)⟩
              · rw [if_neg c42] at H
                have c42b0 : decide (100 ≤ a0) = false := decide_eq_false c42
                clear c42
                obtain rfl := Option.some.inj H
                go_enter Tryd.func13, Tryd.ntmps13
                go_wp2
                go_ret
                exact ⟨by first | rfl | (simp; done) | (simp [*]; done), by repeat (first | exact Drawn0.refl _ | apply Drawn0.step)⟩
          · rw [if_neg c40] at H
            have c40b0 : decide (90 ≤ a0) = false := decide_eq_false c40
            clear c40
            by_cases c43 : a0 ≥ 100
            · rw [if_pos c43] at H
              have c43b0 : decide (100 ≤ a0) = true := decide_eq_true c43
              clear c43
              obtain rfl := Option.some.inj H
              go_enter Tryd.func13, Tryd.ntmps13
              go_wp2
              go_ret
              exact ⟨by first | rfl | (simp; done) | (simp [*]; done), by repeat (first | exact Drawn0.refl _ | apply Drawn0.step)⟩
            · rw [if_neg c43] at H
              have c43b0 : decide (100 ≤ a0) = false := decide_eq_false c43
              clear c43
              obtain rfl := Option.some.inj H
              go_enter Tryd.func13, Tryd.ntmps13
              go_wp2
              go_ret
              exact ⟨by first | rfl | (simp; done) | (simp [*]; done), by repeat (first | exact Drawn0.refl _ | apply Drawn0.step)⟩
      · rw [if_neg c38] at H
        have c38b0 : decide (40 ≤ a0) = false := decide_eq_false c38
        clear c38
        by_cases c44 : a0 ≥ 90
        · rw [if_pos c44] at H
          have c44b0 : decide (90 ≤ a0) = true := decide_eq_true c44
          clear c44
          by_cases c45 : a0 ≤ 97
          · rw [if_pos c45] at H
            have c45b0 : decide (a0 ≤ 97) = true := decide_eq_true c45
            clear c45
            obtain rfl := Option.some.inj H
            go_enter Tryd.func13, Tryd.ntmps13
            go_wp2
            go_ret
            exact ⟨by first | rfl | (simp; done) | (simp [*]; done), by repeat (first | exact Drawn0.refl _ | apply Drawn0.step)⟩
          · rw [if_neg c45] at H
            have c45b0 : decide (a0 ≤ 97) = false := decide_eq_false c45
            clear c45
            by_cases c46 : a0 ≥ 100
            · rw [if_pos c46] at H
              have c46b0 : decide (100 ≤ a0) = true := decide_eq_true c46
              clear c46
              obtain rfl := Option.some.inj H
              go_enter Tryd.func13, Tryd.ntmps13
              go_wp2
              go_ret
              exact ⟨by first | rfl | (simp; done) | (simp [*]; done), by repeat (first | exact Drawn0.refl _ | apply Drawn0.step)⟩
            · rw [if_neg c46] at H
              have c46b0 : decide (100 ≤ a0) = false := decide_eq_false c46
              clear c46
              obtain rfl := Option.some.inj H
              go_enter Tryd.func13, Tryd.ntmps13
              go_wp2
              go_ret
              exact ⟨by first | rfl | (simp; done) | (simp [*]; done), by repeat (first | exact Drawn0.refl _ | apply Drawn0.step)⟩
        · rw [if_neg c44] at H
          have c44b0 : decide (90 ≤ a0) = false := decide_eq_false c44
          clear c44
          by_cases c47 : a0 ≥ 100
          · rw [if_pos c47] at H
            have c47b0 : decide (100 ≤ a0) = true := decide_eq_true c47
            clear c47
            obtain rfl := Option.some.inj H
            go_enter Tryd.func13, Tryd.ntmps13
            go_wp2
            go_ret
            exact ⟨by first | rfl | (simp; done) | (simp [*]; done), by repeat (first | exact Drawn0.refl _ | apply Drawn0.step)⟩
          · rw [if_neg c47] at H
            have c47b0 : decide (100 ≤ a0) = false := decide_eq_false c47
            clear c47
            obtain rfl := Option.some.inj H
            go_enter Tryd.func13, Tryd.ntmps13
            go_wp2
            go_ret
            exact ⟨by first | rfl | (simp; done) | (simp [*]; done), by repeat (first | exact Drawn0.refl _ | apply Drawn0.step)⟩

end Go.Proofs.YtmphemnmbofpaaaDoorRRR.GFnTextFormat
