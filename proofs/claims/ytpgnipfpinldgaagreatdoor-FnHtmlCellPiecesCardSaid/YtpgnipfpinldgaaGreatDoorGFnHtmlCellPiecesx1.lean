-- Written by gprint.py, a program of this session over the kit's printer, with contracts of its own for what the printer does not take. Not trusted: Lean checks it.
import Derived.Test.YtpgnipfpinldgaaGreatDoorGFnHtmlCellPiecesx0
namespace Go.Proofs.YtpgnipfpinldgaaGreatDoor.GFnHtmlCellPieces
open Go.RowKit Go.Proofs.YtpgnipfpinldgaaGreatDoor.Itr Go.Proofs.YtpgnipfpinldgaaGreatDoorW.PrintWords Go.Proofs.YtpgnipfpinldgaaGreatDoorW.PrintLast Go.Proofs.YtpgnipfpinldgaaGreatDoorW.PrintMore
attribute [local go_sem] max2_int min2_int max_two min_two max_three min_three max_four min_four   -- for this text's walks alone
set_option linter.unusedVariables false
set_option linter.unusedSimpArgs false

/-! ### impl_HtmlCell: function 4 -/
def impl_HtmlCell.f (a0 : ByteArray) (a1 : Bool) (a2 : Bool) (a3 : ByteArray) : Option (ByteArray) := if a0.size ≤ 700 ∧ a1 = false ∧ a3.size ≤ 20 then some (Small.str (Htp.htm a2 a3.data.toList a0.data.toList)) else none
theorem impl_HtmlCell.calls (a0 : ByteArray) (a1 : Bool) (a2 : Bool) (a3 : ByteArray) (r : ByteArray) (w : World) (h : impl_HtmlCell.f a0 a1 a2 a3 = some r) :
    Calls Tryz.prog 4 #[.string a0, .bool a1, .bool a2, .string a3] w fun e w' => e = .returned (.string r) ∧ Below w.heap.size w w' := by
  unfold impl_HtmlCell.f at h
  by_cases hc : a0.size ≤ 700 ∧ a1 = false ∧ a3.size ≤ 20
  · rw [if_pos hc] at h
    obtain rfl := Option.some.inj h
    obtain ⟨h0, rfl, h3⟩ := hc
    exact HtW.html w a2 a0 a3 h0 h3
  · rw [if_neg hc] at h
    exact absurd h (by simp)

/-! ### laws_FnHtmlCellPieces: function 3 -/
mutual
def laws_FnHtmlCellPieces.j0 : Nat → ByteArray → ByteArray → Bool → ByteArray → Bool → Option (Bool)
  | 0, _, _, _, _, _ => none
  | k + 1, x0, x1, x2, x3, x21 => if x21 = true then (some true) else (if (wrap64 ((x0.size : Int) + (x1.size : Int))) > 600 then (laws_FnHtmlCellPieces.j1 k x0 x1 x2 x3 true) else (laws_FnHtmlCellPieces.j1 k x0 x1 x2 x3 (decide ((x3.size : Int) > 20))))
def laws_FnHtmlCellPieces.j1 : Nat → ByteArray → ByteArray → Bool → ByteArray → Bool → Option (Bool)
  | 0, _, _, _, _, _ => none
  | k + 1, x0, x1, x2, x3, x32 => if x32 = true then (some true) else (if x0.size + x1.size ≤ 9223372036854775807 then ((impl_HtmlCell.f (x0 ++ x1) false x2 x3).bind fun t101 => ((impl_HtmlCell.f x0 false x2 x3).bind fun t102 => ((impl_HtmlCell.f x1 false x2 x3).bind fun t103 => (if t102.size + t103.size ≤ 9223372036854775807 then (if t101.toList = (t102 ++ t103).toList then ((impl_HtmlCell.f (⟨#[60]⟩ : ByteArray) false true x3).bind fun t104 => (some (t104.toList == ([38, 108, 116, 59] : List UInt8)))) else (some false)) else (none))))) else (none))
end
def laws_FnHtmlCellPieces.f (k : Nat) (a0 : ByteArray) (a1 : ByteArray) (a2 : Bool) (a3 : ByteArray) : Option (Bool) := if (a0.size : Int) > 2147483647 then (laws_FnHtmlCellPieces.j0 k a0 a1 a2 a3 true) else (if (a1.size : Int) > 2147483647 then (laws_FnHtmlCellPieces.j0 k a0 a1 a2 a3 true) else (laws_FnHtmlCellPieces.j0 k a0 a1 a2 a3 (decide ((a3.size : Int) > 2147483647))))
theorem laws_FnHtmlCellPieces.mono_l : ∀ k, (∀ y0 y1 y2 y3 y4, LeO (laws_FnHtmlCellPieces.j0 k y0 y1 y2 y3 y4) (laws_FnHtmlCellPieces.j0 (k + 1) y0 y1 y2 y3 y4)) ∧ (∀ y0 y1 y2 y3 y4, LeO (laws_FnHtmlCellPieces.j1 k y0 y1 y2 y3 y4) (laws_FnHtmlCellPieces.j1 (k + 1) y0 y1 y2 y3 y4))
  | 0 => ⟨fun _ _ _ _ _ r h => by simp [laws_FnHtmlCellPieces.j0] at h, fun _ _ _ _ _ r h => by simp [laws_FnHtmlCellPieces.j1] at h⟩
  | k + 1 => by
    obtain ⟨ih0, ih1⟩ := laws_FnHtmlCellPieces.mono_l k
    refine ⟨?_, ?_⟩
    · intro y0 y1 y2 y3 y4
      unfold laws_FnHtmlCellPieces.j0
      repeat' first
      | (with_reducible exact ih0 _ _ _ _ _)
      | (with_reducible exact ih1 _ _ _ _ _)
      | (with_reducible exact LeO.refl _)
      | (with_reducible exact LeO.none _)
      | (with_reducible refine LeO.ite ?_ ?_)
      | (with_reducible refine LeO.bind ?_ (fun _ => ?_))
      | exact ih0 _ _ _ _ _
      | exact ih1 _ _ _ _ _
      | exact LeO.none _
      | refine LeO.ite ?_ ?_
      | refine LeO.bind ?_ (fun _ => ?_)
    · intro y0 y1 y2 y3 y4
      unfold laws_FnHtmlCellPieces.j1
      repeat' first
      | (with_reducible exact ih0 _ _ _ _ _)
      | (with_reducible exact ih1 _ _ _ _ _)
      | (with_reducible exact LeO.refl _)
      | (with_reducible exact LeO.none _)
      | (with_reducible refine LeO.ite ?_ ?_)
      | (with_reducible refine LeO.bind ?_ (fun _ => ?_))
      | exact ih0 _ _ _ _ _
      | exact ih1 _ _ _ _ _
      | exact LeO.none _
      | refine LeO.ite ?_ ?_
      | refine LeO.bind ?_ (fun _ => ?_)
theorem laws_FnHtmlCellPieces.mono : ∀ a0 a1 a2 a3 k, LeO (laws_FnHtmlCellPieces.f k a0 a1 a2 a3) (laws_FnHtmlCellPieces.f (k + 1) a0 a1 a2 a3) := by
  intro a0 a1 a2 a3 k
  obtain ⟨ih0, ih1⟩ := laws_FnHtmlCellPieces.mono_l k
  unfold laws_FnHtmlCellPieces.f
  repeat' first
      | (with_reducible exact ih0 _ _ _ _ _)
      | (with_reducible exact ih1 _ _ _ _ _)
      | (with_reducible exact LeO.refl _)
      | (with_reducible exact LeO.none _)
      | (with_reducible refine LeO.ite ?_ ?_)
      | (with_reducible refine LeO.bind ?_ (fun _ => ?_))
      | exact ih0 _ _ _ _ _
      | exact ih1 _ _ _ _ _
      | exact LeO.none _
      | refine LeO.ite ?_ ?_
      | refine LeO.bind ?_ (fun _ => ?_)
set_option maxHeartbeats 8000000 in
set_option maxRecDepth 100000 in
theorem laws_FnHtmlCellPieces.calls (k : Nat) (a0 : ByteArray) (a1 : ByteArray) (a2 : Bool) (a3 : ByteArray) (r : Bool) (w : World) (h : laws_FnHtmlCellPieces.f k a0 a1 a2 a3 = some r) :
    Calls Tryz.prog 3 #[.string a0, .string a1, .bool a2, .string a3] w fun e w' => e = .returned (.bool r) ∧ Below w.heap.size w w' := by
  have HB := Aside0.mk (Below.refl w.heap.size w)
  have H : (if (a0.size : Int) > 2147483647 then (laws_FnHtmlCellPieces.j0 k a0 a1 a2 a3 true) else (if (a1.size : Int) > 2147483647 then (laws_FnHtmlCellPieces.j0 k a0 a1 a2 a3 true) else (laws_FnHtmlCellPieces.j0 k a0 a1 a2 a3 (decide ((a3.size : Int) > 2147483647))))) = some r := h
  clear h
  have HC5 := Aside0.mk H
  clear H
  go_enter Tryz.func3, Tryz.ntmps3
  go_upto_region 1 with (fail)
  go_cut [21] (fun v21 wc => ∃ (kq : Nat) (x21_4 : Bool), v21 = .bool x21_4 ∧ Aside0 (laws_FnHtmlCellPieces.j0 kq a0 a1 a2 a3 x21_4 = some r) ∧ Aside0 (kq ≤ k) ∧ Aside0 (Below w.heap.size w wc))
  case first =>
    have H := HC5.out
    clear HC5
    by_cases c6 : (a0.size : Int) > 2147483647
    · rw [if_pos c6] at H
      have c6b0 : decide (2147483647 < (a0.size : Int)) = true := decide_eq_true c6
      have c6b1 : decide (2147483647 < a0.size) = true := decide_eq_true (by omega)
      clear c6
      (first | rw [c6b0] | (simp only [i64_w, i32_w]; rw [c6b0]) | skip)
      have H' := Aside0.mk H
      clear H
      go_wp2
      go_meet
      case rel => exact ⟨_, (true), (by first | rfl | (simp; done) | (simp [*]; done)), H', ⟨by first | omega | exact Nat.le_refl _⟩, ⟨by repeat (first | (with_reducible first | exact HB.out | apply below_alloc | apply pw_below_drewN | apply below_drew1) | exact HB.out)⟩⟩
    · rw [if_neg c6] at H
      have c6b0 : decide (2147483647 < (a0.size : Int)) = false := decide_eq_false c6
      have c6b1 : decide (2147483647 < a0.size) = false := decide_eq_false (by omega)
      clear c6
      (first | rw [c6b0] | (simp only [i64_w, i32_w]; rw [c6b0]) | skip)
      by_cases c7 : (a1.size : Int) > 2147483647
      · rw [if_pos c7] at H
        have c7b0 : decide (2147483647 < (a1.size : Int)) = true := decide_eq_true c7
        have c7b1 : decide (2147483647 < a1.size) = true := decide_eq_true (by omega)
        clear c7
        have H' := Aside0.mk H
        clear H
        go_wp2
        go_meet
        case rel => exact ⟨_, (true), (by first | rfl | (simp; done) | (simp [*]; done)), H', ⟨by first | omega | exact Nat.le_refl _⟩, ⟨by repeat (first | (with_reducible first | exact HB.out | apply below_alloc | apply pw_below_drewN | apply below_drew1) | exact HB.out)⟩⟩
      · rw [if_neg c7] at H
        have c7b0 : decide (2147483647 < (a1.size : Int)) = false := decide_eq_false c7
        have c7b1 : decide (2147483647 < a1.size) = false := decide_eq_false (by omega)
        clear c7
        have H' := Aside0.mk H
        clear H
        go_wp2
        go_meet
        case rel => exact ⟨_, (decide ((a3.size : Int) > 2147483647)), (by first | rfl | (simp; done) | (simp [*]; done)), H', ⟨by first | omega | exact Nat.le_refl _⟩, ⟨by repeat (first | (with_reducible first | exact HB.out | apply below_alloc | apply pw_below_drewN | apply below_drew1) | exact HB.out)⟩⟩
  case rest =>
    clear HC5
    try clear p2
    try clear c3
    try clear c6
    try clear c6b0
    try clear c6b1
    try clear c7
    try clear c7b0
    try clear c7b1
    obtain ⟨kq, x21_4, rfl, HA, HJ4, HB⟩ := hcut
    cases kq with
    | zero => exact absurd HA.out (by simp [laws_FnHtmlCellPieces.j0])
    | succ kj4 =>
      have H := HA.out
      clear HA
      simp only [laws_FnHtmlCellPieces.j0] at H
      by_cases c8 : x21_4 = true
      · subst c8
        have H1 : (some true) = some r := by rw [if_pos rfl] at H; exact H
        clear H
        have H := H1
        clear H1
        obtain rfl := Option.some.inj H
        go_wp2
        go_ret
        exact ⟨by first | rfl | (simp [errW_none, errW_some] <;> rfl) | (simp [*, errW_none, errW_some] <;> rfl), by repeat (first | (with_reducible first | exact HB.out | apply below_alloc | apply pw_below_drewN | apply below_drew1) | exact HB.out)⟩
      · replace c8 := Bool.eq_false_iff.mpr c8
        subst c8
        have H1 : (if (wrap64 ((a0.size : Int) + (a1.size : Int))) > 600 then (laws_FnHtmlCellPieces.j1 kj4 a0 a1 a2 a3 true) else (laws_FnHtmlCellPieces.j1 kj4 a0 a1 a2 a3 (decide ((a3.size : Int) > 20)))) = some r := by rw [if_neg (show ¬ (false = true) by decide)] at H; exact H
        clear H
        have H := H1
        clear H1
        have HC9 := Aside0.mk H
        clear H
        go_upto_region 3 with (fail)
        go_cut [32] (fun v32 wc => ∃ (kq : Nat) (x32_8 : Bool), v32 = .bool x32_8 ∧ Aside0 (laws_FnHtmlCellPieces.j1 kq a0 a1 a2 a3 x32_8 = some r) ∧ Aside0 (kq ≤ kj4) ∧ Aside0 (Below w.heap.size w wc))
        case first =>
          have H := HC9.out
          clear HC9
          by_cases c10 : (wrap64 ((a0.size : Int) + (a1.size : Int))) > 600
          · rw [if_pos c10] at H
            have c10b0 : decide (600 < (wrap64 ((a0.size : Int) + (a1.size : Int)))) = true := decide_eq_true c10
            clear c10
            (first | rw [c10b0] | (simp only [i64_w, i32_w]; rw [c10b0]) | skip)
            have H' := Aside0.mk H
            clear H
            go_wp2
            go_meet
            case rel => exact ⟨_, (true), (by first | rfl | (simp; done) | (simp [*]; done)), H', ⟨by have := HJ4.out; first | omega | exact Nat.le_refl _⟩, ⟨by repeat (first | (with_reducible first | exact HB.out | apply below_alloc | apply pw_below_drewN | apply below_drew1) | exact HB.out)⟩⟩
          · rw [if_neg c10] at H
            have c10b0 : decide (600 < (wrap64 ((a0.size : Int) + (a1.size : Int)))) = false := decide_eq_false c10
            clear c10
            (first | rw [c10b0] | (simp only [i64_w, i32_w]; rw [c10b0]) | skip)
            have H' := Aside0.mk H
            clear H
            go_wp2
            go_meet
            case rel => exact ⟨_, (decide ((a3.size : Int) > 20)), (by first | rfl | (simp; done) | (simp [*]; done)), H', ⟨by have := HJ4.out; first | omega | exact Nat.le_refl _⟩, ⟨by repeat (first | (with_reducible first | exact HB.out | apply below_alloc | apply pw_below_drewN | apply below_drew1) | exact HB.out)⟩⟩
        case rest =>
          clear HC9
          try clear c1
          try clear p2
          try clear c3
          try clear c6
          try clear c6b0
          try clear c6b1
          try clear p6
          try clear c7
          try clear c7b0
          try clear c7b1
          try clear c8
          try clear c10
          try clear c10b0
          try clear p2
          obtain ⟨kq, x32_8, rfl, HA, HJ8, HB⟩ := hcut
          cases kq with
          | zero => exact absurd HA.out (by simp [laws_FnHtmlCellPieces.j1])
          | succ kj8 =>
            have H := HA.out
            clear HA
            simp only [laws_FnHtmlCellPieces.j1] at H
            by_cases c11 : x32_8 = true
            · subst c11
              have H1 : (some true) = some r := by rw [if_pos rfl] at H; exact H
              clear H
              have H := H1
              clear H1
              obtain rfl := Option.some.inj H
              go_wp2
              go_ret
              exact ⟨by first | rfl | (simp [errW_none, errW_some] <;> rfl) | (simp [*, errW_none, errW_some] <;> rfl), by repeat (first | (with_reducible first | exact HB.out | apply below_alloc | apply pw_below_drewN | apply below_drew1) | exact HB.out)⟩
            · replace c11 := Bool.eq_false_iff.mpr c11
              subst c11
              have H1 : (if a0.size + a1.size ≤ 9223372036854775807 then ((impl_HtmlCell.f (a0 ++ a1) false a2 a3).bind fun t101 => ((impl_HtmlCell.f a0 false a2 a3).bind fun t102 => ((impl_HtmlCell.f a1 false a2 a3).bind fun t103 => (if t102.size + t103.size ≤ 9223372036854775807 then (if t101.toList = (t102 ++ t103).toList then ((impl_HtmlCell.f (⟨#[60]⟩ : ByteArray) false true a3).bind fun t104 => (some (t104.toList == ([38, 108, 116, 59] : List UInt8)))) else (some false)) else (none))))) else (none)) = some r := by rw [if_neg (show ¬ (false = true) by decide)] at H; exact H
              clear H
              have H := H1
              clear H1
              by_cases c12 : a0.size + a1.size ≤ 9223372036854775807
              · rw [if_pos c12] at H
                have c12b0 := eq_true c12
                have c12b1 : decide (a0.size + a1.size ≤ 9223372036854775807) = true := decide_eq_true c12
                try have c12b2 : (9223372036854775807 < a0.size + a1.size) = False := eq_false (Nat.not_lt.2 c12)
                replace H := Option.bind_eq_some_iff.mp H
                obtain ⟨t101, A130, H⟩ := H
                replace H : ((impl_HtmlCell.f a0 false a2 a3).bind fun t102 => ((impl_HtmlCell.f a1 false a2 a3).bind fun t103 => (if t102.size + t103.size ≤ 9223372036854775807 then (if t101.toList = (t102 ++ t103).toList then ((impl_HtmlCell.f (⟨#[60]⟩ : ByteArray) false true a3).bind fun t104 => (some (t104.toList == ([38, 108, 116, 59] : List UInt8)))) else (some false)) else (none)))) = some r := H
                have A13 := Aside0.mk A130
                clear A130
                replace H := Option.bind_eq_some_iff.mp H
                obtain ⟨t102, A140, H⟩ := H
                replace H : ((impl_HtmlCell.f a1 false a2 a3).bind fun t103 => (if t102.size + t103.size ≤ 9223372036854775807 then (if t101.toList = (t102 ++ t103).toList then ((impl_HtmlCell.f (⟨#[60]⟩ : ByteArray) false true a3).bind fun t104 => (some (t104.toList == ([38, 108, 116, 59] : List UInt8)))) else (some false)) else (none))) = some r := H
                have A14 := Aside0.mk A140
                clear A140
                replace H := Option.bind_eq_some_iff.mp H
                obtain ⟨t103, A150, H⟩ := H
                replace H : (if t102.size + t103.size ≤ 9223372036854775807 then (if t101.toList = (t102 ++ t103).toList then ((impl_HtmlCell.f (⟨#[60]⟩ : ByteArray) false true a3).bind fun t104 => (some (t104.toList == ([38, 108, 116, 59] : List UInt8)))) else (some false)) else (none)) = some r := H
                have A15 := Aside0.mk A150
                clear A150
                by_cases c16 : t102.size + t103.size ≤ 9223372036854775807
                · rw [if_pos c16] at H
                  have c16b0 := eq_true c16
                  have c16b1 : decide (t102.size + t103.size ≤ 9223372036854775807) = true := decide_eq_true c16
                  try have c16b2 : (9223372036854775807 < t102.size + t103.size) = False := eq_false (Nat.not_lt.2 c16)
                  by_cases c17 : t101.toList = (t102 ++ t103).toList
                  · rw [if_pos c17] at H
                    have c17b0 : (t101.toList == (t102 ++ t103).toList) = true := beq_iff_eq.mpr c17
                    have c17b1 : (t101.toList != (t102 ++ t103).toList) = false := bne_eq_false_iff_eq.mpr c17
                    clear c17
                    replace H := Option.bind_eq_some_iff.mp H
                    obtain ⟨t104, A180, H⟩ := H
                    replace H : (some (t104.toList == ([38, 108, 116, 59] : List UInt8))) = some r := H
                    have A18 := Aside0.mk A180
                    clear A180
                    obtain rfl := Option.some.inj H
                    go_wp2_with (first | ((with_reducible refine gate_callee (f := 4) rfl ?_); refine goesL_ (some 38) rfl rfl Tryz.func4 (by kernel_rfl) rfl #[.string (a0 ++ a1), .bool false, .bool a2, .string a3] rfl (by (try simp only [List.map_toArray, List.map_cons, List.map_nil]); first | done | rfl | (simp only [List.length_drop, List.length_take]; rfl)) ?_; (with_reducible refine (impl_HtmlCell.calls (a0 ++ a1) false a2 a3 t101 _ A13.out).mono ?_); rintro e w19 ⟨rfl, hb⟩; refine ⟨_, rfl, ?_⟩; have n0_ := Aside0.mk (below_step (by repeat (first | (with_reducible first | exact HB.out | apply below_alloc | apply pw_below_drewN | apply below_drew1) | exact HB.out)) hb); clear HB; have HB := n0_; clear n0_; (try clear hb); (try clear hb2); (try clear hk); (try clear hi)) | ((with_reducible refine gate_callee (f := 4) rfl ?_); refine goesL_ (some 42) rfl rfl Tryz.func4 (by kernel_rfl) rfl #[.string a0, .bool false, .bool a2, .string a3] rfl (by (try simp only [List.map_toArray, List.map_cons, List.map_nil]); first | done | rfl | (simp only [List.length_drop, List.length_take]; rfl)) ?_; (with_reducible refine (impl_HtmlCell.calls a0 false a2 a3 t102 _ A14.out).mono ?_); rintro e w20 ⟨rfl, hb⟩; refine ⟨_, rfl, ?_⟩; have n0_ := Aside0.mk (below_step (by repeat (first | (with_reducible first | exact HB.out | apply below_alloc | apply pw_below_drewN | apply below_drew1) | exact HB.out)) hb); clear HB; have HB := n0_; clear n0_; (try clear hb); (try clear hb2); (try clear hk); (try clear hi)) | ((with_reducible refine gate_callee (f := 4) rfl ?_); refine goesL_ (some 46) rfl rfl Tryz.func4 (by kernel_rfl) rfl #[.string a1, .bool false, .bool a2, .string a3] rfl (by (try simp only [List.map_toArray, List.map_cons, List.map_nil]); first | done | rfl | (simp only [List.length_drop, List.length_take]; rfl)) ?_; (with_reducible refine (impl_HtmlCell.calls a1 false a2 a3 t103 _ A15.out).mono ?_); rintro e w21 ⟨rfl, hb⟩; refine ⟨_, rfl, ?_⟩; have n0_ := Aside0.mk (below_step (by repeat (first | (with_reducible first | exact HB.out | apply below_alloc | apply pw_below_drewN | apply below_drew1) | exact HB.out)) hb); clear HB; have HB := n0_; clear n0_; (try clear hb); (try clear hb2); (try clear hk); (try clear hi)) | (go_at_call 4; (with_reducible refine (impl_HtmlCell.calls (⟨#[60]⟩ : ByteArray) false true a3 t104 _ A18.out).mono ?_); rintro e w22 ⟨rfl, hb⟩; have n0_ := Aside0.mk (below_step (by repeat (first | (with_reducible first | exact HB.out | apply below_alloc | apply pw_below_drewN | apply below_drew1) | exact HB.out)) hb); clear HB; have HB := n0_; clear n0_; (try clear hb); (try clear hb2); (try clear hk); (try clear hi)))
                    go_ret
                    exact ⟨by first | rfl | (simp [errW_none, errW_some] <;> rfl) | (simp [*, errW_none, errW_some] <;> rfl), by repeat (first | (with_reducible first | exact HB.out | apply below_alloc | apply pw_below_drewN | apply below_drew1) | exact HB.out)⟩
                  · rw [if_neg c17] at H
                    have c17b0 : (t101.toList == (t102 ++ t103).toList) = false := beq_eq_false_iff_ne.mpr c17
                    have c17b1 : (t101.toList != (t102 ++ t103).toList) = true := bne_iff_ne.mpr c17
                    obtain rfl := Option.some.inj H
                    go_wp2_with (first | ((with_reducible refine gate_callee (f := 4) rfl ?_); refine goesL_ (some 38) rfl rfl Tryz.func4 (by kernel_rfl) rfl #[.string (a0 ++ a1), .bool false, .bool a2, .string a3] rfl (by (try simp only [List.map_toArray, List.map_cons, List.map_nil]); first | done | rfl | (simp only [List.length_drop, List.length_take]; rfl)) ?_; (with_reducible refine (impl_HtmlCell.calls (a0 ++ a1) false a2 a3 t101 _ A13.out).mono ?_); rintro e w23 ⟨rfl, hb⟩; refine ⟨_, rfl, ?_⟩; have n0_ := Aside0.mk (below_step (by repeat (first | (with_reducible first | exact HB.out | apply below_alloc | apply pw_below_drewN | apply below_drew1) | exact HB.out)) hb); clear HB; have HB := n0_; clear n0_; (try clear hb); (try clear hb2); (try clear hk); (try clear hi)) | ((with_reducible refine gate_callee (f := 4) rfl ?_); refine goesL_ (some 42) rfl rfl Tryz.func4 (by kernel_rfl) rfl #[.string a0, .bool false, .bool a2, .string a3] rfl (by (try simp only [List.map_toArray, List.map_cons, List.map_nil]); first | done | rfl | (simp only [List.length_drop, List.length_take]; rfl)) ?_; (with_reducible refine (impl_HtmlCell.calls a0 false a2 a3 t102 _ A14.out).mono ?_); rintro e w24 ⟨rfl, hb⟩; refine ⟨_, rfl, ?_⟩; have n0_ := Aside0.mk (below_step (by repeat (first | (with_reducible first | exact HB.out | apply below_alloc | apply pw_below_drewN | apply below_drew1) | exact HB.out)) hb); clear HB; have HB := n0_; clear n0_; (try clear hb); (try clear hb2); (try clear hk); (try clear hi)) | ((with_reducible refine gate_callee (f := 4) rfl ?_); refine goesL_ (some 46) rfl rfl Tryz.func4 (by kernel_rfl) rfl #[.string a1, .bool false, .bool a2, .string a3] rfl (by (try simp only [List.map_toArray, List.map_cons, List.map_nil]); first | done | rfl | (simp only [List.length_drop, List.length_take]; rfl)) ?_; (with_reducible refine (impl_HtmlCell.calls a1 false a2 a3 t103 _ A15.out).mono ?_); rintro e w25 ⟨rfl, hb⟩; refine ⟨_, rfl, ?_⟩; have n0_ := Aside0.mk (below_step (by repeat (first | (with_reducible first | exact HB.out | apply below_alloc | apply pw_below_drewN | apply below_drew1) | exact HB.out)) hb); clear HB; have HB := n0_; clear n0_; (try clear hb); (try clear hb2); (try clear hk); (try clear hi)))
                    go_ret
                    exact ⟨by first | rfl | (simp [errW_none, errW_some] <;> rfl) | (simp [*, errW_none, errW_some] <;> rfl), by repeat (first | (with_reducible first | exact HB.out | apply below_alloc | apply pw_below_drewN | apply below_drew1) | exact HB.out)⟩
                · rw [if_neg c16] at H
                  exact absurd H (by simp)
              · rw [if_neg c12] at H
                exact absurd H (by simp)

/-- THE ONE PURE STATEMENT of laws_FnHtmlCellPieces: yours. -/
def laws_FnHtmlCellPieces.Pure : Prop := ∀ (a0 : ByteArray) (a1 : ByteArray) (a2 : Bool) (a3 : ByteArray), a0.size ≤ 140737488351232 → a1.size ≤ 140737488351232 → a3.size ≤ 140737488351232 → ∃ k, laws_FnHtmlCellPieces.f k a0 a1 a2 a3 = some true
theorem laws_FnHtmlCellPieces.walk (P : laws_FnHtmlCellPieces.Pure) (a0 : ByteArray) (a1 : ByteArray) (a2 : Bool) (a3 : ByteArray) (w : World) (w0 : a0.size ≤ 140737488351232) (w1 : a1.size ≤ 140737488351232) (w3 : a3.size ≤ 140737488351232) :
    Calls Tryz.prog 3 #[.string a0, .string a1, .bool a2, .string a3] w fun e w' => e = .returned (.bool true) ∧ Below w.heap.size w w' := by
  obtain ⟨k, h⟩ := P a0 a1 a2 a3 w0 w1 w3
  refine (laws_FnHtmlCellPieces.calls k a0 a1 a2 a3 true w h).mono ?_
  rintro e w' ⟨rfl, hd⟩
  exact ⟨rfl, hd⟩

end Go.Proofs.YtpgnipfpinldgaaGreatDoor.GFnHtmlCellPieces
