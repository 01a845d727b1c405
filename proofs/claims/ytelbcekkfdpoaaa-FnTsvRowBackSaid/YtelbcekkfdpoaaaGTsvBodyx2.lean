-- Written by gprint.py, a program of this session over the kit's printer, with contracts of its own for what the printer does not take. Not trusted: Lean checks it.
import Derived.Test.YtelbcekkfdpoaaaGTsvBodyx0
import Derived.Test.YtelbcekkfdpoaaaGTsvBodyx1
namespace Go.Proofs.Ytelbcekkfdpoaaa.GTsvBody
open Go.RowKit Go.Proofs.Ytelbcekkfdpoaaa.Itr Go.Proofs.YtelbcekkfdpoaaaW.PrintWords Go.Proofs.YtelbcekkfdpoaaaW.PrintLast Go.Proofs.YtelbcekkfdpoaaaW.PrintMore
attribute [local go_sem] max2_int min2_int max_two min_two max_three min_three max_four min_four   -- for this text's walks alone
set_option linter.unusedVariables false
set_option linter.unusedSimpArgs false
noncomputable section

/-! ### spec_Rows: function 9 -/
mutual
def spec_Rows.l0 : Nat → ByteArray → Int → List (List ByteArray) → Int → Option ((List (List ByteArray)) × Bool)
  | 0, _, _, _, _ => none
  | k + 1, x0, x1, x6, x7 => spec_Rows.l1 k x0 x1 x6 x7 ([] : List ByteArray)
def spec_Rows.j2 : Nat → ByteArray → Int → List (List ByteArray) → Int → List ByteArray → Option ((List (List ByteArray)) × Bool)
  | 0, _, _, _, _, _ => none
  | k + 1, x0, x1, x6, x7, x8 => if x6.length < 5864062014805 then ((some (x6 ++ [x8] : List (List ByteArray))).bind fun y118 => (if x7 ≥ (x0.size : Int) then (some (y118, true)) else (if 0 ≤ x7 then (if x7 < (x0.size : Int) then (if (bt x0 x7) = 10 then (spec_Rows.l0 k x0 x1 y118 (wrap64 (x7 + 1))) else (some (([] : List (List ByteArray)), false))) else (none)) else (none)))) else (none)
def spec_Rows.l1 : Nat → ByteArray → Int → List (List ByteArray) → Int → List ByteArray → Option ((List (List ByteArray)) × Bool)
  | 0, _, _, _, _, _ => none
  | k + 1, x0, x1, x6, x7, x8 => (spec_field.f k x0 x7 x1).bind fun bt112 => (if bt112.2.2 = true then (if x8.length < 8796093022208 then ((some (x8 ++ [bt112.1] : List ByteArray)).bind fun y115 => (if bt112.2.1 ≥ (x0.size : Int) then (spec_Rows.j2 k x0 x1 x6 bt112.2.1 y115) else (if 0 ≤ bt112.2.1 then (if bt112.2.1 < (x0.size : Int) then (if (bt x0 bt112.2.1) = x1 then (spec_Rows.l1 k x0 x1 x6 (wrap64 (bt112.2.1 + 1)) y115) else (spec_Rows.j2 k x0 x1 x6 bt112.2.1 y115)) else (none)) else (none)))) else (none)) else (some (([] : List (List ByteArray)), false)))
end
def spec_Rows.f (k : Nat) (a0 : ByteArray) (a1 : Int) : Option ((List (List ByteArray)) × Bool) := spec_Rows.l0 k a0 a1 ([] : List (List ByteArray)) 0
theorem spec_Rows.mono_l : ∀ k, (∀ y0 y1 y2 y3, LeO (spec_Rows.l0 k y0 y1 y2 y3) (spec_Rows.l0 (k + 1) y0 y1 y2 y3)) ∧ (∀ y0 y1 y2 y3 y4, LeO (spec_Rows.j2 k y0 y1 y2 y3 y4) (spec_Rows.j2 (k + 1) y0 y1 y2 y3 y4)) ∧ (∀ y0 y1 y2 y3 y4, LeO (spec_Rows.l1 k y0 y1 y2 y3 y4) (spec_Rows.l1 (k + 1) y0 y1 y2 y3 y4))
  | 0 => ⟨fun _ _ _ _ r h => by simp [spec_Rows.l0] at h, fun _ _ _ _ _ r h => by simp [spec_Rows.j2] at h, fun _ _ _ _ _ r h => by simp [spec_Rows.l1] at h⟩
  | k + 1 => by
    obtain ⟨ih0, ih1, ih2⟩ := spec_Rows.mono_l k
    refine ⟨?_, ?_, ?_⟩
    · intro y0 y1 y2 y3
      unfold spec_Rows.l0
      repeat' first
      | (with_reducible exact ih0 _ _ _ _)
      | (with_reducible exact ih1 _ _ _ _ _)
      | (with_reducible exact ih2 _ _ _ _ _)
      | (with_reducible exact spec_field.mono _ _ _ _)
      | (with_reducible exact LeO.refl _)
      | (with_reducible exact LeO.none _)
      | (with_reducible refine LeO.ite ?_ ?_)
      | (with_reducible refine LeO.bind ?_ (fun _ => ?_))
      | exact ih0 _ _ _ _
      | exact ih1 _ _ _ _ _
      | exact ih2 _ _ _ _ _
      | exact spec_field.mono _ _ _ _
      | exact LeO.none _
      | refine LeO.ite ?_ ?_
      | refine LeO.bind ?_ (fun _ => ?_)
    · intro y0 y1 y2 y3 y4
      unfold spec_Rows.j2
      repeat' first
      | (with_reducible exact ih0 _ _ _ _)
      | (with_reducible exact ih1 _ _ _ _ _)
      | (with_reducible exact ih2 _ _ _ _ _)
      | (with_reducible exact spec_field.mono _ _ _ _)
      | (with_reducible exact LeO.refl _)
      | (with_reducible exact LeO.none _)
      | (with_reducible refine LeO.ite ?_ ?_)
      | (with_reducible refine LeO.bind ?_ (fun _ => ?_))
      | exact ih0 _ _ _ _
      | exact ih1 _ _ _ _ _
      | exact ih2 _ _ _ _ _
      | exact spec_field.mono _ _ _ _
      | exact LeO.none _
      | refine LeO.ite ?_ ?_
      | refine LeO.bind ?_ (fun _ => ?_)
    · intro y0 y1 y2 y3 y4
      unfold spec_Rows.l1
      repeat' first
      | (with_reducible exact ih0 _ _ _ _)
      | (with_reducible exact ih1 _ _ _ _ _)
      | (with_reducible exact ih2 _ _ _ _ _)
      | (with_reducible exact spec_field.mono _ _ _ _)
      | (with_reducible exact LeO.refl _)
      | (with_reducible exact LeO.none _)
      | (with_reducible refine LeO.ite ?_ ?_)
      | (with_reducible refine LeO.bind ?_ (fun _ => ?_))
      | exact ih0 _ _ _ _
      | exact ih1 _ _ _ _ _
      | exact ih2 _ _ _ _ _
      | exact spec_field.mono _ _ _ _
      | exact LeO.none _
      | refine LeO.ite ?_ ?_
      | refine LeO.bind ?_ (fun _ => ?_)
theorem spec_Rows.mono : ∀ a0 a1 k, LeO (spec_Rows.f k a0 a1) (spec_Rows.f (k + 1) a0 a1) := by
  intro a0 a1 k
  obtain ⟨ih0, ih1, ih2⟩ := spec_Rows.mono_l k
  unfold spec_Rows.f
  repeat' first
      | (with_reducible exact ih0 _ _ _ _)
      | (with_reducible exact ih1 _ _ _ _ _)
      | (with_reducible exact ih2 _ _ _ _ _)
      | (with_reducible exact spec_field.mono _ _ _ _)
      | (with_reducible exact LeO.refl _)
      | (with_reducible exact LeO.none _)
      | (with_reducible refine LeO.ite ?_ ?_)
      | (with_reducible refine LeO.bind ?_ (fun _ => ?_))
      | exact ih0 _ _ _ _
      | exact ih1 _ _ _ _ _
      | exact ih2 _ _ _ _ _
      | exact spec_field.mono _ _ _ _
      | exact LeO.none _
      | refine LeO.ite ?_ ?_
      | refine LeO.bind ?_ (fun _ => ?_)
set_option maxHeartbeats 8000000 in
set_option maxRecDepth 100000 in
theorem spec_Rows.calls (k : Nat) (a0 : ByteArray) (a1 : Int) (r1 : List (List ByteArray)) (r2 : Bool) (w : World) (h : spec_Rows.f k a0 a1 = some (r1, r2)) :
    Calls Try.prog 9 #[.string a0, .int .u8 a1] w fun e w' => ∃ v0_ : Value, e = .returned (.tuple #[v0_, .bool r2]) ∧ Kd.S (Kd.slice 9 Kd.string) 22 w' w.heap.size (fun _ => True) v0_ r1 ∧ Below w.heap.size w w' := by
  have HB := Aside0.mk (Below.refl w.heap.size w)
  have H : (spec_Rows.l0 k a0 a1 ([] : List (List ByteArray)) 0) = some (r1, r2) := h
  clear h
  have H' := Aside0.mk H
  clear H
  go_enter Try.func9, Try.ntmps9
  go_wp2
  (try simp only [Act.put, List.setIfInBounds_toArray, List.set_cons_zero, List.set_cons_succ])
  go_loopg [6, 7] k (fun kq v6 v7 w' => ∃ (x6_1 : List (List ByteArray)) (x7_1 : Int), v7 = .int .i64 x7_1 ∧ Aside0 (spec_Rows.l0 kq a0 a1 x6_1 x7_1 = some (r1, r2)) ∧ Aside0 (kq ≤ k) ∧ Aside0 (Kd.S (Kd.slice 9 Kd.string) 22 w' w.heap.size (fun _ => True) v6 x6_1) ∧ Aside0 (Below w.heap.size w w'))
  case atStart => exact ⟨(([] : List (List ByteArray))), (0), (by first | rfl | (simp; done) | (simp [*]; done)), H', ⟨Nat.le_refl _⟩, ⟨by first | exact Kd.S_nil _ _ _ _ _ | exact Kd.N_nil _ _ _ _ _ | exact Kd.V_nil _ _ _ _ _ | exact Kd.Q_nil _ _ _ _ _ | exact Kd.R_nil _ _ _ _ _⟩, ⟨by repeat (first | (with_reducible first | exact HB.out | apply below_alloc | apply pw_below_drewN | apply below_drew1) | exact HB.out)⟩⟩
  case round =>
    clear H'
    try clear p2
    obtain ⟨x6_1, x7_1, rfl, HA, HK1, HO_6, HB⟩ := hrel
    cases gk with
    | zero => exact absurd HA.out (by simp [spec_Rows.l0])
    | succ k1 =>
      have H := HA.out
      clear HA
      simp only [spec_Rows.l0] at H
      have HC3 := Aside0.mk H
      clear H
      go_upto_block 2 with (fail)
      go_cut [7, 8] (fun v7 v8 wc => ∃ (kq : Nat) (x7_2 : Int) (x8_2 : List ByteArray), v7 = .int .i64 x7_2 ∧ Aside0 (spec_Rows.j2 kq a0 a1 x6_1 x7_2 x8_2 = some (r1, r2)) ∧ Aside0 (kq ≤ k1) ∧ Aside0 (Kd.S (Kd.slice 9 Kd.string) 22 wc w.heap.size (fun k_ => some k_ ≠ (v8 : Value).ownBlock) u6 x6_1) ∧ Aside0 (Kd.R Kd.string 9 wc w.heap.size (fun _ => True) v8 x8_2) ∧ Aside0 (Below w.heap.size w wc))
      case first =>
        have H := HC3.out
        clear HC3
        have H' := Aside0.mk H
        clear H
        go_wp2
        (try simp only [Act.put, List.setIfInBounds_toArray, List.set_cons_zero, List.set_cons_succ])
        go_loopg [7, 8] k1 (fun kq v7 v8 w' => ∃ (x7_2 : Int) (x8_2 : List ByteArray), v7 = .int .i64 x7_2 ∧ Aside0 (spec_Rows.l1 kq a0 a1 x6_1 x7_2 x8_2 = some (r1, r2)) ∧ Aside0 (kq ≤ k1) ∧ Aside0 (Kd.S (Kd.slice 9 Kd.string) 22 w' w.heap.size (fun k_ => some k_ ≠ (v8 : Value).ownBlock) u6 x6_1) ∧ Aside0 (Kd.R Kd.string 9 w' w.heap.size (fun _ => True) v8 x8_2) ∧ Aside0 (Below w.heap.size w w'))
        case atStart => exact ⟨(x7_1), (([] : List ByteArray)), (by first | rfl | (simp; done) | (simp [*]; done)), H', ⟨Nat.le_refl _⟩, ⟨by (with_reducible repeat (first | apply Kd.S_alloc | apply Kd.S_drewN | apply Kd.S_drew)); exact Kd.S_mono HO_6.out (fun _ hk => (by simp [Value.ownBlock]))⟩, ⟨by first | exact Kd.R_nil _ _ _ _ _ | exact Kd.N_nil _ _ _ _ _ | exact Kd.V_nil _ _ _ _ _ | exact Kd.Q_nil _ _ _ _ _ | exact Kd.S_nil _ _ _ _ _⟩, ⟨by repeat (first | (with_reducible first | exact HB.out | apply below_alloc | apply pw_below_drewN | apply below_drew1) | exact HB.out)⟩⟩
        case round =>
          clear H'
          try clear p2
          try clear p2
          obtain ⟨x7_2, x8_2, rfl, HA, HK2, HO_6, HO_8, HB⟩ := hrel
          cases gk with
          | zero => exact absurd HA.out (by simp [spec_Rows.l1])
          | succ k2 =>
            have H := HA.out
            clear HA
            simp only [spec_Rows.l1] at H
            replace H := Option.bind_eq_some_iff.mp H
            obtain ⟨⟨t112, t113, t114⟩, A40, H⟩ := H
            replace H : (if t114 = true then (if x8_2.length < 8796093022208 then ((some (x8_2 ++ [t112] : List ByteArray)).bind fun y115 => (if t113 ≥ (a0.size : Int) then (spec_Rows.j2 k2 a0 a1 x6_1 t113 y115) else (if 0 ≤ t113 then (if t113 < (a0.size : Int) then (if (bt a0 t113) = a1 then (spec_Rows.l1 k2 a0 a1 x6_1 (wrap64 (t113 + 1)) y115) else (spec_Rows.j2 k2 a0 a1 x6_1 t113 y115)) else (none)) else (none)))) else (none)) else (some (([] : List (List ByteArray)), false))) = some (r1, r2) := H
            have A4 := Aside0.mk A40
            clear A40
            by_cases c5 : t114 = true
            · subst c5
              have H1 : (if x8_2.length < 8796093022208 then ((some (x8_2 ++ [t112] : List ByteArray)).bind fun y115 => (if t113 ≥ (a0.size : Int) then (spec_Rows.j2 k2 a0 a1 x6_1 t113 y115) else (if 0 ≤ t113 then (if t113 < (a0.size : Int) then (if (bt a0 t113) = a1 then (spec_Rows.l1 k2 a0 a1 x6_1 (wrap64 (t113 + 1)) y115) else (spec_Rows.j2 k2 a0 a1 x6_1 t113 y115)) else (none)) else (none)))) else (none)) = some (r1, r2) := by rw [if_pos rfl] at H; exact H
              clear H
              have H := H1
              clear H1
              by_cases c6 : x8_2.length < 8796093022208
              · rw [if_pos c6] at H
                have LMc6 := Aside0.mk c6
                clear c6
                obtain ⟨y115, hy115⟩ : ∃ y_ : List ByteArray, y_ = (x8_2 ++ [t112]) := ⟨_, rfl⟩
                replace H : (if t113 ≥ (a0.size : Int) then (spec_Rows.j2 k2 a0 a1 x6_1 t113 y115) else (if 0 ≤ t113 then (if t113 < (a0.size : Int) then (if (bt a0 t113) = a1 then (spec_Rows.l1 k2 a0 a1 x6_1 (wrap64 (t113 + 1)) y115) else (spec_Rows.j2 k2 a0 a1 x6_1 t113 y115)) else (none)) else (none))) = some (r1, r2) := by first | (rw [hy115]; with_reducible exact H) | (have H2_ := (Option.bind_some _ _).symm.trans H; rw [hy115]; with_reducible exact H2_) | (have H2_ := (Option.bind_some _ _).symm.trans H; with_reducible exact H2_) | with_reducible exact H | (rw [hy115]; exact H) | exact H
                have Ny115 := Aside0.mk hy115
                clear hy115
                by_cases c7 : t113 ≥ (a0.size : Int)
                · rw [if_pos c7] at H
                  have c7b0 : decide ((a0.size : Int) ≤ t113) = true := decide_eq_true c7
                  clear c7
                  (first | rw [c7b0] | (simp only [i64_w, i32_w]; rw [c7b0]) | skip)
                  have H' := Aside0.mk H
                  clear H
                  go_wp2_with (first | ((with_reducible refine gate_callee (f := 21) rfl ?_); refine goesL_ (some 16) rfl rfl Try.func21 (by kernel_rfl) rfl #[.string a0, .int .i64 x7_2, .int .u8 a1] rfl (by (try simp only [List.map_toArray, List.map_cons, List.map_nil]); first | done | rfl | (simp only [List.length_drop, List.length_take]; rfl)) ?_; (with_reducible refine (spec_field.calls k2 a0 x7_2 a1 t112 t113 true _ A4.out).mono ?_); rintro e w8 ⟨rfl, hb⟩; refine ⟨_, rfl, ?_⟩; have n0_ := Aside0.mk (Kd.S_below (by (with_reducible repeat (first | apply Kd.S_alloc | apply Kd.S_drewN | apply Kd.S_drew)); exact HO_6.out) hb); have n1_ := Aside0.mk (Kd.R_below (by (with_reducible repeat (first | apply Kd.R_alloc | apply Kd.R_drewN | apply Kd.R_drew)); exact HO_8.out) hb); have n2_ := Aside0.mk (below_step (by repeat (first | (with_reducible first | exact HB.out | apply below_alloc | apply pw_below_drewN | apply below_drew1) | exact HB.out)) hb); clear HO_6; clear HO_8; clear HB; have HO_6 := n0_; have HO_8 := n1_; have HB := n2_; clear n0_ n1_ n2_; (try clear hb); (try clear hb2); (try clear hk); (try clear hi)) | ((with_reducible refine gate_builtin (b := .append) (xs := #[.tmp 22, .tmp 24]) rfl ?_); at_builtin; refine Kd.R_append Kd.string (w0 := w) w.heap.size rfl (.tmp 22) (.tmp 24) 22 9 (.string ⟨#[]⟩) 16 rfl Try.underlying22 info9 rfl (by decide) (by omega) u8 x8_2 t112 [.string t112] (fun _ => True) (fun _ => False) rfl rfl ?aP (fun _ hk => hk.elim) ?aF ?aO ?aB ?aS ?aL ?_; (case aP => exact rfl); (case aB => exact (by repeat (first | (with_reducible first | exact HB.out | apply below_alloc | apply pw_below_drewN | apply below_drew1) | exact HB.out))); (case aF => exact (fun _ _ => trivial)); (case aO => exact (by (with_reducible repeat (first | apply Kd.R_alloc | apply Kd.R_drewN | apply Kd.R_drew)); exact HO_8.out)); (case aS => exact (below_size (by repeat (first | (with_reducible first | exact HB.out | apply below_alloc | apply pw_below_drewN | apply below_drew1) | exact HB.out)))); (case aL => have := LMc6.out; omega); intro v116 w9 ho hb hg hat; rw [← Ny115.out] at ho; have n0_ := Aside0.mk (Kd.S_after (ok := (fun _ => True)) (by (with_reducible repeat (first | apply Kd.S_alloc | apply Kd.S_drewN | apply Kd.S_drew)); exact Kd.S_mono HO_6.out (fun _ hk => ⟨trivial, hk⟩)) hg hat); have n1_ := Aside0.mk (hb); have n2_ := Aside0.mk (ho); clear HO_6; clear HB; clear HO_8; have HO_6 := n0_; have HB := n1_; have HO117 := n2_; clear n0_ n1_ n2_; clear ho hb hg hat))
                  go_meet
                  case rel => exact ⟨_, (t113), (y115), (by first | rfl | (simp; done) | (simp [*]; done)), H', ⟨by have := HK1.out; have := HK2.out; first | omega | exact Nat.le_refl _⟩, ⟨by (with_reducible repeat (first | apply Kd.S_alloc | apply Kd.S_drewN | apply Kd.S_drew)); exact Kd.S_mono HO_6.out (fun _ hk => hk.2)⟩, ⟨by (with_reducible repeat (first | apply Kd.R_alloc | apply Kd.R_drewN | apply Kd.R_drew)); exact HO117.out⟩, ⟨by repeat (first | (with_reducible first | exact HB.out | apply below_alloc | apply pw_below_drewN | apply below_drew1) | exact HB.out)⟩⟩
                · rw [if_neg c7] at H
                  have c7b0 : decide ((a0.size : Int) ≤ t113) = false := decide_eq_false c7
                  clear c7
                  (first | rw [c7b0] | (simp only [i64_w, i32_w]; rw [c7b0]) | skip)
                  by_cases c10 : 0 ≤ t113
                  · rw [if_pos c10] at H
                    have c10b0 : decide (0 ≤ t113) = true := decide_eq_true c10
                    clear c10
                    by_cases c11 : t113 < (a0.size : Int)
                    · rw [if_pos c11] at H
                      have c11b0 : decide (t113 < (a0.size : Int)) = true := decide_eq_true c11
                      clear c11
                      by_cases c13 : (bt a0 t113) = a1
                      · rw [if_pos c13] at H
                        have c13b0 : ((bt a0 t113) == a1) = true := beq_iff_eq.mpr c13
                        have c13b1 : ((bt a0 t113) != a1) = false := bne_eq_false_iff_eq.mpr c13
                        clear c13
                        have H' := Aside0.mk H
                        clear H
                        go_wp2_with (first | ((with_reducible refine gate_callee (f := 21) rfl ?_); refine goesL_ (some 16) rfl rfl Try.func21 (by kernel_rfl) rfl #[.string a0, .int .i64 x7_2, .int .u8 a1] rfl (by (try simp only [List.map_toArray, List.map_cons, List.map_nil]); first | done | rfl | (simp only [List.length_drop, List.length_take]; rfl)) ?_; (with_reducible refine (spec_field.calls k2 a0 x7_2 a1 t112 t113 true _ A4.out).mono ?_); rintro e w14 ⟨rfl, hb⟩; refine ⟨_, rfl, ?_⟩; have n0_ := Aside0.mk (Kd.S_below (by (with_reducible repeat (first | apply Kd.S_alloc | apply Kd.S_drewN | apply Kd.S_drew)); exact HO_6.out) hb); have n1_ := Aside0.mk (Kd.R_below (by (with_reducible repeat (first | apply Kd.R_alloc | apply Kd.R_drewN | apply Kd.R_drew)); exact HO_8.out) hb); have n2_ := Aside0.mk (below_step (by repeat (first | (with_reducible first | exact HB.out | apply below_alloc | apply pw_below_drewN | apply below_drew1) | exact HB.out)) hb); clear HO_6; clear HO_8; clear HB; have HO_6 := n0_; have HO_8 := n1_; have HB := n2_; clear n0_ n1_ n2_; (try clear hb); (try clear hb2); (try clear hk); (try clear hi)) | ((with_reducible refine gate_builtin (b := .append) (xs := #[.tmp 22, .tmp 24]) rfl ?_); at_builtin; refine Kd.R_append Kd.string (w0 := w) w.heap.size rfl (.tmp 22) (.tmp 24) 22 9 (.string ⟨#[]⟩) 16 rfl Try.underlying22 info9 rfl (by decide) (by omega) u8 x8_2 t112 [.string t112] (fun _ => True) (fun _ => False) rfl rfl ?aP (fun _ hk => hk.elim) ?aF ?aO ?aB ?aS ?aL ?_; (case aP => exact rfl); (case aB => exact (by repeat (first | (with_reducible first | exact HB.out | apply below_alloc | apply pw_below_drewN | apply below_drew1) | exact HB.out))); (case aF => exact (fun _ _ => trivial)); (case aO => exact (by (with_reducible repeat (first | apply Kd.R_alloc | apply Kd.R_drewN | apply Kd.R_drew)); exact HO_8.out)); (case aS => exact (below_size (by repeat (first | (with_reducible first | exact HB.out | apply below_alloc | apply pw_below_drewN | apply below_drew1) | exact HB.out)))); (case aL => have := LMc6.out; omega); intro v116 w15 ho hb hg hat; rw [← Ny115.out] at ho; have n0_ := Aside0.mk (Kd.S_after (ok := (fun _ => True)) (by (with_reducible repeat (first | apply Kd.S_alloc | apply Kd.S_drewN | apply Kd.S_drew)); exact Kd.S_mono HO_6.out (fun _ hk => ⟨trivial, hk⟩)) hg hat); have n1_ := Aside0.mk (hb); have n2_ := Aside0.mk (ho); clear HO_6; clear HB; clear HO_8; have HO_6 := n0_; have HB := n1_; have HO117 := n2_; clear n0_ n1_ n2_; clear ho hb hg hat; have p12 : 0 ≤ (t113 : Int) := of_decide_eq_true (by first | (with_reducible assumption) | assumption); have q12 : t113 < (a0.size : Int) := of_decide_eq_true (by first | (with_reducible assumption) | assumption); have hx12 := bt_at a0 t113; replace p12 := eq_true p12; replace q12 := eq_true q12))
                        go_roundg k2
                        case measure => have := HK1.out; have := HK2.out; omega
                        case rel => exact ⟨(wrap64 (t113 + 1)), (y115), (by first | rfl | (simp; done) | (simp [*]; done)), H', ⟨by have := HK1.out; have := HK2.out; omega⟩, ⟨by (with_reducible repeat (first | apply Kd.S_alloc | apply Kd.S_drewN | apply Kd.S_drew)); exact Kd.S_mono HO_6.out (fun _ hk => hk.2)⟩, ⟨by (with_reducible repeat (first | apply Kd.R_alloc | apply Kd.R_drewN | apply Kd.R_drew)); exact HO117.out⟩, ⟨by repeat (first | (with_reducible first | exact HB.out | apply below_alloc | apply pw_below_drewN | apply below_drew1) | exact HB.out)⟩⟩
                      · rw [if_neg c13] at H
                        have c13b0 : ((bt a0 t113) == a1) = false := beq_eq_false_iff_ne.mpr c13
                        have c13b1 : ((bt a0 t113) != a1) = true := bne_iff_ne.mpr c13
                        have H' := Aside0.mk H
                        clear H
                        go_wp2_with (first | ((with_reducible refine gate_callee (f := 21) rfl ?_); refine goesL_ (some 16) rfl rfl Try.func21 (by kernel_rfl) rfl #[.string a0, .int .i64 x7_2, .int .u8 a1] rfl (by (try simp only [List.map_toArray, List.map_cons, List.map_nil]); first | done | rfl | (simp only [List.length_drop, List.length_take]; rfl)) ?_; (with_reducible refine (spec_field.calls k2 a0 x7_2 a1 t112 t113 true _ A4.out).mono ?_); rintro e w16 ⟨rfl, hb⟩; refine ⟨_, rfl, ?_⟩; have n0_ := Aside0.mk (Kd.S_below (by (with_reducible repeat (first | apply Kd.S_alloc | apply Kd.S_drewN | apply Kd.S_drew)); exact HO_6.out) hb); have n1_ := Aside0.mk (Kd.R_below (by (with_reducible repeat (first | apply Kd.R_alloc | apply Kd.R_drewN | apply Kd.R_drew)); exact HO_8.out) hb); have n2_ := Aside0.mk (below_step (by repeat (first | (with_reducible first | exact HB.out | apply below_alloc | apply pw_below_drewN | apply below_drew1) | exact HB.out)) hb); clear HO_6; clear HO_8; clear HB; have HO_6 := n0_; have HO_8 := n1_; have HB := n2_; clear n0_ n1_ n2_; (try clear hb); (try clear hb2); (try clear hk); (try clear hi)) | ((with_reducible refine gate_builtin (b := .append) (xs := #[.tmp 22, .tmp 24]) rfl ?_); at_builtin; refine Kd.R_append Kd.string (w0 := w) w.heap.size rfl (.tmp 22) (.tmp 24) 22 9 (.string ⟨#[]⟩) 16 rfl Try.underlying22 info9 rfl (by decide) (by omega) u8 x8_2 t112 [.string t112] (fun _ => True) (fun _ => False) rfl rfl ?aP (fun _ hk => hk.elim) ?aF ?aO ?aB ?aS ?aL ?_; (case aP => exact rfl); (case aB => exact (by repeat (first | (with_reducible first | exact HB.out | apply below_alloc | apply pw_below_drewN | apply below_drew1) | exact HB.out))); (case aF => exact (fun _ _ => trivial)); (case aO => exact (by (with_reducible repeat (first | apply Kd.R_alloc | apply Kd.R_drewN | apply Kd.R_drew)); exact HO_8.out)); (case aS => exact (below_size (by repeat (first | (with_reducible first | exact HB.out | apply below_alloc | apply pw_below_drewN | apply below_drew1) | exact HB.out)))); (case aL => have := LMc6.out; omega); intro v116 w17 ho hb hg hat; rw [← Ny115.out] at ho; have n0_ := Aside0.mk (Kd.S_after (ok := (fun _ => True)) (by (with_reducible repeat (first | apply Kd.S_alloc | apply Kd.S_drewN | apply Kd.S_drew)); exact Kd.S_mono HO_6.out (fun _ hk => ⟨trivial, hk⟩)) hg hat); have n1_ := Aside0.mk (hb); have n2_ := Aside0.mk (ho); clear HO_6; clear HB; clear HO_8; have HO_6 := n0_; have HB := n1_; have HO117 := n2_; clear n0_ n1_ n2_; clear ho hb hg hat; have p12 : 0 ≤ (t113 : Int) := of_decide_eq_true (by first | (with_reducible assumption) | assumption); have q12 : t113 < (a0.size : Int) := of_decide_eq_true (by first | (with_reducible assumption) | assumption); have hx12 := bt_at a0 t113; replace p12 := eq_true p12; replace q12 := eq_true q12))
                        go_meet
                        case rel => exact ⟨_, (t113), (y115), (by first | rfl | (simp; done) | (simp [*]; done)), H', ⟨by have := HK1.out; have := HK2.out; first | omega | exact Nat.le_refl _⟩, ⟨by (with_reducible repeat (first | apply Kd.S_alloc | apply Kd.S_drewN | apply Kd.S_drew)); exact Kd.S_mono HO_6.out (fun _ hk => hk.2)⟩, ⟨by (with_reducible repeat (first | apply Kd.R_alloc | apply Kd.R_drewN | apply Kd.R_drew)); exact HO117.out⟩, ⟨by repeat (first | (with_reducible first | exact HB.out | apply below_alloc | apply pw_below_drewN | apply below_drew1) | exact HB.out)⟩⟩
                    · rw [if_neg c11] at H
                      exact absurd H (by simp)
                  · rw [if_neg c10] at H
                    exact absurd H (by simp)
              · rw [if_neg c6] at H
                exact absurd H (by simp)
            · replace c5 := Bool.eq_false_iff.mpr c5
              subst c5
              have H1 : (some (([] : List (List ByteArray)), false)) = some (r1, r2) := by rw [if_neg (show ¬ (false = true) by decide)] at H; exact H
              clear H
              have H := H1
              clear H1
              simp only [Option.some.injEq, Prod.mk.injEq] at H
              obtain ⟨rfl, rfl⟩ := H
              go_wp2_with (first | ((with_reducible refine gate_callee (f := 21) rfl ?_); refine goesL_ (some 16) rfl rfl Try.func21 (by kernel_rfl) rfl #[.string a0, .int .i64 x7_2, .int .u8 a1] rfl (by (try simp only [List.map_toArray, List.map_cons, List.map_nil]); first | done | rfl | (simp only [List.length_drop, List.length_take]; rfl)) ?_; (with_reducible refine (spec_field.calls k2 a0 x7_2 a1 t112 t113 false _ A4.out).mono ?_); rintro e w18 ⟨rfl, hb⟩; refine ⟨_, rfl, ?_⟩; have n0_ := Aside0.mk (Kd.S_below (by (with_reducible repeat (first | apply Kd.S_alloc | apply Kd.S_drewN | apply Kd.S_drew)); exact HO_6.out) hb); have n1_ := Aside0.mk (Kd.R_below (by (with_reducible repeat (first | apply Kd.R_alloc | apply Kd.R_drewN | apply Kd.R_drew)); exact HO_8.out) hb); have n2_ := Aside0.mk (below_step (by repeat (first | (with_reducible first | exact HB.out | apply below_alloc | apply pw_below_drewN | apply below_drew1) | exact HB.out)) hb); clear HO_6; clear HO_8; clear HB; have HO_6 := n0_; have HO_8 := n1_; have HB := n2_; clear n0_ n1_ n2_; (try clear hb); (try clear hb2); (try clear hk); (try clear hi)))
              go_ret2
              exact ⟨_, by first | rfl | (simp [errW_none, errW_some] <;> rfl) | (simp [*, errW_none, errW_some] <;> rfl), by first | exact Kd.S_nil _ _ _ _ _ | exact Kd.N_nil _ _ _ _ _ | exact Kd.V_nil _ _ _ _ _ | exact Kd.Q_nil _ _ _ _ _ | exact Kd.R_nil _ _ _ _ _, by repeat (first | (with_reducible first | exact HB.out | apply below_alloc | apply pw_below_drewN | apply below_drew1) | exact HB.out)⟩
      case rest =>
        clear HC3
        try clear c1
        try clear p1
        try clear q1
        try clear hx1
        try clear c2
        try clear p2
        try clear c5
        try clear c6
        try clear p6
        try clear c7
        try clear c7b0
        try clear c9
        try clear c10
        try clear c10b0
        try clear c11
        try clear c11b0
        try clear p12
        try clear q12
        try clear hx12
        try clear c13
        try clear c13b0
        try clear c13b1
        try clear p12
        try clear p2
        try clear q12
        obtain ⟨kq, x7_2, x8_2, rfl, HA, HJ2, HO_6, HO_8, HB⟩ := hcut
        cases kq with
        | zero => exact absurd HA.out (by simp [spec_Rows.j2])
        | succ kj2 =>
          have H := HA.out
          clear HA
          simp only [spec_Rows.j2] at H
          by_cases c19 : x6_1.length < 5864062014805
          · rw [if_pos c19] at H
            have LMc19 := Aside0.mk c19
            clear c19
            obtain ⟨y118, hy118⟩ : ∃ y_ : List (List ByteArray), y_ = (x6_1 ++ [x8_2]) := ⟨_, rfl⟩
            replace H : (if x7_2 ≥ (a0.size : Int) then (some (y118, true)) else (if 0 ≤ x7_2 then (if x7_2 < (a0.size : Int) then (if (bt a0 x7_2) = 10 then (spec_Rows.l0 kj2 a0 a1 y118 (wrap64 (x7_2 + 1))) else (some (([] : List (List ByteArray)), false))) else (none)) else (none))) = some (r1, r2) := by first | (rw [hy118]; with_reducible exact H) | (have H2_ := (Option.bind_some _ _).symm.trans H; rw [hy118]; with_reducible exact H2_) | (have H2_ := (Option.bind_some _ _).symm.trans H; with_reducible exact H2_) | with_reducible exact H | (rw [hy118]; exact H) | exact H
            have Ny118 := Aside0.mk hy118
            clear hy118
            by_cases c20 : x7_2 ≥ (a0.size : Int)
            · rw [if_pos c20] at H
              have c20b0 : decide ((a0.size : Int) ≤ x7_2) = true := decide_eq_true c20
              clear c20
              simp only [Option.some.injEq, Prod.mk.injEq] at H
              obtain ⟨rfl, rfl⟩ := H
              obtain ⟨Ao22, co22, eo22⟩ := Kd.R_slice HO_8.out
              subst eo22
              go_wp2_with (first | ((with_reducible refine gate_builtin (b := .append) (xs := #[.tmp 40, .tmp 42]) rfl ?_); at_builtin; refine Kd.S_append (Kd.slice 9 Kd.string) (w0 := w) w.heap.size rfl (.tmp 40) (.tmp 42) 25 22 (.slice none 0 0) 24 rfl Try.underlying25 info22 rfl (by decide) (by omega) u6 x6_1 x8_2 [.slice Ao22 x8_2.length co22] (fun _ => True) (fun k_ => some k_ = (.slice Ao22 x8_2.length co22 : Value).ownBlock) rfl rfl ?aP (fun k_ hk_ => ((Kd.R_mono (ok' := fun k_ => ((fun _ => True)) k_ ∧ some k_ ≠ (u6 : Value).ownBlock) (Kd.R_apart' (HO_8.out) (Kd.S_typed HO_6.out) (by decide)) (fun k_ hk => ⟨trivial, hk.2⟩))).1 k_ hk_.symm) ?aF ?aO ?aB ?aS ?aL ?_; (case aP => exact Kd.M_row (Kd.R_mono (Kd.R_tight rfl (Kd.R_mono (ok' := fun k_ => ((fun _ => True)) k_ ∧ some k_ ≠ (u6 : Value).ownBlock) (Kd.R_apart' (HO_8.out) (Kd.S_typed HO_6.out) (by decide)) (fun k_ hk => ⟨trivial, hk.2⟩))) (fun _ h_ => h_))); (case aB => exact (by repeat (first | (with_reducible first | exact HB.out | apply below_alloc | apply pw_below_drewN | apply below_drew1) | exact HB.out))); (case aF => exact (fun _ _ => trivial)); (case aO => exact (by (with_reducible repeat (first | apply Kd.S_alloc | apply Kd.S_drewN | apply Kd.S_drew)); exact Kd.S_mono HO_6.out (fun k_ hk => ⟨trivial, fun e_ => hk e_⟩))); (case aS => exact (below_size (by repeat (first | (with_reducible first | exact HB.out | apply below_alloc | apply pw_below_drewN | apply below_drew1) | exact HB.out)))); (case aL => have := LMc19.out; omega); intro v119 w21 ho hb hg hat; rw [← Ny118.out] at ho; have n0_ := Aside0.mk (hb); have n1_ := Aside0.mk (ho); clear HB; clear HO_6; clear HO_8; have HB := n0_; have HO120 := n1_; clear n0_ n1_; clear ho hb hg hat))
              go_ret2
              exact ⟨_, by first | rfl | (simp [errW_none, errW_some] <;> rfl) | (simp [*, errW_none, errW_some] <;> rfl), by (with_reducible repeat (first | apply Kd.S_alloc | apply Kd.S_drewN | apply Kd.S_drew)); exact HO120.out, by repeat (first | (with_reducible first | exact HB.out | apply below_alloc | apply pw_below_drewN | apply below_drew1) | exact HB.out)⟩
            · rw [if_neg c20] at H
              have c20b0 : decide ((a0.size : Int) ≤ x7_2) = false := decide_eq_false c20
              clear c20
              by_cases c23 : 0 ≤ x7_2
              · rw [if_pos c23] at H
                have c23b0 : decide (0 ≤ x7_2) = true := decide_eq_true c23
                clear c23
                by_cases c24 : x7_2 < (a0.size : Int)
                · rw [if_pos c24] at H
                  have c24b0 : decide (x7_2 < (a0.size : Int)) = true := decide_eq_true c24
                  clear c24
                  by_cases c26 : (bt a0 x7_2) = 10
                  · rw [if_pos c26] at H
                    have c26b0 : ((bt a0 x7_2) == 10) = true := beq_iff_eq.mpr c26
                    have c26b1 : ((bt a0 x7_2) != 10) = false := bne_eq_false_iff_eq.mpr c26
                    clear c26
                    have H' := Aside0.mk H
                    clear H
                    obtain ⟨Ao28, co28, eo28⟩ := Kd.R_slice HO_8.out
                    subst eo28
                    go_wp2_with (first | ((with_reducible refine gate_builtin (b := .append) (xs := #[.tmp 40, .tmp 42]) rfl ?_); at_builtin; refine Kd.S_append (Kd.slice 9 Kd.string) (w0 := w) w.heap.size rfl (.tmp 40) (.tmp 42) 25 22 (.slice none 0 0) 24 rfl Try.underlying25 info22 rfl (by decide) (by omega) u6 x6_1 x8_2 [.slice Ao28 x8_2.length co28] (fun _ => True) (fun k_ => some k_ = (.slice Ao28 x8_2.length co28 : Value).ownBlock) rfl rfl ?aP (fun k_ hk_ => ((Kd.R_mono (ok' := fun k_ => ((fun _ => True)) k_ ∧ some k_ ≠ (u6 : Value).ownBlock) (Kd.R_apart' (HO_8.out) (Kd.S_typed HO_6.out) (by decide)) (fun k_ hk => ⟨trivial, hk.2⟩))).1 k_ hk_.symm) ?aF ?aO ?aB ?aS ?aL ?_; (case aP => exact Kd.M_row (Kd.R_mono (Kd.R_tight rfl (Kd.R_mono (ok' := fun k_ => ((fun _ => True)) k_ ∧ some k_ ≠ (u6 : Value).ownBlock) (Kd.R_apart' (HO_8.out) (Kd.S_typed HO_6.out) (by decide)) (fun k_ hk => ⟨trivial, hk.2⟩))) (fun _ h_ => h_))); (case aB => exact (by repeat (first | (with_reducible first | exact HB.out | apply below_alloc | apply pw_below_drewN | apply below_drew1) | exact HB.out))); (case aF => exact (fun _ _ => trivial)); (case aO => exact (by (with_reducible repeat (first | apply Kd.S_alloc | apply Kd.S_drewN | apply Kd.S_drew)); exact Kd.S_mono HO_6.out (fun k_ hk => ⟨trivial, fun e_ => hk e_⟩))); (case aS => exact (below_size (by repeat (first | (with_reducible first | exact HB.out | apply below_alloc | apply pw_below_drewN | apply below_drew1) | exact HB.out)))); (case aL => have := LMc19.out; omega); intro v119 w27 ho hb hg hat; rw [← Ny118.out] at ho; have n0_ := Aside0.mk (hb); have n1_ := Aside0.mk (ho); clear HB; clear HO_6; clear HO_8; have HB := n0_; have HO120 := n1_; clear n0_ n1_; clear ho hb hg hat; have p25 : 0 ≤ (x7_2 : Int) := of_decide_eq_true (by first | (with_reducible assumption) | assumption); have q25 : x7_2 < (a0.size : Int) := of_decide_eq_true (by first | (with_reducible assumption) | assumption); have hx25 := bt_at a0 x7_2; replace p25 := eq_true p25; replace q25 := eq_true q25))
                    go_roundg kj2
                    case measure => have := HK1.out; have := HJ2.out; omega
                    case rel => exact ⟨(y118), (wrap64 (x7_2 + 1)), (by first | rfl | (simp; done) | (simp [*]; done)), H', ⟨by have := HK1.out; have := HJ2.out; omega⟩, ⟨by (with_reducible repeat (first | apply Kd.S_alloc | apply Kd.S_drewN | apply Kd.S_drew)); exact HO120.out⟩, ⟨by repeat (first | (with_reducible first | exact HB.out | apply below_alloc | apply pw_below_drewN | apply below_drew1) | exact HB.out)⟩⟩
                  · rw [if_neg c26] at H
                    have c26b0 : ((bt a0 x7_2) == 10) = false := beq_eq_false_iff_ne.mpr c26
                    have c26b1 : ((bt a0 x7_2) != 10) = true := bne_iff_ne.mpr c26
                    simp only [Option.some.injEq, Prod.mk.injEq] at H
                    obtain ⟨rfl, rfl⟩ := H
                    obtain ⟨Ao30, co30, eo30⟩ := Kd.R_slice HO_8.out
                    subst eo30
                    go_wp2_with (first | ((with_reducible refine gate_builtin (b := .append) (xs := #[.tmp 40, .tmp 42]) rfl ?_); at_builtin; refine Kd.S_append (Kd.slice 9 Kd.string) (w0 := w) w.heap.size rfl (.tmp 40) (.tmp 42) 25 22 (.slice none 0 0) 24 rfl Try.underlying25 info22 rfl (by decide) (by omega) u6 x6_1 x8_2 [.slice Ao30 x8_2.length co30] (fun _ => True) (fun k_ => some k_ = (.slice Ao30 x8_2.length co30 : Value).ownBlock) rfl rfl ?aP (fun k_ hk_ => ((Kd.R_mono (ok' := fun k_ => ((fun _ => True)) k_ ∧ some k_ ≠ (u6 : Value).ownBlock) (Kd.R_apart' (HO_8.out) (Kd.S_typed HO_6.out) (by decide)) (fun k_ hk => ⟨trivial, hk.2⟩))).1 k_ hk_.symm) ?aF ?aO ?aB ?aS ?aL ?_; (case aP => exact Kd.M_row (Kd.R_mono (Kd.R_tight rfl (Kd.R_mono (ok' := fun k_ => ((fun _ => True)) k_ ∧ some k_ ≠ (u6 : Value).ownBlock) (Kd.R_apart' (HO_8.out) (Kd.S_typed HO_6.out) (by decide)) (fun k_ hk => ⟨trivial, hk.2⟩))) (fun _ h_ => h_))); (case aB => exact (by repeat (first | (with_reducible first | exact HB.out | apply below_alloc | apply pw_below_drewN | apply below_drew1) | exact HB.out))); (case aF => exact (fun _ _ => trivial)); (case aO => exact (by (with_reducible repeat (first | apply Kd.S_alloc | apply Kd.S_drewN | apply Kd.S_drew)); exact Kd.S_mono HO_6.out (fun k_ hk => ⟨trivial, fun e_ => hk e_⟩))); (case aS => exact (below_size (by repeat (first | (with_reducible first | exact HB.out | apply below_alloc | apply pw_below_drewN | apply below_drew1) | exact HB.out)))); (case aL => have := LMc19.out; omega); intro v119 w29 ho hb hg hat; rw [← Ny118.out] at ho; have n0_ := Aside0.mk (hb); have n1_ := Aside0.mk (ho); clear HB; clear HO_6; clear HO_8; have HB := n0_; have HO120 := n1_; clear n0_ n1_; clear ho hb hg hat; have p25 : 0 ≤ (x7_2 : Int) := of_decide_eq_true (by first | (with_reducible assumption) | assumption); have q25 : x7_2 < (a0.size : Int) := of_decide_eq_true (by first | (with_reducible assumption) | assumption); have hx25 := bt_at a0 x7_2; replace p25 := eq_true p25; replace q25 := eq_true q25))
                    go_ret2
                    exact ⟨_, by first | rfl | (simp [errW_none, errW_some] <;> rfl) | (simp [*, errW_none, errW_some] <;> rfl), by first | exact Kd.S_nil _ _ _ _ _ | exact Kd.N_nil _ _ _ _ _ | exact Kd.V_nil _ _ _ _ _ | exact Kd.Q_nil _ _ _ _ _ | exact Kd.R_nil _ _ _ _ _, by repeat (first | (with_reducible first | exact HB.out | apply below_alloc | apply pw_below_drewN | apply below_drew1) | exact HB.out)⟩
                · rw [if_neg c24] at H
                  exact absurd H (by simp)
              · rw [if_neg c23] at H
                exact absurd H (by simp)
          · rw [if_neg c19] at H
            exact absurd H (by simp)

-- NOT PRINTED: function 33 (strings_Builder_Len)

-- NOT PRINTED: function 58 (abi_NoEscape)

-- NOT PRINTED: function 47 (strings_Builder_copyCheck)

/-! ### utf8_appendRuneNonASCII: function 59 -/
def utf8_appendRuneNonASCII.f (l0 : List Int) (a1 : Int) : Option (List Int) := none
theorem utf8_appendRuneNonASCII.calls (A0 : Option Addr) (c0 : Nat) (l0 : List Int) (a1 : Int) (r : List Int) (w : World) (hr0 : Kd.C (Kd.int .u8) w A0 l0.length l0) (hc0 : l0.length ≤ c0) (h : utf8_appendRuneNonASCII.f l0 a1 = some r) :
    Calls Try.prog 59 #[.slice A0 l0.length c0, .int .i32 a1] w fun e w' => ∃ v0_ : Value, e = .returned (v0_) ∧ Kd.R (Kd.int .u8) 5 w' w.heap.size (fun _ => True) v0_ r ∧ Below w.heap.size w w' := by
  exact absurd h (by simp [utf8_appendRuneNonASCII.f])

/-! ### utf8_AppendRune: function 48 -/
def utf8_AppendRune.f (l0 : List Int) (a1 : Int) : Option (List Int) := none
theorem utf8_AppendRune.calls (A0 : Option Addr) (c0 : Nat) (l0 : List Int) (a1 : Int) (r : List Int) (w : World) (hr0 : Kd.C (Kd.int .u8) w A0 l0.length l0) (hc0 : l0.length ≤ c0) (h : utf8_AppendRune.f l0 a1 = some r) :
    Calls Try.prog 48 #[.slice A0 l0.length c0, .int .i32 a1] w fun e w' => ∃ v0_ : Value, e = .returned (v0_) ∧ Kd.R (Kd.int .u8) 5 w' w.heap.size (fun _ => True) v0_ r ∧ Below w.heap.size w w' := by
  exact absurd h (by simp [utf8_AppendRune.f])

-- NOT PRINTED: function 34 (strings_Builder_WriteRune)

/-- A state of type 86 at block g of W; what its slices lead to came in by w0. -/
def IsS86 (w0 W : World) (g : Nat) (f0 : Bool) (f1 : Bool) (f2 : Bool) (f3 : Bool) (f4 : Bool) (f5 : Bool) (f6 : Bool) (f7 : Bool) (f8 : Bool) (f9 : Bool) (f10 : Bool) (f11 : Int) (f12 : Int) (f13 : Int) : Prop := W.heap[g]? = some (.cells #[.bool f0, .bool f1, .bool f2, .bool f3, .bool f4, .bool f5, .bool f6, .bool f7, .bool f8, .bool f9, .bool f10, .int .i64 f11, .int .i64 f12, .int .i64 f13] 86 (0, 0)) ∧ w0.heap.size ≤ g
theorem IsS86.grown {w0 W : World} {g : Nat} {f0 : Bool} {f1 : Bool} {f2 : Bool} {f3 : Bool} {f4 : Bool} {f5 : Bool} {f6 : Bool} {f7 : Bool} {f8 : Bool} {f9 : Bool} {f10 : Bool} {f11 : Int} {f12 : Int} {f13 : Int} {W1 : World} {row : Option Nat} (h : IsS86 w0 W g f0 f1 f2 f3 f4 f5 f6 f7 f8 f9 f10 f11 f12 f13) (hw : W.grownBy W1 row) (hne : some g ≠ row) : IsS86 w0 W1 g f0 f1 f2 f3 f4 f5 f6 f7 f8 f9 f10 f11 f12 f13 := by
  obtain ⟨hb, hg⟩ := h
  exact ⟨blk_grown hb hw hne, hg⟩
theorem IsS86.own_neN {w0 W : World} {g : Nat} {f0 : Bool} {f1 : Bool} {f2 : Bool} {f3 : Bool} {f4 : Bool} {f5 : Bool} {f6 : Bool} {f7 : Bool} {f8 : Bool} {f9 : Bool} {f10 : Bool} {f11 : Int} {f12 : Int} {f13 : Int} {α : Type} {d : Kd α} {e : Nat} {base : Nat} {ok : Nat → Prop} {v : Value} {xs : List α} (h : IsS86 w0 W g f0 f1 f2 f3 f4 f5 f6 f7 f8 f9 f10 f11 f12 f13) (ho : Kd.N d e W base ok v xs) (ht : e ≠ 86) : some g ≠ v.ownBlock := by
  obtain ⟨hb, hg⟩ := h
  exact Kd.N_ne ho hb ht
theorem IsS86.fresh {w0 W : World} {g : Nat} {f0 : Bool} {f1 : Bool} {f2 : Bool} {f3 : Bool} {f4 : Bool} {f5 : Bool} {f6 : Bool} {f7 : Bool} {f8 : Bool} {f9 : Bool} {f10 : Bool} {f11 : Int} {f12 : Int} {f13 : Int} (h : IsS86 w0 W g f0 f1 f2 f3 f4 f5 f6 f7 f8 f9 f10 f11 f12 f13) : ∀ k, W.heap.size ≤ k → k ≠ g := by
  obtain ⟨hb, hg⟩ := h
  exact Kd.freshB hb
theorem IsS86.kept {w0 W : World} {g : Nat} {f0 : Bool} {f1 : Bool} {f2 : Bool} {f3 : Bool} {f4 : Bool} {f5 : Bool} {f6 : Bool} {f7 : Bool} {f8 : Bool} {f9 : Bool} {f10 : Bool} {f11 : Int} {f12 : Int} {f13 : Int} {W1 : World} {S : Nat → Prop} (h : IsS86 w0 W g f0 f1 f2 f3 f4 f5 f6 f7 f8 f9 f10 f11 f12 f13) (hk : Kept W W1 S) (hne : ¬ S g) : IsS86 w0 W1 g f0 f1 f2 f3 f4 f5 f6 f7 f8 f9 f10 f11 f12 f13 := by
  obtain ⟨hb, hg⟩ := h
  exact ⟨blk_kept hb hk hne, hg⟩
theorem IsS86.below {w0 W : World} {g : Nat} {f0 : Bool} {f1 : Bool} {f2 : Bool} {f3 : Bool} {f4 : Bool} {f5 : Bool} {f6 : Bool} {f7 : Bool} {f8 : Bool} {f9 : Bool} {f10 : Bool} {f11 : Int} {f12 : Int} {f13 : Int} {W1 : World} (h : IsS86 w0 W g f0 f1 f2 f3 f4 f5 f6 f7 f8 f9 f10 f11 f12 f13) (hw : Below W.heap.size W W1) : IsS86 w0 W1 g f0 f1 f2 f3 f4 f5 f6 f7 f8 f9 f10 f11 f12 f13 := h.grown (grown_of_below hw none) (by simp)
theorem IsS86.alloc {w0 W : World} {g : Nat} {f0 : Bool} {f1 : Bool} {f2 : Bool} {f3 : Bool} {f4 : Bool} {f5 : Bool} {f6 : Bool} {f7 : Bool} {f8 : Bool} {f9 : Bool} {f10 : Bool} {f11 : Int} {f12 : Int} {f13 : Int} (h : IsS86 w0 W g f0 f1 f2 f3 f4 f5 f6 f7 f8 f9 f10 f11 f12 f13) (o : Obj) : IsS86 w0 (W.alloc o) g f0 f1 f2 f3 f4 f5 f6 f7 f8 f9 f10 f11 f12 f13 := h.below (below_alloc (Below.refl _ _) o)
theorem IsS86.drewN {w0 W : World} {g : Nat} {f0 : Bool} {f1 : Bool} {f2 : Bool} {f3 : Bool} {f4 : Bool} {f5 : Bool} {f6 : Bool} {f7 : Bool} {f8 : Bool} {f9 : Bool} {f10 : Bool} {f11 : Int} {f12 : Int} {f13 : Int} (h : IsS86 w0 W g f0 f1 f2 f3 f4 f5 f6 f7 f8 f9 f10 f11 f12 f13) (m : Nat) : IsS86 w0 (W.drewN m) g f0 f1 f2 f3 f4 f5 f6 f7 f8 f9 f10 f11 f12 f13 := h
theorem IsS86.drew {w0 W : World} {g : Nat} {f0 : Bool} {f1 : Bool} {f2 : Bool} {f3 : Bool} {f4 : Bool} {f5 : Bool} {f6 : Bool} {f7 : Bool} {f8 : Bool} {f9 : Bool} {f10 : Bool} {f11 : Int} {f12 : Int} {f13 : Int} (h : IsS86 w0 W g f0 f1 f2 f3 f4 f5 f6 f7 f8 f9 f10 f11 f12 f13) : IsS86 w0 W.drew g f0 f1 f2 f3 f4 f5 f6 f7 f8 f9 f10 f11 f12 f13 := h
theorem IsS86.at_ {w0 W : World} {g : Nat} {f0 : Bool} {f1 : Bool} {f2 : Bool} {f3 : Bool} {f4 : Bool} {f5 : Bool} {f6 : Bool} {f7 : Bool} {f8 : Bool} {f9 : Bool} {f10 : Bool} {f11 : Int} {f12 : Int} {f13 : Int} {w' : World} {m : Nat} (hq : W.drewN m = w') (h : IsS86 w0 W g f0 f1 f2 f3 f4 f5 f6 f7 f8 f9 f10 f11 f12 f13) : IsS86 w0 w' g f0 f1 f2 f3 f4 f5 f6 f7 f8 f9 f10 f11 f12 f13 := by subst hq; exact IsS86.drewN h m
theorem IsS86.apart {w0 W : World} {g : Nat} {f0 : Bool} {f1 : Bool} {f2 : Bool} {f3 : Bool} {f4 : Bool} {f5 : Bool} {f6 : Bool} {f7 : Bool} {f8 : Bool} {f9 : Bool} {f10 : Bool} {f11 : Int} {f12 : Int} {f13 : Int} {α : Type} {d : Kd α} {e : Nat} {base : Nat} {ok : Nat → Prop} {v : Value} {xs : List α} (h : IsS86 w0 W g f0 f1 f2 f3 f4 f5 f6 f7 f8 f9 f10 f11 f12 f13) (ho : d.R e W base ok v xs) (ht : ∀ q, q ∈ e :: d.E → q ≠ 86) : d.R e W base (fun k => ok k ∧ k ≠ g) v xs := by
  obtain ⟨hb, hg⟩ := h
  exact Kd.R_types ho hb ht
theorem IsS86.own_ne {w0 W : World} {g : Nat} {f0 : Bool} {f1 : Bool} {f2 : Bool} {f3 : Bool} {f4 : Bool} {f5 : Bool} {f6 : Bool} {f7 : Bool} {f8 : Bool} {f9 : Bool} {f10 : Bool} {f11 : Int} {f12 : Int} {f13 : Int} {α : Type} {d : Kd α} {e : Nat} {base : Nat} {ok : Nat → Prop} {v : Value} {xs : List α} (h : IsS86 w0 W g f0 f1 f2 f3 f4 f5 f6 f7 f8 f9 f10 f11 f12 f13) (ho : d.R e W base ok v xs) (ht : e ≠ 86) : some g ≠ v.ownBlock := by
  obtain ⟨hb, hg⟩ := h
  exact Kd.R_ne ho hb ht
theorem IsS86.apartQ {w0 W : World} {g : Nat} {f0 : Bool} {f1 : Bool} {f2 : Bool} {f3 : Bool} {f4 : Bool} {f5 : Bool} {f6 : Bool} {f7 : Bool} {f8 : Bool} {f9 : Bool} {f10 : Bool} {f11 : Int} {f12 : Int} {f13 : Int} {α : Type} {d : Kd α} {e : Nat} {base : Nat} {ok : Nat → Prop} {v : Value} {xs : List α} (h : IsS86 w0 W g f0 f1 f2 f3 f4 f5 f6 f7 f8 f9 f10 f11 f12 f13) (ho : d.Q e W base ok v xs) (ht : ∀ q, q ∈ e :: d.E → q ≠ 86) : d.Q e W base (fun k => ok k ∧ k ≠ g) v xs := by
  obtain ⟨hb, hg⟩ := h
  exact Kd.Q_types ho hb ht
theorem IsS86.own_neQ {w0 W : World} {g : Nat} {f0 : Bool} {f1 : Bool} {f2 : Bool} {f3 : Bool} {f4 : Bool} {f5 : Bool} {f6 : Bool} {f7 : Bool} {f8 : Bool} {f9 : Bool} {f10 : Bool} {f11 : Int} {f12 : Int} {f13 : Int} {α : Type} {d : Kd α} {e : Nat} {base : Nat} {ok : Nat → Prop} {v : Value} {xs : List α} (h : IsS86 w0 W g f0 f1 f2 f3 f4 f5 f6 f7 f8 f9 f10 f11 f12 f13) (ho : d.Q e W base ok v xs) (ht : e ≠ 86) : some g ≠ v.ownBlock := by
  obtain ⟨hb, hg⟩ := h
  exact Kd.Q_ne ho hb ht
theorem IsS86.apartS {w0 W : World} {g : Nat} {f0 : Bool} {f1 : Bool} {f2 : Bool} {f3 : Bool} {f4 : Bool} {f5 : Bool} {f6 : Bool} {f7 : Bool} {f8 : Bool} {f9 : Bool} {f10 : Bool} {f11 : Int} {f12 : Int} {f13 : Int} {α : Type} {d : Kd α} {e : Nat} {base : Nat} {ok : Nat → Prop} {v : Value} {xs : List α} (h : IsS86 w0 W g f0 f1 f2 f3 f4 f5 f6 f7 f8 f9 f10 f11 f12 f13) (ho : d.S e W base ok v xs) (ht : ∀ q, q ∈ e :: d.E → q ≠ 86) : d.S e W base (fun k => ok k ∧ k ≠ g) v xs := by
  obtain ⟨hb, hg⟩ := h
  exact Kd.S_types ho hb ht
theorem IsS86.own_neS {w0 W : World} {g : Nat} {f0 : Bool} {f1 : Bool} {f2 : Bool} {f3 : Bool} {f4 : Bool} {f5 : Bool} {f6 : Bool} {f7 : Bool} {f8 : Bool} {f9 : Bool} {f10 : Bool} {f11 : Int} {f12 : Int} {f13 : Int} {α : Type} {d : Kd α} {e : Nat} {base : Nat} {ok : Nat → Prop} {v : Value} {xs : List α} (h : IsS86 w0 W g f0 f1 f2 f3 f4 f5 f6 f7 f8 f9 f10 f11 f12 f13) (ho : d.S e W base ok v xs) (ht : e ≠ 86) : some g ≠ v.ownBlock := by
  obtain ⟨hb, hg⟩ := h
  exact Kd.S_ne ho hb ht
theorem IsS86.lt {w0 W : World} {g : Nat} {f0 : Bool} {f1 : Bool} {f2 : Bool} {f3 : Bool} {f4 : Bool} {f5 : Bool} {f6 : Bool} {f7 : Bool} {f8 : Bool} {f9 : Bool} {f10 : Bool} {f11 : Int} {f12 : Int} {f13 : Int} (h : IsS86 w0 W g f0 f1 f2 f3 f4 f5 f6 f7 f8 f9 f10 f11 f12 f13) : g < W.heap.size := by
  obtain ⟨hb, hg⟩ := h
  exact blk_lt hb
theorem IsS86.ge {w0 W : World} {g : Nat} {f0 : Bool} {f1 : Bool} {f2 : Bool} {f3 : Bool} {f4 : Bool} {f5 : Bool} {f6 : Bool} {f7 : Bool} {f8 : Bool} {f9 : Bool} {f10 : Bool} {f11 : Int} {f12 : Int} {f13 : Int} (h : IsS86 w0 W g f0 f1 f2 f3 f4 f5 f6 f7 f8 f9 f10 f11 f12 f13) : w0.heap.size ≤ g := by
  obtain ⟨hb, hg⟩ := h
  exact hg
theorem IsS86.ne_blk {w0 W : World} {g : Nat} {f0 : Bool} {f1 : Bool} {f2 : Bool} {f3 : Bool} {f4 : Bool} {f5 : Bool} {f6 : Bool} {f7 : Bool} {f8 : Bool} {f9 : Bool} {f10 : Bool} {f11 : Int} {f12 : Int} {f13 : Int} {a : Nat} {cs : Array Value} {t : TypeId} {fr : Nat × Nat} (h : IsS86 w0 W g f0 f1 f2 f3 f4 f5 f6 f7 f8 f9 f10 f11 f12 f13) (hb2 : W.heap[a]? = some (.cells cs t fr)) (ht : t ≠ 86) : g ≠ a := by
  obtain ⟨hb, hg⟩ := h
  rintro rfl
  rw [hb] at hb2
  injection hb2 with hb2
  injection hb2 with _ ht2
  exact ht ht2.symm
theorem IsS86.far {w0 W : World} {g : Nat} {f0 : Bool} {f1 : Bool} {f2 : Bool} {f3 : Bool} {f4 : Bool} {f5 : Bool} {f6 : Bool} {f7 : Bool} {f8 : Bool} {f9 : Bool} {f10 : Bool} {f11 : Int} {f12 : Int} {f13 : Int} {p : Addr} (h : IsS86 w0 W g f0 f1 f2 f3 f4 f5 f6 f7 f8 f9 f10 f11 f12 f13) (hne : g ≠ p.block) (u : Value) : IsS86 w0 (W.setCell p u) g f0 f1 f2 f3 f4 f5 f6 f7 f8 f9 f10 f11 f12 f13 := by
  obtain ⟨hb, hg⟩ := h
  exact ⟨blk_far hb hne u, hg⟩
theorem cellS86_0 {W : World} {g : Nat} {f0 : Bool} {f1 : Bool} {f2 : Bool} {f3 : Bool} {f4 : Bool} {f5 : Bool} {f6 : Bool} {f7 : Bool} {f8 : Bool} {f9 : Bool} {f10 : Bool} {f11 : Int} {f12 : Int} {f13 : Int} (h : W.heap[g]? = some (.cells #[.bool f0, .bool f1, .bool f2, .bool f3, .bool f4, .bool f5, .bool f6, .bool f7, .bool f8, .bool f9, .bool f10, .int .i64 f11, .int .i64 f12, .int .i64 f13] 86 (0, 0))) : W.cell? ⟨g, 0, none⟩ = some (.bool f0) := (blk_cell h 0).trans rfl
theorem IsS86.set_0 {w0 W : World} {g : Nat} {f0 : Bool} {f1 : Bool} {f2 : Bool} {f3 : Bool} {f4 : Bool} {f5 : Bool} {f6 : Bool} {f7 : Bool} {f8 : Bool} {f9 : Bool} {f10 : Bool} {f11 : Int} {f12 : Int} {f13 : Int} (h : IsS86 w0 W g f0 f1 f2 f3 f4 f5 f6 f7 f8 f9 f10 f11 f12 f13) (x : Bool) : IsS86 w0 (W.setCell ⟨g, 0, none⟩ (.bool x)) g x f1 f2 f3 f4 f5 f6 f7 f8 f9 f10 f11 f12 f13 := by
  obtain ⟨hb, hg⟩ := h
  exact ⟨by simpa using blk_set hb 0 (.bool x), hg⟩
theorem cellS86_1 {W : World} {g : Nat} {f0 : Bool} {f1 : Bool} {f2 : Bool} {f3 : Bool} {f4 : Bool} {f5 : Bool} {f6 : Bool} {f7 : Bool} {f8 : Bool} {f9 : Bool} {f10 : Bool} {f11 : Int} {f12 : Int} {f13 : Int} (h : W.heap[g]? = some (.cells #[.bool f0, .bool f1, .bool f2, .bool f3, .bool f4, .bool f5, .bool f6, .bool f7, .bool f8, .bool f9, .bool f10, .int .i64 f11, .int .i64 f12, .int .i64 f13] 86 (0, 0))) : W.cell? ⟨g, 1, none⟩ = some (.bool f1) := (blk_cell h 1).trans rfl
theorem IsS86.set_1 {w0 W : World} {g : Nat} {f0 : Bool} {f1 : Bool} {f2 : Bool} {f3 : Bool} {f4 : Bool} {f5 : Bool} {f6 : Bool} {f7 : Bool} {f8 : Bool} {f9 : Bool} {f10 : Bool} {f11 : Int} {f12 : Int} {f13 : Int} (h : IsS86 w0 W g f0 f1 f2 f3 f4 f5 f6 f7 f8 f9 f10 f11 f12 f13) (x : Bool) : IsS86 w0 (W.setCell ⟨g, 1, none⟩ (.bool x)) g f0 x f2 f3 f4 f5 f6 f7 f8 f9 f10 f11 f12 f13 := by
  obtain ⟨hb, hg⟩ := h
  exact ⟨by simpa using blk_set hb 1 (.bool x), hg⟩
theorem cellS86_2 {W : World} {g : Nat} {f0 : Bool} {f1 : Bool} {f2 : Bool} {f3 : Bool} {f4 : Bool} {f5 : Bool} {f6 : Bool} {f7 : Bool} {f8 : Bool} {f9 : Bool} {f10 : Bool} {f11 : Int} {f12 : Int} {f13 : Int} (h : W.heap[g]? = some (.cells #[.bool f0, .bool f1, .bool f2, .bool f3, .bool f4, .bool f5, .bool f6, .bool f7, .bool f8, .bool f9, .bool f10, .int .i64 f11, .int .i64 f12, .int .i64 f13] 86 (0, 0))) : W.cell? ⟨g, 2, none⟩ = some (.bool f2) := (blk_cell h 2).trans rfl
theorem IsS86.set_2 {w0 W : World} {g : Nat} {f0 : Bool} {f1 : Bool} {f2 : Bool} {f3 : Bool} {f4 : Bool} {f5 : Bool} {f6 : Bool} {f7 : Bool} {f8 : Bool} {f9 : Bool} {f10 : Bool} {f11 : Int} {f12 : Int} {f13 : Int} (h : IsS86 w0 W g f0 f1 f2 f3 f4 f5 f6 f7 f8 f9 f10 f11 f12 f13) (x : Bool) : IsS86 w0 (W.setCell ⟨g, 2, none⟩ (.bool x)) g f0 f1 x f3 f4 f5 f6 f7 f8 f9 f10 f11 f12 f13 := by
  obtain ⟨hb, hg⟩ := h
  exact ⟨by simpa using blk_set hb 2 (.bool x), hg⟩
theorem cellS86_3 {W : World} {g : Nat} {f0 : Bool} {f1 : Bool} {f2 : Bool} {f3 : Bool} {f4 : Bool} {f5 : Bool} {f6 : Bool} {f7 : Bool} {f8 : Bool} {f9 : Bool} {f10 : Bool} {f11 : Int} {f12 : Int} {f13 : Int} (h : W.heap[g]? = some (.cells #[.bool f0, .bool f1, .bool f2, .bool f3, .bool f4, .bool f5, .bool f6, .bool f7, .bool f8, .bool f9, .bool f10, .int .i64 f11, .int .i64 f12, .int .i64 f13] 86 (0, 0))) : W.cell? ⟨g, 3, none⟩ = some (.bool f3) := (blk_cell h 3).trans rfl
theorem IsS86.set_3 {w0 W : World} {g : Nat} {f0 : Bool} {f1 : Bool} {f2 : Bool} {f3 : Bool} {f4 : Bool} {f5 : Bool} {f6 : Bool} {f7 : Bool} {f8 : Bool} {f9 : Bool} {f10 : Bool} {f11 : Int} {f12 : Int} {f13 : Int} (h : IsS86 w0 W g f0 f1 f2 f3 f4 f5 f6 f7 f8 f9 f10 f11 f12 f13) (x : Bool) : IsS86 w0 (W.setCell ⟨g, 3, none⟩ (.bool x)) g f0 f1 f2 x f4 f5 f6 f7 f8 f9 f10 f11 f12 f13 := by
  obtain ⟨hb, hg⟩ := h
  exact ⟨by simpa using blk_set hb 3 (.bool x), hg⟩
theorem cellS86_4 {W : World} {g : Nat} {f0 : Bool} {f1 : Bool} {f2 : Bool} {f3 : Bool} {f4 : Bool} {f5 : Bool} {f6 : Bool} {f7 : Bool} {f8 : Bool} {f9 : Bool} {f10 : Bool} {f11 : Int} {f12 : Int} {f13 : Int} (h : W.heap[g]? = some (.cells #[.bool f0, .bool f1, .bool f2, .bool f3, .bool f4, .bool f5, .bool f6, .bool f7, .bool f8, .bool f9, .bool f10, .int .i64 f11, .int .i64 f12, .int .i64 f13] 86 (0, 0))) : W.cell? ⟨g, 4, none⟩ = some (.bool f4) := (blk_cell h 4).trans rfl
theorem IsS86.set_4 {w0 W : World} {g : Nat} {f0 : Bool} {f1 : Bool} {f2 : Bool} {f3 : Bool} {f4 : Bool} {f5 : Bool} {f6 : Bool} {f7 : Bool} {f8 : Bool} {f9 : Bool} {f10 : Bool} {f11 : Int} {f12 : Int} {f13 : Int} (h : IsS86 w0 W g f0 f1 f2 f3 f4 f5 f6 f7 f8 f9 f10 f11 f12 f13) (x : Bool) : IsS86 w0 (W.setCell ⟨g, 4, none⟩ (.bool x)) g f0 f1 f2 f3 x f5 f6 f7 f8 f9 f10 f11 f12 f13 := by
  obtain ⟨hb, hg⟩ := h
  exact ⟨by simpa using blk_set hb 4 (.bool x), hg⟩
theorem cellS86_5 {W : World} {g : Nat} {f0 : Bool} {f1 : Bool} {f2 : Bool} {f3 : Bool} {f4 : Bool} {f5 : Bool} {f6 : Bool} {f7 : Bool} {f8 : Bool} {f9 : Bool} {f10 : Bool} {f11 : Int} {f12 : Int} {f13 : Int} (h : W.heap[g]? = some (.cells #[.bool f0, .bool f1, .bool f2, .bool f3, .bool f4, .bool f5, .bool f6, .bool f7, .bool f8, .bool f9, .bool f10, .int .i64 f11, .int .i64 f12, .int .i64 f13] 86 (0, 0))) : W.cell? ⟨g, 5, none⟩ = some (.bool f5) := (blk_cell h 5).trans rfl
theorem IsS86.set_5 {w0 W : World} {g : Nat} {f0 : Bool} {f1 : Bool} {f2 : Bool} {f3 : Bool} {f4 : Bool} {f5 : Bool} {f6 : Bool} {f7 : Bool} {f8 : Bool} {f9 : Bool} {f10 : Bool} {f11 : Int} {f12 : Int} {f13 : Int} (h : IsS86 w0 W g f0 f1 f2 f3 f4 f5 f6 f7 f8 f9 f10 f11 f12 f13) (x : Bool) : IsS86 w0 (W.setCell ⟨g, 5, none⟩ (.bool x)) g f0 f1 f2 f3 f4 x f6 f7 f8 f9 f10 f11 f12 f13 := by
  obtain ⟨hb, hg⟩ := h
  exact ⟨by simpa using blk_set hb 5 (.bool x), hg⟩
theorem cellS86_6 {W : World} {g : Nat} {f0 : Bool} {f1 : Bool} {f2 : Bool} {f3 : Bool} {f4 : Bool} {f5 : Bool} {f6 : Bool} {f7 : Bool} {f8 : Bool} {f9 : Bool} {f10 : Bool} {f11 : Int} {f12 : Int} {f13 : Int} (h : W.heap[g]? = some (.cells #[.bool f0, .bool f1, .bool f2, .bool f3, .bool f4, .bool f5, .bool f6, .bool f7, .bool f8, .bool f9, .bool f10, .int .i64 f11, .int .i64 f12, .int .i64 f13] 86 (0, 0))) : W.cell? ⟨g, 6, none⟩ = some (.bool f6) := (blk_cell h 6).trans rfl
theorem IsS86.set_6 {w0 W : World} {g : Nat} {f0 : Bool} {f1 : Bool} {f2 : Bool} {f3 : Bool} {f4 : Bool} {f5 : Bool} {f6 : Bool} {f7 : Bool} {f8 : Bool} {f9 : Bool} {f10 : Bool} {f11 : Int} {f12 : Int} {f13 : Int} (h : IsS86 w0 W g f0 f1 f2 f3 f4 f5 f6 f7 f8 f9 f10 f11 f12 f13) (x : Bool) : IsS86 w0 (W.setCell ⟨g, 6, none⟩ (.bool x)) g f0 f1 f2 f3 f4 f5 x f7 f8 f9 f10 f11 f12 f13 := by
  obtain ⟨hb, hg⟩ := h
  exact ⟨by simpa using blk_set hb 6 (.bool x), hg⟩
theorem cellS86_7 {W : World} {g : Nat} {f0 : Bool} {f1 : Bool} {f2 : Bool} {f3 : Bool} {f4 : Bool} {f5 : Bool} {f6 : Bool} {f7 : Bool} {f8 : Bool} {f9 : Bool} {f10 : Bool} {f11 : Int} {f12 : Int} {f13 : Int} (h : W.heap[g]? = some (.cells #[.bool f0, .bool f1, .bool f2, .bool f3, .bool f4, .bool f5, .bool f6, .bool f7, .bool f8, .bool f9, .bool f10, .int .i64 f11, .int .i64 f12, .int .i64 f13] 86 (0, 0))) : W.cell? ⟨g, 7, none⟩ = some (.bool f7) := (blk_cell h 7).trans rfl
theorem IsS86.set_7 {w0 W : World} {g : Nat} {f0 : Bool} {f1 : Bool} {f2 : Bool} {f3 : Bool} {f4 : Bool} {f5 : Bool} {f6 : Bool} {f7 : Bool} {f8 : Bool} {f9 : Bool} {f10 : Bool} {f11 : Int} {f12 : Int} {f13 : Int} (h : IsS86 w0 W g f0 f1 f2 f3 f4 f5 f6 f7 f8 f9 f10 f11 f12 f13) (x : Bool) : IsS86 w0 (W.setCell ⟨g, 7, none⟩ (.bool x)) g f0 f1 f2 f3 f4 f5 f6 x f8 f9 f10 f11 f12 f13 := by
  obtain ⟨hb, hg⟩ := h
  exact ⟨by simpa using blk_set hb 7 (.bool x), hg⟩
theorem cellS86_8 {W : World} {g : Nat} {f0 : Bool} {f1 : Bool} {f2 : Bool} {f3 : Bool} {f4 : Bool} {f5 : Bool} {f6 : Bool} {f7 : Bool} {f8 : Bool} {f9 : Bool} {f10 : Bool} {f11 : Int} {f12 : Int} {f13 : Int} (h : W.heap[g]? = some (.cells #[.bool f0, .bool f1, .bool f2, .bool f3, .bool f4, .bool f5, .bool f6, .bool f7, .bool f8, .bool f9, .bool f10, .int .i64 f11, .int .i64 f12, .int .i64 f13] 86 (0, 0))) : W.cell? ⟨g, 8, none⟩ = some (.bool f8) := (blk_cell h 8).trans rfl
theorem IsS86.set_8 {w0 W : World} {g : Nat} {f0 : Bool} {f1 : Bool} {f2 : Bool} {f3 : Bool} {f4 : Bool} {f5 : Bool} {f6 : Bool} {f7 : Bool} {f8 : Bool} {f9 : Bool} {f10 : Bool} {f11 : Int} {f12 : Int} {f13 : Int} (h : IsS86 w0 W g f0 f1 f2 f3 f4 f5 f6 f7 f8 f9 f10 f11 f12 f13) (x : Bool) : IsS86 w0 (W.setCell ⟨g, 8, none⟩ (.bool x)) g f0 f1 f2 f3 f4 f5 f6 f7 x f9 f10 f11 f12 f13 := by
  obtain ⟨hb, hg⟩ := h
  exact ⟨by simpa using blk_set hb 8 (.bool x), hg⟩
theorem cellS86_9 {W : World} {g : Nat} {f0 : Bool} {f1 : Bool} {f2 : Bool} {f3 : Bool} {f4 : Bool} {f5 : Bool} {f6 : Bool} {f7 : Bool} {f8 : Bool} {f9 : Bool} {f10 : Bool} {f11 : Int} {f12 : Int} {f13 : Int} (h : W.heap[g]? = some (.cells #[.bool f0, .bool f1, .bool f2, .bool f3, .bool f4, .bool f5, .bool f6, .bool f7, .bool f8, .bool f9, .bool f10, .int .i64 f11, .int .i64 f12, .int .i64 f13] 86 (0, 0))) : W.cell? ⟨g, 9, none⟩ = some (.bool f9) := (blk_cell h 9).trans rfl
theorem IsS86.set_9 {w0 W : World} {g : Nat} {f0 : Bool} {f1 : Bool} {f2 : Bool} {f3 : Bool} {f4 : Bool} {f5 : Bool} {f6 : Bool} {f7 : Bool} {f8 : Bool} {f9 : Bool} {f10 : Bool} {f11 : Int} {f12 : Int} {f13 : Int} (h : IsS86 w0 W g f0 f1 f2 f3 f4 f5 f6 f7 f8 f9 f10 f11 f12 f13) (x : Bool) : IsS86 w0 (W.setCell ⟨g, 9, none⟩ (.bool x)) g f0 f1 f2 f3 f4 f5 f6 f7 f8 x f10 f11 f12 f13 := by
  obtain ⟨hb, hg⟩ := h
  exact ⟨by simpa using blk_set hb 9 (.bool x), hg⟩
theorem cellS86_10 {W : World} {g : Nat} {f0 : Bool} {f1 : Bool} {f2 : Bool} {f3 : Bool} {f4 : Bool} {f5 : Bool} {f6 : Bool} {f7 : Bool} {f8 : Bool} {f9 : Bool} {f10 : Bool} {f11 : Int} {f12 : Int} {f13 : Int} (h : W.heap[g]? = some (.cells #[.bool f0, .bool f1, .bool f2, .bool f3, .bool f4, .bool f5, .bool f6, .bool f7, .bool f8, .bool f9, .bool f10, .int .i64 f11, .int .i64 f12, .int .i64 f13] 86 (0, 0))) : W.cell? ⟨g, 10, none⟩ = some (.bool f10) := (blk_cell h 10).trans rfl
theorem IsS86.set_10 {w0 W : World} {g : Nat} {f0 : Bool} {f1 : Bool} {f2 : Bool} {f3 : Bool} {f4 : Bool} {f5 : Bool} {f6 : Bool} {f7 : Bool} {f8 : Bool} {f9 : Bool} {f10 : Bool} {f11 : Int} {f12 : Int} {f13 : Int} (h : IsS86 w0 W g f0 f1 f2 f3 f4 f5 f6 f7 f8 f9 f10 f11 f12 f13) (x : Bool) : IsS86 w0 (W.setCell ⟨g, 10, none⟩ (.bool x)) g f0 f1 f2 f3 f4 f5 f6 f7 f8 f9 x f11 f12 f13 := by
  obtain ⟨hb, hg⟩ := h
  exact ⟨by simpa using blk_set hb 10 (.bool x), hg⟩
theorem cellS86_11 {W : World} {g : Nat} {f0 : Bool} {f1 : Bool} {f2 : Bool} {f3 : Bool} {f4 : Bool} {f5 : Bool} {f6 : Bool} {f7 : Bool} {f8 : Bool} {f9 : Bool} {f10 : Bool} {f11 : Int} {f12 : Int} {f13 : Int} (h : W.heap[g]? = some (.cells #[.bool f0, .bool f1, .bool f2, .bool f3, .bool f4, .bool f5, .bool f6, .bool f7, .bool f8, .bool f9, .bool f10, .int .i64 f11, .int .i64 f12, .int .i64 f13] 86 (0, 0))) : W.cell? ⟨g, 11, none⟩ = some (.int .i64 f11) := (blk_cell h 11).trans rfl
theorem IsS86.set_11 {w0 W : World} {g : Nat} {f0 : Bool} {f1 : Bool} {f2 : Bool} {f3 : Bool} {f4 : Bool} {f5 : Bool} {f6 : Bool} {f7 : Bool} {f8 : Bool} {f9 : Bool} {f10 : Bool} {f11 : Int} {f12 : Int} {f13 : Int} (h : IsS86 w0 W g f0 f1 f2 f3 f4 f5 f6 f7 f8 f9 f10 f11 f12 f13) (x : Int) : IsS86 w0 (W.setCell ⟨g, 11, none⟩ (.int .i64 x)) g f0 f1 f2 f3 f4 f5 f6 f7 f8 f9 f10 x f12 f13 := by
  obtain ⟨hb, hg⟩ := h
  exact ⟨by simpa using blk_set hb 11 (.int .i64 x), hg⟩
theorem cellS86_12 {W : World} {g : Nat} {f0 : Bool} {f1 : Bool} {f2 : Bool} {f3 : Bool} {f4 : Bool} {f5 : Bool} {f6 : Bool} {f7 : Bool} {f8 : Bool} {f9 : Bool} {f10 : Bool} {f11 : Int} {f12 : Int} {f13 : Int} (h : W.heap[g]? = some (.cells #[.bool f0, .bool f1, .bool f2, .bool f3, .bool f4, .bool f5, .bool f6, .bool f7, .bool f8, .bool f9, .bool f10, .int .i64 f11, .int .i64 f12, .int .i64 f13] 86 (0, 0))) : W.cell? ⟨g, 12, none⟩ = some (.int .i64 f12) := (blk_cell h 12).trans rfl
theorem IsS86.set_12 {w0 W : World} {g : Nat} {f0 : Bool} {f1 : Bool} {f2 : Bool} {f3 : Bool} {f4 : Bool} {f5 : Bool} {f6 : Bool} {f7 : Bool} {f8 : Bool} {f9 : Bool} {f10 : Bool} {f11 : Int} {f12 : Int} {f13 : Int} (h : IsS86 w0 W g f0 f1 f2 f3 f4 f5 f6 f7 f8 f9 f10 f11 f12 f13) (x : Int) : IsS86 w0 (W.setCell ⟨g, 12, none⟩ (.int .i64 x)) g f0 f1 f2 f3 f4 f5 f6 f7 f8 f9 f10 f11 x f13 := by
  obtain ⟨hb, hg⟩ := h
  exact ⟨by simpa using blk_set hb 12 (.int .i64 x), hg⟩
theorem cellS86_13 {W : World} {g : Nat} {f0 : Bool} {f1 : Bool} {f2 : Bool} {f3 : Bool} {f4 : Bool} {f5 : Bool} {f6 : Bool} {f7 : Bool} {f8 : Bool} {f9 : Bool} {f10 : Bool} {f11 : Int} {f12 : Int} {f13 : Int} (h : W.heap[g]? = some (.cells #[.bool f0, .bool f1, .bool f2, .bool f3, .bool f4, .bool f5, .bool f6, .bool f7, .bool f8, .bool f9, .bool f10, .int .i64 f11, .int .i64 f12, .int .i64 f13] 86 (0, 0))) : W.cell? ⟨g, 13, none⟩ = some (.int .i64 f13) := (blk_cell h 13).trans rfl
theorem IsS86.set_13 {w0 W : World} {g : Nat} {f0 : Bool} {f1 : Bool} {f2 : Bool} {f3 : Bool} {f4 : Bool} {f5 : Bool} {f6 : Bool} {f7 : Bool} {f8 : Bool} {f9 : Bool} {f10 : Bool} {f11 : Int} {f12 : Int} {f13 : Int} (h : IsS86 w0 W g f0 f1 f2 f3 f4 f5 f6 f7 f8 f9 f10 f11 f12 f13) (x : Int) : IsS86 w0 (W.setCell ⟨g, 13, none⟩ (.int .i64 x)) g f0 f1 f2 f3 f4 f5 f6 f7 f8 f9 f10 f11 f12 x := by
  obtain ⟨hb, hg⟩ := h
  exact ⟨by simpa using blk_set hb 13 (.int .i64 x), hg⟩
theorem IsS86.new (w0 W : World) (f0 : Bool) (f1 : Bool) (f2 : Bool) (f3 : Bool) (f4 : Bool) (f5 : Bool) (f6 : Bool) (f7 : Bool) (f8 : Bool) (f9 : Bool) (f10 : Bool) (f11 : Int) (f12 : Int) (f13 : Int) (hB : Below w0.heap.size w0 W) : IsS86 w0 (W.alloc (.cells #[.bool f0, .bool f1, .bool f2, .bool f3, .bool f4, .bool f5, .bool f6, .bool f7, .bool f8, .bool f9, .bool f10, .int .i64 f11, .int .i64 f12, .int .i64 f13] 86)) W.heap.size f0 f1 f2 f3 f4 f5 f6 f7 f8 f9 f10 f11 f12 f13 := ⟨by simpa using heap_alloc_new W _, hB.size⟩

/-! ### table_renderHint_isRegularRow: function 35 -/
def table_renderHint_isRegularRow.f (s0_0 : Bool) (s0_1 : Bool) (s0_2 : Bool) (s0_3 : Bool) (s0_4 : Bool) (s0_5 : Bool) (s0_6 : Bool) (s0_7 : Bool) (s0_8 : Bool) (s0_9 : Bool) (s0_10 : Bool) (s0_11 : Int) (s0_12 : Int) (s0_13 : Int) : Option (Bool × Bool × Bool × Bool × Bool × Bool × Bool × Bool × Bool × Bool × Bool × Bool × Int × Int × Int) := if s0_6 = true then (some (false, s0_0, s0_1, s0_2, s0_3, s0_4, s0_5, s0_6, s0_7, s0_8, s0_9, s0_10, s0_11, s0_12, s0_13)) else (some (!s0_5, s0_0, s0_1, s0_2, s0_3, s0_4, s0_5, s0_6, s0_7, s0_8, s0_9, s0_10, s0_11, s0_12, s0_13))
set_option maxHeartbeats 8000000 in
set_option maxRecDepth 100000 in
theorem table_renderHint_isRegularRow.calls (g : Nat) (s0_0 : Bool) (s0_1 : Bool) (s0_2 : Bool) (s0_3 : Bool) (s0_4 : Bool) (s0_5 : Bool) (s0_6 : Bool) (s0_7 : Bool) (s0_8 : Bool) (s0_9 : Bool) (s0_10 : Bool) (s0_11 : Int) (s0_12 : Int) (s0_13 : Int) (r1 : Bool) (r2 : Bool) (r3 : Bool) (r4 : Bool) (r5 : Bool) (r6 : Bool) (r7 : Bool) (r8 : Bool) (r9 : Bool) (r10 : Bool) (r11 : Bool) (r12 : Bool) (r13 : Int) (r14 : Int) (r15 : Int) (w0 w : World) (hI : IsS86 w0 w g s0_0 s0_1 s0_2 s0_3 s0_4 s0_5 s0_6 s0_7 s0_8 s0_9 s0_10 s0_11 s0_12 s0_13) (hB : Below w0.heap.size w0 w) (h : table_renderHint_isRegularRow.f s0_0 s0_1 s0_2 s0_3 s0_4 s0_5 s0_6 s0_7 s0_8 s0_9 s0_10 s0_11 s0_12 s0_13 = some (r1, r2, r3, r4, r5, r6, r7, r8, r9, r10, r11, r12, r13, r14, r15)) :
    Calls Try.prog 35 #[.pointer (some ⟨g, 0, none⟩)] w fun e w' => e = .returned (.bool r1) ∧ IsS86 w0 w' g r2 r3 r4 r5 r6 r7 r8 r9 r10 r11 r12 r13 r14 r15 ∧ Below w0.heap.size w0 w' ∧ KeepBut w w' g none := by
  have HI0 := Aside0.mk hI
  have HK := Aside0.mk (KeepBut.refl w g none)
  have HL := Aside0.mk hB.size
  clear hI
  have HW0 := Aside0.mk hB.size
  have HB := Aside0.mk hB
  clear hB
  have H : (if s0_6 = true then (some (false, s0_0, s0_1, s0_2, s0_3, s0_4, s0_5, s0_6, s0_7, s0_8, s0_9, s0_10, s0_11, s0_12, s0_13)) else (some (!s0_5, s0_0, s0_1, s0_2, s0_3, s0_4, s0_5, s0_6, s0_7, s0_8, s0_9, s0_10, s0_11, s0_12, s0_13))) = some (r1, r2, r3, r4, r5, r6, r7, r8, r9, r10, r11, r12, r13, r14, r15) := h
  clear h
  by_cases c2 : s0_6 = true
  · subst c2
    have H1 : (some (false, s0_0, s0_1, s0_2, s0_3, s0_4, s0_5, true, s0_7, s0_8, s0_9, s0_10, s0_11, s0_12, s0_13)) = some (r1, r2, r3, r4, r5, r6, r7, r8, r9, r10, r11, r12, r13, r14, r15) := by rw [if_pos rfl] at H; exact H
    clear H
    have H := H1
    clear H1
    simp only [Option.some.injEq, Prod.mk.injEq] at H
    obtain ⟨rfl, rfl, rfl, rfl, rfl, rfl, rfl, rfl, rfl, rfl, rfl, rfl, rfl, rfl, rfl⟩ := H
    obtain ⟨HGz3, hgz3⟩ := HI0.out
    have hcz3_0 := cellS86_0 HGz3
    have hcz3_1 := cellS86_1 HGz3
    have hcz3_2 := cellS86_2 HGz3
    have hcz3_3 := cellS86_3 HGz3
    have hcz3_4 := cellS86_4 HGz3
    have hcz3_5 := cellS86_5 HGz3
    have hcz3_6 := cellS86_6 HGz3
    have hcz3_7 := cellS86_7 HGz3
    have hcz3_8 := cellS86_8 HGz3
    have hcz3_9 := cellS86_9 HGz3
    have hcz3_10 := cellS86_10 HGz3
    have hcz3_11 := cellS86_11 HGz3
    have hcz3_12 := cellS86_12 HGz3
    have hcz3_13 := cellS86_13 HGz3
    have hfz3_0 := blk_frozen HGz3 0
    have hfz3_1 := blk_frozen HGz3 1
    have hfz3_2 := blk_frozen HGz3 2
    have hfz3_3 := blk_frozen HGz3 3
    have hfz3_4 := blk_frozen HGz3 4
    have hfz3_5 := blk_frozen HGz3 5
    have hfz3_6 := blk_frozen HGz3 6
    have hfz3_7 := blk_frozen HGz3 7
    have hfz3_8 := blk_frozen HGz3 8
    have hfz3_9 := blk_frozen HGz3 9
    have hfz3_10 := blk_frozen HGz3 10
    have hfz3_11 := blk_frozen HGz3 11
    have hfz3_12 := blk_frozen HGz3 12
    have hfz3_13 := blk_frozen HGz3 13
    clear HGz3 hgz3
    go_enter Try.func35, Try.ntmps35
    go_wp2
    go_ret
    exact ⟨by first | rfl | (simp [errW_none, errW_some] <;> rfl) | (simp [*, errW_none, errW_some] <;> rfl), by repeat (first | (with_reducible first | exact HI0.out | apply IsS86.alloc | apply IsS86.drewN | apply IsS86.drew | apply IsS86.set_0 | apply IsS86.set_1 | apply IsS86.set_2 | apply IsS86.set_3 | apply IsS86.set_4 | apply IsS86.set_5 | apply IsS86.set_6 | apply IsS86.set_7 | apply IsS86.set_8 | apply IsS86.set_9 | apply IsS86.set_10 | apply IsS86.set_11 | apply IsS86.set_12 | apply IsS86.set_13) | exact HI0.out), by repeat (first | (with_reducible first | exact HB.out | apply below_alloc | apply pw_below_drewN | apply below_drew1 | refine below_set ?_ (IsS86.ge HI0.out)) | exact HB.out), by repeat (first | (with_reducible first | exact HK.out | apply KeepBut.set_ | apply keep_drewN | apply keep_drew | apply keep_alloc) | exact HK.out)⟩
  · replace c2 := Bool.eq_false_iff.mpr c2
    subst c2
    have H1 : (some (!s0_5, s0_0, s0_1, s0_2, s0_3, s0_4, s0_5, false, s0_7, s0_8, s0_9, s0_10, s0_11, s0_12, s0_13)) = some (r1, r2, r3, r4, r5, r6, r7, r8, r9, r10, r11, r12, r13, r14, r15) := by rw [if_neg (show ¬ (false = true) by decide)] at H; exact H
    clear H
    have H := H1
    clear H1
    simp only [Option.some.injEq, Prod.mk.injEq] at H
    obtain ⟨rfl, rfl, rfl, rfl, rfl, rfl, rfl, rfl, rfl, rfl, rfl, rfl, rfl, rfl, rfl⟩ := H
    obtain ⟨HGz4, hgz4⟩ := HI0.out
    have hcz4_0 := cellS86_0 HGz4
    have hcz4_1 := cellS86_1 HGz4
    have hcz4_2 := cellS86_2 HGz4
    have hcz4_3 := cellS86_3 HGz4
    have hcz4_4 := cellS86_4 HGz4
    have hcz4_5 := cellS86_5 HGz4
    have hcz4_6 := cellS86_6 HGz4
    have hcz4_7 := cellS86_7 HGz4
    have hcz4_8 := cellS86_8 HGz4
    have hcz4_9 := cellS86_9 HGz4
    have hcz4_10 := cellS86_10 HGz4
    have hcz4_11 := cellS86_11 HGz4
    have hcz4_12 := cellS86_12 HGz4
    have hcz4_13 := cellS86_13 HGz4
    have hfz4_0 := blk_frozen HGz4 0
    have hfz4_1 := blk_frozen HGz4 1
    have hfz4_2 := blk_frozen HGz4 2
    have hfz4_3 := blk_frozen HGz4 3
    have hfz4_4 := blk_frozen HGz4 4
    have hfz4_5 := blk_frozen HGz4 5
    have hfz4_6 := blk_frozen HGz4 6
    have hfz4_7 := blk_frozen HGz4 7
    have hfz4_8 := blk_frozen HGz4 8
    have hfz4_9 := blk_frozen HGz4 9
    have hfz4_10 := blk_frozen HGz4 10
    have hfz4_11 := blk_frozen HGz4 11
    have hfz4_12 := blk_frozen HGz4 12
    have hfz4_13 := blk_frozen HGz4 13
    clear HGz4 hgz4
    go_enter Try.func35, Try.ntmps35
    go_wp2
    go_ret
    exact ⟨by first | rfl | (simp [errW_none, errW_some] <;> rfl) | (simp [*, errW_none, errW_some] <;> rfl), by repeat (first | (with_reducible first | exact HI0.out | apply IsS86.alloc | apply IsS86.drewN | apply IsS86.drew | apply IsS86.set_0 | apply IsS86.set_1 | apply IsS86.set_2 | apply IsS86.set_3 | apply IsS86.set_4 | apply IsS86.set_5 | apply IsS86.set_6 | apply IsS86.set_7 | apply IsS86.set_8 | apply IsS86.set_9 | apply IsS86.set_10 | apply IsS86.set_11 | apply IsS86.set_12 | apply IsS86.set_13) | exact HI0.out), by repeat (first | (with_reducible first | exact HB.out | apply below_alloc | apply pw_below_drewN | apply below_drew1 | refine below_set ?_ (IsS86.ge HI0.out)) | exact HB.out), by repeat (first | (with_reducible first | exact HK.out | apply KeepBut.set_ | apply keep_drewN | apply keep_drew | apply keep_alloc) | exact HK.out)⟩

-- NOT PRINTED: function 36 (strings_Builder_WriteString)

-- NOT PRINTED: function 60 (lightstrconv_FormatUint)

-- NOT PRINTED: function 49 (lightstrconv_FormatInt)

-- NOT PRINTED: function 37 (lightstrconv_Itoa)

/-! ### table_zzIndexAny: function 50 -/
mutual
def table_zzIndexAny.l0 : Nat → ByteArray → ByteArray → Int → Option (Int)
  | 0, _, _, _ => none
  | k + 1, x1, x124000, x124001 => if x124001 < (x124000.size : Int) then ((itr_more.f x124000 x124001).bind fun bt124 => ((itr_make.f x1).bind fun bt127 => (table_zzIndexAny.l1 k x1 bt124.1 bt124.2.1 x124000 bt124.2.2 bt127.1 bt127.2))) else ((itr_end.f x124000 x124001).bind fun t134 => (some (-1)))
def table_zzIndexAny.l1 : Nat → ByteArray → Int → Int → ByteArray → Int → ByteArray → Int → Option (Int)
  | 0, _, _, _, _, _, _, _ => none
  | k + 1, x1, x5, x6, x124000, x124001, x130000, x130001 => if x130001 < (x130000.size : Int) then ((itr_more.f x130000 x130001).bind fun bt130 => (if x6 = bt130.2.1 then (some x5) else (table_zzIndexAny.l1 k x1 x5 x6 x124000 x124001 x130000 bt130.2.2))) else ((itr_end.f x130000 x130001).bind fun t133 => (table_zzIndexAny.l0 k x1 x124000 x124001))
end
def table_zzIndexAny.f (k : Nat) (a0 : ByteArray) (a1 : ByteArray) : Option (Int) := (itr_make.f a0).bind fun bt121 => (table_zzIndexAny.l0 k a1 bt121.1 bt121.2)
theorem table_zzIndexAny.mono_l : ∀ k, (∀ y0 y1 y2, LeO (table_zzIndexAny.l0 k y0 y1 y2) (table_zzIndexAny.l0 (k + 1) y0 y1 y2)) ∧ (∀ y0 y1 y2 y3 y4 y5 y6, LeO (table_zzIndexAny.l1 k y0 y1 y2 y3 y4 y5 y6) (table_zzIndexAny.l1 (k + 1) y0 y1 y2 y3 y4 y5 y6))
  | 0 => ⟨fun _ _ _ r h => by simp [table_zzIndexAny.l0] at h, fun _ _ _ _ _ _ _ r h => by simp [table_zzIndexAny.l1] at h⟩
  | k + 1 => by
    obtain ⟨ih0, ih1⟩ := table_zzIndexAny.mono_l k
    refine ⟨?_, ?_⟩
    · intro y0 y1 y2
      unfold table_zzIndexAny.l0
      repeat' first
      | (with_reducible exact ih0 _ _ _)
      | (with_reducible exact ih1 _ _ _ _ _ _ _)
      | (with_reducible exact LeO.refl _)
      | (with_reducible exact LeO.none _)
      | (with_reducible refine LeO.ite ?_ ?_)
      | (with_reducible refine LeO.bind ?_ (fun _ => ?_))
      | exact ih0 _ _ _
      | exact ih1 _ _ _ _ _ _ _
      | exact LeO.none _
      | refine LeO.ite ?_ ?_
      | refine LeO.bind ?_ (fun _ => ?_)
    · intro y0 y1 y2 y3 y4 y5 y6
      unfold table_zzIndexAny.l1
      repeat' first
      | (with_reducible exact ih0 _ _ _)
      | (with_reducible exact ih1 _ _ _ _ _ _ _)
      | (with_reducible exact LeO.refl _)
      | (with_reducible exact LeO.none _)
      | (with_reducible refine LeO.ite ?_ ?_)
      | (with_reducible refine LeO.bind ?_ (fun _ => ?_))
      | exact ih0 _ _ _
      | exact ih1 _ _ _ _ _ _ _
      | exact LeO.none _
      | refine LeO.ite ?_ ?_
      | refine LeO.bind ?_ (fun _ => ?_)
theorem table_zzIndexAny.mono : ∀ a0 a1 k, LeO (table_zzIndexAny.f k a0 a1) (table_zzIndexAny.f (k + 1) a0 a1) := by
  intro a0 a1 k
  obtain ⟨ih0, ih1⟩ := table_zzIndexAny.mono_l k
  unfold table_zzIndexAny.f
  repeat' first
      | (with_reducible exact ih0 _ _ _)
      | (with_reducible exact ih1 _ _ _ _ _ _ _)
      | (with_reducible exact LeO.refl _)
      | (with_reducible exact LeO.none _)
      | (with_reducible refine LeO.ite ?_ ?_)
      | (with_reducible refine LeO.bind ?_ (fun _ => ?_))
      | exact ih0 _ _ _
      | exact ih1 _ _ _ _ _ _ _
      | exact LeO.none _
      | refine LeO.ite ?_ ?_
      | refine LeO.bind ?_ (fun _ => ?_)
set_option maxHeartbeats 8000000 in
set_option maxRecDepth 100000 in
theorem table_zzIndexAny.calls (k : Nat) (a0 : ByteArray) (a1 : ByteArray) (r : Int) (w : World) (h : table_zzIndexAny.f k a0 a1 = some r) :
    Calls Try.prog 50 #[.string a0, .string a1] w fun e w' => e = .returned (.int .i64 r) ∧ Below w.heap.size w w' := by
  have HB := Aside0.mk (Below.refl w.heap.size w)
  have H : ((itr_make.f a0).bind fun bt121 => (table_zzIndexAny.l0 k a1 bt121.1 bt121.2)) = some r := h
  clear h
  replace H := Option.bind_eq_some_iff.mp H
  obtain ⟨⟨t121, t122⟩, A30, H⟩ := H
  replace H : (table_zzIndexAny.l0 k a1 t121 t122) = some r := H
  have A3 := Aside0.mk A30
  clear A30
  have H' := Aside0.mk H
  clear H
  go_enter Try.func50, Try.ntmps50
  go_wp2_with (first | ((with_reducible refine gate_dst (N := 10) rfl ?_); refine rangeL_ (some 10) rfl rfl rfl Try.underlying9 a0 rfl ?_; (with_reducible refine (itr_make.calls a0 t121 t122 w _ ?side1 A3.out).mono ?_); (case side1 => repeat (first | (with_reducible first | exact HB.out | apply below_alloc | apply pw_below_drewN | apply below_drew1) | exact HB.out)); rintro e w4 ⟨g123, rfl, hi, hb, hb2, hge⟩; refine ⟨_, rfl, ?_⟩; have n0_ := Aside0.mk (hb); have n1_ := Aside0.mk (hi); clear HB; have HB := n0_; have HI123 := n1_; clear n0_ n1_; (try clear hb); (try clear hb2); (try clear hk); (try clear hi)))
  (try simp only [Act.put, List.setIfInBounds_toArray, List.set_cons_zero, List.set_cons_succ])
  go_loopg [] k (fun kq w' => ∃ (x124001_1 : Int), Aside0 (table_zzIndexAny.l0 kq a1 t121 x124001_1 = some r) ∧ Aside0 (kq ≤ k) ∧ Aside0 (IsS195 w w' g123 t121 x124001_1) ∧ Aside0 (Below w.heap.size w w'))
  case atStart => exact ⟨(t122), H', ⟨Nat.le_refl _⟩, ⟨by repeat (first | (with_reducible first | exact HI123.out | apply IsS195.alloc | apply IsS195.drewN | apply IsS195.drew | apply IsS195.set_1) | exact HI123.out)⟩, ⟨by repeat (first | (with_reducible first | exact HB.out | apply below_alloc | apply pw_below_drewN | apply below_drew1 | refine below_set ?_ (IsS195.ge HI123.out)) | exact HB.out)⟩⟩
  case round =>
    clear H'
    try clear p2
    obtain ⟨x124001_1, HA, HK1, HI123, HB⟩ := hrel
    cases gk with
    | zero => exact absurd HA.out (by simp [table_zzIndexAny.l0])
    | succ k1 =>
      have H := HA.out
      clear HA
      simp only [table_zzIndexAny.l0] at H
      by_cases c5 : x124001_1 < (t121.size : Int)
      · rw [if_pos c5] at H
        have c5b0 : decide (x124001_1 < (t121.size : Int)) = true := decide_eq_true c5
        clear c5
        replace H := Option.bind_eq_some_iff.mp H
        obtain ⟨⟨t124, t125, t126⟩, A60, H⟩ := H
        replace H : ((itr_make.f a1).bind fun bt127 => (table_zzIndexAny.l1 k1 a1 t124 t125 t121 t126 bt127.1 bt127.2)) = some r := H
        have A6 := Aside0.mk A60
        clear A60
        replace H := Option.bind_eq_some_iff.mp H
        obtain ⟨⟨t127, t128⟩, A70, H⟩ := H
        replace H : (table_zzIndexAny.l1 k1 a1 t124 t125 t121 t126 t127 t128) = some r := H
        have A7 := Aside0.mk A70
        clear A70
        have H' := Aside0.mk H
        clear H
        go_wp2_with (first | ((with_reducible refine gate_dst (N := 11) rfl ?_); refine nextL_ (some 11) rfl rfl rfl (.pointer (some ⟨g123, 0, none⟩)) rfl ?_; (with_reducible refine (itr_more.calls g123 t121 x124001_1 t124 t125 t126 w _ ?side1 ?side2 A6.out).mono ?_); (case side1 => repeat (first | (with_reducible first | exact HI123.out | apply IsS195.alloc | apply IsS195.drewN | apply IsS195.drew | apply IsS195.set_1) | exact HI123.out)); (case side2 => repeat (first | (with_reducible first | exact HB.out | apply below_alloc | apply pw_below_drewN | apply below_drew1 | refine below_set ?_ (IsS195.ge HI123.out)) | exact HB.out)); rintro e w8 ⟨rfl, hi, hb, hk⟩; refine ⟨_, rfl, ?_⟩; have n0_ := Aside0.mk (hb); have n1_ := Aside0.mk (hi); clear HB; clear HI123; have HB := n0_; have HI123 := n1_; clear n0_ n1_; (try clear hb); (try clear hb2); (try clear hk); (try clear hi)) | ((with_reducible refine gate_dst (N := 16) rfl ?_); refine rangeL_ (some 16) rfl rfl rfl Try.underlying9 a1 rfl ?_; (with_reducible refine (itr_make.calls a1 t127 t128 w _ ?side1 A7.out).mono ?_); (case side1 => repeat (first | (with_reducible first | exact HB.out | apply below_alloc | apply pw_below_drewN | apply below_drew1 | refine below_set ?_ (IsS195.ge HI123.out)) | exact HB.out)); rintro e w9 ⟨g129, rfl, hi, hb, hb2, hge⟩; refine ⟨_, rfl, ?_⟩; have n0_ := Aside0.mk (IsS195.below (by repeat (first | (with_reducible first | exact HI123.out | apply IsS195.alloc | apply IsS195.drewN | apply IsS195.drew | apply IsS195.set_1) | exact HI123.out)) hb2); have n1_ := Aside0.mk (hb); have n2_ := Aside0.mk (hi); have n3_ := Aside0.mk ((Nat.ne_of_lt (Nat.lt_of_lt_of_le (IsS195.lt (show IsS195 w _ g123 t121 t126 from by repeat (first | (with_reducible first | exact HI123.out | apply IsS195.alloc | apply IsS195.drewN | apply IsS195.drew | apply IsS195.set_1) | exact HI123.out))) hge) : g123 ≠ g129)); have n4_ := Aside0.mk ((Nat.ne_of_gt (Nat.lt_of_lt_of_le (IsS195.lt (show IsS195 w _ g123 t121 t126 from by repeat (first | (with_reducible first | exact HI123.out | apply IsS195.alloc | apply IsS195.drewN | apply IsS195.drew | apply IsS195.set_1) | exact HI123.out))) hge) : g129 ≠ g123)); clear HI123; clear HB; have HI123 := n0_; have HB := n1_; have HI129 := n2_; have NB123_129 := n3_; have NB129_123 := n4_; clear n0_ n1_ n2_ n3_ n4_; (try clear hb); (try clear hb2); (try clear hk); (try clear hi)))
        (try simp only [Act.put, List.setIfInBounds_toArray, List.set_cons_zero, List.set_cons_succ])
        go_loopg [] k1 (fun kq w' => ∃ (x130001_2 : Int), Aside0 (table_zzIndexAny.l1 kq a1 t124 t125 t121 t126 t127 x130001_2 = some r) ∧ Aside0 (kq ≤ k1) ∧ Aside0 (IsS195 w w' g123 t121 t126) ∧ Aside0 (IsS195 w w' g129 t127 x130001_2) ∧ Aside0 (Below w.heap.size w w'))
        case atStart => exact ⟨(t128), H', ⟨Nat.le_refl _⟩, ⟨by repeat (first | (with_reducible first | exact HI123.out | apply IsS195.alloc | apply IsS195.drewN | apply IsS195.drew | apply IsS195.set_1) | exact HI123.out)⟩, ⟨by repeat (first | (with_reducible first | exact HI129.out | apply IsS195.alloc | apply IsS195.drewN | apply IsS195.drew | apply IsS195.set_1) | exact HI129.out)⟩, ⟨by repeat (first | (with_reducible first | exact HB.out | apply below_alloc | apply pw_below_drewN | apply below_drew1 | refine below_set ?_ (IsS195.ge HI123.out) | refine below_set ?_ (IsS195.ge HI129.out)) | exact HB.out)⟩⟩
        case round =>
          clear H'
          try clear p2
          try clear c5
          try clear c5b0
          try clear p2
          obtain ⟨x130001_2, HA, HK2, HI123, HI129, HB⟩ := hrel
          cases gk with
          | zero => exact absurd HA.out (by simp [table_zzIndexAny.l1])
          | succ k2 =>
            have H := HA.out
            clear HA
            simp only [table_zzIndexAny.l1] at H
            by_cases c10 : x130001_2 < (t127.size : Int)
            · rw [if_pos c10] at H
              have c10b0 : decide (x130001_2 < (t127.size : Int)) = true := decide_eq_true c10
              clear c10
              replace H := Option.bind_eq_some_iff.mp H
              obtain ⟨⟨t130, t131, t132⟩, A110, H⟩ := H
              replace H : (if t125 = t131 then (some t124) else (table_zzIndexAny.l1 k2 a1 t124 t125 t121 t126 t127 t132)) = some r := H
              have A11 := Aside0.mk A110
              clear A110
              by_cases c12 : t125 = t131
              · rw [if_pos c12] at H
                have c12b0 : (t125 == t131) = true := beq_iff_eq.mpr c12
                have c12b1 : (t125 != t131) = false := bne_eq_false_iff_eq.mpr c12
                clear c12
                obtain rfl := Option.some.inj H
                go_wp2_with (first | ((with_reducible refine gate_dst (N := 17) rfl ?_); refine nextL_ (some 17) rfl rfl rfl (.pointer (some ⟨g129, 0, none⟩)) rfl ?_; (with_reducible refine (itr_more.calls g129 t127 x130001_2 t130 t131 t132 w _ ?side1 ?side2 A11.out).mono ?_); (case side1 => repeat (first | (with_reducible first | exact HI129.out | apply IsS195.alloc | apply IsS195.drewN | apply IsS195.drew | apply IsS195.set_1) | exact HI129.out)); (case side2 => repeat (first | (with_reducible first | exact HB.out | apply below_alloc | apply pw_below_drewN | apply below_drew1 | refine below_set ?_ (IsS195.ge HI123.out) | refine below_set ?_ (IsS195.ge HI129.out)) | exact HB.out)); rintro e w13 ⟨rfl, hi, hb, hk⟩; refine ⟨_, rfl, ?_⟩; have n0_ := Aside0.mk (IsS195.kept (show IsS195 w _ g123 t121 t126 from by repeat (first | (with_reducible first | exact HI123.out | apply IsS195.alloc | apply IsS195.drewN | apply IsS195.drew | apply IsS195.set_1) | exact HI123.out)) (kept_of_but hk) NB123_129.out); have n1_ := Aside0.mk (hb); have n2_ := Aside0.mk (hi); clear HI123; clear HB; clear HI129; have HI123 := n0_; have HB := n1_; have HI129 := n2_; clear n0_ n1_ n2_; (try clear hb); (try clear hb2); (try clear hk); (try clear hi)))
                go_ret
                exact ⟨by first | rfl | (simp [errW_none, errW_some] <;> rfl) | (simp [*, errW_none, errW_some] <;> rfl), by repeat (first | (with_reducible first | exact HB.out | apply below_alloc | apply pw_below_drewN | apply below_drew1 | refine below_set ?_ (IsS195.ge HI123.out) | refine below_set ?_ (IsS195.ge HI129.out)) | exact HB.out)⟩
              · rw [if_neg c12] at H
                have c12b0 : (t125 == t131) = false := beq_eq_false_iff_ne.mpr c12
                have c12b1 : (t125 != t131) = true := bne_iff_ne.mpr c12
                have H' := Aside0.mk H
                clear H
                go_wp2_with (first | ((with_reducible refine gate_dst (N := 17) rfl ?_); refine nextL_ (some 17) rfl rfl rfl (.pointer (some ⟨g129, 0, none⟩)) rfl ?_; (with_reducible refine (itr_more.calls g129 t127 x130001_2 t130 t131 t132 w _ ?side1 ?side2 A11.out).mono ?_); (case side1 => repeat (first | (with_reducible first | exact HI129.out | apply IsS195.alloc | apply IsS195.drewN | apply IsS195.drew | apply IsS195.set_1) | exact HI129.out)); (case side2 => repeat (first | (with_reducible first | exact HB.out | apply below_alloc | apply pw_below_drewN | apply below_drew1 | refine below_set ?_ (IsS195.ge HI123.out) | refine below_set ?_ (IsS195.ge HI129.out)) | exact HB.out)); rintro e w14 ⟨rfl, hi, hb, hk⟩; refine ⟨_, rfl, ?_⟩; have n0_ := Aside0.mk (IsS195.kept (show IsS195 w _ g123 t121 t126 from by repeat (first | (with_reducible first | exact HI123.out | apply IsS195.alloc | apply IsS195.drewN | apply IsS195.drew | apply IsS195.set_1) | exact HI123.out)) (kept_of_but hk) NB123_129.out); have n1_ := Aside0.mk (hb); have n2_ := Aside0.mk (hi); clear HI123; clear HB; clear HI129; have HI123 := n0_; have HB := n1_; have HI129 := n2_; clear n0_ n1_ n2_; (try clear hb); (try clear hb2); (try clear hk); (try clear hi)))
                go_roundg k2
                case measure => have := HK1.out; have := HK2.out; omega
                case rel => exact ⟨(t132), H', ⟨by have := HK1.out; have := HK2.out; omega⟩, ⟨by repeat (first | (with_reducible first | exact HI123.out | apply IsS195.alloc | apply IsS195.drewN | apply IsS195.drew | apply IsS195.set_1) | exact HI123.out)⟩, ⟨by repeat (first | (with_reducible first | exact HI129.out | apply IsS195.alloc | apply IsS195.drewN | apply IsS195.drew | apply IsS195.set_1) | exact HI129.out)⟩, ⟨by repeat (first | (with_reducible first | exact HB.out | apply below_alloc | apply pw_below_drewN | apply below_drew1 | refine below_set ?_ (IsS195.ge HI123.out) | refine below_set ?_ (IsS195.ge HI129.out)) | exact HB.out)⟩⟩
            · rw [if_neg c10] at H
              have c10b0 : decide (x130001_2 < (t127.size : Int)) = false := decide_eq_false c10
              clear c10
              replace H := Option.bind_eq_some_iff.mp H
              obtain ⟨t133, A150, H⟩ := H
              replace H : (table_zzIndexAny.l0 k2 a1 t121 t126) = some r := H
              have A15 := Aside0.mk A150
              clear A150
              have H' := Aside0.mk H
              clear H
              go_wp2_with (first | ((with_reducible refine gate_dst (N := 17) rfl ?_); refine nextL_ (some 17) rfl rfl rfl (.pointer (some ⟨g129, 0, none⟩)) rfl ?_; (with_reducible refine (itr_end.calls g129 t127 x130001_2 t133 w _ ?side1 ?side2 A15.out).mono ?_); (case side1 => repeat (first | (with_reducible first | exact HI129.out | apply IsS195.alloc | apply IsS195.drewN | apply IsS195.drew | apply IsS195.set_1) | exact HI129.out)); (case side2 => repeat (first | (with_reducible first | exact HB.out | apply below_alloc | apply pw_below_drewN | apply below_drew1 | refine below_set ?_ (IsS195.ge HI123.out) | refine below_set ?_ (IsS195.ge HI129.out)) | exact HB.out)); rintro e w16 ⟨rfl, hi, hb, hk⟩; refine ⟨_, rfl, ?_⟩; have n0_ := Aside0.mk (IsS195.kept (show IsS195 w _ g123 t121 t126 from by repeat (first | (with_reducible first | exact HI123.out | apply IsS195.alloc | apply IsS195.drewN | apply IsS195.drew | apply IsS195.set_1) | exact HI123.out)) (kept_of_but hk) NB123_129.out); have n1_ := Aside0.mk (hb); have n2_ := Aside0.mk (hi); clear HI123; clear HB; clear HI129; have HI123 := n0_; have HB := n1_; have HI129 := n2_; clear n0_ n1_ n2_; (try clear hb); (try clear hb2); (try clear hk); (try clear hi)))
              go_roundg k2
              case measure => have := HK1.out; have := HK2.out; omega
              case rel => exact ⟨(t126), H', ⟨by have := HK1.out; have := HK2.out; omega⟩, ⟨by repeat (first | (with_reducible first | exact HI123.out | apply IsS195.alloc | apply IsS195.drewN | apply IsS195.drew | apply IsS195.set_1) | exact HI123.out)⟩, ⟨by repeat (first | (with_reducible first | exact HB.out | apply below_alloc | apply pw_below_drewN | apply below_drew1 | refine below_set ?_ (IsS195.ge HI123.out) | refine below_set ?_ (IsS195.ge HI129.out)) | exact HB.out)⟩⟩
      · rw [if_neg c5] at H
        have c5b0 : decide (x124001_1 < (t121.size : Int)) = false := decide_eq_false c5
        clear c5
        replace H := Option.bind_eq_some_iff.mp H
        obtain ⟨t134, A170, H⟩ := H
        replace H : (some (-1)) = some r := H
        have A17 := Aside0.mk A170
        clear A170
        obtain rfl := Option.some.inj H
        go_wp2_with (first | ((with_reducible refine gate_dst (N := 11) rfl ?_); refine nextL_ (some 11) rfl rfl rfl (.pointer (some ⟨g123, 0, none⟩)) rfl ?_; (with_reducible refine (itr_end.calls g123 t121 x124001_1 t134 w _ ?side1 ?side2 A17.out).mono ?_); (case side1 => repeat (first | (with_reducible first | exact HI123.out | apply IsS195.alloc | apply IsS195.drewN | apply IsS195.drew | apply IsS195.set_1) | exact HI123.out)); (case side2 => repeat (first | (with_reducible first | exact HB.out | apply below_alloc | apply pw_below_drewN | apply below_drew1 | refine below_set ?_ (IsS195.ge HI123.out)) | exact HB.out)); rintro e w18 ⟨rfl, hi, hb, hk⟩; refine ⟨_, rfl, ?_⟩; have n0_ := Aside0.mk (hb); have n1_ := Aside0.mk (hi); clear HB; clear HI123; have HB := n0_; have HI123 := n1_; clear n0_ n1_; (try clear hb); (try clear hb2); (try clear hk); (try clear hi)))
        go_ret
        exact ⟨by first | rfl | (simp [errW_none, errW_some] <;> rfl) | (simp [*, errW_none, errW_some] <;> rfl), by repeat (first | (with_reducible first | exact HB.out | apply below_alloc | apply pw_below_drewN | apply below_drew1 | refine below_set ?_ (IsS195.ge HI123.out)) | exact HB.out)⟩

/-! ### table_zzContainsAny: function 38 -/
def table_zzContainsAny.f (k : Nat) (a0 : ByteArray) (a1 : ByteArray) : Option (Bool) := (table_zzIndexAny.f k a0 a1).bind fun t135 => (some (decide (t135 ≥ 0)))
theorem table_zzContainsAny.mono : ∀ a0 a1 k, LeO (table_zzContainsAny.f k a0 a1) (table_zzContainsAny.f (k + 1) a0 a1) := by
  intro a0 a1 k
  unfold table_zzContainsAny.f
  repeat' first
      | (with_reducible exact table_zzIndexAny.mono _ _ _)
      | (with_reducible exact LeO.refl _)
      | (with_reducible exact LeO.none _)
      | (with_reducible refine LeO.ite ?_ ?_)
      | (with_reducible refine LeO.bind ?_ (fun _ => ?_))
      | exact table_zzIndexAny.mono _ _ _
      | exact LeO.none _
      | refine LeO.ite ?_ ?_
      | refine LeO.bind ?_ (fun _ => ?_)
set_option maxHeartbeats 8000000 in
set_option maxRecDepth 100000 in
theorem table_zzContainsAny.calls (k : Nat) (a0 : ByteArray) (a1 : ByteArray) (r : Bool) (w : World) (h : table_zzContainsAny.f k a0 a1 = some r) :
    Calls Try.prog 38 #[.string a0, .string a1] w fun e w' => e = .returned (.bool r) ∧ Below w.heap.size w w' := by
  have HB := Aside0.mk (Below.refl w.heap.size w)
  have H : ((table_zzIndexAny.f k a0 a1).bind fun t135 => (some (decide (t135 ≥ 0)))) = some r := h
  clear h
  replace H := Option.bind_eq_some_iff.mp H
  obtain ⟨t135, A30, H⟩ := H
  replace H : (some (decide (t135 ≥ 0))) = some r := H
  have A3 := Aside0.mk A30
  clear A30
  obtain rfl := Option.some.inj H
  go_enter Try.func38, Try.ntmps38
  go_wp2_with (first | ((with_reducible refine gate_callee (f := 50) rfl ?_); refine goesL_ (some 7) rfl rfl Try.func50 (by kernel_rfl) rfl #[.string a0, .string a1] rfl (by (try simp only [List.map_toArray, List.map_cons, List.map_nil]); first | done | rfl | (simp only [List.length_drop, List.length_take]; rfl)) ?_; (with_reducible refine (table_zzIndexAny.calls k a0 a1 t135 _ A3.out).mono ?_); rintro e w4 ⟨rfl, hb⟩; refine ⟨_, rfl, ?_⟩; have n0_ := Aside0.mk (below_step (by repeat (first | (with_reducible first | exact HB.out | apply below_alloc | apply pw_below_drewN | apply below_drew1) | exact HB.out)) hb); clear HB; have HB := n0_; clear n0_; (try clear hb); (try clear hb2); (try clear hk); (try clear hi)))
  go_ret
  exact ⟨by first | rfl | (simp [errW_none, errW_some] <;> rfl) | (simp [*, errW_none, errW_some] <;> rfl), by repeat (first | (with_reducible first | exact HB.out | apply below_alloc | apply pw_below_drewN | apply below_drew1) | exact HB.out)⟩

/-! ### table_zzIndex: function 51 -/
def table_zzIndex.l0 : Nat → ByteArray → ByteArray → Int → Option (Int)
  | 0, _, _, _ => none
  | k + 1, x0, x1, x5 => if (wrap64 (x5 + (x1.size : Int))) ≤ (x0.size : Int) then (if 0 ≤ x5 then (if x5 ≤ (wrap64 (x5 + (x1.size : Int))) then (if (x0.extract (x5 : Int).toNat ((wrap64 (x5 + (x1.size : Int))) : Int).toNat).toList = x1.toList then (some x5) else (table_zzIndex.l0 k x0 x1 (wrap64 (x5 + 1)))) else (none)) else (none)) else (some (-1))
def table_zzIndex.f (k : Nat) (a0 : ByteArray) (a1 : ByteArray) : Option (Int) := table_zzIndex.l0 k a0 a1 0
theorem table_zzIndex.mono_l : ∀ k, (∀ y0 y1 y2, LeO (table_zzIndex.l0 k y0 y1 y2) (table_zzIndex.l0 (k + 1) y0 y1 y2))
  | 0 => fun _ _ _ r h => by simp [table_zzIndex.l0] at h
  | k + 1 => by
    have ih0 := table_zzIndex.mono_l k
    · intro y0 y1 y2
      unfold table_zzIndex.l0
      repeat' first
      | (with_reducible exact ih0 _ _ _)
      | (with_reducible exact LeO.refl _)
      | (with_reducible exact LeO.none _)
      | (with_reducible refine LeO.ite ?_ ?_)
      | (with_reducible refine LeO.bind ?_ (fun _ => ?_))
      | exact ih0 _ _ _
      | exact LeO.none _
      | refine LeO.ite ?_ ?_
      | refine LeO.bind ?_ (fun _ => ?_)
theorem table_zzIndex.mono : ∀ a0 a1 k, LeO (table_zzIndex.f k a0 a1) (table_zzIndex.f (k + 1) a0 a1) := by
  intro a0 a1 k
  have ih0 := table_zzIndex.mono_l k
  unfold table_zzIndex.f
  repeat' first
      | (with_reducible exact ih0 _ _ _)
      | (with_reducible exact LeO.refl _)
      | (with_reducible exact LeO.none _)
      | (with_reducible refine LeO.ite ?_ ?_)
      | (with_reducible refine LeO.bind ?_ (fun _ => ?_))
      | exact ih0 _ _ _
      | exact LeO.none _
      | refine LeO.ite ?_ ?_
      | refine LeO.bind ?_ (fun _ => ?_)
set_option maxHeartbeats 8000000 in
set_option maxRecDepth 100000 in
theorem table_zzIndex.calls (k : Nat) (a0 : ByteArray) (a1 : ByteArray) (r : Int) (w : World) (h : table_zzIndex.f k a0 a1 = some r) :
    Calls Try.prog 51 #[.string a0, .string a1] w fun e w' => e = .returned (.int .i64 r) ∧ Drawn0 w w' := by
  have H : (table_zzIndex.l0 k a0 a1 0) = some r := h
  clear h
  have H' := Aside0.mk H
  clear H
  go_enter Try.func51, Try.ntmps51
  go_wp2
  (try simp only [Act.put, List.setIfInBounds_toArray, List.set_cons_zero, List.set_cons_succ])
  go_loopg [5] k (fun kq v5 w' => ∃ (x5_1 : Int), v5 = .int .i64 x5_1 ∧ Aside0 (table_zzIndex.l0 kq a0 a1 x5_1 = some r) ∧ Aside0 (kq ≤ k) ∧ Drawn0 w w')
  case atStart => exact ⟨(0), (by first | rfl | (simp; done) | (simp [*]; done)), H', ⟨Nat.le_refl _⟩, by repeat (first | exact Drawn0.refl _ | apply Drawn0.step)⟩
  case round =>
    clear H'
    try clear p2
    obtain ⟨x5_1, rfl, HA, HK1, ⟨m1, rfl⟩⟩ := hrel
    cases gk with
    | zero => exact absurd HA.out (by simp [table_zzIndex.l0])
    | succ k1 =>
      have H := HA.out
      clear HA
      simp only [table_zzIndex.l0] at H
      by_cases c3 : (wrap64 (x5_1 + (a1.size : Int))) ≤ (a0.size : Int)
      · rw [if_pos c3] at H
        have c3b0 : decide ((wrap64 (x5_1 + (a1.size : Int))) ≤ (a0.size : Int)) = true := decide_eq_true c3
        clear c3
        by_cases c4 : 0 ≤ x5_1
        · rw [if_pos c4] at H
          have c4b0 := eq_true c4
          have c4b1 : decide (0 ≤ x5_1) = true := decide_eq_true c4
          clear c4
          by_cases c5 : x5_1 ≤ (wrap64 (x5_1 + (a1.size : Int)))
          · rw [if_pos c5] at H
            have c5b0 := eq_true c5
            have c5b1 : decide (x5_1 ≤ (wrap64 (x5_1 + (a1.size : Int)))) = true := decide_eq_true c5
            have c6b0 := eq_true (of_decide_eq_true (by first | (with_reducible assumption) | assumption) : (wrap64 (x5_1 + (a1.size : Int))) ≤ (a0.size : Int))
            by_cases c7 : (a0.extract (x5_1 : Int).toNat ((wrap64 (x5_1 + (a1.size : Int))) : Int).toNat).toList = a1.toList
            · rw [if_pos c7] at H
              have c7b0 : ((a0.extract (x5_1 : Int).toNat ((wrap64 (x5_1 + (a1.size : Int))) : Int).toNat).toList == a1.toList) = true := beq_iff_eq.mpr c7
              have c7b1 : ((a0.extract (x5_1 : Int).toNat ((wrap64 (x5_1 + (a1.size : Int))) : Int).toNat).toList != a1.toList) = false := bne_eq_false_iff_eq.mpr c7
              clear c7
              obtain rfl := Option.some.inj H
              go_wp2
              go_ret
              exact ⟨by first | rfl | (simp; done) | (simp [*]; done), by repeat (first | exact Drawn0.refl _ | apply Drawn0.step)⟩
            · rw [if_neg c7] at H
              have c7b0 : ((a0.extract (x5_1 : Int).toNat ((wrap64 (x5_1 + (a1.size : Int))) : Int).toNat).toList == a1.toList) = false := beq_eq_false_iff_ne.mpr c7
              have c7b1 : ((a0.extract (x5_1 : Int).toNat ((wrap64 (x5_1 + (a1.size : Int))) : Int).toNat).toList != a1.toList) = true := bne_iff_ne.mpr c7
              have H' := Aside0.mk H
              clear H
              go_wp2
              go_roundg k1
              case measure => have := HK1.out; omega
              case rel => exact ⟨(wrap64 (x5_1 + 1)), (by first | rfl | (simp; done) | (simp [*]; done)), H', ⟨by have := HK1.out; omega⟩, by repeat (first | exact Drawn0.refl _ | apply Drawn0.step)⟩
          · rw [if_neg c5] at H
            exact absurd H (by simp)
        · rw [if_neg c4] at H
          exact absurd H (by simp)
      · rw [if_neg c3] at H
        have c3b0 : decide ((wrap64 (x5_1 + (a1.size : Int))) ≤ (a0.size : Int)) = false := decide_eq_false c3
        clear c3
        obtain rfl := Option.some.inj H
        go_wp2
        go_ret
        exact ⟨by first | rfl | (simp; done) | (simp [*]; done), by repeat (first | exact Drawn0.refl _ | apply Drawn0.step)⟩

/-! ### table_zzContains: function 39 -/
def table_zzContains.f (k : Nat) (a0 : ByteArray) (a1 : ByteArray) : Option (Bool) := (table_zzIndex.f k a0 a1).bind fun t136 => (some (decide (t136 ≥ 0)))
theorem table_zzContains.mono : ∀ a0 a1 k, LeO (table_zzContains.f k a0 a1) (table_zzContains.f (k + 1) a0 a1) := by
  intro a0 a1 k
  unfold table_zzContains.f
  repeat' first
      | (with_reducible exact table_zzIndex.mono _ _ _)
      | (with_reducible exact LeO.refl _)
      | (with_reducible exact LeO.none _)
      | (with_reducible refine LeO.ite ?_ ?_)
      | (with_reducible refine LeO.bind ?_ (fun _ => ?_))
      | exact table_zzIndex.mono _ _ _
      | exact LeO.none _
      | refine LeO.ite ?_ ?_
      | refine LeO.bind ?_ (fun _ => ?_)
set_option maxHeartbeats 8000000 in
set_option maxRecDepth 100000 in
theorem table_zzContains.calls (k : Nat) (a0 : ByteArray) (a1 : ByteArray) (r : Bool) (w : World) (h : table_zzContains.f k a0 a1 = some r) :
    Calls Try.prog 39 #[.string a0, .string a1] w fun e w' => e = .returned (.bool r) ∧ Drawn0 w w' := by
  have H : ((table_zzIndex.f k a0 a1).bind fun t136 => (some (decide (t136 ≥ 0)))) = some r := h
  clear h
  replace H := Option.bind_eq_some_iff.mp H
  obtain ⟨t136, A30, H⟩ := H
  replace H : (some (decide (t136 ≥ 0))) = some r := H
  have A3 := Aside0.mk A30
  clear A30
  obtain rfl := Option.some.inj H
  go_enter Try.func39, Try.ntmps39
  go_wp2_with (first | ((with_reducible refine gate_callee (f := 51) rfl ?_); refine goesL_ (some 7) rfl rfl Try.func51 (by kernel_rfl) rfl #[.string a0, .string a1] rfl (by (try simp only [List.map_toArray, List.map_cons, List.map_nil]); first | done | rfl | (simp only [List.length_drop, List.length_take]; rfl)) ?_; (with_reducible refine (table_zzIndex.calls k a0 a1 t136 _ A3.out).mono ?_); rintro e w' ⟨rfl, ⟨nd, rfl⟩⟩; refine ⟨_, rfl, ?_⟩))
  go_ret
  exact ⟨by first | rfl | (simp; done) | (simp [*]; done), by repeat (first | exact Drawn0.refl _ | apply Drawn0.step)⟩

end
end Go.Proofs.Ytelbcekkfdpoaaa.GTsvBody
