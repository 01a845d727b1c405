-- Written by gprint.py, a program of this session over the kit's printer, with contracts of its own for what the printer does not take. Not trusted: Lean checks it.
import Derived.Test.YtelbcekkfdpoaaaGTsvHelpx0
import Derived.Test.YtelbcekkfdpoaaaGTsvHelpx1
namespace Go.Proofs.Ytelbcekkfdpoaaa.GTsvHelp
open Go.RowKit Go.Proofs.Ytelbcekkfdpoaaa.Itr Go.Proofs.YtelbcekkfdpoaaaW.PrintWords Go.Proofs.YtelbcekkfdpoaaaW.PrintLast Go.Proofs.YtelbcekkfdpoaaaW.PrintMore
attribute [local go_sem] max2_int min2_int max_two min_two max_three min_three max_four min_four   -- for this text's walks alone
set_option linter.unusedVariables false
set_option linter.unusedSimpArgs false

/-! ### table_zzReplaceAll: function 40 -/
mutual
def table_zzReplaceAll.l0 : Nat → ByteArray → ByteArray → List Int → Int → ByteArray → Int → Option (ByteArray)
  | 0, _, _, _, _, _, _ => none
  | k + 1, x0, x2, x7, x8, x123000, x123001 => if x123001 < (x123000.size : Int) then ((itr_more.f x123000 x123001).bind fun bt123 => (if bt123.1 > 0 then (if 0 ≤ x8 then (if x8 ≤ bt123.1 then (if bt123.1 ≤ (x0.size : Int) then (if x7.length + (x0.extract (x8 : Int).toNat (bt123.1 : Int).toNat).size < 140737488355328 then ((some (x7 ++ bytesOf (x0.extract (x8 : Int).toNat (bt123.1 : Int).toNat) : List Int)).bind fun y126 => (if y126.length + x2.size < 140737488355328 then (table_zzReplaceAll.l0 k x0 x2 (y126 ++ bytesOf x2) bt123.1 x123000 bt123.2.2) else (none))) else (none)) else (none)) else (none)) else (none)) else (table_zzReplaceAll.l0 k x0 x2 x7 x8 x123000 bt123.2.2))) else ((itr_end.f x123000 x123001).bind fun t132 => (if (x0.size : Int) > 0 then (if 0 ≤ x8 then (if x8 ≤ (x0.size : Int) then (if x7.length + (x0.extract (x8 : Int).toNat x0.size).size < 140737488355328 then ((some (x7 ++ bytesOf (x0.extract (x8 : Int).toNat x0.size) : List Int)).bind fun y133 => (if y133.length + x2.size < 140737488355328 then (some (strOfNums (y133 ++ bytesOf x2))) else (none))) else (none)) else (none)) else (none)) else (some (strOfNums x7))))
def table_zzReplaceAll.l1 : Nat → ByteArray → ByteArray → ByteArray → List Int → Option (ByteArray)
  | 0, _, _, _, _ => none
  | k + 1, x0, x1, x2, x7 => (table_zzIndex.f k x0 x1).bind fun t139 => (if t139 < 0 then (if x7.length + x0.size < 140737488355328 then (some (strOfNums (x7 ++ bytesOf x0))) else (none)) else (if 0 ≤ t139 then (if t139 ≤ (x0.size : Int) then (if x7.length + (x0.extract 0 (t139 : Int).toNat).size < 140737488355328 then ((some (x7 ++ bytesOf (x0.extract 0 (t139 : Int).toNat) : List Int)).bind fun y143 => (if y143.length + x2.size < 140737488355328 then (if 0 ≤ (wrap64 (t139 + (x1.size : Int))) then (if (wrap64 (t139 + (x1.size : Int))) ≤ (x0.size : Int) then (table_zzReplaceAll.l1 k (x0.extract ((wrap64 (t139 + (x1.size : Int))) : Int).toNat x0.size) x1 x2 (y143 ++ bytesOf x2)) else (none)) else (none)) else (none))) else (none)) else (none)) else (none)))
end
def table_zzReplaceAll.f (k : Nat) (a0 : ByteArray) (a1 : ByteArray) (a2 : ByteArray) : Option (ByteArray) := if (a1.size : Int) = 0 then (if ([] : List Int).length + a2.size < 140737488355328 then ((itr_make.f a0).bind fun bt120 => (table_zzReplaceAll.l0 k a0 a2 (([] : List Int) ++ bytesOf a2) 0 bt120.1 bt120.2)) else (none)) else (table_zzReplaceAll.l1 k a0 a1 a2 ([] : List Int))
theorem table_zzReplaceAll.mono_l : ∀ k, (∀ y0 y1 y2 y3 y4 y5, LeO (table_zzReplaceAll.l0 k y0 y1 y2 y3 y4 y5) (table_zzReplaceAll.l0 (k + 1) y0 y1 y2 y3 y4 y5)) ∧ (∀ y0 y1 y2 y3, LeO (table_zzReplaceAll.l1 k y0 y1 y2 y3) (table_zzReplaceAll.l1 (k + 1) y0 y1 y2 y3))
  | 0 => ⟨fun _ _ _ _ _ _ r h => by simp [table_zzReplaceAll.l0] at h, fun _ _ _ _ r h => by simp [table_zzReplaceAll.l1] at h⟩
  | k + 1 => by
    obtain ⟨ih0, ih1⟩ := table_zzReplaceAll.mono_l k
    refine ⟨?_, ?_⟩
    · intro y0 y1 y2 y3 y4 y5
      unfold table_zzReplaceAll.l0
      repeat' first
      | (with_reducible exact ih0 _ _ _ _ _ _)
      | (with_reducible exact ih1 _ _ _ _)
      | (with_reducible exact table_zzIndex.mono _ _ _)
      | (with_reducible exact LeO.refl _)
      | (with_reducible exact LeO.none _)
      | (with_reducible refine LeO.ite ?_ ?_)
      | (with_reducible refine LeO.bind ?_ (fun _ => ?_))
      | exact ih0 _ _ _ _ _ _
      | exact ih1 _ _ _ _
      | exact table_zzIndex.mono _ _ _
      | exact LeO.none _
      | refine LeO.ite ?_ ?_
      | refine LeO.bind ?_ (fun _ => ?_)
    · intro y0 y1 y2 y3
      unfold table_zzReplaceAll.l1
      repeat' first
      | (with_reducible exact ih0 _ _ _ _ _ _)
      | (with_reducible exact ih1 _ _ _ _)
      | (with_reducible exact table_zzIndex.mono _ _ _)
      | (with_reducible exact LeO.refl _)
      | (with_reducible exact LeO.none _)
      | (with_reducible refine LeO.ite ?_ ?_)
      | (with_reducible refine LeO.bind ?_ (fun _ => ?_))
      | exact ih0 _ _ _ _ _ _
      | exact ih1 _ _ _ _
      | exact table_zzIndex.mono _ _ _
      | exact LeO.none _
      | refine LeO.ite ?_ ?_
      | refine LeO.bind ?_ (fun _ => ?_)
theorem table_zzReplaceAll.mono : ∀ a0 a1 a2 k, LeO (table_zzReplaceAll.f k a0 a1 a2) (table_zzReplaceAll.f (k + 1) a0 a1 a2) := by
  intro a0 a1 a2 k
  obtain ⟨ih0, ih1⟩ := table_zzReplaceAll.mono_l k
  unfold table_zzReplaceAll.f
  repeat' first
      | (with_reducible exact ih0 _ _ _ _ _ _)
      | (with_reducible exact ih1 _ _ _ _)
      | (with_reducible exact table_zzIndex.mono _ _ _)
      | (with_reducible exact LeO.refl _)
      | (with_reducible exact LeO.none _)
      | (with_reducible refine LeO.ite ?_ ?_)
      | (with_reducible refine LeO.bind ?_ (fun _ => ?_))
      | exact ih0 _ _ _ _ _ _
      | exact ih1 _ _ _ _
      | exact table_zzIndex.mono _ _ _
      | exact LeO.none _
      | refine LeO.ite ?_ ?_
      | refine LeO.bind ?_ (fun _ => ?_)
set_option maxHeartbeats 8000000 in
set_option maxRecDepth 100000 in
theorem table_zzReplaceAll.calls (k : Nat) (a0 : ByteArray) (a1 : ByteArray) (a2 : ByteArray) (r : ByteArray) (w : World) (h : table_zzReplaceAll.f k a0 a1 a2 = some r) :
    Calls Try.prog 40 #[.string a0, .string a1, .string a2] w fun e w' => e = .returned (.string r) ∧ Below w.heap.size w w' := by
  have HB := Aside0.mk (Below.refl w.heap.size w)
  have H : (if (a1.size : Int) = 0 then (if ([] : List Int).length + a2.size < 140737488355328 then ((itr_make.f a0).bind fun bt120 => (table_zzReplaceAll.l0 k a0 a2 (([] : List Int) ++ bytesOf a2) 0 bt120.1 bt120.2)) else (none)) else (table_zzReplaceAll.l1 k a0 a1 a2 ([] : List Int))) = some r := h
  clear h
  by_cases c4 : (a1.size : Int) = 0
  · rw [if_pos c4] at H
    have c4b0 : ((a1.size : Int) == 0) = true := beq_iff_eq.mpr c4
    have c4b1 : ((a1.size : Int) != 0) = false := bne_eq_false_iff_eq.mpr c4
    clear c4
    by_cases c5 : ([] : List Int).length + a2.size < 140737488355328
    · rw [if_pos c5] at H
      have LMc5 := Aside0.mk c5
      clear c5
      obtain ⟨y117, hy117⟩ : ∃ y_ : List Int, y_ = (([] : List Int) ++ bytesOf a2) := ⟨_, rfl⟩
      replace H : ((itr_make.f a0).bind fun bt120 => (table_zzReplaceAll.l0 k a0 a2 y117 0 bt120.1 bt120.2)) = some r := by first | (rw [hy117]; with_reducible exact H) | (have H2_ := (Option.bind_some _ _).symm.trans H; rw [hy117]; with_reducible exact H2_) | (have H2_ := (Option.bind_some _ _).symm.trans H; with_reducible exact H2_) | with_reducible exact H | (rw [hy117]; exact H) | exact H
      have Ny117 := Aside0.mk hy117
      clear hy117
      replace H := Option.bind_eq_some_iff.mp H
      obtain ⟨⟨t120, t121⟩, A60, H⟩ := H
      replace H : (table_zzReplaceAll.l0 k a0 a2 y117 0 t120 t121) = some r := H
      have A6 := Aside0.mk A60
      clear A60
      have H' := Aside0.mk H
      clear H
      go_enter Try.func40, Try.ntmps40
      go_wp2_with (first | (at_builtin; refine print_append_str (w0 := w) w.heap.size rfl (.tmp 14) _ 46 9 5 rfl Try.underlying46 Try.underlying9 info5 (.slice none 0 0) ([] : List Int) a2 rfl rfl ?aO ?aB ?aS ?aL ?_; (case aB => exact (by repeat (first | (with_reducible first | exact HB.out | apply below_alloc | apply pw_below_drewN | apply below_drew1) | exact HB.out))); (case aO => exact (own_nil _ _ _ _)); (case aS => exact (below_size (by repeat (first | (with_reducible first | exact HB.out | apply below_alloc | apply pw_below_drewN | apply below_drew1) | exact HB.out)))); (case aL => have := LMc5.out; omega); intro v118 w7 ho0 hb hg; have ho := Kd.R_of_own (h1 := fun _ => rfl) (ok := fun _ => True) ho0 (fun _ _ => trivial); clear ho0; have hat := True.intro; rw [← Ny117.out] at ho; change Kd.R (Kd.int .u8) 5 w7 w.heap.size (fun _ => True) v118 y117 at ho; have n0_ := Aside0.mk (hb); have n1_ := Aside0.mk (ho); clear HB; have HB := n0_; have HO119 := n1_; clear n0_ n1_; clear ho hb hg hat) | ((with_reducible refine gate_dst (N := 18) rfl ?_); refine rangeL_ (some 18) rfl rfl rfl Try.underlying9 a0 rfl ?_; (with_reducible refine (itr_make.calls a0 t120 t121 w _ ?side1 A6.out).mono ?_); (case side1 => repeat (first | (with_reducible first | exact HB.out | apply below_alloc | apply pw_below_drewN | apply below_drew1) | exact HB.out)); rintro e w8 ⟨g122, rfl, hi, hb, hb2, hge⟩; refine ⟨_, rfl, ?_⟩; have n0_ := Aside0.mk (Kd.R_below (by (with_reducible repeat (first | apply Kd.R_alloc | apply Kd.R_drewN | apply Kd.R_drew)); exact HO119.out) hb2); have n1_ := Aside0.mk (hb); have n2_ := Aside0.mk (hi); clear HO119; clear HB; have HO119 := n0_; have HB := n1_; have HI122 := n2_; clear n0_ n1_ n2_; (try clear hb); (try clear hb2); (try clear hk); (try clear hi)))
      (try simp only [Act.put, List.setIfInBounds_toArray, List.set_cons_zero, List.set_cons_succ])
      go_loopg [7, 8] k (fun kq v7 v8 w' => ∃ (x7_1 : List Int) (x8_1 : Int) (x123001_1 : Int), v8 = .int .i64 x8_1 ∧ Aside0 (table_zzReplaceAll.l0 kq a0 a2 x7_1 x8_1 t120 x123001_1 = some r) ∧ Aside0 (kq ≤ k) ∧ Aside0 (Kd.R (Kd.int .u8) 5 w' w.heap.size (fun _ => True) v7 x7_1) ∧ Aside0 (IsS195 w w' g122 t120 x123001_1) ∧ Aside0 (Below w.heap.size w w'))
      case atStart => exact ⟨(y117), (0), (t121), (by first | rfl | (simp; done) | (simp [*]; done)), H', ⟨Nat.le_refl _⟩, ⟨by (with_reducible repeat (first | apply Kd.R_alloc | apply Kd.R_drewN | apply Kd.R_drew)); exact HO119.out⟩, ⟨by repeat (first | (with_reducible first | exact HI122.out | apply IsS195.alloc | apply IsS195.drewN | apply IsS195.drew | apply IsS195.set_1) | exact HI122.out)⟩, ⟨by repeat (first | (with_reducible first | exact HB.out | apply below_alloc | apply pw_below_drewN | apply below_drew1 | refine below_set ?_ (IsS195.ge HI122.out)) | exact HB.out)⟩⟩
      case round =>
        clear H'
        try clear p2
        try clear c4
        try clear c4b0
        try clear c4b1
        try clear c5
        obtain ⟨x7_1, x8_1, x123001_1, rfl, HA, HK1, HO_7, HI122, HB⟩ := hrel
        cases gk with
        | zero => exact absurd HA.out (by simp [table_zzReplaceAll.l0])
        | succ k1 =>
          have H := HA.out
          clear HA
          simp only [table_zzReplaceAll.l0] at H
          by_cases c9 : x123001_1 < (t120.size : Int)
          · rw [if_pos c9] at H
            have c9b0 : decide (x123001_1 < (t120.size : Int)) = true := decide_eq_true c9
            clear c9
            replace H := Option.bind_eq_some_iff.mp H
            obtain ⟨⟨t123, t124, t125⟩, A100, H⟩ := H
            replace H : (if t123 > 0 then (if 0 ≤ x8_1 then (if x8_1 ≤ t123 then (if t123 ≤ (a0.size : Int) then (if x7_1.length + (a0.extract (x8_1 : Int).toNat (t123 : Int).toNat).size < 140737488355328 then ((some (x7_1 ++ bytesOf (a0.extract (x8_1 : Int).toNat (t123 : Int).toNat) : List Int)).bind fun y126 => (if y126.length + a2.size < 140737488355328 then (table_zzReplaceAll.l0 k1 a0 a2 (y126 ++ bytesOf a2) t123 t120 t125) else (none))) else (none)) else (none)) else (none)) else (none)) else (table_zzReplaceAll.l0 k1 a0 a2 x7_1 x8_1 t120 t125)) = some r := H
            have A10 := Aside0.mk A100
            clear A100
            by_cases c11 : t123 > 0
            · rw [if_pos c11] at H
              have c11b0 : decide (0 < t123) = true := decide_eq_true c11
              clear c11
              by_cases c12 : 0 ≤ x8_1
              · rw [if_pos c12] at H
                have c12b0 := eq_true c12
                have c12b1 : decide (0 ≤ x8_1) = true := decide_eq_true c12
                clear c12
                by_cases c13 : x8_1 ≤ t123
                · rw [if_pos c13] at H
                  have c13b0 := eq_true c13
                  have c13b1 : decide (x8_1 ≤ t123) = true := decide_eq_true c13
                  clear c13
                  by_cases c14 : t123 ≤ (a0.size : Int)
                  · rw [if_pos c14] at H
                    have c14b0 := eq_true c14
                    have c14b1 : decide (t123 ≤ (a0.size : Int)) = true := decide_eq_true c14
                    clear c14
                    by_cases c15 : x7_1.length + (a0.extract (x8_1 : Int).toNat (t123 : Int).toNat).size < 140737488355328
                    · rw [if_pos c15] at H
                      have LMc15 := Aside0.mk c15
                      clear c15
                      obtain ⟨y126, hy126⟩ : ∃ y_ : List Int, y_ = (x7_1 ++ bytesOf (a0.extract (x8_1 : Int).toNat (t123 : Int).toNat)) := ⟨_, rfl⟩
                      replace H : (if y126.length + a2.size < 140737488355328 then (table_zzReplaceAll.l0 k1 a0 a2 (y126 ++ bytesOf a2) t123 t120 t125) else (none)) = some r := by first | (rw [hy126]; with_reducible exact H) | (have H2_ := (Option.bind_some _ _).symm.trans H; rw [hy126]; with_reducible exact H2_) | (have H2_ := (Option.bind_some _ _).symm.trans H; with_reducible exact H2_) | with_reducible exact H | (rw [hy126]; exact H) | exact H
                      have Ny126 := Aside0.mk hy126
                      clear hy126
                      by_cases c16 : y126.length + a2.size < 140737488355328
                      · rw [if_pos c16] at H
                        have LMc16 := Aside0.mk c16
                        clear c16
                        obtain ⟨y129, hy129⟩ : ∃ y_ : List Int, y_ = (y126 ++ bytesOf a2) := ⟨_, rfl⟩
                        replace H : (table_zzReplaceAll.l0 k1 a0 a2 y129 t123 t120 t125) = some r := by first | (rw [hy129]; with_reducible exact H) | (have H2_ := (Option.bind_some _ _).symm.trans H; rw [hy129]; with_reducible exact H2_) | (have H2_ := (Option.bind_some _ _).symm.trans H; with_reducible exact H2_) | with_reducible exact H | (rw [hy129]; exact H) | exact H
                        have Ny129 := Aside0.mk hy129
                        clear hy129
                        have H' := Aside0.mk H
                        clear H
                        go_wp2_with (first | ((with_reducible refine gate_dst (N := 19) rfl ?_); refine nextL_ (some 19) rfl rfl rfl (.pointer (some ⟨g122, 0, none⟩)) rfl ?_; (with_reducible refine (itr_more.calls g122 t120 x123001_1 t123 t124 t125 w _ ?side1 ?side2 A10.out).mono ?_); (case side1 => repeat (first | (with_reducible first | exact HI122.out | apply IsS195.alloc | apply IsS195.drewN | apply IsS195.drew | apply IsS195.set_1) | exact HI122.out)); (case side2 => repeat (first | (with_reducible first | exact HB.out | apply below_alloc | apply pw_below_drewN | apply below_drew1 | refine below_set ?_ (IsS195.ge HI122.out)) | exact HB.out)); rintro e w17 ⟨rfl, hi, hb, hk⟩; refine ⟨_, rfl, ?_⟩; have n0_ := Aside0.mk (Kd.R_mono (Kd.R_keep (IsS195.apart (show IsS195 w _ g122 t120 x123001_1 from by repeat (first | (with_reducible first | exact HI122.out | apply IsS195.alloc | apply IsS195.drewN | apply IsS195.drew | apply IsS195.set_1) | exact HI122.out)) (by (with_reducible repeat (first | apply Kd.R_alloc | apply Kd.R_drewN | apply Kd.R_drew)); exact HO_7.out) (by decide)) hk (fun _ h => h.2)) (fun _ h => h.1)); have n1_ := Aside0.mk (hb); have n2_ := Aside0.mk (hi); clear HO_7; clear HB; clear HI122; have HO_7 := n0_; have HB := n1_; have HI122 := n2_; clear n0_ n1_ n2_; (try clear hb); (try clear hb2); (try clear hk); (try clear hi)) | (at_builtin; refine print_append_str (w0 := w) w.heap.size rfl (.tmp 24) _ 46 9 5 rfl Try.underlying46 Try.underlying9 info5 u7 x7_1 (a0.extract (x8_1 : Int).toNat (t123 : Int).toNat) rfl rfl ?aO ?aB ?aS ?aL ?_; (case aB => exact (by repeat (first | (with_reducible first | exact HB.out | apply below_alloc | apply pw_below_drewN | apply below_drew1 | refine below_set ?_ (IsS195.ge HI122.out)) | exact HB.out))); (case aO => exact (Kd.own_of_R (by (with_reducible repeat (first | apply Kd.R_alloc | apply Kd.R_drewN | apply Kd.R_drew)); exact HO_7.out))); (case aS => exact (below_size (by repeat (first | (with_reducible first | exact HB.out | apply below_alloc | apply pw_below_drewN | apply below_drew1 | refine below_set ?_ (IsS195.ge HI122.out)) | exact HB.out)))); (case aL => have := LMc15.out; omega); intro v127 w18 ho0 hb hg; have ho := Kd.R_of_own (h1 := fun _ => rfl) (ok := fun _ => True) ho0 (fun _ _ => trivial); clear ho0; have hat := True.intro; rw [← Ny126.out] at ho; change Kd.R (Kd.int .u8) 5 w18 w.heap.size (fun _ => True) v127 y126 at ho; have n0_ := Aside0.mk (IsS195.grown (by repeat (first | (with_reducible first | exact HI122.out | apply IsS195.alloc | apply IsS195.drewN | apply IsS195.drew | apply IsS195.set_1) | exact HI122.out)) hg (IsS195.own_ne HI122.out HO_7.out (by decide))); have n1_ := Aside0.mk (hb); have n2_ := Aside0.mk (ho); clear HI122; clear HB; clear HO_7; have HI122 := n0_; have HB := n1_; have HO128 := n2_; clear n0_ n1_ n2_; clear ho hb hg hat) | (at_builtin; refine print_append_str (w0 := w) w.heap.size rfl (.tmp 29) _ 46 9 5 rfl Try.underlying46 Try.underlying9 info5 v127 y126 a2 rfl rfl ?aO ?aB ?aS ?aL ?_; (case aB => exact (by repeat (first | (with_reducible first | exact HB.out | apply below_alloc | apply pw_below_drewN | apply below_drew1 | refine below_set ?_ (IsS195.ge HI122.out)) | exact HB.out))); (case aO => exact (Kd.own_of_R (by (with_reducible repeat (first | apply Kd.R_alloc | apply Kd.R_drewN | apply Kd.R_drew)); exact HO128.out))); (case aS => exact (below_size (by repeat (first | (with_reducible first | exact HB.out | apply below_alloc | apply pw_below_drewN | apply below_drew1 | refine below_set ?_ (IsS195.ge HI122.out)) | exact HB.out)))); (case aL => have := LMc16.out; omega); intro v130 w19 ho0 hb hg; have ho := Kd.R_of_own (h1 := fun _ => rfl) (ok := fun _ => True) ho0 (fun _ _ => trivial); clear ho0; have hat := True.intro; rw [← Ny129.out] at ho; change Kd.R (Kd.int .u8) 5 w19 w.heap.size (fun _ => True) v130 y129 at ho; have n0_ := Aside0.mk (IsS195.grown (by repeat (first | (with_reducible first | exact HI122.out | apply IsS195.alloc | apply IsS195.drewN | apply IsS195.drew | apply IsS195.set_1) | exact HI122.out)) hg (IsS195.own_ne HI122.out HO128.out (by decide))); have n1_ := Aside0.mk (hb); have n2_ := Aside0.mk (ho); clear HI122; clear HB; clear HO128; have HI122 := n0_; have HB := n1_; have HO131 := n2_; clear n0_ n1_ n2_; clear ho hb hg hat))
                        go_roundg k1
                        case measure => have := HK1.out; omega
                        case rel => exact ⟨(y129), (t123), (t125), (by first | rfl | (simp; done) | (simp [*]; done)), H', ⟨by have := HK1.out; omega⟩, ⟨by (with_reducible repeat (first | apply Kd.R_alloc | apply Kd.R_drewN | apply Kd.R_drew)); exact HO131.out⟩, ⟨by repeat (first | (with_reducible first | exact HI122.out | apply IsS195.alloc | apply IsS195.drewN | apply IsS195.drew | apply IsS195.set_1) | exact HI122.out)⟩, ⟨by repeat (first | (with_reducible first | exact HB.out | apply below_alloc | apply pw_below_drewN | apply below_drew1 | refine below_set ?_ (IsS195.ge HI122.out)) | exact HB.out)⟩⟩
                      · rw [if_neg c16] at H
                        exact absurd H (by simp)
                    · rw [if_neg c15] at H
                      exact absurd H (by simp)
                  · rw [if_neg c14] at H
                    exact absurd H (by simp)
                · rw [if_neg c13] at H
                  exact absurd H (by simp)
              · rw [if_neg c12] at H
                exact absurd H (by simp)
            · rw [if_neg c11] at H
              have c11b0 : decide (0 < t123) = false := decide_eq_false c11
              clear c11
              have H' := Aside0.mk H
              clear H
              go_wp2_with (first | ((with_reducible refine gate_dst (N := 19) rfl ?_); refine nextL_ (some 19) rfl rfl rfl (.pointer (some ⟨g122, 0, none⟩)) rfl ?_; (with_reducible refine (itr_more.calls g122 t120 x123001_1 t123 t124 t125 w _ ?side1 ?side2 A10.out).mono ?_); (case side1 => repeat (first | (with_reducible first | exact HI122.out | apply IsS195.alloc | apply IsS195.drewN | apply IsS195.drew | apply IsS195.set_1) | exact HI122.out)); (case side2 => repeat (first | (with_reducible first | exact HB.out | apply below_alloc | apply pw_below_drewN | apply below_drew1 | refine below_set ?_ (IsS195.ge HI122.out)) | exact HB.out)); rintro e w20 ⟨rfl, hi, hb, hk⟩; refine ⟨_, rfl, ?_⟩; have n0_ := Aside0.mk (Kd.R_mono (Kd.R_keep (IsS195.apart (show IsS195 w _ g122 t120 x123001_1 from by repeat (first | (with_reducible first | exact HI122.out | apply IsS195.alloc | apply IsS195.drewN | apply IsS195.drew | apply IsS195.set_1) | exact HI122.out)) (by (with_reducible repeat (first | apply Kd.R_alloc | apply Kd.R_drewN | apply Kd.R_drew)); exact HO_7.out) (by decide)) hk (fun _ h => h.2)) (fun _ h => h.1)); have n1_ := Aside0.mk (hb); have n2_ := Aside0.mk (hi); clear HO_7; clear HB; clear HI122; have HO_7 := n0_; have HB := n1_; have HI122 := n2_; clear n0_ n1_ n2_; (try clear hb); (try clear hb2); (try clear hk); (try clear hi)))
              go_roundg k1
              case measure => have := HK1.out; omega
              case rel => exact ⟨(x7_1), (x8_1), (t125), (by first | rfl | (simp; done) | (simp [*]; done)), H', ⟨by have := HK1.out; omega⟩, ⟨by (with_reducible repeat (first | apply Kd.R_alloc | apply Kd.R_drewN | apply Kd.R_drew)); exact HO_7.out⟩, ⟨by repeat (first | (with_reducible first | exact HI122.out | apply IsS195.alloc | apply IsS195.drewN | apply IsS195.drew | apply IsS195.set_1) | exact HI122.out)⟩, ⟨by repeat (first | (with_reducible first | exact HB.out | apply below_alloc | apply pw_below_drewN | apply below_drew1 | refine below_set ?_ (IsS195.ge HI122.out)) | exact HB.out)⟩⟩
          · rw [if_neg c9] at H
            have c9b0 : decide (x123001_1 < (t120.size : Int)) = false := decide_eq_false c9
            clear c9
            replace H := Option.bind_eq_some_iff.mp H
            obtain ⟨t132, A210, H⟩ := H
            replace H : (if (a0.size : Int) > 0 then (if 0 ≤ x8_1 then (if x8_1 ≤ (a0.size : Int) then (if x7_1.length + (a0.extract (x8_1 : Int).toNat a0.size).size < 140737488355328 then ((some (x7_1 ++ bytesOf (a0.extract (x8_1 : Int).toNat a0.size) : List Int)).bind fun y133 => (if y133.length + a2.size < 140737488355328 then (some (strOfNums (y133 ++ bytesOf a2))) else (none))) else (none)) else (none)) else (none)) else (some (strOfNums x7_1))) = some r := H
            have A21 := Aside0.mk A210
            clear A210
            by_cases c22 : (a0.size : Int) > 0
            · rw [if_pos c22] at H
              have c22b0 : decide (0 < (a0.size : Int)) = true := decide_eq_true c22
              have c22b1 : decide (0 < a0.size) = true := decide_eq_true (by omega)
              clear c22
              by_cases c23 : 0 ≤ x8_1
              · rw [if_pos c23] at H
                have c23b0 := eq_true c23
                have c23b1 : decide (0 ≤ x8_1) = true := decide_eq_true c23
                clear c23
                by_cases c24 : x8_1 ≤ (a0.size : Int)
                · rw [if_pos c24] at H
                  have c24b0 := eq_true c24
                  have c24b1 : decide (x8_1 ≤ (a0.size : Int)) = true := decide_eq_true c24
                  clear c24
                  by_cases c25 : x7_1.length + (a0.extract (x8_1 : Int).toNat a0.size).size < 140737488355328
                  · rw [if_pos c25] at H
                    have LMc25 := Aside0.mk c25
                    clear c25
                    obtain ⟨y133, hy133⟩ : ∃ y_ : List Int, y_ = (x7_1 ++ bytesOf (a0.extract (x8_1 : Int).toNat a0.size)) := ⟨_, rfl⟩
                    replace H : (if y133.length + a2.size < 140737488355328 then (some (strOfNums (y133 ++ bytesOf a2))) else (none)) = some r := by first | (rw [hy133]; with_reducible exact H) | (have H2_ := (Option.bind_some _ _).symm.trans H; rw [hy133]; with_reducible exact H2_) | (have H2_ := (Option.bind_some _ _).symm.trans H; with_reducible exact H2_) | with_reducible exact H | (rw [hy133]; exact H) | exact H
                    have Ny133 := Aside0.mk hy133
                    clear hy133
                    by_cases c26 : y133.length + a2.size < 140737488355328
                    · rw [if_pos c26] at H
                      have LMc26 := Aside0.mk c26
                      clear c26
                      obtain ⟨y136, hy136⟩ : ∃ y_ : List Int, y_ = (y133 ++ bytesOf a2) := ⟨_, rfl⟩
                      replace H : (some (strOfNums y136)) = some r := by first | (rw [hy136]; with_reducible exact H) | (have H2_ := (Option.bind_some _ _).symm.trans H; rw [hy136]; with_reducible exact H2_) | (have H2_ := (Option.bind_some _ _).symm.trans H; with_reducible exact H2_) | with_reducible exact H | (rw [hy136]; exact H) | exact H
                      have Ny136 := Aside0.mk hy136
                      clear hy136
                      obtain rfl := Option.some.inj H
                      go_wp2_with (first | ((with_reducible refine gate_dst (N := 19) rfl ?_); refine nextL_ (some 19) rfl rfl rfl (.pointer (some ⟨g122, 0, none⟩)) rfl ?_; (with_reducible refine (itr_end.calls g122 t120 x123001_1 t132 w _ ?side1 ?side2 A21.out).mono ?_); (case side1 => repeat (first | (with_reducible first | exact HI122.out | apply IsS195.alloc | apply IsS195.drewN | apply IsS195.drew | apply IsS195.set_1) | exact HI122.out)); (case side2 => repeat (first | (with_reducible first | exact HB.out | apply below_alloc | apply pw_below_drewN | apply below_drew1 | refine below_set ?_ (IsS195.ge HI122.out)) | exact HB.out)); rintro e w27 ⟨rfl, hi, hb, hk⟩; refine ⟨_, rfl, ?_⟩; have n0_ := Aside0.mk (Kd.R_mono (Kd.R_keep (IsS195.apart (show IsS195 w _ g122 t120 x123001_1 from by repeat (first | (with_reducible first | exact HI122.out | apply IsS195.alloc | apply IsS195.drewN | apply IsS195.drew | apply IsS195.set_1) | exact HI122.out)) (by (with_reducible repeat (first | apply Kd.R_alloc | apply Kd.R_drewN | apply Kd.R_drew)); exact HO_7.out) (by decide)) hk (fun _ h => h.2)) (fun _ h => h.1)); have n1_ := Aside0.mk (hb); have n2_ := Aside0.mk (hi); clear HO_7; clear HB; clear HI122; have HO_7 := n0_; have HB := n1_; have HI122 := n2_; clear n0_ n1_ n2_; (try clear hb); (try clear hb2); (try clear hk); (try clear hi)) | (at_builtin; refine print_append_str (w0 := w) w.heap.size rfl (.tmp 36) _ 46 9 5 rfl Try.underlying46 Try.underlying9 info5 u7 x7_1 (a0.extract (x8_1 : Int).toNat a0.size) rfl rfl ?aO ?aB ?aS ?aL ?_; (case aB => exact (by repeat (first | (with_reducible first | exact HB.out | apply below_alloc | apply pw_below_drewN | apply below_drew1 | refine below_set ?_ (IsS195.ge HI122.out)) | exact HB.out))); (case aO => exact (Kd.own_of_R (by (with_reducible repeat (first | apply Kd.R_alloc | apply Kd.R_drewN | apply Kd.R_drew)); exact HO_7.out))); (case aS => exact (below_size (by repeat (first | (with_reducible first | exact HB.out | apply below_alloc | apply pw_below_drewN | apply below_drew1 | refine below_set ?_ (IsS195.ge HI122.out)) | exact HB.out)))); (case aL => have := LMc25.out; omega); intro v134 w28 ho0 hb hg; have ho := Kd.R_of_own (h1 := fun _ => rfl) (ok := fun _ => True) ho0 (fun _ _ => trivial); clear ho0; have hat := True.intro; rw [← Ny133.out] at ho; change Kd.R (Kd.int .u8) 5 w28 w.heap.size (fun _ => True) v134 y133 at ho; have n0_ := Aside0.mk (IsS195.grown (by repeat (first | (with_reducible first | exact HI122.out | apply IsS195.alloc | apply IsS195.drewN | apply IsS195.drew | apply IsS195.set_1) | exact HI122.out)) hg (IsS195.own_ne HI122.out HO_7.out (by decide))); have n1_ := Aside0.mk (hb); have n2_ := Aside0.mk (ho); clear HI122; clear HB; clear HO_7; have HI122 := n0_; have HB := n1_; have HO135 := n2_; clear n0_ n1_ n2_; clear ho hb hg hat) | (at_builtin; refine print_append_str (w0 := w) w.heap.size rfl (.tmp 40) _ 46 9 5 rfl Try.underlying46 Try.underlying9 info5 v134 y133 a2 rfl rfl ?aO ?aB ?aS ?aL ?_; (case aB => exact (by repeat (first | (with_reducible first | exact HB.out | apply below_alloc | apply pw_below_drewN | apply below_drew1 | refine below_set ?_ (IsS195.ge HI122.out)) | exact HB.out))); (case aO => exact (Kd.own_of_R (by (with_reducible repeat (first | apply Kd.R_alloc | apply Kd.R_drewN | apply Kd.R_drew)); exact HO135.out))); (case aS => exact (below_size (by repeat (first | (with_reducible first | exact HB.out | apply below_alloc | apply pw_below_drewN | apply below_drew1 | refine below_set ?_ (IsS195.ge HI122.out)) | exact HB.out)))); (case aL => have := LMc26.out; omega); intro v137 w29 ho0 hb hg; have ho := Kd.R_of_own (h1 := fun _ => rfl) (ok := fun _ => True) ho0 (fun _ _ => trivial); clear ho0; have hat := True.intro; rw [← Ny136.out] at ho; change Kd.R (Kd.int .u8) 5 w29 w.heap.size (fun _ => True) v137 y136 at ho; have n0_ := Aside0.mk (IsS195.grown (by repeat (first | (with_reducible first | exact HI122.out | apply IsS195.alloc | apply IsS195.drewN | apply IsS195.drew | apply IsS195.set_1) | exact HI122.out)) hg (IsS195.own_ne HI122.out HO135.out (by decide))); have n1_ := Aside0.mk (hb); have n2_ := Aside0.mk (ho); clear HI122; clear HB; clear HO135; have HI122 := n0_; have HB := n1_; have HO138 := n2_; clear n0_ n1_ n2_; clear ho hb hg hat; have hcv30 := own_string (P := Try.prog) Try.underlying46 Try.underlying5 Try.underlying9 (Kd.own_of_R HO138.out)))
                      go_ret
                      exact ⟨by first | rfl | (simp [errW_none, errW_some] <;> rfl) | (simp [*, errW_none, errW_some] <;> rfl), by repeat (first | (with_reducible first | exact HB.out | apply below_alloc | apply pw_below_drewN | apply below_drew1 | refine below_set ?_ (IsS195.ge HI122.out)) | exact HB.out)⟩
                    · rw [if_neg c26] at H
                      exact absurd H (by simp)
                  · rw [if_neg c25] at H
                    exact absurd H (by simp)
                · rw [if_neg c24] at H
                  exact absurd H (by simp)
              · rw [if_neg c23] at H
                exact absurd H (by simp)
            · rw [if_neg c22] at H
              have c22b0 : decide (0 < (a0.size : Int)) = false := decide_eq_false c22
              have c22b1 : decide (0 < a0.size) = false := decide_eq_false (by omega)
              clear c22
              obtain rfl := Option.some.inj H
              go_wp2_with (first | ((with_reducible refine gate_dst (N := 19) rfl ?_); refine nextL_ (some 19) rfl rfl rfl (.pointer (some ⟨g122, 0, none⟩)) rfl ?_; (with_reducible refine (itr_end.calls g122 t120 x123001_1 t132 w _ ?side1 ?side2 A21.out).mono ?_); (case side1 => repeat (first | (with_reducible first | exact HI122.out | apply IsS195.alloc | apply IsS195.drewN | apply IsS195.drew | apply IsS195.set_1) | exact HI122.out)); (case side2 => repeat (first | (with_reducible first | exact HB.out | apply below_alloc | apply pw_below_drewN | apply below_drew1 | refine below_set ?_ (IsS195.ge HI122.out)) | exact HB.out)); rintro e w31 ⟨rfl, hi, hb, hk⟩; refine ⟨_, rfl, ?_⟩; have n0_ := Aside0.mk (Kd.R_mono (Kd.R_keep (IsS195.apart (show IsS195 w _ g122 t120 x123001_1 from by repeat (first | (with_reducible first | exact HI122.out | apply IsS195.alloc | apply IsS195.drewN | apply IsS195.drew | apply IsS195.set_1) | exact HI122.out)) (by (with_reducible repeat (first | apply Kd.R_alloc | apply Kd.R_drewN | apply Kd.R_drew)); exact HO_7.out) (by decide)) hk (fun _ h => h.2)) (fun _ h => h.1)); have n1_ := Aside0.mk (hb); have n2_ := Aside0.mk (hi); clear HO_7; clear HB; clear HI122; have HO_7 := n0_; have HB := n1_; have HI122 := n2_; clear n0_ n1_ n2_; (try clear hb); (try clear hb2); (try clear hk); (try clear hi); have hcv32 := own_string (P := Try.prog) Try.underlying46 Try.underlying5 Try.underlying9 (Kd.own_of_R HO_7.out)))
              go_ret
              exact ⟨by first | rfl | (simp [errW_none, errW_some] <;> rfl) | (simp [*, errW_none, errW_some] <;> rfl), by repeat (first | (with_reducible first | exact HB.out | apply below_alloc | apply pw_below_drewN | apply below_drew1 | refine below_set ?_ (IsS195.ge HI122.out)) | exact HB.out)⟩
    · rw [if_neg c5] at H
      exact absurd H (by simp)
  · rw [if_neg c4] at H
    have c4b0 : ((a1.size : Int) == 0) = false := beq_eq_false_iff_ne.mpr c4
    have c4b1 : ((a1.size : Int) != 0) = true := bne_iff_ne.mpr c4
    have H' := Aside0.mk H
    clear H
    go_enter Try.func40, Try.ntmps40
    go_wp2
    (try simp only [Act.put, List.setIfInBounds_toArray, List.set_cons_zero, List.set_cons_succ])
    go_loopg [0, 7] k (fun kq v0 v7 w' => ∃ (x0_1 : ByteArray) (x7_1 : List Int), v0 = .string x0_1 ∧ Aside0 (table_zzReplaceAll.l1 kq x0_1 a1 a2 x7_1 = some r) ∧ Aside0 (kq ≤ k) ∧ Aside0 (Kd.R (Kd.int .u8) 5 w' w.heap.size (fun _ => True) v7 x7_1) ∧ Aside0 (Below w.heap.size w w'))
    case atStart => exact ⟨(a0), (([] : List Int)), (by first | rfl | (simp; done) | (simp [*]; done)), H', ⟨Nat.le_refl _⟩, ⟨by first | exact Kd.R_nil _ _ _ _ _ | exact Kd.N_nil _ _ _ _ _ | exact Kd.V_nil _ _ _ _ _ | exact Kd.Q_nil _ _ _ _ _ | exact Kd.S_nil _ _ _ _ _⟩, ⟨by repeat (first | (with_reducible first | exact HB.out | apply below_alloc | apply pw_below_drewN | apply below_drew1) | exact HB.out)⟩⟩
    case round =>
      clear H'
      try clear c1
      try clear c2
      try clear p2
      try clear hcv3
      try clear c4
      try clear c4b0
      try clear c4b1
      try clear c5
      try clear c9
      try clear c9b0
      try clear c11
      try clear c11b0
      try clear c12
      try clear c12b0
      try clear c12b1
      try clear c13
      try clear c13b0
      try clear c13b1
      try clear c14
      try clear c14b0
      try clear c14b1
      try clear c15
      try clear c16
      try clear c22
      try clear c22b0
      try clear c22b1
      try clear c23
      try clear c23b0
      try clear c23b1
      try clear c24
      try clear c24b0
      try clear c24b1
      try clear c25
      try clear c26
      try clear hcv30
      try clear hcv32
      try clear p2
      obtain ⟨x0_1, x7_1, rfl, HA, HK1, HO_7, HB⟩ := hrel
      cases gk with
      | zero => exact absurd HA.out (by simp [table_zzReplaceAll.l1])
      | succ k1 =>
        have H := HA.out
        clear HA
        simp only [table_zzReplaceAll.l1] at H
        replace H := Option.bind_eq_some_iff.mp H
        obtain ⟨t139, A330, H⟩ := H
        replace H : (if t139 < 0 then (if x7_1.length + x0_1.size < 140737488355328 then (some (strOfNums (x7_1 ++ bytesOf x0_1))) else (none)) else (if 0 ≤ t139 then (if t139 ≤ (x0_1.size : Int) then (if x7_1.length + (x0_1.extract 0 (t139 : Int).toNat).size < 140737488355328 then ((some (x7_1 ++ bytesOf (x0_1.extract 0 (t139 : Int).toNat) : List Int)).bind fun y143 => (if y143.length + a2.size < 140737488355328 then (if 0 ≤ (wrap64 (t139 + (a1.size : Int))) then (if (wrap64 (t139 + (a1.size : Int))) ≤ (x0_1.size : Int) then (table_zzReplaceAll.l1 k1 (x0_1.extract ((wrap64 (t139 + (a1.size : Int))) : Int).toNat x0_1.size) a1 a2 (y143 ++ bytesOf a2)) else (none)) else (none)) else (none))) else (none)) else (none)) else (none))) = some r := H
        have A33 := Aside0.mk A330
        clear A330
        by_cases c34 : t139 < 0
        · rw [if_pos c34] at H
          have c34b0 : decide (t139 < 0) = true := decide_eq_true c34
          clear c34
          by_cases c35 : x7_1.length + x0_1.size < 140737488355328
          · rw [if_pos c35] at H
            have LMc35 := Aside0.mk c35
            clear c35
            obtain ⟨y140, hy140⟩ : ∃ y_ : List Int, y_ = (x7_1 ++ bytesOf x0_1) := ⟨_, rfl⟩
            replace H : (some (strOfNums y140)) = some r := by first | (rw [hy140]; with_reducible exact H) | (have H2_ := (Option.bind_some _ _).symm.trans H; rw [hy140]; with_reducible exact H2_) | (have H2_ := (Option.bind_some _ _).symm.trans H; with_reducible exact H2_) | with_reducible exact H | (rw [hy140]; exact H) | exact H
            have Ny140 := Aside0.mk hy140
            clear hy140
            obtain rfl := Option.some.inj H
            go_wp2_with (first | ((with_reducible refine gate_callee (f := 51) rfl ?_); refine goesL_ (some 47) rfl rfl Try.func51 (by kernel_rfl) rfl #[.string x0_1, .string a1] rfl (by (try simp only [List.map_toArray, List.map_cons, List.map_nil]); first | done | rfl | (simp only [List.length_drop, List.length_take]; rfl)) ?_; (with_reducible refine (table_zzIndex.calls k1 x0_1 a1 t139 _ A33.out).mono ?_); rintro e w' ⟨rfl, ⟨nd, rfl⟩⟩; refine ⟨_, rfl, ?_⟩) | (at_builtin; refine print_append_str (w0 := w) w.heap.size rfl (.tmp 50) _ 46 9 5 rfl Try.underlying46 Try.underlying9 info5 u7 x7_1 x0_1 rfl rfl ?aO ?aB ?aS ?aL ?_; (case aB => exact (by repeat (first | (with_reducible first | exact HB.out | apply below_alloc | apply pw_below_drewN | apply below_drew1) | exact HB.out))); (case aO => exact (Kd.own_of_R (by (with_reducible repeat (first | apply Kd.R_alloc | apply Kd.R_drewN | apply Kd.R_drew)); exact HO_7.out))); (case aS => exact (below_size (by repeat (first | (with_reducible first | exact HB.out | apply below_alloc | apply pw_below_drewN | apply below_drew1) | exact HB.out)))); (case aL => have := LMc35.out; omega); intro v141 w36 ho0 hb hg; have ho := Kd.R_of_own (h1 := fun _ => rfl) (ok := fun _ => True) ho0 (fun _ _ => trivial); clear ho0; have hat := True.intro; rw [← Ny140.out] at ho; change Kd.R (Kd.int .u8) 5 w36 w.heap.size (fun _ => True) v141 y140 at ho; have n0_ := Aside0.mk (hb); have n1_ := Aside0.mk (ho); clear HB; clear HO_7; have HB := n0_; have HO142 := n1_; clear n0_ n1_; clear ho hb hg hat; have hcv37 := own_string (P := Try.prog) Try.underlying46 Try.underlying5 Try.underlying9 (Kd.own_of_R HO142.out)))
            go_ret
            exact ⟨by first | rfl | (simp [errW_none, errW_some] <;> rfl) | (simp [*, errW_none, errW_some] <;> rfl), by repeat (first | (with_reducible first | exact HB.out | apply below_alloc | apply pw_below_drewN | apply below_drew1) | exact HB.out)⟩
          · rw [if_neg c35] at H
            exact absurd H (by simp)
        · rw [if_neg c34] at H
          have c34b0 : decide (t139 < 0) = false := decide_eq_false c34
          clear c34
          by_cases c38 : 0 ≤ t139
          · rw [if_pos c38] at H
            have c38b0 := eq_true c38
            have c38b1 : decide (0 ≤ t139) = true := decide_eq_true c38
            clear c38
            by_cases c39 : t139 ≤ (x0_1.size : Int)
            · rw [if_pos c39] at H
              have c39b0 := eq_true c39
              have c39b1 : decide (t139 ≤ (x0_1.size : Int)) = true := decide_eq_true c39
              clear c39
              by_cases c40 : x7_1.length + (x0_1.extract 0 (t139 : Int).toNat).size < 140737488355328
              · rw [if_pos c40] at H
                have LMc40 := Aside0.mk c40
                clear c40
                obtain ⟨y143, hy143⟩ : ∃ y_ : List Int, y_ = (x7_1 ++ bytesOf (x0_1.extract 0 (t139 : Int).toNat)) := ⟨_, rfl⟩
                replace H : (if y143.length + a2.size < 140737488355328 then (if 0 ≤ (wrap64 (t139 + (a1.size : Int))) then (if (wrap64 (t139 + (a1.size : Int))) ≤ (x0_1.size : Int) then (table_zzReplaceAll.l1 k1 (x0_1.extract ((wrap64 (t139 + (a1.size : Int))) : Int).toNat x0_1.size) a1 a2 (y143 ++ bytesOf a2)) else (none)) else (none)) else (none)) = some r := by first | (rw [hy143]; with_reducible exact H) | (have H2_ := (Option.bind_some _ _).symm.trans H; rw [hy143]; with_reducible exact H2_) | (have H2_ := (Option.bind_some _ _).symm.trans H; with_reducible exact H2_) | with_reducible exact H | (rw [hy143]; exact H) | exact H
                have Ny143 := Aside0.mk hy143
                clear hy143
                by_cases c41 : y143.length + a2.size < 140737488355328
                · rw [if_pos c41] at H
                  have LMc41 := Aside0.mk c41
                  clear c41
                  obtain ⟨y146, hy146⟩ : ∃ y_ : List Int, y_ = (y143 ++ bytesOf a2) := ⟨_, rfl⟩
                  replace H : (if 0 ≤ (wrap64 (t139 + (a1.size : Int))) then (if (wrap64 (t139 + (a1.size : Int))) ≤ (x0_1.size : Int) then (table_zzReplaceAll.l1 k1 (x0_1.extract ((wrap64 (t139 + (a1.size : Int))) : Int).toNat x0_1.size) a1 a2 y146) else (none)) else (none)) = some r := by first | (rw [hy146]; with_reducible exact H) | (have H2_ := (Option.bind_some _ _).symm.trans H; rw [hy146]; with_reducible exact H2_) | (have H2_ := (Option.bind_some _ _).symm.trans H; with_reducible exact H2_) | with_reducible exact H | (rw [hy146]; exact H) | exact H
                  have Ny146 := Aside0.mk hy146
                  clear hy146
                  obtain ⟨ji42, hji42⟩ : ∃ j_ : Int, (wrap64 (t139 + (a1.size : Int))) = j_ := ⟨_, rfl⟩
                  replace H : (if 0 ≤ (ji42) then (if (ji42) ≤ (x0_1.size : Int) then (table_zzReplaceAll.l1 k1 (x0_1.extract ((ji42) : Int).toNat x0_1.size) a1 a2 y146) else (none)) else (none)) = some r := by first | (rw [hji42] at H; exact H) | (simp only [hji42] at H ⊢; exact H)
                  (try rw [hji42] at A33)
                  have hji42w : (IntKind.i64.wrap (t139 + (a1.size : Int))) = ji42 := (i64_w _).trans hji42
                  by_cases c43 : 0 ≤ (ji42)
                  · rw [if_pos c43] at H
                    have c43b0 := eq_true c43
                    have c43b1 : decide (0 ≤ (ji42)) = true := decide_eq_true c43
                    clear c43
                    by_cases c44 : (ji42) ≤ (x0_1.size : Int)
                    · rw [if_pos c44] at H
                      have c44b0 := eq_true c44
                      have c44b1 : decide ((ji42) ≤ (x0_1.size : Int)) = true := decide_eq_true c44
                      clear c44
                      have H' := Aside0.mk H
                      clear H
                      go_wp2_with (first | ((with_reducible refine gate_callee (f := 51) rfl ?_); refine goesL_ (some 47) rfl rfl Try.func51 (by kernel_rfl) rfl #[.string x0_1, .string a1] rfl (by (try simp only [List.map_toArray, List.map_cons, List.map_nil]); first | done | rfl | (simp only [List.length_drop, List.length_take]; rfl)) ?_; (with_reducible refine (table_zzIndex.calls k1 x0_1 a1 t139 _ A33.out).mono ?_); rintro e w' ⟨rfl, ⟨nd, rfl⟩⟩; refine ⟨_, rfl, ?_⟩) | (at_builtin; refine print_append_str (w0 := w) w.heap.size rfl (.tmp 54) _ 46 9 5 rfl Try.underlying46 Try.underlying9 info5 u7 x7_1 (x0_1.extract 0 (t139 : Int).toNat) rfl rfl ?aO ?aB ?aS ?aL ?_; (case aB => exact (by repeat (first | (with_reducible first | exact HB.out | apply below_alloc | apply pw_below_drewN | apply below_drew1) | exact HB.out))); (case aO => exact (Kd.own_of_R (by (with_reducible repeat (first | apply Kd.R_alloc | apply Kd.R_drewN | apply Kd.R_drew)); exact HO_7.out))); (case aS => exact (below_size (by repeat (first | (with_reducible first | exact HB.out | apply below_alloc | apply pw_below_drewN | apply below_drew1) | exact HB.out)))); (case aL => have := LMc40.out; omega); intro v144 w45 ho0 hb hg; have ho := Kd.R_of_own (h1 := fun _ => rfl) (ok := fun _ => True) ho0 (fun _ _ => trivial); clear ho0; have hat := True.intro; rw [← Ny143.out] at ho; change Kd.R (Kd.int .u8) 5 w45 w.heap.size (fun _ => True) v144 y143 at ho; have n0_ := Aside0.mk (hb); have n1_ := Aside0.mk (ho); clear HB; clear HO_7; have HB := n0_; have HO145 := n1_; clear n0_ n1_; clear ho hb hg hat) | (at_builtin; refine print_append_str (w0 := w) w.heap.size rfl (.tmp 58) _ 46 9 5 rfl Try.underlying46 Try.underlying9 info5 v144 y143 a2 rfl rfl ?aO ?aB ?aS ?aL ?_; (case aB => exact (by repeat (first | (with_reducible first | exact HB.out | apply below_alloc | apply pw_below_drewN | apply below_drew1) | exact HB.out))); (case aO => exact (Kd.own_of_R (by (with_reducible repeat (first | apply Kd.R_alloc | apply Kd.R_drewN | apply Kd.R_drew)); exact HO145.out))); (case aS => exact (below_size (by repeat (first | (with_reducible first | exact HB.out | apply below_alloc | apply pw_below_drewN | apply below_drew1) | exact HB.out)))); (case aL => have := LMc41.out; omega); intro v147 w46 ho0 hb hg; have ho := Kd.R_of_own (h1 := fun _ => rfl) (ok := fun _ => True) ho0 (fun _ _ => trivial); clear ho0; have hat := True.intro; rw [← Ny146.out] at ho; change Kd.R (Kd.int .u8) 5 w46 w.heap.size (fun _ => True) v147 y146 at ho; have n0_ := Aside0.mk (hb); have n1_ := Aside0.mk (ho); clear HB; clear HO145; have HB := n0_; have HO148 := n1_; clear n0_ n1_; clear ho hb hg hat))
                      go_roundg k1
                      case measure => have := HK1.out; omega
                      case rel => exact ⟨(x0_1.extract ((ji42) : Int).toNat x0_1.size), (y146), (by first | rfl | (simp; done) | (simp only [← hji42] <;> (first | rfl | simp)) | (simp [*]; done)), H', ⟨by have := HK1.out; omega⟩, ⟨by (with_reducible repeat (first | apply Kd.R_alloc | apply Kd.R_drewN | apply Kd.R_drew)); exact HO148.out⟩, ⟨by repeat (first | (with_reducible first | exact HB.out | apply below_alloc | apply pw_below_drewN | apply below_drew1) | exact HB.out)⟩⟩
                    · rw [if_neg c44] at H
                      exact absurd H (by simp)
                  · rw [if_neg c43] at H
                    exact absurd H (by simp)
                · rw [if_neg c41] at H
                  exact absurd H (by simp)
              · rw [if_neg c40] at H
                exact absurd H (by simp)
            · rw [if_neg c39] at H
              exact absurd H (by simp)
          · rw [if_neg c38] at H
            exact absurd H (by simp)

-- NOT PRINTED: function 27 (table_Table_tsvRenderRow)

-- NOT PRINTED: function 28 (strings_Builder_String)

-- NOT PRINTED: function 22 (table_ZzTsvRow)

end Go.Proofs.Ytelbcekkfdpoaaa.GTsvHelp
