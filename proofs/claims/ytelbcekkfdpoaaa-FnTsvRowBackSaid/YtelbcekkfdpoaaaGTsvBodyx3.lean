-- Written by gprint.py, a program of this session over the kit's printer, with contracts of its own for what the printer does not take. Not trusted: Lean checks it.
import Derived.Test.YtelbcekkfdpoaaaGTsvBodyx0
import Derived.Test.YtelbcekkfdpoaaaGTsvBodyx2
namespace Go.Proofs.Ytelbcekkfdpoaaa.GTsvBody
open Go.RowKit Go.Proofs.Ytelbcekkfdpoaaa.Itr Go.Proofs.YtelbcekkfdpoaaaW.PrintWords Go.Proofs.YtelbcekkfdpoaaaW.PrintLast Go.Proofs.YtelbcekkfdpoaaaW.PrintMore
attribute [local go_sem] max2_int min2_int max_two min_two max_three min_three max_four min_four   -- for this text's walks alone
set_option linter.unusedVariables false
set_option linter.unusedSimpArgs false
noncomputable section

/-! ### table_zzReplaceAll: function 40 -/
mutual
def table_zzReplaceAll.l0 : Nat → ByteArray → ByteArray → List Int → Int → ByteArray → Int → Option (ByteArray)
  | 0, _, _, _, _, _, _ => none
  | k + 1, x0, x2, x7, x8, x143000, x143001 => if x143001 < (x143000.size : Int) then ((itr_more.f x143000 x143001).bind fun bt143 => (if bt143.1 > 0 then (if 0 ≤ x8 then (if x8 ≤ bt143.1 then (if bt143.1 ≤ (x0.size : Int) then (if x7.length + (x0.extract (x8 : Int).toNat (bt143.1 : Int).toNat).size < 140737488355328 then ((some (x7 ++ bytesOf (x0.extract (x8 : Int).toNat (bt143.1 : Int).toNat) : List Int)).bind fun y146 => (if y146.length + x2.size < 140737488355328 then (table_zzReplaceAll.l0 k x0 x2 (y146 ++ bytesOf x2) bt143.1 x143000 bt143.2.2) else (none))) else (none)) else (none)) else (none)) else (none)) else (table_zzReplaceAll.l0 k x0 x2 x7 x8 x143000 bt143.2.2))) else ((itr_end.f x143000 x143001).bind fun t152 => (if (x0.size : Int) > 0 then (if 0 ≤ x8 then (if x8 ≤ (x0.size : Int) then (if x7.length + (x0.extract (x8 : Int).toNat x0.size).size < 140737488355328 then ((some (x7 ++ bytesOf (x0.extract (x8 : Int).toNat x0.size) : List Int)).bind fun y153 => (if y153.length + x2.size < 140737488355328 then (some (strOfNums (y153 ++ bytesOf x2))) else (none))) else (none)) else (none)) else (none)) else (some (strOfNums x7))))
def table_zzReplaceAll.l1 : Nat → ByteArray → ByteArray → ByteArray → List Int → Option (ByteArray)
  | 0, _, _, _, _ => none
  | k + 1, x0, x1, x2, x7 => (table_zzIndex.f k x0 x1).bind fun t159 => (if t159 < 0 then (if x7.length + x0.size < 140737488355328 then (some (strOfNums (x7 ++ bytesOf x0))) else (none)) else (if 0 ≤ t159 then (if t159 ≤ (x0.size : Int) then (if x7.length + (x0.extract 0 (t159 : Int).toNat).size < 140737488355328 then ((some (x7 ++ bytesOf (x0.extract 0 (t159 : Int).toNat) : List Int)).bind fun y163 => (if y163.length + x2.size < 140737488355328 then (if 0 ≤ (wrap64 (t159 + (x1.size : Int))) then (if (wrap64 (t159 + (x1.size : Int))) ≤ (x0.size : Int) then (table_zzReplaceAll.l1 k (x0.extract ((wrap64 (t159 + (x1.size : Int))) : Int).toNat x0.size) x1 x2 (y163 ++ bytesOf x2)) else (none)) else (none)) else (none))) else (none)) else (none)) else (none)))
end
def table_zzReplaceAll.f (k : Nat) (a0 : ByteArray) (a1 : ByteArray) (a2 : ByteArray) : Option (ByteArray) := if (a1.size : Int) = 0 then (if ([] : List Int).length + a2.size < 140737488355328 then ((itr_make.f a0).bind fun bt140 => (table_zzReplaceAll.l0 k a0 a2 (([] : List Int) ++ bytesOf a2) 0 bt140.1 bt140.2)) else (none)) else (table_zzReplaceAll.l1 k a0 a1 a2 ([] : List Int))
theorem table_zzReplaceAll.mono_l : ∀ k, (∀ y0 y1 y2 y3 y4 y5, LeO (table_zzReplaceAll.l0 k y0 y1 y2 y3 y4 y5) (table_zzReplaceAll.l0 (k + 1) y0 y1 y2 y3 y4 y5)) ∧ (∀ y0 y1 y2 y3, LeO (table_zzReplaceAll.l1 k y0 y1 y2 y3) (table_zzReplaceAll.l1 (k + 1) y0 y1 y2 y3))
  | 0 => ⟨fun _ _ _ _ _ _ r h => by simp [table_zzReplaceAll.l0] at h, fun _ _ _ _ r h => by simp [table_zzReplaceAll.l1] at h⟩
  | k + 1 => by
    obtain ⟨ih0, ih1⟩ := table_zzReplaceAll.mono_l k
    refine ⟨?_, ?_⟩
    · intro y0 y1 y2 y3 y4 y5
      unfold table_zzReplaceAll.l0
      repeat' first
      | (with_reducible exact ih0 _ _ _ _ _ _)
      | (with_reducible exact ih1 _ _ _ _)
      | (with_reducible exact table_zzIndex.mono _ _ _)
      | (with_reducible exact LeO.refl _)
      | (with_reducible exact LeO.none _)
      | (with_reducible refine LeO.ite ?_ ?_)
      | (with_reducible refine LeO.bind ?_ (fun _ => ?_))
      | exact ih0 _ _ _ _ _ _
      | exact ih1 _ _ _ _
      | exact table_zzIndex.mono _ _ _
      | exact LeO.none _
      | refine LeO.ite ?_ ?_
      | refine LeO.bind ?_ (fun _ => ?_)
    · intro y0 y1 y2 y3
      unfold table_zzReplaceAll.l1
      repeat' first
      | (with_reducible exact ih0 _ _ _ _ _ _)
      | (with_reducible exact ih1 _ _ _ _)
      | (with_reducible exact table_zzIndex.mono _ _ _)
      | (with_reducible exact LeO.refl _)
      | (with_reducible exact LeO.none _)
      | (with_reducible refine LeO.ite ?_ ?_)
      | (with_reducible refine LeO.bind ?_ (fun _ => ?_))
      | exact ih0 _ _ _ _ _ _
      | exact ih1 _ _ _ _
      | exact table_zzIndex.mono _ _ _
      | exact LeO.none _
      | refine LeO.ite ?_ ?_
      | refine LeO.bind ?_ (fun _ => ?_)
theorem table_zzReplaceAll.mono : ∀ a0 a1 a2 k, LeO (table_zzReplaceAll.f k a0 a1 a2) (table_zzReplaceAll.f (k + 1) a0 a1 a2) := by
  intro a0 a1 a2 k
  obtain ⟨ih0, ih1⟩ := table_zzReplaceAll.mono_l k
  unfold table_zzReplaceAll.f
  repeat' first
      | (with_reducible exact ih0 _ _ _ _ _ _)
      | (with_reducible exact ih1 _ _ _ _)
      | (with_reducible exact table_zzIndex.mono _ _ _)
      | (with_reducible exact LeO.refl _)
      | (with_reducible exact LeO.none _)
      | (with_reducible refine LeO.ite ?_ ?_)
      | (with_reducible refine LeO.bind ?_ (fun _ => ?_))
      | exact ih0 _ _ _ _ _ _
      | exact ih1 _ _ _ _
      | exact table_zzIndex.mono _ _ _
      | exact LeO.none _
      | refine LeO.ite ?_ ?_
      | refine LeO.bind ?_ (fun _ => ?_)
set_option maxHeartbeats 8000000 in
set_option maxRecDepth 100000 in
theorem table_zzReplaceAll.calls (k : Nat) (a0 : ByteArray) (a1 : ByteArray) (a2 : ByteArray) (r : ByteArray) (w : World) (h : table_zzReplaceAll.f k a0 a1 a2 = some r) :
    Calls Try.prog 40 #[.string a0, .string a1, .string a2] w fun e w' => e = .returned (.string r) ∧ Below w.heap.size w w' := by
  have HB := Aside0.mk (Below.refl w.heap.size w)
  have H : (if (a1.size : Int) = 0 then (if ([] : List Int).length + a2.size < 140737488355328 then ((itr_make.f a0).bind fun bt140 => (table_zzReplaceAll.l0 k a0 a2 (([] : List Int) ++ bytesOf a2) 0 bt140.1 bt140.2)) else (none)) else (table_zzReplaceAll.l1 k a0 a1 a2 ([] : List Int))) = some r := h
  clear h
  by_cases c4 : (a1.size : Int) = 0
  · rw [if_pos c4] at H
    have c4b0 : ((a1.size : Int) == 0) = true := beq_iff_eq.mpr c4
    have c4b1 : ((a1.size : Int) != 0) = false := bne_eq_false_iff_eq.mpr c4
    clear c4
    by_cases c5 : ([] : List Int).length + a2.size < 140737488355328
    · rw [if_pos c5] at H
      have LMc5 := Aside0.mk c5
      clear c5
      obtain ⟨y137, hy137⟩ : ∃ y_ : List Int, y_ = (([] : List Int) ++ bytesOf a2) := ⟨_, rfl⟩
      replace H : ((itr_make.f a0).bind fun bt140 => (table_zzReplaceAll.l0 k a0 a2 y137 0 bt140.1 bt140.2)) = some r := by first | (rw [hy137]; with_reducible exact H) | (have H2_ := (Option.bind_some _ _).symm.trans H; rw [hy137]; with_reducible exact H2_) | (have H2_ := (Option.bind_some _ _).symm.trans H; with_reducible exact H2_) | with_reducible exact H | (rw [hy137]; exact H) | exact H
      have Ny137 := Aside0.mk hy137
      clear hy137
      replace H := Option.bind_eq_some_iff.mp H
      obtain ⟨⟨t140, t141⟩, A60, H⟩ := H
      replace H : (table_zzReplaceAll.l0 k a0 a2 y137 0 t140 t141) = some r := H
      have A6 := Aside0.mk A60
      clear A60
      have H' := Aside0.mk H
      clear H
      go_enter Try.func40, Try.ntmps40
      go_wp2_with (first | (at_builtin; refine print_append_str (w0 := w) w.heap.size rfl (.tmp 14) _ 46 9 5 rfl Try.underlying46 Try.underlying9 info5 (.slice none 0 0) ([] : List Int) a2 rfl rfl ?aO ?aB ?aS ?aL ?_; (case aB => exact (by repeat (first | (with_reducible first | exact HB.out | apply below_alloc | apply pw_below_drewN | apply below_drew1) | exact HB.out))); (case aO => exact (own_nil _ _ _ _)); (case aS => exact (below_size (by repeat (first | (with_reducible first | exact HB.out | apply below_alloc | apply pw_below_drewN | apply below_drew1) | exact HB.out)))); (case aL => have := LMc5.out; omega); intro v138 w7 ho0 hb hg; have ho := Kd.R_of_own (h1 := fun _ => rfl) (ok := fun _ => True) ho0 (fun _ _ => trivial); clear ho0; have hat := True.intro; rw [← Ny137.out] at ho; change Kd.R (Kd.int .u8) 5 w7 w.heap.size (fun _ => True) v138 y137 at ho; have n0_ := Aside0.mk (hb); have n1_ := Aside0.mk (ho); clear HB; have HB := n0_; have HO139 := n1_; clear n0_ n1_; clear ho hb hg hat) | ((with_reducible refine gate_dst (N := 18) rfl ?_); refine rangeL_ (some 18) rfl rfl rfl Try.underlying9 a0 rfl ?_; (with_reducible refine (itr_make.calls a0 t140 t141 w _ ?side1 A6.out).mono ?_); (case side1 => repeat (first | (with_reducible first | exact HB.out | apply below_alloc | apply pw_below_drewN | apply below_drew1) | exact HB.out)); rintro e w8 ⟨g142, rfl, hi, hb, hb2, hge⟩; refine ⟨_, rfl, ?_⟩; have n0_ := Aside0.mk (Kd.R_below (by (with_reducible repeat (first | apply Kd.R_alloc | apply Kd.R_drewN | apply Kd.R_drew)); exact HO139.out) hb2); have n1_ := Aside0.mk (hb); have n2_ := Aside0.mk (hi); clear HO139; clear HB; have HO139 := n0_; have HB := n1_; have HI142 := n2_; clear n0_ n1_ n2_; (try clear hb); (try clear hb2); (try clear hk); (try clear hi)))
      (try simp only [Act.put, List.setIfInBounds_toArray, List.set_cons_zero, List.set_cons_succ])
      go_loopg [7, 8] k (fun kq v7 v8 w' => ∃ (x7_1 : List Int) (x8_1 : Int) (x143001_1 : Int), v8 = .int .i64 x8_1 ∧ Aside0 (table_zzReplaceAll.l0 kq a0 a2 x7_1 x8_1 t140 x143001_1 = some r) ∧ Aside0 (kq ≤ k) ∧ Aside0 (Kd.R (Kd.int .u8) 5 w' w.heap.size (fun _ => True) v7 x7_1) ∧ Aside0 (IsS195 w w' g142 t140 x143001_1) ∧ Aside0 (Below w.heap.size w w'))
      case atStart => exact ⟨(y137), (0), (t141), (by first | rfl | (simp; done) | (simp [*]; done)), H', ⟨Nat.le_refl _⟩, ⟨by (with_reducible repeat (first | apply Kd.R_alloc | apply Kd.R_drewN | apply Kd.R_drew)); exact HO139.out⟩, ⟨by repeat (first | (with_reducible first | exact HI142.out | apply IsS195.alloc | apply IsS195.drewN | apply IsS195.drew | apply IsS195.set_1) | exact HI142.out)⟩, ⟨by repeat (first | (with_reducible first | exact HB.out | apply below_alloc | apply pw_below_drewN | apply below_drew1 | refine below_set ?_ (IsS195.ge HI142.out)) | exact HB.out)⟩⟩
      case round =>
        clear H'
        try clear p2
        try clear c4
        try clear c4b0
        try clear c4b1
        try clear c5
        obtain ⟨x7_1, x8_1, x143001_1, rfl, HA, HK1, HO_7, HI142, HB⟩ := hrel
        cases gk with
        | zero => exact absurd HA.out (by simp [table_zzReplaceAll.l0])
        | succ k1 =>
          have H := HA.out
          clear HA
          simp only [table_zzReplaceAll.l0] at H
          by_cases c9 : x143001_1 < (t140.size : Int)
          · rw [if_pos c9] at H
            have c9b0 : decide (x143001_1 < (t140.size : Int)) = true := decide_eq_true c9
            clear c9
            replace H := Option.bind_eq_some_iff.mp H
            obtain ⟨⟨t143, t144, t145⟩, A100, H⟩ := H
            replace H : (if t143 > 0 then (if 0 ≤ x8_1 then (if x8_1 ≤ t143 then (if t143 ≤ (a0.size : Int) then (if x7_1.length + (a0.extract (x8_1 : Int).toNat (t143 : Int).toNat).size < 140737488355328 then ((some (x7_1 ++ bytesOf (a0.extract (x8_1 : Int).toNat (t143 : Int).toNat) : List Int)).bind fun y146 => (if y146.length + a2.size < 140737488355328 then (table_zzReplaceAll.l0 k1 a0 a2 (y146 ++ bytesOf a2) t143 t140 t145) else (none))) else (none)) else (none)) else (none)) else (none)) else (table_zzReplaceAll.l0 k1 a0 a2 x7_1 x8_1 t140 t145)) = some r := H
            have A10 := Aside0.mk A100
            clear A100
            by_cases c11 : t143 > 0
            · rw [if_pos c11] at H
              have c11b0 : decide (0 < t143) = true := decide_eq_true c11
              clear c11
              by_cases c12 : 0 ≤ x8_1
              · rw [if_pos c12] at H
                have c12b0 := eq_true c12
                have c12b1 : decide (0 ≤ x8_1) = true := decide_eq_true c12
                clear c12
                by_cases c13 : x8_1 ≤ t143
                · rw [if_pos c13] at H
                  have c13b0 := eq_true c13
                  have c13b1 : decide (x8_1 ≤ t143) = true := decide_eq_true c13
                  clear c13
                  by_cases c14 : t143 ≤ (a0.size : Int)
                  · rw [if_pos c14] at H
                    have c14b0 := eq_true c14
                    have c14b1 : decide (t143 ≤ (a0.size : Int)) = true := decide_eq_true c14
                    clear c14
                    by_cases c15 : x7_1.length + (a0.extract (x8_1 : Int).toNat (t143 : Int).toNat).size < 140737488355328
                    · rw [if_pos c15] at H
                      have LMc15 := Aside0.mk c15
                      clear c15
                      obtain ⟨y146, hy146⟩ : ∃ y_ : List Int, y_ = (x7_1 ++ bytesOf (a0.extract (x8_1 : Int).toNat (t143 : Int).toNat)) := ⟨_, rfl⟩
                      replace H : (if y146.length + a2.size < 140737488355328 then (table_zzReplaceAll.l0 k1 a0 a2 (y146 ++ bytesOf a2) t143 t140 t145) else (none)) = some r := by first | (rw [hy146]; with_reducible exact H) | (have H2_ := (Option.bind_some _ _).symm.trans H; rw [hy146]; with_reducible exact H2_) | (have H2_ := (Option.bind_some _ _).symm.trans H; with_reducible exact H2_) | with_reducible exact H | (rw [hy146]; exact H) | exact H
                      have Ny146 := Aside0.mk hy146
                      clear hy146
                      by_cases c16 : y146.length + a2.size < 140737488355328
                      · rw [if_pos c16] at H
                        have LMc16 := Aside0.mk c16
                        clear c16
                        obtain ⟨y149, hy149⟩ : ∃ y_ : List Int, y_ = (y146 ++ bytesOf a2) := ⟨_, rfl⟩
                        replace H : (table_zzReplaceAll.l0 k1 a0 a2 y149 t143 t140 t145) = some r := by first | (rw [hy149]; with_reducible exact H) | (have H2_ := (Option.bind_some _ _).symm.trans H; rw [hy149]; with_reducible exact H2_) | (have H2_ := (Option.bind_some _ _).symm.trans H; with_reducible exact H2_) | with_reducible exact H | (rw [hy149]; exact H) | exact H
                        have Ny149 := Aside0.mk hy149
                        clear hy149
                        have H' := Aside0.mk H
                        clear H
                        go_wp2_with (first | ((with_reducible refine gate_dst (N := 19) rfl ?_); refine nextL_ (some 19) rfl rfl rfl (.pointer (some ⟨g142, 0, none⟩)) rfl ?_; (with_reducible refine (itr_more.calls g142 t140 x143001_1 t143 t144 t145 w _ ?side1 ?side2 A10.out).mono ?_); (case side1 => repeat (first | (with_reducible first | exact HI142.out | apply IsS195.alloc | apply IsS195.drewN | apply IsS195.drew | apply IsS195.set_1) | exact HI142.out)); (case side2 => repeat (first | (with_reducible first | exact HB.out | apply below_alloc | apply pw_below_drewN | apply below_drew1 | refine below_set ?_ (IsS195.ge HI142.out)) | exact HB.out)); rintro e w17 ⟨rfl, hi, hb, hk⟩; refine ⟨_, rfl, ?_⟩; have n0_ := Aside0.mk (Kd.R_mono (Kd.R_keep (IsS195.apart (show IsS195 w _ g142 t140 x143001_1 from by repeat (first | (with_reducible first | exact HI142.out | apply IsS195.alloc | apply IsS195.drewN | apply IsS195.drew | apply IsS195.set_1) | exact HI142.out)) (by (with_reducible repeat (first | apply Kd.R_alloc | apply Kd.R_drewN | apply Kd.R_drew)); exact HO_7.out) (by decide)) hk (fun _ h => h.2)) (fun _ h => h.1)); have n1_ := Aside0.mk (hb); have n2_ := Aside0.mk (hi); clear HO_7; clear HB; clear HI142; have HO_7 := n0_; have HB := n1_; have HI142 := n2_; clear n0_ n1_ n2_; (try clear hb); (try clear hb2); (try clear hk); (try clear hi)) | (at_builtin; refine print_append_str (w0 := w) w.heap.size rfl (.tmp 24) _ 46 9 5 rfl Try.underlying46 Try.underlying9 info5 u7 x7_1 (a0.extract (x8_1 : Int).toNat (t143 : Int).toNat) rfl rfl ?aO ?aB ?aS ?aL ?_; (case aB => exact (by repeat (first | (with_reducible first | exact HB.out | apply below_alloc | apply pw_below_drewN | apply below_drew1 | refine below_set ?_ (IsS195.ge HI142.out)) | exact HB.out))); (case aO => exact (Kd.own_of_R (by (with_reducible repeat (first | apply Kd.R_alloc | apply Kd.R_drewN | apply Kd.R_drew)); exact HO_7.out))); (case aS => exact (below_size (by repeat (first | (with_reducible first | exact HB.out | apply below_alloc | apply pw_below_drewN | apply below_drew1 | refine below_set ?_ (IsS195.ge HI142.out)) | exact HB.out)))); (case aL => have := LMc15.out; omega); intro v147 w18 ho0 hb hg; have ho := Kd.R_of_own (h1 := fun _ => rfl) (ok := fun _ => True) ho0 (fun _ _ => trivial); clear ho0; have hat := True.intro; rw [← Ny146.out] at ho; change Kd.R (Kd.int .u8) 5 w18 w.heap.size (fun _ => True) v147 y146 at ho; have n0_ := Aside0.mk (IsS195.grown (by repeat (first | (with_reducible first | exact HI142.out | apply IsS195.alloc | apply IsS195.drewN | apply IsS195.drew | apply IsS195.set_1) | exact HI142.out)) hg (IsS195.own_ne HI142.out HO_7.out (by decide))); have n1_ := Aside0.mk (hb); have n2_ := Aside0.mk (ho); clear HI142; clear HB; clear HO_7; have HI142 := n0_; have HB := n1_; have HO148 := n2_; clear n0_ n1_ n2_; clear ho hb hg hat) | (at_builtin; refine print_append_str (w0 := w) w.heap.size rfl (.tmp 29) _ 46 9 5 rfl Try.underlying46 Try.underlying9 info5 v147 y146 a2 rfl rfl ?aO ?aB ?aS ?aL ?_; (case aB => exact (by repeat (first | (with_reducible first | exact HB.out | apply below_alloc | apply pw_below_drewN | apply below_drew1 | refine below_set ?_ (IsS195.ge HI142.out)) | exact HB.out))); (case aO => exact (Kd.own_of_R (by (with_reducible repeat (first | apply Kd.R_alloc | apply Kd.R_drewN | apply Kd.R_drew)); exact HO148.out))); (case aS => exact (below_size (by repeat (first | (with_reducible first | exact HB.out | apply below_alloc | apply pw_below_drewN | apply below_drew1 | refine below_set ?_ (IsS195.ge HI142.out)) | exact HB.out)))); (case aL => have := LMc16.out; omega); intro v150 w19 ho0 hb hg; have ho := Kd.R_of_own (h1 := fun _ => rfl) (ok := fun _ => True) ho0 (fun _ _ => trivial); clear ho0; have hat := True.intro; rw [← Ny149.out] at ho; change Kd.R (Kd.int .u8) 5 w19 w.heap.size (fun _ => True) v150 y149 at ho; have n0_ := Aside0.mk (IsS195.grown (by repeat (first | (with_reducible first | exact HI142.out | apply IsS195.alloc | apply IsS195.drewN | apply IsS195.drew | apply IsS195.set_1) | exact HI142.out)) hg (IsS195.own_ne HI142.out HO148.out (by decide))); have n1_ := Aside0.mk (hb); have n2_ := Aside0.mk (ho); clear HI142; clear HB; clear HO148; have HI142 := n0_; have HB := n1_; have HO151 := n2_; clear n0_ n1_ n2_; clear ho hb hg hat))
                        go_roundg k1
                        case measure => have := HK1.out; omega
                        case rel => exact ⟨(y149), (t143), (t145), (by first | rfl | (simp; done) | (simp [*]; done)), H', ⟨by have := HK1.out; omega⟩, ⟨by (with_reducible repeat (first | apply Kd.R_alloc | apply Kd.R_drewN | apply Kd.R_drew)); exact HO151.out⟩, ⟨by repeat (first | (with_reducible first | exact HI142.out | apply IsS195.alloc | apply IsS195.drewN | apply IsS195.drew | apply IsS195.set_1) | exact HI142.out)⟩, ⟨by repeat (first | (with_reducible first | exact HB.out | apply below_alloc | apply pw_below_drewN | apply below_drew1 | refine below_set ?_ (IsS195.ge HI142.out)) | exact HB.out)⟩⟩
                      · rw [if_neg c16] at H
                        exact absurd H (by simp)
                    · rw [if_neg c15] at H
                      exact absurd H (by simp)
                  · rw [if_neg c14] at H
                    exact absurd H (by simp)
                · rw [if_neg c13] at H
                  exact absurd H (by simp)
              · rw [if_neg c12] at H
                exact absurd H (by simp)
            · rw [if_neg c11] at H
              have c11b0 : decide (0 < t143) = false := decide_eq_false c11
              clear c11
              have H' := Aside0.mk H
              clear H
              go_wp2_with (first | ((with_reducible refine gate_dst (N := 19) rfl ?_); refine nextL_ (some 19) rfl rfl rfl (.pointer (some ⟨g142, 0, none⟩)) rfl ?_; (with_reducible refine (itr_more.calls g142 t140 x143001_1 t143 t144 t145 w _ ?side1 ?side2 A10.out).mono ?_); (case side1 => repeat (first | (with_reducible first | exact HI142.out | apply IsS195.alloc | apply IsS195.drewN | apply IsS195.drew | apply IsS195.set_1) | exact HI142.out)); (case side2 => repeat (first | (with_reducible first | exact HB.out | apply below_alloc | apply pw_below_drewN | apply below_drew1 | refine below_set ?_ (IsS195.ge HI142.out)) | exact HB.out)); rintro e w20 ⟨rfl, hi, hb, hk⟩; refine ⟨_, rfl, ?_⟩; have n0_ := Aside0.mk (Kd.R_mono (Kd.R_keep (IsS195.apart (show IsS195 w _ g142 t140 x143001_1 from by repeat (first | (with_reducible first | exact HI142.out | apply IsS195.alloc | apply IsS195.drewN | apply IsS195.drew | apply IsS195.set_1) | exact HI142.out)) (by (with_reducible repeat (first | apply Kd.R_alloc | apply Kd.R_drewN | apply Kd.R_drew)); exact HO_7.out) (by decide)) hk (fun _ h => h.2)) (fun _ h => h.1)); have n1_ := Aside0.mk (hb); have n2_ := Aside0.mk (hi); clear HO_7; clear HB; clear HI142; have HO_7 := n0_; have HB := n1_; have HI142 := n2_; clear n0_ n1_ n2_; (try clear hb); (try clear hb2); (try clear hk); (try clear hi)))
              go_roundg k1
              case measure => have := HK1.out; omega
              case rel => exact ⟨(x7_1), (x8_1), (t145), (by first | rfl | (simp; done) | (simp [*]; done)), H', ⟨by have := HK1.out; omega⟩, ⟨by (with_reducible repeat (first | apply Kd.R_alloc | apply Kd.R_drewN | apply Kd.R_drew)); exact HO_7.out⟩, ⟨by repeat (first | (with_reducible first | exact HI142.out | apply IsS195.alloc | apply IsS195.drewN | apply IsS195.drew | apply IsS195.set_1) | exact HI142.out)⟩, ⟨by repeat (first | (with_reducible first | exact HB.out | apply below_alloc | apply pw_below_drewN | apply below_drew1 | refine below_set ?_ (IsS195.ge HI142.out)) | exact HB.out)⟩⟩
          · rw [if_neg c9] at H
            have c9b0 : decide (x143001_1 < (t140.size : Int)) = false := decide_eq_false c9
            clear c9
            replace H := Option.bind_eq_some_iff.mp H
            obtain ⟨t152, A210, H⟩ := H
            replace H : (if (a0.size : Int) > 0 then (if 0 ≤ x8_1 then (if x8_1 ≤ (a0.size : Int) then (if x7_1.length + (a0.extract (x8_1 : Int).toNat a0.size).size < 140737488355328 then ((some (x7_1 ++ bytesOf (a0.extract (x8_1 : Int).toNat a0.size) : List Int)).bind fun y153 => (if y153.length + a2.size < 140737488355328 then (some (strOfNums (y153 ++ bytesOf a2))) else (none))) else (none)) else (none)) else (none)) else (some (strOfNums x7_1))) = some r := H
            have A21 := Aside0.mk A210
            clear A210
            by_cases c22 : (a0.size : Int) > 0
            · rw [if_pos c22] at H
              have c22b0 : decide (0 < (a0.size : Int)) = true := decide_eq_true c22
              have c22b1 : decide (0 < a0.size) = true := decide_eq_true (by omega)
              clear c22
              by_cases c23 : 0 ≤ x8_1
              · rw [if_pos c23] at H
                have c23b0 := eq_true c23
                have c23b1 : decide (0 ≤ x8_1) = true := decide_eq_true c23
                clear c23
                by_cases c24 : x8_1 ≤ (a0.size : Int)
                · rw [if_pos c24] at H
                  have c24b0 := eq_true c24
                  have c24b1 : decide (x8_1 ≤ (a0.size : Int)) = true := decide_eq_true c24
                  clear c24
                  by_cases c25 : x7_1.length + (a0.extract (x8_1 : Int).toNat a0.size).size < 140737488355328
                  · rw [if_pos c25] at H
                    have LMc25 := Aside0.mk c25
                    clear c25
                    obtain ⟨y153, hy153⟩ : ∃ y_ : List Int, y_ = (x7_1 ++ bytesOf (a0.extract (x8_1 : Int).toNat a0.size)) := ⟨_, rfl⟩
                    replace H : (if y153.length + a2.size < 140737488355328 then (some (strOfNums (y153 ++ bytesOf a2))) else (none)) = some r := by first | (rw [hy153]; with_reducible exact H) | (have H2_ := (Option.bind_some _ _).symm.trans H; rw [hy153]; with_reducible exact H2_) | (have H2_ := (Option.bind_some _ _).symm.trans H; with_reducible exact H2_) | with_reducible exact H | (rw [hy153]; exact H) | exact H
                    have Ny153 := Aside0.mk hy153
                    clear hy153
                    by_cases c26 : y153.length + a2.size < 140737488355328
                    · rw [if_pos c26] at H
                      have LMc26 := Aside0.mk c26
                      clear c26
                      obtain ⟨y156, hy156⟩ : ∃ y_ : List Int, y_ = (y153 ++ bytesOf a2) := ⟨_, rfl⟩
                      replace H : (some (strOfNums y156)) = some r := by first | (rw [hy156]; with_reducible exact H) | (have H2_ := (Option.bind_some _ _).symm.trans H; rw [hy156]; with_reducible exact H2_) | (have H2_ := (Option.bind_some _ _).symm.trans H; with_reducible exact H2_) | with_reducible exact H | (rw [hy156]; exact H) | exact H
                      have Ny156 := Aside0.mk hy156
                      clear hy156
                      obtain rfl := Option.some.inj H
                      go_wp2_with (first | ((with_reducible refine gate_dst (N := 19) rfl ?_); refine nextL_ (some 19) rfl rfl rfl (.pointer (some ⟨g142, 0, none⟩)) rfl ?_; (with_reducible refine (itr_end.calls g142 t140 x143001_1 t152 w _ ?side1 ?side2 A21.out).mono ?_); (case side1 => repeat (first | (with_reducible first | exact HI142.out | apply IsS195.alloc | apply IsS195.drewN | apply IsS195.drew | apply IsS195.set_1) | exact HI142.out)); (case side2 => repeat (first | (with_reducible first | exact HB.out | apply below_alloc | apply pw_below_drewN | apply below_drew1 | refine below_set ?_ (IsS195.ge HI142.out)) | exact HB.out)); rintro e w27 ⟨rfl, hi, hb, hk⟩; refine ⟨_, rfl, ?_⟩; have n0_ := Aside0.mk (Kd.R_mono (Kd.R_keep (IsS195.apart (show IsS195 w _ g142 t140 x143001_1 from by repeat (first | (with_reducible first | exact HI142.out | apply IsS195.alloc | apply IsS195.drewN | apply IsS195.drew | apply IsS195.set_1) | exact HI142.out)) (by (with_reducible repeat (first | apply Kd.R_alloc | apply Kd.R_drewN | apply Kd.R_drew)); exact HO_7.out) (by decide)) hk (fun _ h => h.2)) (fun _ h => h.1)); have n1_ := Aside0.mk (hb); have n2_ := Aside0.mk (hi); clear HO_7; clear HB; clear HI142; have HO_7 := n0_; have HB := n1_; have HI142 := n2_; clear n0_ n1_ n2_; (try clear hb); (try clear hb2); (try clear hk); (try clear hi)) | (at_builtin; refine print_append_str (w0 := w) w.heap.size rfl (.tmp 36) _ 46 9 5 rfl Try.underlying46 Try.underlying9 info5 u7 x7_1 (a0.extract (x8_1 : Int).toNat a0.size) rfl rfl ?aO ?aB ?aS ?aL ?_; (case aB => exact (by repeat (first | (with_reducible first | exact HB.out | apply below_alloc | apply pw_below_drewN | apply below_drew1 | refine below_set ?_ (IsS195.ge HI142.out)) | exact HB.out))); (case aO => exact (Kd.own_of_R (by (with_reducible repeat (first | apply Kd.R_alloc | apply Kd.R_drewN | apply Kd.R_drew)); exact HO_7.out))); (case aS => exact (below_size (by repeat (first | (with_reducible first | exact HB.out | apply below_alloc | apply pw_below_drewN | apply below_drew1 | refine below_set ?_ (IsS195.ge HI142.out)) | exact HB.out)))); (case aL => have := LMc25.out; omega); intro v154 w28 ho0 hb hg; have ho := Kd.R_of_own (h1 := fun _ => rfl) (ok := fun _ => True) ho0 (fun _ _ => trivial); clear ho0; have hat := True.intro; rw [← Ny153.out] at ho; change Kd.R (Kd.int .u8) 5 w28 w.heap.size (fun _ => True) v154 y153 at ho; have n0_ := Aside0.mk (IsS195.grown (by repeat (first | (with_reducible first | exact HI142.out | apply IsS195.alloc | apply IsS195.drewN | apply IsS195.drew | apply IsS195.set_1) | exact HI142.out)) hg (IsS195.own_ne HI142.out HO_7.out (by decide))); have n1_ := Aside0.mk (hb); have n2_ := Aside0.mk (ho); clear HI142; clear HB; clear HO_7; have HI142 := n0_; have HB := n1_; have HO155 := n2_; clear n0_ n1_ n2_; clear ho hb hg hat) | (at_builtin; refine print_append_str (w0 := w) w.heap.size rfl (.tmp 40) _ 46 9 5 rfl Try.underlying46 Try.underlying9 info5 v154 y153 a2 rfl rfl ?aO ?aB ?aS ?aL ?_; (case aB => exact (by repeat (first | (with_reducible first | exact HB.out | apply below_alloc | apply pw_below_drewN | apply below_drew1 | refine below_set ?_ (IsS195.ge HI142.out)) | exact HB.out))); (case aO => exact (Kd.own_of_R (by (with_reducible repeat (first | apply Kd.R_alloc | apply Kd.R_drewN | apply Kd.R_drew)); exact HO155.out))); (case aS => exact (below_size (by repeat (first | (with_reducible first | exact HB.out | apply below_alloc | apply pw_below_drewN | apply below_drew1 | refine below_set ?_ (IsS195.ge HI142.out)) | exact HB.out)))); (case aL => have := LMc26.out; omega); intro v157 w29 ho0 hb hg; have ho := Kd.R_of_own (h1 := fun _ => rfl) (ok := fun _ => True) ho0 (fun _ _ => trivial); clear ho0; have hat := True.intro; rw [← Ny156.out] at ho; change Kd.R (Kd.int .u8) 5 w29 w.heap.size (fun _ => True) v157 y156 at ho; have n0_ := Aside0.mk (IsS195.grown (by repeat (first | (with_reducible first | exact HI142.out | apply IsS195.alloc | apply IsS195.drewN | apply IsS195.drew | apply IsS195.set_1) | exact HI142.out)) hg (IsS195.own_ne HI142.out HO155.out (by decide))); have n1_ := Aside0.mk (hb); have n2_ := Aside0.mk (ho); clear HI142; clear HB; clear HO155; have HI142 := n0_; have HB := n1_; have HO158 := n2_; clear n0_ n1_ n2_; clear ho hb hg hat; have hcv30 := own_string (P := Try.prog) Try.underlying46 Try.underlying5 Try.underlying9 (Kd.own_of_R HO158.out)))
                      go_ret
                      exact ⟨by first | rfl | (simp [errW_none, errW_some] <;> rfl) | (simp [*, errW_none, errW_some] <;> rfl), by repeat (first | (with_reducible first | exact HB.out | apply below_alloc | apply pw_below_drewN | apply below_drew1 | refine below_set ?_ (IsS195.ge HI142.out)) | exact HB.out)⟩
                    · rw [if_neg c26] at H
                      exact absurd H (by simp)
                  · rw [if_neg c25] at H
                    exact absurd H (by simp)
                · rw [if_neg c24] at H
                  exact absurd H (by simp)
              · rw [if_neg c23] at H
                exact absurd H (by simp)
            · rw [if_neg c22] at H
              have c22b0 : decide (0 < (a0.size : Int)) = false := decide_eq_false c22
              have c22b1 : decide (0 < a0.size) = false := decide_eq_false (by omega)
              clear c22
              obtain rfl := Option.some.inj H
              go_wp2_with (first | ((with_reducible refine gate_dst (N := 19) rfl ?_); refine nextL_ (some 19) rfl rfl rfl (.pointer (some ⟨g142, 0, none⟩)) rfl ?_; (with_reducible refine (itr_end.calls g142 t140 x143001_1 t152 w _ ?side1 ?side2 A21.out).mono ?_); (case side1 => repeat (first | (with_reducible first | exact HI142.out | apply IsS195.alloc | apply IsS195.drewN | apply IsS195.drew | apply IsS195.set_1) | exact HI142.out)); (case side2 => repeat (first | (with_reducible first | exact HB.out | apply below_alloc | apply pw_below_drewN | apply below_drew1 | refine below_set ?_ (IsS195.ge HI142.out)) | exact HB.out)); rintro e w31 ⟨rfl, hi, hb, hk⟩; refine ⟨_, rfl, ?_⟩; have n0_ := Aside0.mk (Kd.R_mono (Kd.R_keep (IsS195.apart (show IsS195 w _ g142 t140 x143001_1 from by repeat (first | (with_reducible first | exact HI142.out | apply IsS195.alloc | apply IsS195.drewN | apply IsS195.drew | apply IsS195.set_1) | exact HI142.out)) (by (with_reducible repeat (first | apply Kd.R_alloc | apply Kd.R_drewN | apply Kd.R_drew)); exact HO_7.out) (by decide)) hk (fun _ h => h.2)) (fun _ h => h.1)); have n1_ := Aside0.mk (hb); have n2_ := Aside0.mk (hi); clear HO_7; clear HB; clear HI142; have HO_7 := n0_; have HB := n1_; have HI142 := n2_; clear n0_ n1_ n2_; (try clear hb); (try clear hb2); (try clear hk); (try clear hi); have hcv32 := own_string (P := Try.prog) Try.underlying46 Try.underlying5 Try.underlying9 (Kd.own_of_R HO_7.out)))
              go_ret
              exact ⟨by first | rfl | (simp [errW_none, errW_some] <;> rfl) | (simp [*, errW_none, errW_some] <;> rfl), by repeat (first | (with_reducible first | exact HB.out | apply below_alloc | apply pw_below_drewN | apply below_drew1 | refine below_set ?_ (IsS195.ge HI142.out)) | exact HB.out)⟩
    · rw [if_neg c5] at H
      exact absurd H (by simp)
  · rw [if_neg c4] at H
    have c4b0 : ((a1.size : Int) == 0) = false := beq_eq_false_iff_ne.mpr c4
    have c4b1 : ((a1.size : Int) != 0) = true := bne_iff_ne.mpr c4
    have H' := Aside0.mk H
    clear H
    go_enter Try.func40, Try.ntmps40
    go_wp2
    (try simp only [Act.put, List.setIfInBounds_toArray, List.set_cons_zero, List.set_cons_succ])
    go_loopg [0, 7] k (fun kq v0 v7 w' => ∃ (x0_1 : ByteArray) (x7_1 : List Int), v0 = .string x0_1 ∧ Aside0 (table_zzReplaceAll.l1 kq x0_1 a1 a2 x7_1 = some r) ∧ Aside0 (kq ≤ k) ∧ Aside0 (Kd.R (Kd.int .u8) 5 w' w.heap.size (fun _ => True) v7 x7_1) ∧ Aside0 (Below w.heap.size w w'))
    case atStart => exact ⟨(a0), (([] : List Int)), (by first | rfl | (simp; done) | (simp [*]; done)), H', ⟨Nat.le_refl _⟩, ⟨by first | exact Kd.R_nil _ _ _ _ _ | exact Kd.N_nil _ _ _ _ _ | exact Kd.V_nil _ _ _ _ _ | exact Kd.Q_nil _ _ _ _ _ | exact Kd.S_nil _ _ _ _ _⟩, ⟨by repeat (first | (with_reducible first | exact HB.out | apply below_alloc | apply pw_below_drewN | apply below_drew1) | exact HB.out)⟩⟩
    case round =>
      clear H'
      try clear c1
      try clear c2
      try clear p2
      try clear hcv3
      try clear c4
      try clear c4b0
      try clear c4b1
      try clear c5
      try clear c9
      try clear c9b0
      try clear c11
      try clear c11b0
      try clear c12
      try clear c12b0
      try clear c12b1
      try clear c13
      try clear c13b0
      try clear c13b1
      try clear c14
      try clear c14b0
      try clear c14b1
      try clear c15
      try clear c16
      try clear c22
      try clear c22b0
      try clear c22b1
      try clear c23
      try clear c23b0
      try clear c23b1
      try clear c24
      try clear c24b0
      try clear c24b1
      try clear c25
      try clear c26
      try clear hcv30
      try clear hcv32
      try clear p2
      obtain ⟨x0_1, x7_1, rfl, HA, HK1, HO_7, HB⟩ := hrel
      cases gk with
      | zero => exact absurd HA.out (by simp [table_zzReplaceAll.l1])
      | succ k1 =>
        have H := HA.out
        clear HA
        simp only [table_zzReplaceAll.l1] at H
        replace H := Option.bind_eq_some_iff.mp H
        obtain ⟨t159, A330, H⟩ := H
        replace H : (if t159 < 0 then (if x7_1.length + x0_1.size < 140737488355328 then (some (strOfNums (x7_1 ++ bytesOf x0_1))) else (none)) else (if 0 ≤ t159 then (if t159 ≤ (x0_1.size : Int) then (if x7_1.length + (x0_1.extract 0 (t159 : Int).toNat).size < 140737488355328 then ((some (x7_1 ++ bytesOf (x0_1.extract 0 (t159 : Int).toNat) : List Int)).bind fun y163 => (if y163.length + a2.size < 140737488355328 then (if 0 ≤ (wrap64 (t159 + (a1.size : Int))) then (if (wrap64 (t159 + (a1.size : Int))) ≤ (x0_1.size : Int) then (table_zzReplaceAll.l1 k1 (x0_1.extract ((wrap64 (t159 + (a1.size : Int))) : Int).toNat x0_1.size) a1 a2 (y163 ++ bytesOf a2)) else (none)) else (none)) else (none))) else (none)) else (none)) else (none))) = some r := H
        have A33 := Aside0.mk A330
        clear A330
        by_cases c34 : t159 < 0
        · rw [if_pos c34] at H
          have c34b0 : decide (t159 < 0) = true := decide_eq_true c34
          clear c34
          by_cases c35 : x7_1.length + x0_1.size < 140737488355328
          · rw [if_pos c35] at H
            have LMc35 := Aside0.mk c35
            clear c35
            obtain ⟨y160, hy160⟩ : ∃ y_ : List Int, y_ = (x7_1 ++ bytesOf x0_1) := ⟨_, rfl⟩
            replace H : (some (strOfNums y160)) = some r := by first | (rw [hy160]; with_reducible exact H) | (have H2_ := (Option.bind_some _ _).symm.trans H; rw [hy160]; with_reducible exact H2_) | (have H2_ := (Option.bind_some _ _).symm.trans H; with_reducible exact H2_) | with_reducible exact H | (rw [hy160]; exact H) | exact H
            have Ny160 := Aside0.mk hy160
            clear hy160
            obtain rfl := Option.some.inj H
            go_wp2_with (first | ((with_reducible refine gate_callee (f := 51) rfl ?_); refine goesL_ (some 47) rfl rfl Try.func51 (by kernel_rfl) rfl #[.string x0_1, .string a1] rfl (by (try simp only [List.map_toArray, List.map_cons, List.map_nil]); first | done | rfl | (simp only [List.length_drop, List.length_take]; rfl)) ?_; (with_reducible refine (table_zzIndex.calls k1 x0_1 a1 t159 _ A33.out).mono ?_); rintro e w' ⟨rfl, ⟨nd, rfl⟩⟩; refine ⟨_, rfl, ?_⟩) | (at_builtin; refine print_append_str (w0 := w) w.heap.size rfl (.tmp 50) _ 46 9 5 rfl Try.underlying46 Try.underlying9 info5 u7 x7_1 x0_1 rfl rfl ?aO ?aB ?aS ?aL ?_; (case aB => exact (by repeat (first | (with_reducible first | exact HB.out | apply below_alloc | apply pw_below_drewN | apply below_drew1) | exact HB.out))); (case aO => exact (Kd.own_of_R (by (with_reducible repeat (first | apply Kd.R_alloc | apply Kd.R_drewN | apply Kd.R_drew)); exact HO_7.out))); (case aS => exact (below_size (by repeat (first | (with_reducible first | exact HB.out | apply below_alloc | apply pw_below_drewN | apply below_drew1) | exact HB.out)))); (case aL => have := LMc35.out; omega); intro v161 w36 ho0 hb hg; have ho := Kd.R_of_own (h1 := fun _ => rfl) (ok := fun _ => True) ho0 (fun _ _ => trivial); clear ho0; have hat := True.intro; rw [← Ny160.out] at ho; change Kd.R (Kd.int .u8) 5 w36 w.heap.size (fun _ => True) v161 y160 at ho; have n0_ := Aside0.mk (hb); have n1_ := Aside0.mk (ho); clear HB; clear HO_7; have HB := n0_; have HO162 := n1_; clear n0_ n1_; clear ho hb hg hat; have hcv37 := own_string (P := Try.prog) Try.underlying46 Try.underlying5 Try.underlying9 (Kd.own_of_R HO162.out)))
            go_ret
            exact ⟨by first | rfl | (simp [errW_none, errW_some] <;> rfl) | (simp [*, errW_none, errW_some] <;> rfl), by repeat (first | (with_reducible first | exact HB.out | apply below_alloc | apply pw_below_drewN | apply below_drew1) | exact HB.out)⟩
          · rw [if_neg c35] at H
            exact absurd H (by simp)
        · rw [if_neg c34] at H
          have c34b0 : decide (t159 < 0) = false := decide_eq_false c34
          clear c34
          by_cases c38 : 0 ≤ t159
          · rw [if_pos c38] at H
            have c38b0 := eq_true c38
            have c38b1 : decide (0 ≤ t159) = true := decide_eq_true c38
            clear c38
            by_cases c39 : t159 ≤ (x0_1.size : Int)
            · rw [if_pos c39] at H
              have c39b0 := eq_true c39
              have c39b1 : decide (t159 ≤ (x0_1.size : Int)) = true := decide_eq_true c39
              clear c39
              by_cases c40 : x7_1.length + (x0_1.extract 0 (t159 : Int).toNat).size < 140737488355328
              · rw [if_pos c40] at H
                have LMc40 := Aside0.mk c40
                clear c40
                obtain ⟨y163, hy163⟩ : ∃ y_ : List Int, y_ = (x7_1 ++ bytesOf (x0_1.extract 0 (t159 : Int).toNat)) := ⟨_, rfl⟩
                replace H : (if y163.length + a2.size < 140737488355328 then (if 0 ≤ (wrap64 (t159 + (a1.size : Int))) then (if (wrap64 (t159 + (a1.size : Int))) ≤ (x0_1.size : Int) then (table_zzReplaceAll.l1 k1 (x0_1.extract ((wrap64 (t159 + (a1.size : Int))) : Int).toNat x0_1.size) a1 a2 (y163 ++ bytesOf a2)) else (none)) else (none)) else (none)) = some r := by first | (rw [hy163]; with_reducible exact H) | (have H2_ := (Option.bind_some _ _).symm.trans H; rw [hy163]; with_reducible exact H2_) | (have H2_ := (Option.bind_some _ _).symm.trans H; with_reducible exact H2_) | with_reducible exact H | (rw [hy163]; exact H) | exact H
                have Ny163 := Aside0.mk hy163
                clear hy163
                by_cases c41 : y163.length + a2.size < 140737488355328
                · rw [if_pos c41] at H
                  have LMc41 := Aside0.mk c41
                  clear c41
                  obtain ⟨y166, hy166⟩ : ∃ y_ : List Int, y_ = (y163 ++ bytesOf a2) := ⟨_, rfl⟩
                  replace H : (if 0 ≤ (wrap64 (t159 + (a1.size : Int))) then (if (wrap64 (t159 + (a1.size : Int))) ≤ (x0_1.size : Int) then (table_zzReplaceAll.l1 k1 (x0_1.extract ((wrap64 (t159 + (a1.size : Int))) : Int).toNat x0_1.size) a1 a2 y166) else (none)) else (none)) = some r := by first | (rw [hy166]; with_reducible exact H) | (have H2_ := (Option.bind_some _ _).symm.trans H; rw [hy166]; with_reducible exact H2_) | (have H2_ := (Option.bind_some _ _).symm.trans H; with_reducible exact H2_) | with_reducible exact H | (rw [hy166]; exact H) | exact H
                  have Ny166 := Aside0.mk hy166
                  clear hy166
                  obtain ⟨ji42, hji42⟩ : ∃ j_ : Int, (wrap64 (t159 + (a1.size : Int))) = j_ := ⟨_, rfl⟩
                  replace H : (if 0 ≤ (ji42) then (if (ji42) ≤ (x0_1.size : Int) then (table_zzReplaceAll.l1 k1 (x0_1.extract ((ji42) : Int).toNat x0_1.size) a1 a2 y166) else (none)) else (none)) = some r := by first | (rw [hji42] at H; exact H) | (simp only [hji42] at H ⊢; exact H)
                  (try rw [hji42] at A33)
                  have hji42w : (IntKind.i64.wrap (t159 + (a1.size : Int))) = ji42 := (i64_w _).trans hji42
                  by_cases c43 : 0 ≤ (ji42)
                  · rw [if_pos c43] at H
                    have c43b0 := eq_true c43
                    have c43b1 : decide (0 ≤ (ji42)) = true := decide_eq_true c43
                    clear c43
                    by_cases c44 : (ji42) ≤ (x0_1.size : Int)
                    · rw [if_pos c44] at H
                      have c44b0 := eq_true c44
                      have c44b1 : decide ((ji42) ≤ (x0_1.size : Int)) = true := decide_eq_true c44
                      clear c44
                      have H' := Aside0.mk H
                      clear H
                      go_wp2_with (first | ((with_reducible refine gate_callee (f := 51) rfl ?_); refine goesL_ (some 47) rfl rfl Try.func51 (by kernel_rfl) rfl #[.string x0_1, .string a1] rfl (by (try simp only [List.map_toArray, List.map_cons, List.map_nil]); first | done | rfl | (simp only [List.length_drop, List.length_take]; rfl)) ?_; (with_reducible refine (table_zzIndex.calls k1 x0_1 a1 t159 _ A33.out).mono ?_); rintro e w' ⟨rfl, ⟨nd, rfl⟩⟩; refine ⟨_, rfl, ?_⟩) | (at_builtin; refine print_append_str (w0 := w) w.heap.size rfl (.tmp 54) _ 46 9 5 rfl Try.underlying46 Try.underlying9 info5 u7 x7_1 (x0_1.extract 0 (t159 : Int).toNat) rfl rfl ?aO ?aB ?aS ?aL ?_; (case aB => exact (by repeat (first | (with_reducible first | exact HB.out | apply below_alloc | apply pw_below_drewN | apply below_drew1) | exact HB.out))); (case aO => exact (Kd.own_of_R (by (with_reducible repeat (first | apply Kd.R_alloc | apply Kd.R_drewN | apply Kd.R_drew)); exact HO_7.out))); (case aS => exact (below_size (by repeat (first | (with_reducible first | exact HB.out | apply below_alloc | apply pw_below_drewN | apply below_drew1) | exact HB.out)))); (case aL => have := LMc40.out; omega); intro v164 w45 ho0 hb hg; have ho := Kd.R_of_own (h1 := fun _ => rfl) (ok := fun _ => True) ho0 (fun _ _ => trivial); clear ho0; have hat := True.intro; rw [← Ny163.out] at ho; change Kd.R (Kd.int .u8) 5 w45 w.heap.size (fun _ => True) v164 y163 at ho; have n0_ := Aside0.mk (hb); have n1_ := Aside0.mk (ho); clear HB; clear HO_7; have HB := n0_; have HO165 := n1_; clear n0_ n1_; clear ho hb hg hat) | (at_builtin; refine print_append_str (w0 := w) w.heap.size rfl (.tmp 58) _ 46 9 5 rfl Try.underlying46 Try.underlying9 info5 v164 y163 a2 rfl rfl ?aO ?aB ?aS ?aL ?_; (case aB => exact (by repeat (first | (with_reducible first | exact HB.out | apply below_alloc | apply pw_below_drewN | apply below_drew1) | exact HB.out))); (case aO => exact (Kd.own_of_R (by (with_reducible repeat (first | apply Kd.R_alloc | apply Kd.R_drewN | apply Kd.R_drew)); exact HO165.out))); (case aS => exact (below_size (by repeat (first | (with_reducible first | exact HB.out | apply below_alloc | apply pw_below_drewN | apply below_drew1) | exact HB.out)))); (case aL => have := LMc41.out; omega); intro v167 w46 ho0 hb hg; have ho := Kd.R_of_own (h1 := fun _ => rfl) (ok := fun _ => True) ho0 (fun _ _ => trivial); clear ho0; have hat := True.intro; rw [← Ny166.out] at ho; change Kd.R (Kd.int .u8) 5 w46 w.heap.size (fun _ => True) v167 y166 at ho; have n0_ := Aside0.mk (hb); have n1_ := Aside0.mk (ho); clear HB; clear HO165; have HB := n0_; have HO168 := n1_; clear n0_ n1_; clear ho hb hg hat))
                      go_roundg k1
                      case measure => have := HK1.out; omega
                      case rel => exact ⟨(x0_1.extract ((ji42) : Int).toNat x0_1.size), (y166), (by first | rfl | (simp; done) | (simp only [← hji42] <;> (first | rfl | simp)) | (simp [*]; done)), H', ⟨by have := HK1.out; omega⟩, ⟨by (with_reducible repeat (first | apply Kd.R_alloc | apply Kd.R_drewN | apply Kd.R_drew)); exact HO168.out⟩, ⟨by repeat (first | (with_reducible first | exact HB.out | apply below_alloc | apply pw_below_drewN | apply below_drew1) | exact HB.out)⟩⟩
                    · rw [if_neg c44] at H
                      exact absurd H (by simp)
                  · rw [if_neg c43] at H
                    exact absurd H (by simp)
                · rw [if_neg c41] at H
                  exact absurd H (by simp)
              · rw [if_neg c40] at H
                exact absurd H (by simp)
            · rw [if_neg c39] at H
              exact absurd H (by simp)
          · rw [if_neg c38] at H
            exact absurd H (by simp)

-- NOT PRINTED: function 27 (table_Table_tsvRenderRow)

-- NOT PRINTED: function 28 (strings_Builder_String)

/-! ### table_ZzTsvRow: function 22 -/
def table_ZzTsvRow.f (l0 : List ByteArray) (a1 : Int) (a2 : Bool) (a3 : Int) : Option (ByteArray) := if (∀ c ∈ l0, c.size ≤ 2000) ∧ l0.length ≤ 2001 ∧ a1 = l0.length ∧ a2 = false ∧ a3 = 0 then some (Small.str (TsvW.part l0 l0.length)) else none
theorem table_ZzTsvRow.calls (A0 : Option Addr) (c0 : Nat) (l0 : List ByteArray) (a1 : Int) (a2 : Bool) (a3 : Int) (r : ByteArray) (w : World) (hr0 : Kd.C Kd.string w A0 l0.length l0) (hc0 : l0.length ≤ c0) (h : table_ZzTsvRow.f l0 a1 a2 a3 = some r) :
    Calls Try.prog 22 #[.slice A0 l0.length c0, .int .i64 a1, .bool a2, .int .i64 a3] w fun e w' => e = .returned (.string r) ∧ Below w.heap.size w w' := by
  unfold table_ZzTsvRow.f at h
  by_cases hc : (∀ c ∈ l0, c.size ≤ 2000) ∧ l0.length ≤ 2001 ∧ a1 = l0.length ∧ a2 = false ∧ a3 = 0
  · rw [if_pos hc] at h
    obtain ⟨h1, h2, rfl, rfl, rfl⟩ := hc
    obtain rfl := Option.some.inj h
    exact TsvW.row_any A0 c0 l0 w hr0 h1 h2
  · rw [if_neg hc] at h
    exact absurd h (by simp)

/-! ### impl_TsvRow: function 10 -/
def impl_TsvRow.f (l0 : List ByteArray) (a1 : Int) (a2 : Bool) (a3 : Int) : Option (ByteArray) := (table_ZzTsvRow.f l0 a1 a2 a3).bind fun t169 => (some t169)
set_option maxHeartbeats 8000000 in
set_option maxRecDepth 100000 in
theorem impl_TsvRow.calls (A0 : Option Addr) (c0 : Nat) (l0 : List ByteArray) (a1 : Int) (a2 : Bool) (a3 : Int) (r : ByteArray) (w : World) (hr0 : Kd.C Kd.string w A0 l0.length l0) (hc0 : l0.length ≤ c0) (h : impl_TsvRow.f l0 a1 a2 a3 = some r) :
    Calls Try.prog 10 #[.slice A0 l0.length c0, .int .i64 a1, .bool a2, .int .i64 a3] w fun e w' => e = .returned (.string r) ∧ Below w.heap.size w w' := by
  have HR0 := Aside0.mk hr0
  have HC0 := Aside0.mk hc0
  clear hr0 hc0
  have HB := Aside0.mk (Below.refl w.heap.size w)
  have H : ((table_ZzTsvRow.f l0 a1 a2 a3).bind fun t169 => (some t169)) = some r := h
  clear h
  replace H := Option.bind_eq_some_iff.mp H
  obtain ⟨t169, A50, H⟩ := H
  replace H : (some t169) = some r := H
  have A5 := Aside0.mk A50
  clear A50
  obtain rfl := Option.some.inj H
  go_enter Try.func10, Try.ntmps10
  go_wp2_with (first | ((with_reducible refine gate_callee (f := 22) rfl ?_); refine goesL_ (some 13) rfl rfl Try.func22 (by kernel_rfl) rfl #[.slice A0 l0.length c0, .int .i64 a1, .bool a2, .int .i64 a3] rfl (by (try simp only [List.map_toArray, List.map_cons, List.map_nil]); first | done | rfl | (simp only [List.length_drop, List.length_take]; rfl)) ?_; (with_reducible refine (table_ZzTsvRow.calls _ _ l0 a1 a2 a3 t169 _ ?side1 ?side2 A5.out).mono ?_); (case side1 => repeat (first | exact HR0.out | (with_reducible refine Kd.C_alloc ?_ _) | (with_reducible refine Kd.C_drewN ?_ _) | (with_reducible refine Kd.C_drew ?_))); (case side2 => exact HC0.out); rintro e w6 ⟨rfl, hb⟩; refine ⟨_, rfl, ?_⟩; have n0_ := Aside0.mk (below_step (by repeat (first | (with_reducible first | exact HB.out | apply below_alloc | apply pw_below_drewN | apply below_drew1) | exact HB.out)) hb); clear HB; have HB := n0_; clear n0_; (try clear hb); (try clear hb2); (try clear hk); (try clear hi)))
  go_ret
  exact ⟨by first | rfl | (simp [errW_none, errW_some] <;> rfl) | (simp [*, errW_none, errW_some] <;> rfl), by repeat (first | (with_reducible first | exact HB.out | apply below_alloc | apply pw_below_drewN | apply below_drew1) | exact HB.out)⟩

/-! ### spec_SameGrid: function 11 -/
mutual
def spec_SameGrid.l0 : Nat → List (List ByteArray) → List (List ByteArray) → Int → Option (Bool)
  | 0, _, _, _ => none
  | k + 1, x0, x1, x5 => if x5 < (x0.length : Int) then (if 0 ≤ x5 then (if x5 < (x1.length : Int) then (if ((rd_L2 x0 x5).length : Int) = ((rd_L2 x1 x5).length : Int) then (spec_SameGrid.l1 k x0 x1 x5 0) else (some false)) else (none)) else (none)) else (some true)
def spec_SameGrid.l1 : Nat → List (List ByteArray) → List (List ByteArray) → Int → Int → Option (Bool)
  | 0, _, _, _, _ => none
  | k + 1, x0, x1, x5, x6 => if 0 ≤ x5 then (if x5 < (x0.length : Int) then (if x6 < ((rd_L2 x0 x5).length : Int) then (if 0 ≤ x6 then (if x5 < (x1.length : Int) then (if x6 < ((rd_L2 x1 x5).length : Int) then (if (rdOf ByteArray.empty (rd_L2 x0 x5) x6).toList = (rdOf ByteArray.empty (rd_L2 x1 x5) x6).toList then (spec_SameGrid.l1 k x0 x1 x5 (wrap64 (x6 + 1))) else (some false)) else (none)) else (none)) else (none)) else (spec_SameGrid.l0 k x0 x1 (wrap64 (x5 + 1)))) else (none)) else (none)
end
def spec_SameGrid.f (k : Nat) (l0 : List (List ByteArray)) (l1 : List (List ByteArray)) : Option (Bool) := if (l0.length : Int) = (l1.length : Int) then (spec_SameGrid.l0 k l0 l1 0) else (some false)
theorem spec_SameGrid.mono_l : ∀ k, (∀ y0 y1 y2, LeO (spec_SameGrid.l0 k y0 y1 y2) (spec_SameGrid.l0 (k + 1) y0 y1 y2)) ∧ (∀ y0 y1 y2 y3, LeO (spec_SameGrid.l1 k y0 y1 y2 y3) (spec_SameGrid.l1 (k + 1) y0 y1 y2 y3))
  | 0 => ⟨fun _ _ _ r h => by simp [spec_SameGrid.l0] at h, fun _ _ _ _ r h => by simp [spec_SameGrid.l1] at h⟩
  | k + 1 => by
    obtain ⟨ih0, ih1⟩ := spec_SameGrid.mono_l k
    refine ⟨?_, ?_⟩
    · intro y0 y1 y2
      unfold spec_SameGrid.l0
      repeat' first
      | (with_reducible exact ih0 _ _ _)
      | (with_reducible exact ih1 _ _ _ _)
      | (with_reducible exact LeO.refl _)
      | (with_reducible exact LeO.none _)
      | (with_reducible refine LeO.ite ?_ ?_)
      | (with_reducible refine LeO.bind ?_ (fun _ => ?_))
      | exact ih0 _ _ _
      | exact ih1 _ _ _ _
      | exact LeO.none _
      | refine LeO.ite ?_ ?_
      | refine LeO.bind ?_ (fun _ => ?_)
    · intro y0 y1 y2 y3
      unfold spec_SameGrid.l1
      repeat' first
      | (with_reducible exact ih0 _ _ _)
      | (with_reducible exact ih1 _ _ _ _)
      | (with_reducible exact LeO.refl _)
      | (with_reducible exact LeO.none _)
      | (with_reducible refine LeO.ite ?_ ?_)
      | (with_reducible refine LeO.bind ?_ (fun _ => ?_))
      | exact ih0 _ _ _
      | exact ih1 _ _ _ _
      | exact LeO.none _
      | refine LeO.ite ?_ ?_
      | refine LeO.bind ?_ (fun _ => ?_)
theorem spec_SameGrid.mono : ∀ a0 a1 k, LeO (spec_SameGrid.f k a0 a1) (spec_SameGrid.f (k + 1) a0 a1) := by
  intro a0 a1 k
  obtain ⟨ih0, ih1⟩ := spec_SameGrid.mono_l k
  unfold spec_SameGrid.f
  repeat' first
      | (with_reducible exact ih0 _ _ _)
      | (with_reducible exact ih1 _ _ _ _)
      | (with_reducible exact LeO.refl _)
      | (with_reducible exact LeO.none _)
      | (with_reducible refine LeO.ite ?_ ?_)
      | (with_reducible refine LeO.bind ?_ (fun _ => ?_))
      | exact ih0 _ _ _
      | exact ih1 _ _ _ _
      | exact LeO.none _
      | refine LeO.ite ?_ ?_
      | refine LeO.bind ?_ (fun _ => ?_)
set_option maxHeartbeats 8000000 in
set_option maxRecDepth 100000 in
theorem spec_SameGrid.calls (k : Nat) (A0 : Option Addr) (c0 : Nat) (l0 : List (List ByteArray)) (A1 : Option Addr) (c1 : Nat) (l1 : List (List ByteArray)) (r : Bool) (w : World) (hr0 : Kd.C (Kd.slice 9 Kd.string) w A0 l0.length l0) (hc0 : l0.length ≤ c0) (hr1 : Kd.C (Kd.slice 9 Kd.string) w A1 l1.length l1) (hc1 : l1.length ≤ c1) (h : spec_SameGrid.f k l0 l1 = some r) :
    Calls Try.prog 11 #[.slice A0 l0.length c0, .slice A1 l1.length c1] w fun e w' => e = .returned (.bool r) ∧ Drawn0 w w' := by
  have HR0 := Aside0.mk hr0
  have HC0 := Aside0.mk hc0
  clear hr0 hc0
  have HR1 := Aside0.mk hr1
  have HC1 := Aside0.mk hc1
  clear hr1 hc1
  have H : (if (l0.length : Int) = (l1.length : Int) then (spec_SameGrid.l0 k l0 l1 0) else (some false)) = some r := h
  clear h
  by_cases c3 : (l0.length : Int) = (l1.length : Int)
  · rw [if_pos c3] at H
    have c3b0 : ((l0.length : Int) == (l1.length : Int)) = true := beq_iff_eq.mpr c3
    have c3b1 : ((l0.length : Int) != (l1.length : Int)) = false := bne_eq_false_iff_eq.mpr c3
    have c3b2 : (l0.length == l1.length) = true := by first | simpa using c3 | (simp at c3 ⊢; omega)
    clear c3
    have H' := Aside0.mk H
    clear H
    go_enter Try.func11, Try.ntmps11
    go_wp2
    repeat (go_quiet (fail); try go_wp2)
    (try simp only [Act.put, List.setIfInBounds_toArray, List.set_cons_zero, List.set_cons_succ])
    go_loopg [5] k (fun kq v5 w' => ∃ (x5_1 : Int), v5 = .int .i64 x5_1 ∧ Aside0 (spec_SameGrid.l0 kq l0 l1 x5_1 = some r) ∧ Aside0 (kq ≤ k) ∧ Drawn0 w w')
    case atStart => exact ⟨(0), (by first | rfl | (simp; done) | (simp [*]; done)), H', ⟨Nat.le_refl _⟩, by repeat (first | exact Drawn0.refl _ | apply Drawn0.step)⟩
    case round =>
      clear H'
      try clear c1
      try clear p2
      try clear c3
      try clear c3b0
      try clear c3b1
      try clear c3b2
      obtain ⟨x5_1, rfl, HA, HK1, ⟨m1, rfl⟩⟩ := hrel
      cases gk with
      | zero => exact absurd HA.out (by simp [spec_SameGrid.l0])
      | succ k1 =>
        have H := HA.out
        clear HA
        simp only [spec_SameGrid.l0] at H
        by_cases c4 : x5_1 < (l0.length : Int)
        · rw [if_pos c4] at H
          have c4b0 : decide (x5_1 < (l0.length : Int)) = true := decide_eq_true c4
          clear c4
          by_cases c5 : 0 ≤ x5_1
          · rw [if_pos c5] at H
            have c5b0 : decide (0 ≤ x5_1) = true := decide_eq_true c5
            clear c5
            by_cases c6 : x5_1 < (l1.length : Int)
            · rw [if_pos c6] at H
              have c6b0 : decide (x5_1 < (l1.length : Int)) = true := decide_eq_true c6
              clear c6
              by_cases c7 : ((rd_L2 l0 x5_1).length : Int) = ((rd_L2 l1 x5_1).length : Int)
              · rw [if_pos c7] at H
                have c7b0 : (((rd_L2 l0 x5_1).length : Int) == ((rd_L2 l1 x5_1).length : Int)) = true := beq_iff_eq.mpr c7
                have c7b1 : (((rd_L2 l0 x5_1).length : Int) != ((rd_L2 l1 x5_1).length : Int)) = false := bne_eq_false_iff_eq.mpr c7
                have c7b2 : ((rd_L2 l0 x5_1).length == (rd_L2 l1 x5_1).length) = true := by first | simpa using c7 | (simp at c7 ⊢; omega)
                clear c7
                have H' := Aside0.mk H
                clear H
                have p170 : 0 ≤ (x5_1 : Int) := of_decide_eq_true (by first | (with_reducible assumption) | assumption)
                have q170 : x5_1 < (l0.length : Int) := of_decide_eq_true (by first | (with_reducible assumption) | assumption)
                obtain ⟨ad170, A170_0, c170_0, e170, hx170_0, hl170_0, hi170_0⟩ := at_L2 HR0.out x5_1 p170 q170
                cases e170
                have HR170_0 := Aside0.mk hi170_0
                have HC170_0 := Aside0.mk hl170_0
                clear hi170_0 hl170_0
                replace p170 := eq_true p170
                replace q170 := eq_true q170
                have p171 : 0 ≤ (x5_1 : Int) := of_decide_eq_true (by first | (with_reducible assumption) | assumption)
                have q171 : x5_1 < (l1.length : Int) := of_decide_eq_true (by first | (with_reducible assumption) | assumption)
                obtain ⟨ad171, A171_0, c171_0, e171, hx171_0, hl171_0, hi171_0⟩ := at_L2 HR1.out x5_1 p171 q171
                cases e171
                have HR171_0 := Aside0.mk hi171_0
                have HC171_0 := Aside0.mk hl171_0
                clear hi171_0 hl171_0
                replace p171 := eq_true p171
                replace q171 := eq_true q171
                go_wp2
                repeat (go_quiet (fail); try go_wp2)
                (try simp only [Act.put, List.setIfInBounds_toArray, List.set_cons_zero, List.set_cons_succ])
                go_loopg [6] k1 (fun kq v6 w' => ∃ (x6_2 : Int), v6 = .int .i64 x6_2 ∧ Aside0 (spec_SameGrid.l1 kq l0 l1 x5_1 x6_2 = some r) ∧ Aside0 (kq ≤ k1) ∧ Drawn0 w w')
                case atStart => exact ⟨(0), (by first | rfl | (simp; done) | (simp [*]; done)), H', ⟨Nat.le_refl _⟩, by repeat (first | exact Drawn0.refl _ | apply Drawn0.step)⟩
                case round =>
                  clear H'
                  try clear c1
                  try clear p1
                  try clear q1
                  try clear hx1
                  try clear p2
                  try clear c3
                  try clear c3b0
                  try clear c3b1
                  try clear c3b2
                  try clear c4
                  try clear c4b0
                  try clear c5
                  try clear c5b0
                  try clear c6
                  try clear c6b0
                  try clear c7
                  try clear c7b0
                  try clear c7b1
                  try clear c7b2
                  try clear hx170_0
                  try clear hx171_0
                  try clear p170
                  try clear p171
                  try clear p2
                  try clear q170
                  try clear q171
                  obtain ⟨x6_2, rfl, HA, HK2, ⟨m2, rfl⟩⟩ := hrel
                  cases gk with
                  | zero => exact absurd HA.out (by simp [spec_SameGrid.l1])
                  | succ k2 =>
                    have H := HA.out
                    clear HA
                    simp only [spec_SameGrid.l1] at H
                    by_cases c8 : 0 ≤ x5_1
                    · rw [if_pos c8] at H
                      have c8b0 : decide (0 ≤ x5_1) = true := decide_eq_true c8
                      clear c8
                      by_cases c9 : x5_1 < (l0.length : Int)
                      · rw [if_pos c9] at H
                        have c9b0 : decide (x5_1 < (l0.length : Int)) = true := decide_eq_true c9
                        clear c9
                        by_cases c10 : x6_2 < ((rd_L2 l0 x5_1).length : Int)
                        · rw [if_pos c10] at H
                          have c10b0 : decide (x6_2 < ((rd_L2 l0 x5_1).length : Int)) = true := decide_eq_true c10
                          clear c10
                          by_cases c11 : 0 ≤ x6_2
                          · rw [if_pos c11] at H
                            have c11b0 : decide (0 ≤ x6_2) = true := decide_eq_true c11
                            clear c11
                            by_cases c12 : x5_1 < (l1.length : Int)
                            · rw [if_pos c12] at H
                              have c12b0 : decide (x5_1 < (l1.length : Int)) = true := decide_eq_true c12
                              clear c12
                              by_cases c13 : x6_2 < ((rd_L2 l1 x5_1).length : Int)
                              · rw [if_pos c13] at H
                                have c13b0 : decide (x6_2 < ((rd_L2 l1 x5_1).length : Int)) = true := decide_eq_true c13
                                clear c13
                                by_cases c14 : (rdOf ByteArray.empty (rd_L2 l0 x5_1) x6_2).toList = (rdOf ByteArray.empty (rd_L2 l1 x5_1) x6_2).toList
                                · rw [if_pos c14] at H
                                  have c14b0 : ((rdOf ByteArray.empty (rd_L2 l0 x5_1) x6_2).toList == (rdOf ByteArray.empty (rd_L2 l1 x5_1) x6_2).toList) = true := beq_iff_eq.mpr c14
                                  have c14b1 : ((rdOf ByteArray.empty (rd_L2 l0 x5_1) x6_2).toList != (rdOf ByteArray.empty (rd_L2 l1 x5_1) x6_2).toList) = false := bne_eq_false_iff_eq.mpr c14
                                  clear c14
                                  have H' := Aside0.mk H
                                  clear H
                                  have p172 : 0 ≤ (x5_1 : Int) := of_decide_eq_true (by first | (with_reducible assumption) | assumption)
                                  have q172 : x5_1 < (l0.length : Int) := of_decide_eq_true (by first | (with_reducible assumption) | assumption)
                                  obtain ⟨ad172, A172_0, c172_0, e172, hx172_0, hl172_0, hi172_0⟩ := at_L2 HR0.out x5_1 p172 q172
                                  obtain rfl : ad170 = ad172 := (by injection e172)
                                  have HR172_0 := Aside0.mk hi172_0
                                  have HC172_0 := Aside0.mk hl172_0
                                  clear hi172_0 hl172_0
                                  replace p172 := eq_true p172
                                  replace q172 := eq_true q172
                                  have p173 : 0 ≤ (x5_1 : Int) := of_decide_eq_true (by first | (with_reducible assumption) | assumption)
                                  have q173 : x5_1 < (l0.length : Int) := of_decide_eq_true (by first | (with_reducible assumption) | assumption)
                                  obtain ⟨ad173, A173_0, c173_0, e173, hx173_0, hl173_0, hi173_0⟩ := at_L2 HR0.out x5_1 p173 q173
                                  obtain rfl : ad170 = ad173 := (by injection e173)
                                  have HR173_0 := Aside0.mk hi173_0
                                  have HC173_0 := Aside0.mk hl173_0
                                  clear hi173_0 hl173_0
                                  replace p173 := eq_true p173
                                  replace q173 := eq_true q173
                                  have ea_ := Option.some.inj (hx172_0.symm.trans hx173_0)
                                  injection ea_ with ea_ en_ ec_
                                  subst ea_
                                  subst ec_
                                  clear en_
                                  have p174 : 0 ≤ (x6_2 : Int) := of_decide_eq_true (by first | (with_reducible assumption) | assumption)
                                  have q174 : x6_2 < ((rd_L2 l0 x5_1).length : Int) := of_decide_eq_true (by first | (with_reducible assumption) | assumption)
                                  obtain ⟨ad174, e174, hx174_0⟩ := Kd.at_string HR173_0.out x6_2 p174 q174
                                  cases e174
                                  replace p174 := eq_true p174
                                  replace q174 := eq_true q174
                                  have p175 : 0 ≤ (x5_1 : Int) := of_decide_eq_true (by first | (with_reducible assumption) | assumption)
                                  have q175 : x5_1 < (l1.length : Int) := of_decide_eq_true (by first | (with_reducible assumption) | assumption)
                                  obtain ⟨ad175, A175_0, c175_0, e175, hx175_0, hl175_0, hi175_0⟩ := at_L2 HR1.out x5_1 p175 q175
                                  obtain rfl : ad171 = ad175 := (by injection e175)
                                  have HR175_0 := Aside0.mk hi175_0
                                  have HC175_0 := Aside0.mk hl175_0
                                  clear hi175_0 hl175_0
                                  replace p175 := eq_true p175
                                  replace q175 := eq_true q175
                                  have p176 : 0 ≤ (x6_2 : Int) := of_decide_eq_true (by first | (with_reducible assumption) | assumption)
                                  have q176 : x6_2 < ((rd_L2 l1 x5_1).length : Int) := of_decide_eq_true (by first | (with_reducible assumption) | assumption)
                                  obtain ⟨ad176, e176, hx176_0⟩ := Kd.at_string HR175_0.out x6_2 p176 q176
                                  cases e176
                                  replace p176 := eq_true p176
                                  replace q176 := eq_true q176
                                  go_wp2
                                  repeat (go_quiet (fail); try go_wp2)
                                  go_roundg k2
                                  case measure => have := HK1.out; have := HK2.out; omega
                                  case rel => exact ⟨(wrap64 (x6_2 + 1)), (by first | rfl | (simp; done) | (simp [*]; done)), H', ⟨by have := HK1.out; have := HK2.out; omega⟩, by repeat (first | exact Drawn0.refl _ | apply Drawn0.step)⟩
                                · rw [if_neg c14] at H
                                  have c14b0 : ((rdOf ByteArray.empty (rd_L2 l0 x5_1) x6_2).toList == (rdOf ByteArray.empty (rd_L2 l1 x5_1) x6_2).toList) = false := beq_eq_false_iff_ne.mpr c14
                                  have c14b1 : ((rdOf ByteArray.empty (rd_L2 l0 x5_1) x6_2).toList != (rdOf ByteArray.empty (rd_L2 l1 x5_1) x6_2).toList) = true := bne_iff_ne.mpr c14
                                  obtain rfl := Option.some.inj H
                                  have p172 : 0 ≤ (x5_1 : Int) := of_decide_eq_true (by first | (with_reducible assumption) | assumption)
                                  have q172 : x5_1 < (l0.length : Int) := of_decide_eq_true (by first | (with_reducible assumption) | assumption)
                                  obtain ⟨ad172, A172_0, c172_0, e172, hx172_0, hl172_0, hi172_0⟩ := at_L2 HR0.out x5_1 p172 q172
                                  obtain rfl : ad170 = ad172 := (by injection e172)
                                  have HR172_0 := Aside0.mk hi172_0
                                  have HC172_0 := Aside0.mk hl172_0
                                  clear hi172_0 hl172_0
                                  replace p172 := eq_true p172
                                  replace q172 := eq_true q172
                                  have p173 : 0 ≤ (x5_1 : Int) := of_decide_eq_true (by first | (with_reducible assumption) | assumption)
                                  have q173 : x5_1 < (l0.length : Int) := of_decide_eq_true (by first | (with_reducible assumption) | assumption)
                                  obtain ⟨ad173, A173_0, c173_0, e173, hx173_0, hl173_0, hi173_0⟩ := at_L2 HR0.out x5_1 p173 q173
                                  obtain rfl : ad170 = ad173 := (by injection e173)
                                  have HR173_0 := Aside0.mk hi173_0
                                  have HC173_0 := Aside0.mk hl173_0
                                  clear hi173_0 hl173_0
                                  replace p173 := eq_true p173
                                  replace q173 := eq_true q173
                                  have ea_ := Option.some.inj (hx172_0.symm.trans hx173_0)
                                  injection ea_ with ea_ en_ ec_
                                  subst ea_
                                  subst ec_
                                  clear en_
                                  have p174 : 0 ≤ (x6_2 : Int) := of_decide_eq_true (by first | (with_reducible assumption) | assumption)
                                  have q174 : x6_2 < ((rd_L2 l0 x5_1).length : Int) := of_decide_eq_true (by first | (with_reducible assumption) | assumption)
                                  obtain ⟨ad174, e174, hx174_0⟩ := Kd.at_string HR173_0.out x6_2 p174 q174
                                  cases e174
                                  replace p174 := eq_true p174
                                  replace q174 := eq_true q174
                                  have p175 : 0 ≤ (x5_1 : Int) := of_decide_eq_true (by first | (with_reducible assumption) | assumption)
                                  have q175 : x5_1 < (l1.length : Int) := of_decide_eq_true (by first | (with_reducible assumption) | assumption)
                                  obtain ⟨ad175, A175_0, c175_0, e175, hx175_0, hl175_0, hi175_0⟩ := at_L2 HR1.out x5_1 p175 q175
                                  obtain rfl : ad171 = ad175 := (by injection e175)
                                  have HR175_0 := Aside0.mk hi175_0
                                  have HC175_0 := Aside0.mk hl175_0
                                  clear hi175_0 hl175_0
                                  replace p175 := eq_true p175
                                  replace q175 := eq_true q175
                                  have p176 : 0 ≤ (x6_2 : Int) := of_decide_eq_true (by first | (with_reducible assumption) | assumption)
                                  have q176 : x6_2 < ((rd_L2 l1 x5_1).length : Int) := of_decide_eq_true (by first | (with_reducible assumption) | assumption)
                                  obtain ⟨ad176, e176, hx176_0⟩ := Kd.at_string HR175_0.out x6_2 p176 q176
                                  cases e176
                                  replace p176 := eq_true p176
                                  replace q176 := eq_true q176
                                  go_wp2
                                  repeat (go_quiet (fail); try go_wp2)
                                  go_ret
                                  exact ⟨by first | rfl | (simp; done) | (simp [*]; done), by repeat (first | exact Drawn0.refl _ | apply Drawn0.step)⟩
                              · rw [if_neg c13] at H
                                exact absurd H (by simp)
                            · rw [if_neg c12] at H
                              exact absurd H (by simp)
                          · rw [if_neg c11] at H
                            exact absurd H (by simp)
                        · rw [if_neg c10] at H
                          have c10b0 : decide (x6_2 < ((rd_L2 l0 x5_1).length : Int)) = false := decide_eq_false c10
                          clear c10
                          have H' := Aside0.mk H
                          clear H
                          have p172 : 0 ≤ (x5_1 : Int) := of_decide_eq_true (by first | (with_reducible assumption) | assumption)
                          have q172 : x5_1 < (l0.length : Int) := of_decide_eq_true (by first | (with_reducible assumption) | assumption)
                          obtain ⟨ad172, A172_0, c172_0, e172, hx172_0, hl172_0, hi172_0⟩ := at_L2 HR0.out x5_1 p172 q172
                          obtain rfl : ad170 = ad172 := (by injection e172)
                          have HR172_0 := Aside0.mk hi172_0
                          have HC172_0 := Aside0.mk hl172_0
                          clear hi172_0 hl172_0
                          replace p172 := eq_true p172
                          replace q172 := eq_true q172
                          go_wp2
                          repeat (go_quiet (fail); try go_wp2)
                          go_roundg k2
                          case measure => have := HK1.out; have := HK2.out; omega
                          case rel => exact ⟨(wrap64 (x5_1 + 1)), (by first | rfl | (simp; done) | (simp [*]; done)), H', ⟨by have := HK1.out; have := HK2.out; omega⟩, by repeat (first | exact Drawn0.refl _ | apply Drawn0.step)⟩
                      · rw [if_neg c9] at H
                        exact absurd H (by simp)
                    · rw [if_neg c8] at H
                      exact absurd H (by simp)
              · rw [if_neg c7] at H
                have c7b0 : (((rd_L2 l0 x5_1).length : Int) == ((rd_L2 l1 x5_1).length : Int)) = false := beq_eq_false_iff_ne.mpr c7
                have c7b1 : (((rd_L2 l0 x5_1).length : Int) != ((rd_L2 l1 x5_1).length : Int)) = true := bne_iff_ne.mpr c7
                have c7b2 : ((rd_L2 l0 x5_1).length == (rd_L2 l1 x5_1).length) = false := by first | simpa using c7 | (simp at c7 ⊢; omega)
                obtain rfl := Option.some.inj H
                have p170 : 0 ≤ (x5_1 : Int) := of_decide_eq_true (by first | (with_reducible assumption) | assumption)
                have q170 : x5_1 < (l0.length : Int) := of_decide_eq_true (by first | (with_reducible assumption) | assumption)
                obtain ⟨ad170, A170_0, c170_0, e170, hx170_0, hl170_0, hi170_0⟩ := at_L2 HR0.out x5_1 p170 q170
                cases e170
                have HR170_0 := Aside0.mk hi170_0
                have HC170_0 := Aside0.mk hl170_0
                clear hi170_0 hl170_0
                replace p170 := eq_true p170
                replace q170 := eq_true q170
                have p171 : 0 ≤ (x5_1 : Int) := of_decide_eq_true (by first | (with_reducible assumption) | assumption)
                have q171 : x5_1 < (l1.length : Int) := of_decide_eq_true (by first | (with_reducible assumption) | assumption)
                obtain ⟨ad171, A171_0, c171_0, e171, hx171_0, hl171_0, hi171_0⟩ := at_L2 HR1.out x5_1 p171 q171
                cases e171
                have HR171_0 := Aside0.mk hi171_0
                have HC171_0 := Aside0.mk hl171_0
                clear hi171_0 hl171_0
                replace p171 := eq_true p171
                replace q171 := eq_true q171
                go_wp2
                repeat (go_quiet (fail); try go_wp2)
                go_ret
                exact ⟨by first | rfl | (simp; done) | (simp [*]; done), by repeat (first | exact Drawn0.refl _ | apply Drawn0.step)⟩
            · rw [if_neg c6] at H
              exact absurd H (by simp)
          · rw [if_neg c5] at H
            exact absurd H (by simp)
        · rw [if_neg c4] at H
          have c4b0 : decide (x5_1 < (l0.length : Int)) = false := decide_eq_false c4
          clear c4
          obtain rfl := Option.some.inj H
          go_wp2
          repeat (go_quiet (fail); try go_wp2)
          go_ret
          exact ⟨by first | rfl | (simp; done) | (simp [*]; done), by repeat (first | exact Drawn0.refl _ | apply Drawn0.step)⟩
  · rw [if_neg c3] at H
    have c3b0 : ((l0.length : Int) == (l1.length : Int)) = false := beq_eq_false_iff_ne.mpr c3
    have c3b1 : ((l0.length : Int) != (l1.length : Int)) = true := bne_iff_ne.mpr c3
    have c3b2 : (l0.length == l1.length) = false := by first | simpa using c3 | (simp at c3 ⊢; omega)
    obtain rfl := Option.some.inj H
    go_enter Try.func11, Try.ntmps11
    go_wp2
    repeat (go_quiet (fail); try go_wp2)
    go_ret
    exact ⟨by first | rfl | (simp; done) | (simp [*]; done), by repeat (first | exact Drawn0.refl _ | apply Drawn0.step)⟩

-- NOT PRINTED: function 3 (laws_FnTsvRowBack)

end
end Go.Proofs.Ytelbcekkfdpoaaa.GTsvBody
