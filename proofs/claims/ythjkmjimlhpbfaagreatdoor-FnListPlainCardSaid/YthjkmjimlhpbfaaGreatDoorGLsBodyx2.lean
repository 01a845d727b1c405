-- Written by gprint.py, a program of this session over the kit's printer, with contracts of its own for what the printer does not take. Not trusted: Lean checks it.
import Derived.Test.YthjkmjimlhpbfaaGreatDoorGLsBodyx0
namespace Go.Proofs.YthjkmjimlhpbfaaGreatDoor.GLsBody
open Go.RowKit Go.Proofs.YthjkmjimlhpbfaaGreatDoor.Itr Go.Proofs.YthjkmjimlhpbfaaGreatDoorW.PrintWords Go.Proofs.YthjkmjimlhpbfaaGreatDoorW.PrintLast Go.Proofs.YthjkmjimlhpbfaaGreatDoorW.PrintMore
attribute [local go_sem] max2_int min2_int max_two min_two max_three min_three max_four min_four   -- for this text's walks alone
set_option linter.unusedVariables false
set_option linter.unusedSimpArgs false

/-! ### text_zzIndex: function 87 -/
def text_zzIndex.l0 : Nat → ByteArray → ByteArray → Int → Option (Int)
  | 0, _, _, _ => none
  | k + 1, x0, x1, x5 => if (wrap64 (x5 + (x1.size : Int))) ≤ (x0.size : Int) then (if 0 ≤ x5 then (if x5 ≤ (wrap64 (x5 + (x1.size : Int))) then (if (x0.extract (x5 : Int).toNat ((wrap64 (x5 + (x1.size : Int))) : Int).toNat).toList = x1.toList then (some x5) else (text_zzIndex.l0 k x0 x1 (wrap64 (x5 + 1)))) else (none)) else (none)) else (some (-1))
def text_zzIndex.f (k : Nat) (a0 : ByteArray) (a1 : ByteArray) : Option (Int) := text_zzIndex.l0 k a0 a1 0
theorem text_zzIndex.mono_l : ∀ k, (∀ y0 y1 y2, LeO (text_zzIndex.l0 k y0 y1 y2) (text_zzIndex.l0 (k + 1) y0 y1 y2))
  | 0 => fun _ _ _ r h => by simp [text_zzIndex.l0] at h
  | k + 1 => by
    have ih0 := text_zzIndex.mono_l k
    · intro y0 y1 y2
      unfold text_zzIndex.l0
      repeat' first
      | (with_reducible exact ih0 _ _ _)
      | (with_reducible exact LeO.refl _)
      | (with_reducible exact LeO.none _)
      | (with_reducible refine LeO.ite ?_ ?_)
      | (with_reducible refine LeO.bind ?_ (fun _ => ?_))
      | exact ih0 _ _ _
      | exact LeO.none _
      | refine LeO.ite ?_ ?_
      | refine LeO.bind ?_ (fun _ => ?_)
theorem text_zzIndex.mono : ∀ a0 a1 k, LeO (text_zzIndex.f k a0 a1) (text_zzIndex.f (k + 1) a0 a1) := by
  intro a0 a1 k
  have ih0 := text_zzIndex.mono_l k
  unfold text_zzIndex.f
  repeat' first
      | (with_reducible exact ih0 _ _ _)
      | (with_reducible exact LeO.refl _)
      | (with_reducible exact LeO.none _)
      | (with_reducible refine LeO.ite ?_ ?_)
      | (with_reducible refine LeO.bind ?_ (fun _ => ?_))
      | exact ih0 _ _ _
      | exact LeO.none _
      | refine LeO.ite ?_ ?_
      | refine LeO.bind ?_ (fun _ => ?_)
set_option maxHeartbeats 8000000 in
set_option maxRecDepth 100000 in
theorem text_zzIndex.calls (k : Nat) (a0 : ByteArray) (a1 : ByteArray) (r : Int) (w : World) (h : text_zzIndex.f k a0 a1 = some r) :
    Calls Tryz.prog 87 #[.string a0, .string a1] w fun e w' => e = .returned (.int .i64 r) ∧ Drawn0 w w' := by
  have H : (text_zzIndex.l0 k a0 a1 0) = some r := h
  clear h
  have H' := Aside0.mk H
  clear H
  go_enter Tryz.func87, Tryz.ntmps87
  go_wp2
  (try simp only [Act.put, List.setIfInBounds_toArray, List.set_cons_zero, List.set_cons_succ])
  go_loopg [5] k (fun kq v5 w' => ∃ (x5_1 : Int), v5 = .int .i64 x5_1 ∧ Aside0 (text_zzIndex.l0 kq a0 a1 x5_1 = some r) ∧ Aside0 (kq ≤ k) ∧ Drawn0 w w')
  case atStart => exact ⟨(0), (by first | rfl | (simp; done) | (simp [*]; done)), H', ⟨Nat.le_refl _⟩, by repeat (first | exact Drawn0.refl _ | apply Drawn0.step)⟩
  case round =>
    clear H'
    try clear p2
    obtain ⟨x5_1, rfl, HA, HK1, ⟨m1, rfl⟩⟩ := hrel
    cases gk with
    | zero => exact absurd HA.out (by simp [text_zzIndex.l0])
    | succ k1 =>
      have H := HA.out
      clear HA
      simp only [text_zzIndex.l0] at H
      by_cases c3 : (wrap64 (x5_1 + (a1.size : Int))) ≤ (a0.size : Int)
      · rw [if_pos c3] at H
        have c3b0 : decide ((wrap64 (x5_1 + (a1.size : Int))) ≤ (a0.size : Int)) = true := decide_eq_true c3
        clear c3
        by_cases c4 : 0 ≤ x5_1
        · rw [if_pos c4] at H
          have c4b0 := eq_true c4
          have c4b1 : decide (0 ≤ x5_1) = true := decide_eq_true c4
          clear c4
          by_cases c5 : x5_1 ≤ (wrap64 (x5_1 + (a1.size : Int)))
          · rw [if_pos c5] at H
            have c5b0 := eq_true c5
            have c5b1 : decide (x5_1 ≤ (wrap64 (x5_1 + (a1.size : Int)))) = true := decide_eq_true c5
            have c6b0 := eq_true (of_decide_eq_true (by first | (with_reducible assumption) | assumption) : (wrap64 (x5_1 + (a1.size : Int))) ≤ (a0.size : Int))
            by_cases c7 : (a0.extract (x5_1 : Int).toNat ((wrap64 (x5_1 + (a1.size : Int))) : Int).toNat).toList = a1.toList
            · rw [if_pos c7] at H
              have c7b0 : ((a0.extract (x5_1 : Int).toNat ((wrap64 (x5_1 + (a1.size : Int))) : Int).toNat).toList == a1.toList) = true := beq_iff_eq.mpr c7
              have c7b1 : ((a0.extract (x5_1 : Int).toNat ((wrap64 (x5_1 + (a1.size : Int))) : Int).toNat).toList != a1.toList) = false := bne_eq_false_iff_eq.mpr c7
              clear c7
              obtain rfl := Option.some.inj H
              go_wp2
              go_ret
              exact ⟨by first | rfl | (simp; done) | (simp [*]; done), by repeat (first | exact Drawn0.refl _ | apply Drawn0.step)⟩
            · rw [if_neg c7] at H
              have c7b0 : ((a0.extract (x5_1 : Int).toNat ((wrap64 (x5_1 + (a1.size : Int))) : Int).toNat).toList == a1.toList) = false := beq_eq_false_iff_ne.mpr c7
              have c7b1 : ((a0.extract (x5_1 : Int).toNat ((wrap64 (x5_1 + (a1.size : Int))) : Int).toNat).toList != a1.toList) = true := bne_iff_ne.mpr c7
              have H' := Aside0.mk H
              clear H
              go_wp2
              go_roundg k1
              case measure => have := HK1.out; omega
              case rel => exact ⟨(wrap64 (x5_1 + 1)), (by first | rfl | (simp; done) | (simp [*]; done)), H', ⟨by have := HK1.out; omega⟩, by repeat (first | exact Drawn0.refl _ | apply Drawn0.step)⟩
          · rw [if_neg c5] at H
            exact absurd H (by simp)
        · rw [if_neg c4] at H
          exact absurd H (by simp)
      · rw [if_neg c3] at H
        have c3b0 : decide ((wrap64 (x5_1 + (a1.size : Int))) ≤ (a0.size : Int)) = false := decide_eq_false c3
        clear c3
        obtain rfl := Option.some.inj H
        go_wp2
        go_ret
        exact ⟨by first | rfl | (simp; done) | (simp [*]; done), by repeat (first | exact Drawn0.refl _ | apply Drawn0.step)⟩

/-! ### text_zzReplaceAll: function 71 -/
mutual
def text_zzReplaceAll.l0 : Nat → ByteArray → ByteArray → List Int → Int → ByteArray → Int → Option (ByteArray)
  | 0, _, _, _, _, _, _ => none
  | k + 1, x0, x2, x7, x8, x160000, x160001 => if x160001 < (x160000.size : Int) then ((itr_more.f x160000 x160001).bind fun bt160 => (if bt160.1 > 0 then (if 0 ≤ x8 then (if x8 ≤ bt160.1 then (if bt160.1 ≤ (x0.size : Int) then (if x7.length + (x0.extract (x8 : Int).toNat (bt160.1 : Int).toNat).size < 140737488355328 then ((some (x7 ++ bytesOf (x0.extract (x8 : Int).toNat (bt160.1 : Int).toNat) : List Int)).bind fun y163 => (if y163.length + x2.size < 140737488355328 then (text_zzReplaceAll.l0 k x0 x2 (y163 ++ bytesOf x2) bt160.1 x160000 bt160.2.2) else (none))) else (none)) else (none)) else (none)) else (none)) else (text_zzReplaceAll.l0 k x0 x2 x7 x8 x160000 bt160.2.2))) else ((itr_end.f x160000 x160001).bind fun t169 => (if (x0.size : Int) > 0 then (if 0 ≤ x8 then (if x8 ≤ (x0.size : Int) then (if x7.length + (x0.extract (x8 : Int).toNat x0.size).size < 140737488355328 then ((some (x7 ++ bytesOf (x0.extract (x8 : Int).toNat x0.size) : List Int)).bind fun y170 => (if y170.length + x2.size < 140737488355328 then (some (strOfNums (y170 ++ bytesOf x2))) else (none))) else (none)) else (none)) else (none)) else (some (strOfNums x7))))
def text_zzReplaceAll.l1 : Nat → ByteArray → ByteArray → ByteArray → List Int → Option (ByteArray)
  | 0, _, _, _, _ => none
  | k + 1, x0, x1, x2, x7 => (text_zzIndex.f k x0 x1).bind fun t176 => (if t176 < 0 then (if x7.length + x0.size < 140737488355328 then (some (strOfNums (x7 ++ bytesOf x0))) else (none)) else (if 0 ≤ t176 then (if t176 ≤ (x0.size : Int) then (if x7.length + (x0.extract 0 (t176 : Int).toNat).size < 140737488355328 then ((some (x7 ++ bytesOf (x0.extract 0 (t176 : Int).toNat) : List Int)).bind fun y180 => (if y180.length + x2.size < 140737488355328 then (if 0 ≤ (wrap64 (t176 + (x1.size : Int))) then (if (wrap64 (t176 + (x1.size : Int))) ≤ (x0.size : Int) then (text_zzReplaceAll.l1 k (x0.extract ((wrap64 (t176 + (x1.size : Int))) : Int).toNat x0.size) x1 x2 (y180 ++ bytesOf x2)) else (none)) else (none)) else (none))) else (none)) else (none)) else (none)))
end
def text_zzReplaceAll.f (k : Nat) (a0 : ByteArray) (a1 : ByteArray) (a2 : ByteArray) : Option (ByteArray) := if (a1.size : Int) = 0 then (if ([] : List Int).length + a2.size < 140737488355328 then ((itr_make.f a0).bind fun bt157 => (text_zzReplaceAll.l0 k a0 a2 (([] : List Int) ++ bytesOf a2) 0 bt157.1 bt157.2)) else (none)) else (text_zzReplaceAll.l1 k a0 a1 a2 ([] : List Int))
theorem text_zzReplaceAll.mono_l : ∀ k, (∀ y0 y1 y2 y3 y4 y5, LeO (text_zzReplaceAll.l0 k y0 y1 y2 y3 y4 y5) (text_zzReplaceAll.l0 (k + 1) y0 y1 y2 y3 y4 y5)) ∧ (∀ y0 y1 y2 y3, LeO (text_zzReplaceAll.l1 k y0 y1 y2 y3) (text_zzReplaceAll.l1 (k + 1) y0 y1 y2 y3))
  | 0 => ⟨fun _ _ _ _ _ _ r h => by simp [text_zzReplaceAll.l0] at h, fun _ _ _ _ r h => by simp [text_zzReplaceAll.l1] at h⟩
  | k + 1 => by
    obtain ⟨ih0, ih1⟩ := text_zzReplaceAll.mono_l k
    refine ⟨?_, ?_⟩
    · intro y0 y1 y2 y3 y4 y5
      unfold text_zzReplaceAll.l0
      repeat' first
      | (with_reducible exact ih0 _ _ _ _ _ _)
      | (with_reducible exact ih1 _ _ _ _)
      | (with_reducible exact text_zzIndex.mono _ _ _)
      | (with_reducible exact LeO.refl _)
      | (with_reducible exact LeO.none _)
      | (with_reducible refine LeO.ite ?_ ?_)
      | (with_reducible refine LeO.bind ?_ (fun _ => ?_))
      | exact ih0 _ _ _ _ _ _
      | exact ih1 _ _ _ _
      | exact text_zzIndex.mono _ _ _
      | exact LeO.none _
      | refine LeO.ite ?_ ?_
      | refine LeO.bind ?_ (fun _ => ?_)
    · intro y0 y1 y2 y3
      unfold text_zzReplaceAll.l1
      repeat' first
      | (with_reducible exact ih0 _ _ _ _ _ _)
      | (with_reducible exact ih1 _ _ _ _)
      | (with_reducible exact text_zzIndex.mono _ _ _)
      | (with_reducible exact LeO.refl _)
      | (with_reducible exact LeO.none _)
      | (with_reducible refine LeO.ite ?_ ?_)
      | (with_reducible refine LeO.bind ?_ (fun _ => ?_))
      | exact ih0 _ _ _ _ _ _
      | exact ih1 _ _ _ _
      | exact text_zzIndex.mono _ _ _
      | exact LeO.none _
      | refine LeO.ite ?_ ?_
      | refine LeO.bind ?_ (fun _ => ?_)
theorem text_zzReplaceAll.mono : ∀ a0 a1 a2 k, LeO (text_zzReplaceAll.f k a0 a1 a2) (text_zzReplaceAll.f (k + 1) a0 a1 a2) := by
  intro a0 a1 a2 k
  obtain ⟨ih0, ih1⟩ := text_zzReplaceAll.mono_l k
  unfold text_zzReplaceAll.f
  repeat' first
      | (with_reducible exact ih0 _ _ _ _ _ _)
      | (with_reducible exact ih1 _ _ _ _)
      | (with_reducible exact text_zzIndex.mono _ _ _)
      | (with_reducible exact LeO.refl _)
      | (with_reducible exact LeO.none _)
      | (with_reducible refine LeO.ite ?_ ?_)
      | (with_reducible refine LeO.bind ?_ (fun _ => ?_))
      | exact ih0 _ _ _ _ _ _
      | exact ih1 _ _ _ _
      | exact text_zzIndex.mono _ _ _
      | exact LeO.none _
      | refine LeO.ite ?_ ?_
      | refine LeO.bind ?_ (fun _ => ?_)
set_option maxHeartbeats 8000000 in
set_option maxRecDepth 100000 in
theorem text_zzReplaceAll.calls (k : Nat) (a0 : ByteArray) (a1 : ByteArray) (a2 : ByteArray) (r : ByteArray) (w : World) (h : text_zzReplaceAll.f k a0 a1 a2 = some r) :
    Calls Tryz.prog 71 #[.string a0, .string a1, .string a2] w fun e w' => e = .returned (.string r) ∧ Below w.heap.size w w' := by
  have HB := Aside0.mk (Below.refl w.heap.size w)
  have H : (if (a1.size : Int) = 0 then (if ([] : List Int).length + a2.size < 140737488355328 then ((itr_make.f a0).bind fun bt157 => (text_zzReplaceAll.l0 k a0 a2 (([] : List Int) ++ bytesOf a2) 0 bt157.1 bt157.2)) else (none)) else (text_zzReplaceAll.l1 k a0 a1 a2 ([] : List Int))) = some r := h
  clear h
  by_cases c4 : (a1.size : Int) = 0
  · rw [if_pos c4] at H
    have c4b0 : ((a1.size : Int) == 0) = true := beq_iff_eq.mpr c4
    have c4b1 : ((a1.size : Int) != 0) = false := bne_eq_false_iff_eq.mpr c4
    clear c4
    by_cases c5 : ([] : List Int).length + a2.size < 140737488355328
    · rw [if_pos c5] at H
      have LMc5 := Aside0.mk c5
      clear c5
      obtain ⟨y154, hy154⟩ : ∃ y_ : List Int, y_ = (([] : List Int) ++ bytesOf a2) := ⟨_, rfl⟩
      replace H : ((itr_make.f a0).bind fun bt157 => (text_zzReplaceAll.l0 k a0 a2 y154 0 bt157.1 bt157.2)) = some r := by first | (rw [hy154]; with_reducible exact H) | (have H2_ := (Option.bind_some _ _).symm.trans H; rw [hy154]; with_reducible exact H2_) | (have H2_ := (Option.bind_some _ _).symm.trans H; with_reducible exact H2_) | with_reducible exact H | (rw [hy154]; exact H) | exact H
      have Ny154 := Aside0.mk hy154
      clear hy154
      replace H := Option.bind_eq_some_iff.mp H
      obtain ⟨⟨t157, t158⟩, A60, H⟩ := H
      replace H : (text_zzReplaceAll.l0 k a0 a2 y154 0 t157 t158) = some r := H
      have A6 := Aside0.mk A60
      clear A60
      have H' := Aside0.mk H
      clear H
      go_enter Tryz.func71, Tryz.ntmps71
      go_wp2_with (first | (at_builtin; refine print_append_str (w0 := w) w.heap.size rfl (.tmp 14) _ 57 9 5 rfl Tryz.underlying57 Tryz.underlying9 info5 (.slice none 0 0) ([] : List Int) a2 rfl rfl ?aO ?aB ?aS ?aL ?_; (case aB => exact (by repeat (first | (with_reducible first | exact HB.out | apply below_alloc | apply pw_below_drewN | apply below_drew1) | exact HB.out))); (case aO => exact (own_nil _ _ _ _)); (case aS => exact (below_size (by repeat (first | (with_reducible first | exact HB.out | apply below_alloc | apply pw_below_drewN | apply below_drew1) | exact HB.out)))); (case aL => have := LMc5.out; first | omega | exact this | exact Nat.le_of_lt this); intro v155 w7 ho0 hb hg; have ho := Kd.R_of_own (h1 := fun _ => rfl) (ok := fun _ => True) ho0 (fun _ _ => trivial); clear ho0; have hat := True.intro; rw [← Ny154.out] at ho; change Kd.R (Kd.int .u8) 5 w7 w.heap.size (fun _ => True) v155 y154 at ho; have n0_ := Aside0.mk (hb); have n1_ := Aside0.mk (ho); clear HB; have HB := n0_; have HO156 := n1_; clear n0_ n1_; clear ho hb hg hat) | ((with_reducible refine gate_dst (N := 18) rfl ?_); refine rangeL_ (some 18) rfl rfl rfl Tryz.underlying9 a0 rfl ?_; (with_reducible refine (itr_make.calls a0 t157 t158 w _ ?side1 A6.out).mono ?_); (case side1 => repeat (first | (with_reducible first | exact HB.out | apply below_alloc | apply pw_below_drewN | apply below_drew1) | exact HB.out)); rintro e w8 ⟨g159, rfl, hi, hb, hb2, hge⟩; refine ⟨_, rfl, ?_⟩; have n0_ := Aside0.mk (Kd.R_below (by (with_reducible repeat (first | apply Kd.R_alloc | apply Kd.R_drewN | apply Kd.R_drew)); exact HO156.out) hb2); have n1_ := Aside0.mk (hb); have n2_ := Aside0.mk (hi); clear HO156; clear HB; have HO156 := n0_; have HB := n1_; have HI159 := n2_; clear n0_ n1_ n2_; (try clear hb); (try clear hb2); (try clear hk); (try clear hi)))
      (try simp only [Act.put, List.setIfInBounds_toArray, List.set_cons_zero, List.set_cons_succ])
      go_loopg [7, 8] k (fun kq v7 v8 w' => ∃ (x7_1 : List Int) (x8_1 : Int) (x160001_1 : Int), v8 = .int .i64 x8_1 ∧ Aside0 (text_zzReplaceAll.l0 kq a0 a2 x7_1 x8_1 t157 x160001_1 = some r) ∧ Aside0 (kq ≤ k) ∧ Aside0 (Kd.R (Kd.int .u8) 5 w' w.heap.size (fun _ => True) v7 x7_1) ∧ Aside0 (IsS156 w w' g159 t157 x160001_1) ∧ Aside0 (Below w.heap.size w w'))
      case atStart => exact ⟨(y154), (0), (t158), (by first | rfl | (simp; done) | (simp [*]; done)), H', ⟨Nat.le_refl _⟩, ⟨by (with_reducible repeat (first | apply Kd.R_alloc | apply Kd.R_drewN | apply Kd.R_drew)); exact HO156.out⟩, ⟨by repeat (first | (with_reducible first | exact HI159.out | apply IsS156.alloc | apply IsS156.drewN | apply IsS156.drew | apply IsS156.set_1) | exact HI159.out)⟩, ⟨by repeat (first | (with_reducible first | exact HB.out | apply below_alloc | apply pw_below_drewN | apply below_drew1 | refine below_set ?_ (IsS156.ge HI159.out)) | exact HB.out)⟩⟩
      case round =>
        clear H'
        try clear p2
        try clear c4
        try clear c4b0
        try clear c4b1
        try clear c5
        try clear c7
        obtain ⟨x7_1, x8_1, x160001_1, rfl, HA, HK1, HO_7, HI159, HB⟩ := hrel
        cases gk with
        | zero => exact absurd HA.out (by simp [text_zzReplaceAll.l0])
        | succ k1 =>
          have H := HA.out
          clear HA
          simp only [text_zzReplaceAll.l0] at H
          by_cases c9 : x160001_1 < (t157.size : Int)
          · rw [if_pos c9] at H
            have c9b0 : decide (x160001_1 < (t157.size : Int)) = true := decide_eq_true c9
            clear c9
            replace H := Option.bind_eq_some_iff.mp H
            obtain ⟨⟨t160, t161, t162⟩, A100, H⟩ := H
            replace H : (if t160 > 0 then (if 0 ≤ x8_1 then (if x8_1 ≤ t160 then (if t160 ≤ (a0.size : Int) then (if x7_1.length + (a0.extract (x8_1 : Int).toNat (t160 : Int).toNat).size < 140737488355328 then ((some (x7_1 ++ bytesOf (a0.extract (x8_1 : Int).toNat (t160 : Int).toNat) : List Int)).bind fun y163 => (if y163.length + a2.size < 140737488355328 then (text_zzReplaceAll.l0 k1 a0 a2 (y163 ++ bytesOf a2) t160 t157 t162) else (none))) else (none)) else (none)) else (none)) else (none)) else (text_zzReplaceAll.l0 k1 a0 a2 x7_1 x8_1 t157 t162)) = some r := H
            have A10 := Aside0.mk A100
            clear A100
            by_cases c11 : t160 > 0
            · rw [if_pos c11] at H
              have c11b0 : decide (0 < t160) = true := decide_eq_true c11
              clear c11
              by_cases c12 : 0 ≤ x8_1
              · rw [if_pos c12] at H
                have c12b0 := eq_true c12
                have c12b1 : decide (0 ≤ x8_1) = true := decide_eq_true c12
                clear c12
                by_cases c13 : x8_1 ≤ t160
                · rw [if_pos c13] at H
                  have c13b0 := eq_true c13
                  have c13b1 : decide (x8_1 ≤ t160) = true := decide_eq_true c13
                  clear c13
                  by_cases c14 : t160 ≤ (a0.size : Int)
                  · rw [if_pos c14] at H
                    have c14b0 := eq_true c14
                    have c14b1 : decide (t160 ≤ (a0.size : Int)) = true := decide_eq_true c14
                    clear c14
                    by_cases c15 : x7_1.length + (a0.extract (x8_1 : Int).toNat (t160 : Int).toNat).size < 140737488355328
                    · rw [if_pos c15] at H
                      have LMc15 := Aside0.mk c15
                      clear c15
                      obtain ⟨y163, hy163⟩ : ∃ y_ : List Int, y_ = (x7_1 ++ bytesOf (a0.extract (x8_1 : Int).toNat (t160 : Int).toNat)) := ⟨_, rfl⟩
                      replace H : (if y163.length + a2.size < 140737488355328 then (text_zzReplaceAll.l0 k1 a0 a2 (y163 ++ bytesOf a2) t160 t157 t162) else (none)) = some r := by first | (rw [hy163]; with_reducible exact H) | (have H2_ := (Option.bind_some _ _).symm.trans H; rw [hy163]; with_reducible exact H2_) | (have H2_ := (Option.bind_some _ _).symm.trans H; with_reducible exact H2_) | with_reducible exact H | (rw [hy163]; exact H) | exact H
                      have Ny163 := Aside0.mk hy163
                      clear hy163
                      by_cases c16 : y163.length + a2.size < 140737488355328
                      · rw [if_pos c16] at H
                        have LMc16 := Aside0.mk c16
                        clear c16
                        obtain ⟨y166, hy166⟩ : ∃ y_ : List Int, y_ = (y163 ++ bytesOf a2) := ⟨_, rfl⟩
                        replace H : (text_zzReplaceAll.l0 k1 a0 a2 y166 t160 t157 t162) = some r := by first | (rw [hy166]; with_reducible exact H) | (have H2_ := (Option.bind_some _ _).symm.trans H; rw [hy166]; with_reducible exact H2_) | (have H2_ := (Option.bind_some _ _).symm.trans H; with_reducible exact H2_) | with_reducible exact H | (rw [hy166]; exact H) | exact H
                        have Ny166 := Aside0.mk hy166
                        clear hy166
                        have H' := Aside0.mk H
                        clear H
                        go_wp2_with (first | ((with_reducible refine gate_dst (N := 19) rfl ?_); refine nextL_ (some 19) rfl rfl rfl (.pointer (some ⟨g159, 0, none⟩)) rfl ?_; (with_reducible refine (itr_more.calls g159 t157 x160001_1 t160 t161 t162 w _ ?side1 ?side2 A10.out).mono ?_); (case side1 => repeat (first | (with_reducible first | exact HI159.out | apply IsS156.alloc | apply IsS156.drewN | apply IsS156.drew | apply IsS156.set_1) | exact HI159.out)); (case side2 => repeat (first | (with_reducible first | exact HB.out | apply below_alloc | apply pw_below_drewN | apply below_drew1 | refine below_set ?_ (IsS156.ge HI159.out)) | exact HB.out)); rintro e w17 ⟨rfl, hi, hb, hk⟩; refine ⟨_, rfl, ?_⟩; have n0_ := Aside0.mk (Kd.R_mono (Kd.R_keep (IsS156.apart (show IsS156 w _ g159 t157 x160001_1 from by repeat (first | (with_reducible first | exact HI159.out | apply IsS156.alloc | apply IsS156.drewN | apply IsS156.drew | apply IsS156.set_1) | exact HI159.out)) (by (with_reducible repeat (first | apply Kd.R_alloc | apply Kd.R_drewN | apply Kd.R_drew)); exact HO_7.out) (by decide)) hk (fun _ h => h.2)) (fun _ h => h.1)); have n1_ := Aside0.mk (hb); have n2_ := Aside0.mk (hi); clear HO_7; clear HB; clear HI159; have HO_7 := n0_; have HB := n1_; have HI159 := n2_; clear n0_ n1_ n2_; (try clear hb); (try clear hb2); (try clear hk); (try clear hi)) | (at_builtin; refine print_append_str (w0 := w) w.heap.size rfl (.tmp 24) _ 57 9 5 rfl Tryz.underlying57 Tryz.underlying9 info5 u7 x7_1 (a0.extract (x8_1 : Int).toNat (t160 : Int).toNat) rfl rfl ?aO ?aB ?aS ?aL ?_; (case aB => exact (by repeat (first | (with_reducible first | exact HB.out | apply below_alloc | apply pw_below_drewN | apply below_drew1 | refine below_set ?_ (IsS156.ge HI159.out)) | exact HB.out))); (case aO => exact (Kd.own_of_R (by (with_reducible repeat (first | apply Kd.R_alloc | apply Kd.R_drewN | apply Kd.R_drew)); exact HO_7.out))); (case aS => exact (below_size (by repeat (first | (with_reducible first | exact HB.out | apply below_alloc | apply pw_below_drewN | apply below_drew1 | refine below_set ?_ (IsS156.ge HI159.out)) | exact HB.out)))); (case aL => have := LMc15.out; first | omega | exact this | exact Nat.le_of_lt this); intro v164 w18 ho0 hb hg; have ho := Kd.R_of_own (h1 := fun _ => rfl) (ok := fun _ => True) ho0 (fun _ _ => trivial); clear ho0; have hat := True.intro; rw [← Ny163.out] at ho; change Kd.R (Kd.int .u8) 5 w18 w.heap.size (fun _ => True) v164 y163 at ho; have n0_ := Aside0.mk (IsS156.grown (by repeat (first | (with_reducible first | exact HI159.out | apply IsS156.alloc | apply IsS156.drewN | apply IsS156.drew | apply IsS156.set_1) | exact HI159.out)) hg (IsS156.own_ne HI159.out HO_7.out (by decide))); have n1_ := Aside0.mk (hb); have n2_ := Aside0.mk (ho); clear HI159; clear HB; clear HO_7; have HI159 := n0_; have HB := n1_; have HO165 := n2_; clear n0_ n1_ n2_; clear ho hb hg hat) | (at_builtin; refine print_append_str (w0 := w) w.heap.size rfl (.tmp 29) _ 57 9 5 rfl Tryz.underlying57 Tryz.underlying9 info5 v164 y163 a2 rfl rfl ?aO ?aB ?aS ?aL ?_; (case aB => exact (by repeat (first | (with_reducible first | exact HB.out | apply below_alloc | apply pw_below_drewN | apply below_drew1 | refine below_set ?_ (IsS156.ge HI159.out)) | exact HB.out))); (case aO => exact (Kd.own_of_R (by (with_reducible repeat (first | apply Kd.R_alloc | apply Kd.R_drewN | apply Kd.R_drew)); exact HO165.out))); (case aS => exact (below_size (by repeat (first | (with_reducible first | exact HB.out | apply below_alloc | apply pw_below_drewN | apply below_drew1 | refine below_set ?_ (IsS156.ge HI159.out)) | exact HB.out)))); (case aL => have := LMc16.out; first | omega | exact this | exact Nat.le_of_lt this); intro v167 w19 ho0 hb hg; have ho := Kd.R_of_own (h1 := fun _ => rfl) (ok := fun _ => True) ho0 (fun _ _ => trivial); clear ho0; have hat := True.intro; rw [← Ny166.out] at ho; change Kd.R (Kd.int .u8) 5 w19 w.heap.size (fun _ => True) v167 y166 at ho; have n0_ := Aside0.mk (IsS156.grown (by repeat (first | (with_reducible first | exact HI159.out | apply IsS156.alloc | apply IsS156.drewN | apply IsS156.drew | apply IsS156.set_1) | exact HI159.out)) hg (IsS156.own_ne HI159.out HO165.out (by decide))); have n1_ := Aside0.mk (hb); have n2_ := Aside0.mk (ho); clear HI159; clear HB; clear HO165; have HI159 := n0_; have HB := n1_; have HO168 := n2_; clear n0_ n1_ n2_; clear ho hb hg hat))
                        go_roundg k1
                        case measure => have := HK1.out; omega
                        case rel => exact ⟨(y166), (t160), (t162), (by first | rfl | (simp; done) | (simp [*]; done)), H', ⟨by have := HK1.out; omega⟩, ⟨by (with_reducible repeat (first | apply Kd.R_alloc | apply Kd.R_drewN | apply Kd.R_drew)); exact HO168.out⟩, ⟨by repeat (first | (with_reducible first | exact HI159.out | apply IsS156.alloc | apply IsS156.drewN | apply IsS156.drew | apply IsS156.set_1) | exact HI159.out)⟩, ⟨by repeat (first | (with_reducible first | exact HB.out | apply below_alloc | apply pw_below_drewN | apply below_drew1 | refine below_set ?_ (IsS156.ge HI159.out)) | exact HB.out)⟩⟩
                      · rw [if_neg c16] at H
                        exact absurd H (by simp)
                    · rw [if_neg c15] at H
                      exact absurd H (by simp)
                  · rw [if_neg c14] at H
                    exact absurd H (by simp)
                · rw [if_neg c13] at H
                  exact absurd H (by simp)
              · rw [if_neg c12] at H
                exact absurd H (by simp)
            · rw [if_neg c11] at H
              have c11b0 : decide (0 < t160) = false := decide_eq_false c11
              clear c11
              have H' := Aside0.mk H
              clear H
              go_wp2_with (first | ((with_reducible refine gate_dst (N := 19) rfl ?_); refine nextL_ (some 19) rfl rfl rfl (.pointer (some ⟨g159, 0, none⟩)) rfl ?_; (with_reducible refine (itr_more.calls g159 t157 x160001_1 t160 t161 t162 w _ ?side1 ?side2 A10.out).mono ?_); (case side1 => repeat (first | (with_reducible first | exact HI159.out | apply IsS156.alloc | apply IsS156.drewN | apply IsS156.drew | apply IsS156.set_1) | exact HI159.out)); (case side2 => repeat (first | (with_reducible first | exact HB.out | apply below_alloc | apply pw_below_drewN | apply below_drew1 | refine below_set ?_ (IsS156.ge HI159.out)) | exact HB.out)); rintro e w20 ⟨rfl, hi, hb, hk⟩; refine ⟨_, rfl, ?_⟩; have n0_ := Aside0.mk (Kd.R_mono (Kd.R_keep (IsS156.apart (show IsS156 w _ g159 t157 x160001_1 from by repeat (first | (with_reducible first | exact HI159.out | apply IsS156.alloc | apply IsS156.drewN | apply IsS156.drew | apply IsS156.set_1) | exact HI159.out)) (by (with_reducible repeat (first | apply Kd.R_alloc | apply Kd.R_drewN | apply Kd.R_drew)); exact HO_7.out) (by decide)) hk (fun _ h => h.2)) (fun _ h => h.1)); have n1_ := Aside0.mk (hb); have n2_ := Aside0.mk (hi); clear HO_7; clear HB; clear HI159; have HO_7 := n0_; have HB := n1_; have HI159 := n2_; clear n0_ n1_ n2_; (try clear hb); (try clear hb2); (try clear hk); (try clear hi)))
              go_roundg k1
              case measure => have := HK1.out; omega
              case rel => exact ⟨(x7_1), (x8_1), (t162), (by first | rfl | (simp; done) | (simp [*]; done)), H', ⟨by have := HK1.out; omega⟩, ⟨by (with_reducible repeat (first | apply Kd.R_alloc | apply Kd.R_drewN | apply Kd.R_drew)); exact HO_7.out⟩, ⟨by repeat (first | (with_reducible first | exact HI159.out | apply IsS156.alloc | apply IsS156.drewN | apply IsS156.drew | apply IsS156.set_1) | exact HI159.out)⟩, ⟨by repeat (first | (with_reducible first | exact HB.out | apply below_alloc | apply pw_below_drewN | apply below_drew1 | refine below_set ?_ (IsS156.ge HI159.out)) | exact HB.out)⟩⟩
          · rw [if_neg c9] at H
            have c9b0 : decide (x160001_1 < (t157.size : Int)) = false := decide_eq_false c9
            clear c9
            replace H := Option.bind_eq_some_iff.mp H
            obtain ⟨t169, A210, H⟩ := H
            replace H : (if (a0.size : Int) > 0 then (if 0 ≤ x8_1 then (if x8_1 ≤ (a0.size : Int) then (if x7_1.length + (a0.extract (x8_1 : Int).toNat a0.size).size < 140737488355328 then ((some (x7_1 ++ bytesOf (a0.extract (x8_1 : Int).toNat a0.size) : List Int)).bind fun y170 => (if y170.length + a2.size < 140737488355328 then (some (strOfNums (y170 ++ bytesOf a2))) else (none))) else (none)) else (none)) else (none)) else (some (strOfNums x7_1))) = some r := H
            have A21 := Aside0.mk A210
            clear A210
            by_cases c22 : (a0.size : Int) > 0
            · rw [if_pos c22] at H
              have c22b0 : decide (0 < (a0.size : Int)) = true := decide_eq_true c22
              have c22b1 : decide (0 < a0.size) = true := decide_eq_true (by omega)
              clear c22
              by_cases c23 : 0 ≤ x8_1
              · rw [if_pos c23] at H
                have c23b0 := eq_true c23
                have c23b1 : decide (0 ≤ x8_1) = true := decide_eq_true c23
                clear c23
                by_cases c24 : x8_1 ≤ (a0.size : Int)
                · rw [if_pos c24] at H
                  have c24b0 := eq_true c24
                  have c24b1 : decide (x8_1 ≤ (a0.size : Int)) = true := decide_eq_true c24
                  clear c24
                  by_cases c25 : x7_1.length + (a0.extract (x8_1 : Int).toNat a0.size).size < 140737488355328
                  · rw [if_pos c25] at H
                    have LMc25 := Aside0.mk c25
                    clear c25
                    obtain ⟨y170, hy170⟩ : ∃ y_ : List Int, y_ = (x7_1 ++ bytesOf (a0.extract (x8_1 : Int).toNat a0.size)) := ⟨_, rfl⟩
                    replace H : (if y170.length + a2.size < 140737488355328 then (some (strOfNums (y170 ++ bytesOf a2))) else (none)) = some r := by first | (rw [hy170]; with_reducible exact H) | (have H2_ := (Option.bind_some _ _).symm.trans H; rw [hy170]; with_reducible exact H2_) | (have H2_ := (Option.bind_some _ _).symm.trans H; with_reducible exact H2_) | with_reducible exact H | (rw [hy170]; exact H) | exact H
                    have Ny170 := Aside0.mk hy170
                    clear hy170
                    by_cases c26 : y170.length + a2.size < 140737488355328
                    · rw [if_pos c26] at H
                      have LMc26 := Aside0.mk c26
                      clear c26
                      obtain ⟨y173, hy173⟩ : ∃ y_ : List Int, y_ = (y170 ++ bytesOf a2) := ⟨_, rfl⟩
                      replace H : (some (strOfNums y173)) = some r := by first | (rw [hy173]; with_reducible exact H) | (have H2_ := (Option.bind_some _ _).symm.trans H; rw [hy173]; with_reducible exact H2_) | (have H2_ := (Option.bind_some _ _).symm.trans H; with_reducible exact H2_) | with_reducible exact H | (rw [hy173]; exact H) | exact H
                      have Ny173 := Aside0.mk hy173
                      clear hy173
                      obtain rfl := Option.some.inj H
                      go_wp2_with (first | ((with_reducible refine gate_dst (N := 19) rfl ?_); refine nextL_ (some 19) rfl rfl rfl (.pointer (some ⟨g159, 0, none⟩)) rfl ?_; (with_reducible refine (itr_end.calls g159 t157 x160001_1 t169 w _ ?side1 ?side2 A21.out).mono ?_); (case side1 => repeat (first | (with_reducible first | exact HI159.out | apply IsS156.alloc | apply IsS156.drewN | apply IsS156.drew | apply IsS156.set_1) | exact HI159.out)); (case side2 => repeat (first | (with_reducible first | exact HB.out | apply below_alloc | apply pw_below_drewN | apply below_drew1 | refine below_set ?_ (IsS156.ge HI159.out)) | exact HB.out)); rintro e w27 ⟨rfl, hi, hb, hk⟩; refine ⟨_, rfl, ?_⟩; have n0_ := Aside0.mk (Kd.R_mono (Kd.R_keep (IsS156.apart (show IsS156 w _ g159 t157 x160001_1 from by repeat (first | (with_reducible first | exact HI159.out | apply IsS156.alloc | apply IsS156.drewN | apply IsS156.drew | apply IsS156.set_1) | exact HI159.out)) (by (with_reducible repeat (first | apply Kd.R_alloc | apply Kd.R_drewN | apply Kd.R_drew)); exact HO_7.out) (by decide)) hk (fun _ h => h.2)) (fun _ h => h.1)); have n1_ := Aside0.mk (hb); have n2_ := Aside0.mk (hi); clear HO_7; clear HB; clear HI159; have HO_7 := n0_; have HB := n1_; have HI159 := n2_; clear n0_ n1_ n2_; (try clear hb); (try clear hb2); (try clear hk); (try clear hi)) | (at_builtin; refine print_append_str (w0 := w) w.heap.size rfl (.tmp 36) _ 57 9 5 rfl Tryz.underlying57 Tryz.underlying9 info5 u7 x7_1 (a0.extract (x8_1 : Int).toNat a0.size) rfl rfl ?aO ?aB ?aS ?aL ?_; (case aB => exact (by repeat (first | (with_reducible first | exact HB.out | apply below_alloc | apply pw_below_drewN | apply below_drew1 | refine below_set ?_ (IsS156.ge HI159.out)) | exact HB.out))); (case aO => exact (Kd.own_of_R (by (with_reducible repeat (first | apply Kd.R_alloc | apply Kd.R_drewN | apply Kd.R_drew)); exact HO_7.out))); (case aS => exact (below_size (by repeat (first | (with_reducible first | exact HB.out | apply below_alloc | apply pw_below_drewN | apply below_drew1 | refine below_set ?_ (IsS156.ge HI159.out)) | exact HB.out)))); (case aL => have := LMc25.out; first | omega | exact this | exact Nat.le_of_lt this); intro v171 w28 ho0 hb hg; have ho := Kd.R_of_own (h1 := fun _ => rfl) (ok := fun _ => True) ho0 (fun _ _ => trivial); clear ho0; have hat := True.intro; rw [← Ny170.out] at ho; change Kd.R (Kd.int .u8) 5 w28 w.heap.size (fun _ => True) v171 y170 at ho; have n0_ := Aside0.mk (IsS156.grown (by repeat (first | (with_reducible first | exact HI159.out | apply IsS156.alloc | apply IsS156.drewN | apply IsS156.drew | apply IsS156.set_1) | exact HI159.out)) hg (IsS156.own_ne HI159.out HO_7.out (by decide))); have n1_ := Aside0.mk (hb); have n2_ := Aside0.mk (ho); clear HI159; clear HB; clear HO_7; have HI159 := n0_; have HB := n1_; have HO172 := n2_; clear n0_ n1_ n2_; clear ho hb hg hat) | (at_builtin; refine print_append_str (w0 := w) w.heap.size rfl (.tmp 40) _ 57 9 5 rfl Tryz.underlying57 Tryz.underlying9 info5 v171 y170 a2 rfl rfl ?aO ?aB ?aS ?aL ?_; (case aB => exact (by repeat (first | (with_reducible first | exact HB.out | apply below_alloc | apply pw_below_drewN | apply below_drew1 | refine below_set ?_ (IsS156.ge HI159.out)) | exact HB.out))); (case aO => exact (Kd.own_of_R (by (with_reducible repeat (first | apply Kd.R_alloc | apply Kd.R_drewN | apply Kd.R_drew)); exact HO172.out))); (case aS => exact (below_size (by repeat (first | (with_reducible first | exact HB.out | apply below_alloc | apply pw_below_drewN | apply below_drew1 | refine below_set ?_ (IsS156.ge HI159.out)) | exact HB.out)))); (case aL => have := LMc26.out; first | omega | exact this | exact Nat.le_of_lt this); intro v174 w29 ho0 hb hg; have ho := Kd.R_of_own (h1 := fun _ => rfl) (ok := fun _ => True) ho0 (fun _ _ => trivial); clear ho0; have hat := True.intro; rw [← Ny173.out] at ho; change Kd.R (Kd.int .u8) 5 w29 w.heap.size (fun _ => True) v174 y173 at ho; have n0_ := Aside0.mk (IsS156.grown (by repeat (first | (with_reducible first | exact HI159.out | apply IsS156.alloc | apply IsS156.drewN | apply IsS156.drew | apply IsS156.set_1) | exact HI159.out)) hg (IsS156.own_ne HI159.out HO172.out (by decide))); have n1_ := Aside0.mk (hb); have n2_ := Aside0.mk (ho); clear HI159; clear HB; clear HO172; have HI159 := n0_; have HB := n1_; have HO175 := n2_; clear n0_ n1_ n2_; clear ho hb hg hat; have hcv30 := own_string (P := Tryz.prog) Tryz.underlying57 Tryz.underlying5 Tryz.underlying9 (Kd.own_of_R HO175.out)))
                      go_ret
                      exact ⟨by first | rfl | (simp [errW_none, errW_some] <;> rfl) | (simp [*, errW_none, errW_some] <;> rfl), by repeat (first | (with_reducible first | exact HB.out | apply below_alloc | apply pw_below_drewN | apply below_drew1 | refine below_set ?_ (IsS156.ge HI159.out)) | exact HB.out)⟩
                    · rw [if_neg c26] at H
                      exact absurd H (by simp)
                  · rw [if_neg c25] at H
                    exact absurd H (by simp)
                · rw [if_neg c24] at H
                  exact absurd H (by simp)
              · rw [if_neg c23] at H
                exact absurd H (by simp)
            · rw [if_neg c22] at H
              have c22b0 : decide (0 < (a0.size : Int)) = false := decide_eq_false c22
              have c22b1 : decide (0 < a0.size) = false := decide_eq_false (by omega)
              clear c22
              obtain rfl := Option.some.inj H
              go_wp2_with (first | ((with_reducible refine gate_dst (N := 19) rfl ?_); refine nextL_ (some 19) rfl rfl rfl (.pointer (some ⟨g159, 0, none⟩)) rfl ?_; (with_reducible refine (itr_end.calls g159 t157 x160001_1 t169 w _ ?side1 ?side2 A21.out).mono ?_); (case side1 => repeat (first | (with_reducible first | exact HI159.out | apply IsS156.alloc | apply IsS156.drewN | apply IsS156.drew | apply IsS156.set_1) | exact HI159.out)); (case side2 => repeat (first | (with_reducible first | exact HB.out | apply below_alloc | apply pw_below_drewN | apply below_drew1 | refine below_set ?_ (IsS156.ge HI159.out)) | exact HB.out)); rintro e w31 ⟨rfl, hi, hb, hk⟩; refine ⟨_, rfl, ?_⟩; have n0_ := Aside0.mk (Kd.R_mono (Kd.R_keep (IsS156.apart (show IsS156 w _ g159 t157 x160001_1 from by repeat (first | (with_reducible first | exact HI159.out | apply IsS156.alloc | apply IsS156.drewN | apply IsS156.drew | apply IsS156.set_1) | exact HI159.out)) (by (with_reducible repeat (first | apply Kd.R_alloc | apply Kd.R_drewN | apply Kd.R_drew)); exact HO_7.out) (by decide)) hk (fun _ h => h.2)) (fun _ h => h.1)); have n1_ := Aside0.mk (hb); have n2_ := Aside0.mk (hi); clear HO_7; clear HB; clear HI159; have HO_7 := n0_; have HB := n1_; have HI159 := n2_; clear n0_ n1_ n2_; (try clear hb); (try clear hb2); (try clear hk); (try clear hi); have hcv32 := own_string (P := Tryz.prog) Tryz.underlying57 Tryz.underlying5 Tryz.underlying9 (Kd.own_of_R HO_7.out)))
              go_ret
              exact ⟨by first | rfl | (simp [errW_none, errW_some] <;> rfl) | (simp [*, errW_none, errW_some] <;> rfl), by repeat (first | (with_reducible first | exact HB.out | apply below_alloc | apply pw_below_drewN | apply below_drew1 | refine below_set ?_ (IsS156.ge HI159.out)) | exact HB.out)⟩
    · rw [if_neg c5] at H
      exact absurd H (by simp)
  · rw [if_neg c4] at H
    have c4b0 : ((a1.size : Int) == 0) = false := beq_eq_false_iff_ne.mpr c4
    have c4b1 : ((a1.size : Int) != 0) = true := bne_iff_ne.mpr c4
    have H' := Aside0.mk H
    clear H
    go_enter Tryz.func71, Tryz.ntmps71
    go_wp2
    (try simp only [Act.put, List.setIfInBounds_toArray, List.set_cons_zero, List.set_cons_succ])
    go_loopg [0, 7] k (fun kq v0 v7 w' => ∃ (x0_1 : ByteArray) (x7_1 : List Int), v0 = .string x0_1 ∧ Aside0 (text_zzReplaceAll.l1 kq x0_1 a1 a2 x7_1 = some r) ∧ Aside0 (kq ≤ k) ∧ Aside0 (Kd.R (Kd.int .u8) 5 w' w.heap.size (fun _ => True) v7 x7_1) ∧ Aside0 (Below w.heap.size w w'))
    case atStart => exact ⟨(a0), (([] : List Int)), (by first | rfl | (simp; done) | (simp [*]; done)), H', ⟨Nat.le_refl _⟩, ⟨by first | exact Kd.R_nil _ _ _ _ _ | exact Kd.N_nil _ _ _ _ _ | exact Kd.V_nil _ _ _ _ _ | exact Kd.Q_nil _ _ _ _ _ | exact Kd.S_nil _ _ _ _ _⟩, ⟨by repeat (first | (with_reducible first | exact HB.out | apply below_alloc | apply pw_below_drewN | apply below_drew1) | exact HB.out)⟩⟩
    case round =>
      clear H'
      try clear c1
      try clear c2
      try clear p2
      try clear hcv3
      try clear c4
      try clear c4b0
      try clear c4b1
      try clear c5
      try clear c7
      try clear c9
      try clear c9b0
      try clear c11
      try clear c11b0
      try clear c12
      try clear c12b0
      try clear c12b1
      try clear c13
      try clear c13b0
      try clear c13b1
      try clear c14
      try clear c14b0
      try clear c14b1
      try clear c15
      try clear c16
      try clear c22
      try clear c22b0
      try clear c22b1
      try clear c23
      try clear c23b0
      try clear c23b1
      try clear c24
      try clear c24b0
      try clear c24b1
      try clear c25
      try clear c26
      try clear hcv30
      try clear hcv32
      try clear p2
      obtain ⟨x0_1, x7_1, rfl, HA, HK1, HO_7, HB⟩ := hrel
      cases gk with
      | zero => exact absurd HA.out (by simp [text_zzReplaceAll.l1])
      | succ k1 =>
        have H := HA.out
        clear HA
        simp only [text_zzReplaceAll.l1] at H
        replace H := Option.bind_eq_some_iff.mp H
        obtain ⟨t176, A330, H⟩ := H
        replace H : (if t176 < 0 then (if x7_1.length + x0_1.size < 140737488355328 then (some (strOfNums (x7_1 ++ bytesOf x0_1))) else (none)) else (if 0 ≤ t176 then (if t176 ≤ (x0_1.size : Int) then (if x7_1.length + (x0_1.extract 0 (t176 : Int).toNat).size < 140737488355328 then ((some (x7_1 ++ bytesOf (x0_1.extract 0 (t176 : Int).toNat) : List Int)).bind fun y180 => (if y180.length + a2.size < 140737488355328 then (if 0 ≤ (wrap64 (t176 + (a1.size : Int))) then (if (wrap64 (t176 + (a1.size : Int))) ≤ (x0_1.size : Int) then (text_zzReplaceAll.l1 k1 (x0_1.extract ((wrap64 (t176 + (a1.size : Int))) : Int).toNat x0_1.size) a1 a2 (y180 ++ bytesOf a2)) else (none)) else (none)) else (none))) else (none)) else (none)) else (none))) = some r := H
        have A33 := Aside0.mk A330
        clear A330
        by_cases c34 : t176 < 0
        · rw [if_pos c34] at H
          have c34b0 : decide (t176 < 0) = true := decide_eq_true c34
          clear c34
          by_cases c35 : x7_1.length + x0_1.size < 140737488355328
          · rw [if_pos c35] at H
            have LMc35 := Aside0.mk c35
            clear c35
            obtain ⟨y177, hy177⟩ : ∃ y_ : List Int, y_ = (x7_1 ++ bytesOf x0_1) := ⟨_, rfl⟩
            replace H : (some (strOfNums y177)) = some r := by first | (rw [hy177]; with_reducible exact H) | (have H2_ := (Option.bind_some _ _).symm.trans H; rw [hy177]; with_reducible exact H2_) | (have H2_ := (Option.bind_some _ _).symm.trans H; with_reducible exact H2_) | with_reducible exact H | (rw [hy177]; exact H) | exact H
            have Ny177 := Aside0.mk hy177
            clear hy177
            obtain rfl := Option.some.inj H
            go_wp2_with (first | ((with_reducible refine gate_callee (f := 87) rfl ?_); refine goesL_ (some 47) rfl rfl Tryz.func87 (by kernel_rfl) rfl #[.string x0_1, .string a1] rfl (by (try simp only [List.map_toArray, List.map_cons, List.map_nil]); first | done | rfl | (simp only [List.length_drop, List.length_take]; rfl)) ?_; (with_reducible refine (text_zzIndex.calls k1 x0_1 a1 t176 _ A33.out).mono ?_); rintro e w' ⟨rfl, ⟨nd, rfl⟩⟩; refine ⟨_, rfl, ?_⟩) | (at_builtin; refine print_append_str (w0 := w) w.heap.size rfl (.tmp 50) _ 57 9 5 rfl Tryz.underlying57 Tryz.underlying9 info5 u7 x7_1 x0_1 rfl rfl ?aO ?aB ?aS ?aL ?_; (case aB => exact (by repeat (first | (with_reducible first | exact HB.out | apply below_alloc | apply pw_below_drewN | apply below_drew1) | exact HB.out))); (case aO => exact (Kd.own_of_R (by (with_reducible repeat (first | apply Kd.R_alloc | apply Kd.R_drewN | apply Kd.R_drew)); exact HO_7.out))); (case aS => exact (below_size (by repeat (first | (with_reducible first | exact HB.out | apply below_alloc | apply pw_below_drewN | apply below_drew1) | exact HB.out)))); (case aL => have := LMc35.out; first | omega | exact this | exact Nat.le_of_lt this); intro v178 w36 ho0 hb hg; have ho := Kd.R_of_own (h1 := fun _ => rfl) (ok := fun _ => True) ho0 (fun _ _ => trivial); clear ho0; have hat := True.intro; rw [← Ny177.out] at ho; change Kd.R (Kd.int .u8) 5 w36 w.heap.size (fun _ => True) v178 y177 at ho; have n0_ := Aside0.mk (hb); have n1_ := Aside0.mk (ho); clear HB; clear HO_7; have HB := n0_; have HO179 := n1_; clear n0_ n1_; clear ho hb hg hat; have hcv37 := own_string (P := Tryz.prog) Tryz.underlying57 Tryz.underlying5 Tryz.underlying9 (Kd.own_of_R HO179.out)))
            go_ret
            exact ⟨by first | rfl | (simp [errW_none, errW_some] <;> rfl) | (simp [*, errW_none, errW_some] <;> rfl), by repeat (first | (with_reducible first | exact HB.out | apply below_alloc | apply pw_below_drewN | apply below_drew1) | exact HB.out)⟩
          · rw [if_neg c35] at H
            exact absurd H (by simp)
        · rw [if_neg c34] at H
          have c34b0 : decide (t176 < 0) = false := decide_eq_false c34
          clear c34
          by_cases c38 : 0 ≤ t176
          · rw [if_pos c38] at H
            have c38b0 := eq_true c38
            have c38b1 : decide (0 ≤ t176) = true := decide_eq_true c38
            clear c38
            by_cases c39 : t176 ≤ (x0_1.size : Int)
            · rw [if_pos c39] at H
              have c39b0 := eq_true c39
              have c39b1 : decide (t176 ≤ (x0_1.size : Int)) = true := decide_eq_true c39
              clear c39
              by_cases c40 : x7_1.length + (x0_1.extract 0 (t176 : Int).toNat).size < 140737488355328
              · rw [if_pos c40] at H
                have LMc40 := Aside0.mk c40
                clear c40
                obtain ⟨y180, hy180⟩ : ∃ y_ : List Int, y_ = (x7_1 ++ bytesOf (x0_1.extract 0 (t176 : Int).toNat)) := ⟨_, rfl⟩
                replace H : (if y180.length + a2.size < 140737488355328 then (if 0 ≤ (wrap64 (t176 + (a1.size : Int))) then (if (wrap64 (t176 + (a1.size : Int))) ≤ (x0_1.size : Int) then (text_zzReplaceAll.l1 k1 (x0_1.extract ((wrap64 (t176 + (a1.size : Int))) : Int).toNat x0_1.size) a1 a2 (y180 ++ bytesOf a2)) else (none)) else (none)) else (none)) = some r := by first | (rw [hy180]; with_reducible exact H) | (have H2_ := (Option.bind_some _ _).symm.trans H; rw [hy180]; with_reducible exact H2_) | (have H2_ := (Option.bind_some _ _).symm.trans H; with_reducible exact H2_) | with_reducible exact H | (rw [hy180]; exact H) | exact H
                have Ny180 := Aside0.mk hy180
                clear hy180
                by_cases c41 : y180.length + a2.size < 140737488355328
                · rw [if_pos c41] at H
                  have LMc41 := Aside0.mk c41
                  clear c41
                  obtain ⟨y183, hy183⟩ : ∃ y_ : List Int, y_ = (y180 ++ bytesOf a2) := ⟨_, rfl⟩
                  replace H : (if 0 ≤ (wrap64 (t176 + (a1.size : Int))) then (if (wrap64 (t176 + (a1.size : Int))) ≤ (x0_1.size : Int) then (text_zzReplaceAll.l1 k1 (x0_1.extract ((wrap64 (t176 + (a1.size : Int))) : Int).toNat x0_1.size) a1 a2 y183) else (none)) else (none)) = some r := by first | (rw [hy183]; with_reducible exact H) | (have H2_ := (Option.bind_some _ _).symm.trans H; rw [hy183]; with_reducible exact H2_) | (have H2_ := (Option.bind_some _ _).symm.trans H; with_reducible exact H2_) | with_reducible exact H | (rw [hy183]; exact H) | exact H
                  have Ny183 := Aside0.mk hy183
                  clear hy183
                  obtain ⟨ji42, hji42⟩ : ∃ j_ : Int, (wrap64 (t176 + (a1.size : Int))) = j_ := ⟨_, rfl⟩
                  replace H : (if 0 ≤ (ji42) then (if (ji42) ≤ (x0_1.size : Int) then (text_zzReplaceAll.l1 k1 (x0_1.extract ((ji42) : Int).toNat x0_1.size) a1 a2 y183) else (none)) else (none)) = some r := by first | (rw [hji42] at H; exact H) | (simp only [hji42] at H ⊢; exact H)
                  (try rw [hji42] at A33)
                  have hji42w : (IntKind.i64.wrap (t176 + (a1.size : Int))) = ji42 := (i64_w _).trans hji42
                  by_cases c43 : 0 ≤ (ji42)
                  · rw [if_pos c43] at H
                    have c43b0 := eq_true c43
                    have c43b1 : decide (0 ≤ (ji42)) = true := decide_eq_true c43
                    clear c43
                    by_cases c44 : (ji42) ≤ (x0_1.size : Int)
                    · rw [if_pos c44] at H
                      have c44b0 := eq_true c44
                      have c44b1 : decide ((ji42) ≤ (x0_1.size : Int)) = true := decide_eq_true c44
                      clear c44
                      have H' := Aside0.mk H
                      clear H
                      go_wp2_with (first | ((with_reducible refine gate_callee (f := 87) rfl ?_); refine goesL_ (some 47) rfl rfl Tryz.func87 (by kernel_rfl) rfl #[.string x0_1, .string a1] rfl (by (try simp only [List.map_toArray, List.map_cons, List.map_nil]); first | done | rfl | (simp only [List.length_drop, List.length_take]; rfl)) ?_; (with_reducible refine (text_zzIndex.calls k1 x0_1 a1 t176 _ A33.out).mono ?_); rintro e w' ⟨rfl, ⟨nd, rfl⟩⟩; refine ⟨_, rfl, ?_⟩) | (at_builtin; refine print_append_str (w0 := w) w.heap.size rfl (.tmp 54) _ 57 9 5 rfl Tryz.underlying57 Tryz.underlying9 info5 u7 x7_1 (x0_1.extract 0 (t176 : Int).toNat) rfl rfl ?aO ?aB ?aS ?aL ?_; (case aB => exact (by repeat (first | (with_reducible first | exact HB.out | apply below_alloc | apply pw_below_drewN | apply below_drew1) | exact HB.out))); (case aO => exact (Kd.own_of_R (by (with_reducible repeat (first | apply Kd.R_alloc | apply Kd.R_drewN | apply Kd.R_drew)); exact HO_7.out))); (case aS => exact (below_size (by repeat (first | (with_reducible first | exact HB.out | apply below_alloc | apply pw_below_drewN | apply below_drew1) | exact HB.out)))); (case aL => have := LMc40.out; first | omega | exact this | exact Nat.le_of_lt this); intro v181 w45 ho0 hb hg; have ho := Kd.R_of_own (h1 := fun _ => rfl) (ok := fun _ => True) ho0 (fun _ _ => trivial); clear ho0; have hat := True.intro; rw [← Ny180.out] at ho; change Kd.R (Kd.int .u8) 5 w45 w.heap.size (fun _ => True) v181 y180 at ho; have n0_ := Aside0.mk (hb); have n1_ := Aside0.mk (ho); clear HB; clear HO_7; have HB := n0_; have HO182 := n1_; clear n0_ n1_; clear ho hb hg hat) | (at_builtin; refine print_append_str (w0 := w) w.heap.size rfl (.tmp 58) _ 57 9 5 rfl Tryz.underlying57 Tryz.underlying9 info5 v181 y180 a2 rfl rfl ?aO ?aB ?aS ?aL ?_; (case aB => exact (by repeat (first | (with_reducible first | exact HB.out | apply below_alloc | apply pw_below_drewN | apply below_drew1) | exact HB.out))); (case aO => exact (Kd.own_of_R (by (with_reducible repeat (first | apply Kd.R_alloc | apply Kd.R_drewN | apply Kd.R_drew)); exact HO182.out))); (case aS => exact (below_size (by repeat (first | (with_reducible first | exact HB.out | apply below_alloc | apply pw_below_drewN | apply below_drew1) | exact HB.out)))); (case aL => have := LMc41.out; first | omega | exact this | exact Nat.le_of_lt this); intro v184 w46 ho0 hb hg; have ho := Kd.R_of_own (h1 := fun _ => rfl) (ok := fun _ => True) ho0 (fun _ _ => trivial); clear ho0; have hat := True.intro; rw [← Ny183.out] at ho; change Kd.R (Kd.int .u8) 5 w46 w.heap.size (fun _ => True) v184 y183 at ho; have n0_ := Aside0.mk (hb); have n1_ := Aside0.mk (ho); clear HB; clear HO182; have HB := n0_; have HO185 := n1_; clear n0_ n1_; clear ho hb hg hat))
                      go_roundg k1
                      case measure => have := HK1.out; omega
                      case rel => exact ⟨(x0_1.extract ((ji42) : Int).toNat x0_1.size), (y183), (by first | rfl | (simp; done) | (simp only [← hji42] <;> (first | rfl | simp)) | (simp [*]; done)), H', ⟨by have := HK1.out; omega⟩, ⟨by (with_reducible repeat (first | apply Kd.R_alloc | apply Kd.R_drewN | apply Kd.R_drew)); exact HO185.out⟩, ⟨by repeat (first | (with_reducible first | exact HB.out | apply below_alloc | apply pw_below_drewN | apply below_drew1) | exact HB.out)⟩⟩
                    · rw [if_neg c44] at H
                      exact absurd H (by simp)
                  · rw [if_neg c43] at H
                    exact absurd H (by simp)
                · rw [if_neg c41] at H
                  exact absurd H (by simp)
              · rw [if_neg c40] at H
                exact absurd H (by simp)
            · rw [if_neg c39] at H
              exact absurd H (by simp)
          · rw [if_neg c38] at H
            exact absurd H (by simp)

/-! ### text_zzContains: function 72 -/
def text_zzContains.f (k : Nat) (a0 : ByteArray) (a1 : ByteArray) : Option (Bool) := (text_zzIndex.f k a0 a1).bind fun t186 => (some (decide (t186 ≥ 0)))
theorem text_zzContains.mono : ∀ a0 a1 k, LeO (text_zzContains.f k a0 a1) (text_zzContains.f (k + 1) a0 a1) := by
  intro a0 a1 k
  unfold text_zzContains.f
  repeat' first
      | (with_reducible exact text_zzIndex.mono _ _ _)
      | (with_reducible exact LeO.refl _)
      | (with_reducible exact LeO.none _)
      | (with_reducible refine LeO.ite ?_ ?_)
      | (with_reducible refine LeO.bind ?_ (fun _ => ?_))
      | exact text_zzIndex.mono _ _ _
      | exact LeO.none _
      | refine LeO.ite ?_ ?_
      | refine LeO.bind ?_ (fun _ => ?_)
set_option maxHeartbeats 8000000 in
set_option maxRecDepth 100000 in
theorem text_zzContains.calls (k : Nat) (a0 : ByteArray) (a1 : ByteArray) (r : Bool) (w : World) (h : text_zzContains.f k a0 a1 = some r) :
    Calls Tryz.prog 72 #[.string a0, .string a1] w fun e w' => e = .returned (.bool r) ∧ Drawn0 w w' := by
  have H : ((text_zzIndex.f k a0 a1).bind fun t186 => (some (decide (t186 ≥ 0)))) = some r := h
  clear h
  replace H := Option.bind_eq_some_iff.mp H
  obtain ⟨t186, A30, H⟩ := H
  replace H : (some (decide (t186 ≥ 0))) = some r := H
  have A3 := Aside0.mk A30
  clear A30
  obtain rfl := Option.some.inj H
  go_enter Tryz.func72, Tryz.ntmps72
  go_wp2_with (first | ((with_reducible refine gate_callee (f := 87) rfl ?_); refine goesL_ (some 7) rfl rfl Tryz.func87 (by kernel_rfl) rfl #[.string a0, .string a1] rfl (by (try simp only [List.map_toArray, List.map_cons, List.map_nil]); first | done | rfl | (simp only [List.length_drop, List.length_take]; rfl)) ?_; (with_reducible refine (text_zzIndex.calls k a0 a1 t186 _ A3.out).mono ?_); rintro e w' ⟨rfl, ⟨nd, rfl⟩⟩; refine ⟨_, rfl, ?_⟩))
  go_ret
  exact ⟨by first | rfl | (simp; done) | (simp [*]; done), by repeat (first | exact Drawn0.refl _ | apply Drawn0.step)⟩

/-- THE ONE PURE STATEMENT of text_zzContains: yours. -/
def text_zzContains.Pure : Prop := ∀ (a0 : ByteArray) (a1 : ByteArray), a0.size ≤ 140737488351232 → a1.size ≤ 140737488351232 → ∃ k, text_zzContains.f k a0 a1 = some true
theorem text_zzContains.walk (P : text_zzContains.Pure) (a0 : ByteArray) (a1 : ByteArray) (w : World) (w0 : a0.size ≤ 140737488351232) (w1 : a1.size ≤ 140737488351232) :
    Calls Tryz.prog 72 #[.string a0, .string a1] w fun e w' => e = .returned (.bool true) ∧ Below w.heap.size w w' := by
  obtain ⟨k, h⟩ := P a0 a1 w0 w1
  refine (text_zzContains.calls k a0 a1 true w h).mono ?_
  rintro e w' ⟨rfl, hd⟩
  exact ⟨rfl, hd.below⟩

end Go.Proofs.YthjkmjimlhpbfaaGreatDoor.GLsBody
