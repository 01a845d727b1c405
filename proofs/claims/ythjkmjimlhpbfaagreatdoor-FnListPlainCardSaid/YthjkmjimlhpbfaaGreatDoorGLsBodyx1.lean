-- Written by gprint.py, a program of this session over the kit's printer, with contracts of its own for what the printer does not take. Not trusted: Lean checks it.
import Derived.Test.YthjkmjimlhpbfaaGreatDoorGLsBodyx0
namespace Go.Proofs.YthjkmjimlhpbfaaGreatDoor.GLsBody
open Go.RowKit Go.Proofs.YthjkmjimlhpbfaaGreatDoor.Itr Go.Proofs.YthjkmjimlhpbfaaGreatDoorW.PrintWords Go.Proofs.YthjkmjimlhpbfaaGreatDoorW.PrintLast Go.Proofs.YthjkmjimlhpbfaaGreatDoorW.PrintMore
attribute [local go_sem] max2_int min2_int max_two min_two max_three min_three max_four min_four   -- for this text's walks alone
set_option linter.unusedVariables false
set_option linter.unusedSimpArgs false

/-! ### list_zzIndex: function 68 -/
def list_zzIndex.l0 : Nat → ByteArray → ByteArray → Int → Option (Int)
  | 0, _, _, _ => none
  | k + 1, x0, x1, x5 => if (wrap64 (x5 + (x1.size : Int))) ≤ (x0.size : Int) then (if 0 ≤ x5 then (if x5 ≤ (wrap64 (x5 + (x1.size : Int))) then (if (x0.extract (x5 : Int).toNat ((wrap64 (x5 + (x1.size : Int))) : Int).toNat).toList = x1.toList then (some x5) else (list_zzIndex.l0 k x0 x1 (wrap64 (x5 + 1)))) else (none)) else (none)) else (some (-1))
def list_zzIndex.f (k : Nat) (a0 : ByteArray) (a1 : ByteArray) : Option (Int) := list_zzIndex.l0 k a0 a1 0
theorem list_zzIndex.mono_l : ∀ k, (∀ y0 y1 y2, LeO (list_zzIndex.l0 k y0 y1 y2) (list_zzIndex.l0 (k + 1) y0 y1 y2))
  | 0 => fun _ _ _ r h => by simp [list_zzIndex.l0] at h
  | k + 1 => by
    have ih0 := list_zzIndex.mono_l k
    · intro y0 y1 y2
      unfold list_zzIndex.l0
      repeat' first
      | (with_reducible exact ih0 _ _ _)
      | (with_reducible exact LeO.refl _)
      | (with_reducible exact LeO.none _)
      | (with_reducible refine LeO.ite ?_ ?_)
      | (with_reducible refine LeO.bind ?_ (fun _ => ?_))
      | exact ih0 _ _ _
      | exact LeO.none _
      | refine LeO.ite ?_ ?_
      | refine LeO.bind ?_ (fun _ => ?_)
theorem list_zzIndex.mono : ∀ a0 a1 k, LeO (list_zzIndex.f k a0 a1) (list_zzIndex.f (k + 1) a0 a1) := by
  intro a0 a1 k
  have ih0 := list_zzIndex.mono_l k
  unfold list_zzIndex.f
  repeat' first
      | (with_reducible exact ih0 _ _ _)
      | (with_reducible exact LeO.refl _)
      | (with_reducible exact LeO.none _)
      | (with_reducible refine LeO.ite ?_ ?_)
      | (with_reducible refine LeO.bind ?_ (fun _ => ?_))
      | exact ih0 _ _ _
      | exact LeO.none _
      | refine LeO.ite ?_ ?_
      | refine LeO.bind ?_ (fun _ => ?_)
set_option maxHeartbeats 8000000 in
set_option maxRecDepth 100000 in
theorem list_zzIndex.calls (k : Nat) (a0 : ByteArray) (a1 : ByteArray) (r : Int) (w : World) (h : list_zzIndex.f k a0 a1 = some r) :
    Calls Tryz.prog 68 #[.string a0, .string a1] w fun e w' => e = .returned (.int .i64 r) ∧ Drawn0 w w' := by
  have H : (list_zzIndex.l0 k a0 a1 0) = some r := h
  clear h
  have H' := Aside0.mk H
  clear H
  go_enter Tryz.func68, Tryz.ntmps68
  go_wp2
  (try simp only [Act.put, List.setIfInBounds_toArray, List.set_cons_zero, List.set_cons_succ])
  go_loopg [5] k (fun kq v5 w' => ∃ (x5_1 : Int), v5 = .int .i64 x5_1 ∧ Aside0 (list_zzIndex.l0 kq a0 a1 x5_1 = some r) ∧ Aside0 (kq ≤ k) ∧ Drawn0 w w')
  case atStart => exact ⟨(0), (by first | rfl | (simp; done) | (simp [*]; done)), H', ⟨Nat.le_refl _⟩, by repeat (first | exact Drawn0.refl _ | apply Drawn0.step)⟩
  case round =>
    clear H'
    try clear p2
    obtain ⟨x5_1, rfl, HA, HK1, ⟨m1, rfl⟩⟩ := hrel
    cases gk with
    | zero => exact absurd HA.out (by simp [list_zzIndex.l0])
    | succ k1 =>
      have H := HA.out
      clear HA
      simp only [list_zzIndex.l0] at H
      by_cases c3 : (wrap64 (x5_1 + (a1.size : Int))) ≤ (a0.size : Int)
      · rw [if_pos c3] at H
        have c3b0 : decide ((wrap64 (x5_1 + (a1.size : Int))) ≤ (a0.size : Int)) = true := decide_eq_true c3
        clear c3
        by_cases c4 : 0 ≤ x5_1
        · rw [if_pos c4] at H
          have c4b0 := eq_true c4
          have c4b1 : decide (0 ≤ x5_1) = true := decide_eq_true c4
          clear c4
          by_cases c5 : x5_1 ≤ (wrap64 (x5_1 + (a1.size : Int)))
          · rw [if_pos c5] at H
            have c5b0 := eq_true c5
            have c5b1 : decide (x5_1 ≤ (wrap64 (x5_1 + (a1.size : Int)))) = true := decide_eq_true c5
            have c6b0 := eq_true (of_decide_eq_true (by first | (with_reducible assumption) | assumption) : (wrap64 (x5_1 + (a1.size : Int))) ≤ (a0.size : Int))
            by_cases c7 : (a0.extract (x5_1 : Int).toNat ((wrap64 (x5_1 + (a1.size : Int))) : Int).toNat).toList = a1.toList
            · rw [if_pos c7] at H
              have c7b0 : ((a0.extract (x5_1 : Int).toNat ((wrap64 (x5_1 + (a1.size : Int))) : Int).toNat).toList == a1.toList) = true := beq_iff_eq.mpr c7
              have c7b1 : ((a0.extract (x5_1 : Int).toNat ((wrap64 (x5_1 + (a1.size : Int))) : Int).toNat).toList != a1.toList) = false := bne_eq_false_iff_eq.mpr c7
              clear c7
              obtain rfl := Option.some.inj H
              go_wp2
              go_ret
              exact ⟨by first | rfl | (simp; done) | (simp [*]; done), by repeat (first | exact Drawn0.refl _ | apply Drawn0.step)⟩
            · rw [if_neg c7] at H
              have c7b0 : ((a0.extract (x5_1 : Int).toNat ((wrap64 (x5_1 + (a1.size : Int))) : Int).toNat).toList == a1.toList) = false := beq_eq_false_iff_ne.mpr c7
              have c7b1 : ((a0.extract (x5_1 : Int).toNat ((wrap64 (x5_1 + (a1.size : Int))) : Int).toNat).toList != a1.toList) = true := bne_iff_ne.mpr c7
              have H' := Aside0.mk H
              clear H
              go_wp2
              go_roundg k1
              case measure => have := HK1.out; omega
              case rel => exact ⟨(wrap64 (x5_1 + 1)), (by first | rfl | (simp; done) | (simp [*]; done)), H', ⟨by have := HK1.out; omega⟩, by repeat (first | exact Drawn0.refl _ | apply Drawn0.step)⟩
          · rw [if_neg c5] at H
            exact absurd H (by simp)
        · rw [if_neg c4] at H
          exact absurd H (by simp)
      · rw [if_neg c3] at H
        have c3b0 : decide ((wrap64 (x5_1 + (a1.size : Int))) ≤ (a0.size : Int)) = false := decide_eq_false c3
        clear c3
        obtain rfl := Option.some.inj H
        go_wp2
        go_ret
        exact ⟨by first | rfl | (simp; done) | (simp [*]; done), by repeat (first | exact Drawn0.refl _ | apply Drawn0.step)⟩

/-! ### list_zzReplaceAll: function 51 -/
mutual
def list_zzReplaceAll.l0 : Nat → ByteArray → ByteArray → List Int → Int → ByteArray → Int → Option (ByteArray)
  | 0, _, _, _, _, _, _ => none
  | k + 1, x0, x2, x7, x8, x107000, x107001 => if x107001 < (x107000.size : Int) then ((itr_more.f x107000 x107001).bind fun bt107 => (if bt107.1 > 0 then (if 0 ≤ x8 then (if x8 ≤ bt107.1 then (if bt107.1 ≤ (x0.size : Int) then (if x7.length + (x0.extract (x8 : Int).toNat (bt107.1 : Int).toNat).size < 140737488355328 then ((some (x7 ++ bytesOf (x0.extract (x8 : Int).toNat (bt107.1 : Int).toNat) : List Int)).bind fun y110 => (if y110.length + x2.size < 140737488355328 then (list_zzReplaceAll.l0 k x0 x2 (y110 ++ bytesOf x2) bt107.1 x107000 bt107.2.2) else (none))) else (none)) else (none)) else (none)) else (none)) else (list_zzReplaceAll.l0 k x0 x2 x7 x8 x107000 bt107.2.2))) else ((itr_end.f x107000 x107001).bind fun t116 => (if (x0.size : Int) > 0 then (if 0 ≤ x8 then (if x8 ≤ (x0.size : Int) then (if x7.length + (x0.extract (x8 : Int).toNat x0.size).size < 140737488355328 then ((some (x7 ++ bytesOf (x0.extract (x8 : Int).toNat x0.size) : List Int)).bind fun y117 => (if y117.length + x2.size < 140737488355328 then (some (strOfNums (y117 ++ bytesOf x2))) else (none))) else (none)) else (none)) else (none)) else (some (strOfNums x7))))
def list_zzReplaceAll.l1 : Nat → ByteArray → ByteArray → ByteArray → List Int → Option (ByteArray)
  | 0, _, _, _, _ => none
  | k + 1, x0, x1, x2, x7 => (list_zzIndex.f k x0 x1).bind fun t123 => (if t123 < 0 then (if x7.length + x0.size < 140737488355328 then (some (strOfNums (x7 ++ bytesOf x0))) else (none)) else (if 0 ≤ t123 then (if t123 ≤ (x0.size : Int) then (if x7.length + (x0.extract 0 (t123 : Int).toNat).size < 140737488355328 then ((some (x7 ++ bytesOf (x0.extract 0 (t123 : Int).toNat) : List Int)).bind fun y127 => (if y127.length + x2.size < 140737488355328 then (if 0 ≤ (wrap64 (t123 + (x1.size : Int))) then (if (wrap64 (t123 + (x1.size : Int))) ≤ (x0.size : Int) then (list_zzReplaceAll.l1 k (x0.extract ((wrap64 (t123 + (x1.size : Int))) : Int).toNat x0.size) x1 x2 (y127 ++ bytesOf x2)) else (none)) else (none)) else (none))) else (none)) else (none)) else (none)))
end
def list_zzReplaceAll.f (k : Nat) (a0 : ByteArray) (a1 : ByteArray) (a2 : ByteArray) : Option (ByteArray) := if (a1.size : Int) = 0 then (if ([] : List Int).length + a2.size < 140737488355328 then ((itr_make.f a0).bind fun bt104 => (list_zzReplaceAll.l0 k a0 a2 (([] : List Int) ++ bytesOf a2) 0 bt104.1 bt104.2)) else (none)) else (list_zzReplaceAll.l1 k a0 a1 a2 ([] : List Int))
theorem list_zzReplaceAll.mono_l : ∀ k, (∀ y0 y1 y2 y3 y4 y5, LeO (list_zzReplaceAll.l0 k y0 y1 y2 y3 y4 y5) (list_zzReplaceAll.l0 (k + 1) y0 y1 y2 y3 y4 y5)) ∧ (∀ y0 y1 y2 y3, LeO (list_zzReplaceAll.l1 k y0 y1 y2 y3) (list_zzReplaceAll.l1 (k + 1) y0 y1 y2 y3))
  | 0 => ⟨fun _ _ _ _ _ _ r h => by simp [list_zzReplaceAll.l0] at h, fun _ _ _ _ r h => by simp [list_zzReplaceAll.l1] at h⟩
  | k + 1 => by
    obtain ⟨ih0, ih1⟩ := list_zzReplaceAll.mono_l k
    refine ⟨?_, ?_⟩
    · intro y0 y1 y2 y3 y4 y5
      unfold list_zzReplaceAll.l0
      repeat' first
      | (with_reducible exact ih0 _ _ _ _ _ _)
      | (with_reducible exact ih1 _ _ _ _)
      | (with_reducible exact list_zzIndex.mono _ _ _)
      | (with_reducible exact LeO.refl _)
      | (with_reducible exact LeO.none _)
      | (with_reducible refine LeO.ite ?_ ?_)
      | (with_reducible refine LeO.bind ?_ (fun _ => ?_))
      | exact ih0 _ _ _ _ _ _
      | exact ih1 _ _ _ _
      | exact list_zzIndex.mono _ _ _
      | exact LeO.none _
      | refine LeO.ite ?_ ?_
      | refine LeO.bind ?_ (fun _ => ?_)
    · intro y0 y1 y2 y3
      unfold list_zzReplaceAll.l1
      repeat' first
      | (with_reducible exact ih0 _ _ _ _ _ _)
      | (with_reducible exact ih1 _ _ _ _)
      | (with_reducible exact list_zzIndex.mono _ _ _)
      | (with_reducible exact LeO.refl _)
      | (with_reducible exact LeO.none _)
      | (with_reducible refine LeO.ite ?_ ?_)
      | (with_reducible refine LeO.bind ?_ (fun _ => ?_))
      | exact ih0 _ _ _ _ _ _
      | exact ih1 _ _ _ _
      | exact list_zzIndex.mono _ _ _
      | exact LeO.none _
      | refine LeO.ite ?_ ?_
      | refine LeO.bind ?_ (fun _ => ?_)
theorem list_zzReplaceAll.mono : ∀ a0 a1 a2 k, LeO (list_zzReplaceAll.f k a0 a1 a2) (list_zzReplaceAll.f (k + 1) a0 a1 a2) := by
  intro a0 a1 a2 k
  obtain ⟨ih0, ih1⟩ := list_zzReplaceAll.mono_l k
  unfold list_zzReplaceAll.f
  repeat' first
      | (with_reducible exact ih0 _ _ _ _ _ _)
      | (with_reducible exact ih1 _ _ _ _)
      | (with_reducible exact list_zzIndex.mono _ _ _)
      | (with_reducible exact LeO.refl _)
      | (with_reducible exact LeO.none _)
      | (with_reducible refine LeO.ite ?_ ?_)
      | (with_reducible refine LeO.bind ?_ (fun _ => ?_))
      | exact ih0 _ _ _ _ _ _
      | exact ih1 _ _ _ _
      | exact list_zzIndex.mono _ _ _
      | exact LeO.none _
      | refine LeO.ite ?_ ?_
      | refine LeO.bind ?_ (fun _ => ?_)
set_option maxHeartbeats 8000000 in
set_option maxRecDepth 100000 in
theorem list_zzReplaceAll.calls (k : Nat) (a0 : ByteArray) (a1 : ByteArray) (a2 : ByteArray) (r : ByteArray) (w : World) (h : list_zzReplaceAll.f k a0 a1 a2 = some r) :
    Calls Tryz.prog 51 #[.string a0, .string a1, .string a2] w fun e w' => e = .returned (.string r) ∧ Below w.heap.size w w' := by
  have HB := Aside0.mk (Below.refl w.heap.size w)
  have H : (if (a1.size : Int) = 0 then (if ([] : List Int).length + a2.size < 140737488355328 then ((itr_make.f a0).bind fun bt104 => (list_zzReplaceAll.l0 k a0 a2 (([] : List Int) ++ bytesOf a2) 0 bt104.1 bt104.2)) else (none)) else (list_zzReplaceAll.l1 k a0 a1 a2 ([] : List Int))) = some r := h
  clear h
  by_cases c4 : (a1.size : Int) = 0
  · rw [if_pos c4] at H
    have c4b0 : ((a1.size : Int) == 0) = true := beq_iff_eq.mpr c4
    have c4b1 : ((a1.size : Int) != 0) = false := bne_eq_false_iff_eq.mpr c4
    clear c4
    by_cases c5 : ([] : List Int).length + a2.size < 140737488355328
    · rw [if_pos c5] at H
      have LMc5 := Aside0.mk c5
      clear c5
      obtain ⟨y101, hy101⟩ : ∃ y_ : List Int, y_ = (([] : List Int) ++ bytesOf a2) := ⟨_, rfl⟩
      replace H : ((itr_make.f a0).bind fun bt104 => (list_zzReplaceAll.l0 k a0 a2 y101 0 bt104.1 bt104.2)) = some r := by first | (rw [hy101]; with_reducible exact H) | (have H2_ := (Option.bind_some _ _).symm.trans H; rw [hy101]; with_reducible exact H2_) | (have H2_ := (Option.bind_some _ _).symm.trans H; with_reducible exact H2_) | with_reducible exact H | (rw [hy101]; exact H) | exact H
      have Ny101 := Aside0.mk hy101
      clear hy101
      replace H := Option.bind_eq_some_iff.mp H
      obtain ⟨⟨t104, t105⟩, A60, H⟩ := H
      replace H : (list_zzReplaceAll.l0 k a0 a2 y101 0 t104 t105) = some r := H
      have A6 := Aside0.mk A60
      clear A60
      have H' := Aside0.mk H
      clear H
      go_enter Tryz.func51, Tryz.ntmps51
      go_wp2_with (first | (at_builtin; refine print_append_str (w0 := w) w.heap.size rfl (.tmp 14) _ 57 9 5 rfl Tryz.underlying57 Tryz.underlying9 info5 (.slice none 0 0) ([] : List Int) a2 rfl rfl ?aO ?aB ?aS ?aL ?_; (case aB => exact (by repeat (first | (with_reducible first | exact HB.out | apply below_alloc | apply pw_below_drewN | apply below_drew1) | exact HB.out))); (case aO => exact (own_nil _ _ _ _)); (case aS => exact (below_size (by repeat (first | (with_reducible first | exact HB.out | apply below_alloc | apply pw_below_drewN | apply below_drew1) | exact HB.out)))); (case aL => have := LMc5.out; first | omega | exact this | exact Nat.le_of_lt this); intro v102 w7 ho0 hb hg; have ho := Kd.R_of_own (h1 := fun _ => rfl) (ok := fun _ => True) ho0 (fun _ _ => trivial); clear ho0; have hat := True.intro; rw [← Ny101.out] at ho; change Kd.R (Kd.int .u8) 5 w7 w.heap.size (fun _ => True) v102 y101 at ho; have n0_ := Aside0.mk (hb); have n1_ := Aside0.mk (ho); clear HB; have HB := n0_; have HO103 := n1_; clear n0_ n1_; clear ho hb hg hat) | ((with_reducible refine gate_dst (N := 18) rfl ?_); refine rangeL_ (some 18) rfl rfl rfl Tryz.underlying9 a0 rfl ?_; (with_reducible refine (itr_make.calls a0 t104 t105 w _ ?side1 A6.out).mono ?_); (case side1 => repeat (first | (with_reducible first | exact HB.out | apply below_alloc | apply pw_below_drewN | apply below_drew1) | exact HB.out)); rintro e w8 ⟨g106, rfl, hi, hb, hb2, hge⟩; refine ⟨_, rfl, ?_⟩; have n0_ := Aside0.mk (Kd.R_below (by (with_reducible repeat (first | apply Kd.R_alloc | apply Kd.R_drewN | apply Kd.R_drew)); exact HO103.out) hb2); have n1_ := Aside0.mk (hb); have n2_ := Aside0.mk (hi); clear HO103; clear HB; have HO103 := n0_; have HB := n1_; have HI106 := n2_; clear n0_ n1_ n2_; (try clear hb); (try clear hb2); (try clear hk); (try clear hi)))
      (try simp only [Act.put, List.setIfInBounds_toArray, List.set_cons_zero, List.set_cons_succ])
      go_loopg [7, 8] k (fun kq v7 v8 w' => ∃ (x7_1 : List Int) (x8_1 : Int) (x107001_1 : Int), v8 = .int .i64 x8_1 ∧ Aside0 (list_zzReplaceAll.l0 kq a0 a2 x7_1 x8_1 t104 x107001_1 = some r) ∧ Aside0 (kq ≤ k) ∧ Aside0 (Kd.R (Kd.int .u8) 5 w' w.heap.size (fun _ => True) v7 x7_1) ∧ Aside0 (IsS156 w w' g106 t104 x107001_1) ∧ Aside0 (Below w.heap.size w w'))
      case atStart => exact ⟨(y101), (0), (t105), (by first | rfl | (simp; done) | (simp [*]; done)), H', ⟨Nat.le_refl _⟩, ⟨by (with_reducible repeat (first | apply Kd.R_alloc | apply Kd.R_drewN | apply Kd.R_drew)); exact HO103.out⟩, ⟨by repeat (first | (with_reducible first | exact HI106.out | apply IsS156.alloc | apply IsS156.drewN | apply IsS156.drew | apply IsS156.set_1) | exact HI106.out)⟩, ⟨by repeat (first | (with_reducible first | exact HB.out | apply below_alloc | apply pw_below_drewN | apply below_drew1 | refine below_set ?_ (IsS156.ge HI106.out)) | exact HB.out)⟩⟩
      case round =>
        clear H'
        try clear p2
        try clear c4
        try clear c4b0
        try clear c4b1
        try clear c5
        obtain ⟨x7_1, x8_1, x107001_1, rfl, HA, HK1, HO_7, HI106, HB⟩ := hrel
        cases gk with
        | zero => exact absurd HA.out (by simp [list_zzReplaceAll.l0])
        | succ k1 =>
          have H := HA.out
          clear HA
          simp only [list_zzReplaceAll.l0] at H
          by_cases c9 : x107001_1 < (t104.size : Int)
          · rw [if_pos c9] at H
            have c9b0 : decide (x107001_1 < (t104.size : Int)) = true := decide_eq_true c9
            clear c9
            replace H := Option.bind_eq_some_iff.mp H
            obtain ⟨⟨t107, t108, t109⟩, A100, H⟩ := H
            replace H : (if t107 > 0 then (if 0 ≤ x8_1 then (if x8_1 ≤ t107 then (if t107 ≤ (a0.size : Int) then (if x7_1.length + (a0.extract (x8_1 : Int).toNat (t107 : Int).toNat).size < 140737488355328 then ((some (x7_1 ++ bytesOf (a0.extract (x8_1 : Int).toNat (t107 : Int).toNat) : List Int)).bind fun y110 => (if y110.length + a2.size < 140737488355328 then (list_zzReplaceAll.l0 k1 a0 a2 (y110 ++ bytesOf a2) t107 t104 t109) else (none))) else (none)) else (none)) else (none)) else (none)) else (list_zzReplaceAll.l0 k1 a0 a2 x7_1 x8_1 t104 t109)) = some r := H
            have A10 := Aside0.mk A100
            clear A100
            by_cases c11 : t107 > 0
            · rw [if_pos c11] at H
              have c11b0 : decide (0 < t107) = true := decide_eq_true c11
              clear c11
              by_cases c12 : 0 ≤ x8_1
              · rw [if_pos c12] at H
                have c12b0 := eq_true c12
                have c12b1 : decide (0 ≤ x8_1) = true := decide_eq_true c12
                clear c12
                by_cases c13 : x8_1 ≤ t107
                · rw [if_pos c13] at H
                  have c13b0 := eq_true c13
                  have c13b1 : decide (x8_1 ≤ t107) = true := decide_eq_true c13
                  clear c13
                  by_cases c14 : t107 ≤ (a0.size : Int)
                  · rw [if_pos c14] at H
                    have c14b0 := eq_true c14
                    have c14b1 : decide (t107 ≤ (a0.size : Int)) = true := decide_eq_true c14
                    clear c14
                    by_cases c15 : x7_1.length + (a0.extract (x8_1 : Int).toNat (t107 : Int).toNat).size < 140737488355328
                    · rw [if_pos c15] at H
                      have LMc15 := Aside0.mk c15
                      clear c15
                      obtain ⟨y110, hy110⟩ : ∃ y_ : List Int, y_ = (x7_1 ++ bytesOf (a0.extract (x8_1 : Int).toNat (t107 : Int).toNat)) := ⟨_, rfl⟩
                      replace H : (if y110.length + a2.size < 140737488355328 then (list_zzReplaceAll.l0 k1 a0 a2 (y110 ++ bytesOf a2) t107 t104 t109) else (none)) = some r := by first | (rw [hy110]; with_reducible exact H) | (have H2_ := (Option.bind_some _ _).symm.trans H; rw [hy110]; with_reducible exact H2_) | (have H2_ := (Option.bind_some _ _).symm.trans H; with_reducible exact H2_) | with_reducible exact H | (rw [hy110]; exact H) | exact H
                      have Ny110 := Aside0.mk hy110
                      clear hy110
                      by_cases c16 : y110.length + a2.size < 140737488355328
                      · rw [if_pos c16] at H
                        have LMc16 := Aside0.mk c16
                        clear c16
                        obtain ⟨y113, hy113⟩ : ∃ y_ : List Int, y_ = (y110 ++ bytesOf a2) := ⟨_, rfl⟩
                        replace H : (list_zzReplaceAll.l0 k1 a0 a2 y113 t107 t104 t109) = some r := by first | (rw [hy113]; with_reducible exact H) | (have H2_ := (Option.bind_some _ _).symm.trans H; rw [hy113]; with_reducible exact H2_) | (have H2_ := (Option.bind_some _ _).symm.trans H; with_reducible exact H2_) | with_reducible exact H | (rw [hy113]; exact H) | exact H
                        have Ny113 := Aside0.mk hy113
                        clear hy113
                        have H' := Aside0.mk H
                        clear H
                        go_wp2_with (first | ((with_reducible refine gate_dst (N := 19) rfl ?_); refine nextL_ (some 19) rfl rfl rfl (.pointer (some ⟨g106, 0, none⟩)) rfl ?_; (with_reducible refine (itr_more.calls g106 t104 x107001_1 t107 t108 t109 w _ ?side1 ?side2 A10.out).mono ?_); (case side1 => repeat (first | (with_reducible first | exact HI106.out | apply IsS156.alloc | apply IsS156.drewN | apply IsS156.drew | apply IsS156.set_1) | exact HI106.out)); (case side2 => repeat (first | (with_reducible first | exact HB.out | apply below_alloc | apply pw_below_drewN | apply below_drew1 | refine below_set ?_ (IsS156.ge HI106.out)) | exact HB.out)); rintro e w17 ⟨rfl, hi, hb, hk⟩; refine ⟨_, rfl, ?_⟩; have n0_ := Aside0.mk (Kd.R_mono (Kd.R_keep (IsS156.apart (show IsS156 w _ g106 t104 x107001_1 from by repeat (first | (with_reducible first | exact HI106.out | apply IsS156.alloc | apply IsS156.drewN | apply IsS156.drew | apply IsS156.set_1) | exact HI106.out)) (by (with_reducible repeat (first | apply Kd.R_alloc | apply Kd.R_drewN | apply Kd.R_drew)); exact HO_7.out) (by decide)) hk (fun _ h => h.2)) (fun _ h => h.1)); have n1_ := Aside0.mk (hb); have n2_ := Aside0.mk (hi); clear HO_7; clear HB; clear HI106; have HO_7 := n0_; have HB := n1_; have HI106 := n2_; clear n0_ n1_ n2_; (try clear hb); (try clear hb2); (try clear hk); (try clear hi)) | (at_builtin; refine print_append_str (w0 := w) w.heap.size rfl (.tmp 24) _ 57 9 5 rfl Tryz.underlying57 Tryz.underlying9 info5 u7 x7_1 (a0.extract (x8_1 : Int).toNat (t107 : Int).toNat) rfl rfl ?aO ?aB ?aS ?aL ?_; (case aB => exact (by repeat (first | (with_reducible first | exact HB.out | apply below_alloc | apply pw_below_drewN | apply below_drew1 | refine below_set ?_ (IsS156.ge HI106.out)) | exact HB.out))); (case aO => exact (Kd.own_of_R (by (with_reducible repeat (first | apply Kd.R_alloc | apply Kd.R_drewN | apply Kd.R_drew)); exact HO_7.out))); (case aS => exact (below_size (by repeat (first | (with_reducible first | exact HB.out | apply below_alloc | apply pw_below_drewN | apply below_drew1 | refine below_set ?_ (IsS156.ge HI106.out)) | exact HB.out)))); (case aL => have := LMc15.out; first | omega | exact this | exact Nat.le_of_lt this); intro v111 w18 ho0 hb hg; have ho := Kd.R_of_own (h1 := fun _ => rfl) (ok := fun _ => True) ho0 (fun _ _ => trivial); clear ho0; have hat := True.intro; rw [← Ny110.out] at ho; change Kd.R (Kd.int .u8) 5 w18 w.heap.size (fun _ => True) v111 y110 at ho; have n0_ := Aside0.mk (IsS156.grown (by repeat (first | (with_reducible first | exact HI106.out | apply IsS156.alloc | apply IsS156.drewN | apply IsS156.drew | apply IsS156.set_1) | exact HI106.out)) hg (IsS156.own_ne HI106.out HO_7.out (by decide))); have n1_ := Aside0.mk (hb); have n2_ := Aside0.mk (ho); clear HI106; clear HB; clear HO_7; have HI106 := n0_; have HB := n1_; have HO112 := n2_; clear n0_ n1_ n2_; clear ho hb hg hat) | (at_builtin; refine print_append_str (w0 := w) w.heap.size rfl (.tmp 29) _ 57 9 5 rfl Tryz.underlying57 Tryz.underlying9 info5 v111 y110 a2 rfl rfl ?aO ?aB ?aS ?aL ?_; (case aB => exact (by repeat (first | (with_reducible first | exact HB.out | apply below_alloc | apply pw_below_drewN | apply below_drew1 | refine below_set ?_ (IsS156.ge HI106.out)) | exact HB.out))); (case aO => exact (Kd.own_of_R (by (with_reducible repeat (first | apply Kd.R_alloc | apply Kd.R_drewN | apply Kd.R_drew)); exact HO112.out))); (case aS => exact (below_size (by repeat (first | (with_reducible first | exact HB.out | apply below_alloc | apply pw_below_drewN | apply below_drew1 | refine below_set ?_ (IsS156.ge HI106.out)) | exact HB.out)))); (case aL => have := LMc16.out; first | omega | exact this | exact Nat.le_of_lt this); intro v114 w19 ho0 hb hg; have ho := Kd.R_of_own (h1 := fun _ => rfl) (ok := fun _ => True) ho0 (fun _ _ => trivial); clear ho0; have hat := True.intro; rw [← Ny113.out] at ho; change Kd.R (Kd.int .u8) 5 w19 w.heap.size (fun _ => True) v114 y113 at ho; have n0_ := Aside0.mk (IsS156.grown (by repeat (first | (with_reducible first | exact HI106.out | apply IsS156.alloc | apply IsS156.drewN | apply IsS156.drew | apply IsS156.set_1) | exact HI106.out)) hg (IsS156.own_ne HI106.out HO112.out (by decide))); have n1_ := Aside0.mk (hb); have n2_ := Aside0.mk (ho); clear HI106; clear HB; clear HO112; have HI106 := n0_; have HB := n1_; have HO115 := n2_; clear n0_ n1_ n2_; clear ho hb hg hat))
                        go_roundg k1
                        case measure => have := HK1.out; omega
                        case rel => exact ⟨(y113), (t107), (t109), (by first | rfl | (simp; done) | (simp [*]; done)), H', ⟨by have := HK1.out; omega⟩, ⟨by (with_reducible repeat (first | apply Kd.R_alloc | apply Kd.R_drewN | apply Kd.R_drew)); exact HO115.out⟩, ⟨by repeat (first | (with_reducible first | exact HI106.out | apply IsS156.alloc | apply IsS156.drewN | apply IsS156.drew | apply IsS156.set_1) | exact HI106.out)⟩, ⟨by repeat (first | (with_reducible first | exact HB.out | apply below_alloc | apply pw_below_drewN | apply below_drew1 | refine below_set ?_ (IsS156.ge HI106.out)) | exact HB.out)⟩⟩
                      · rw [if_neg c16] at H
                        exact absurd H (by simp)
                    · rw [if_neg c15] at H
                      exact absurd H (by simp)
                  · rw [if_neg c14] at H
                    exact absurd H (by simp)
                · rw [if_neg c13] at H
                  exact absurd H (by simp)
              · rw [if_neg c12] at H
                exact absurd H (by simp)
            · rw [if_neg c11] at H
              have c11b0 : decide (0 < t107) = false := decide_eq_false c11
              clear c11
              have H' := Aside0.mk H
              clear H
              go_wp2_with (first | ((with_reducible refine gate_dst (N := 19) rfl ?_); refine nextL_ (some 19) rfl rfl rfl (.pointer (some ⟨g106, 0, none⟩)) rfl ?_; (with_reducible refine (itr_more.calls g106 t104 x107001_1 t107 t108 t109 w _ ?side1 ?side2 A10.out).mono ?_); (case side1 => repeat (first | (with_reducible first | exact HI106.out | apply IsS156.alloc | apply IsS156.drewN | apply IsS156.drew | apply IsS156.set_1) | exact HI106.out)); (case side2 => repeat (first | (with_reducible first | exact HB.out | apply below_alloc | apply pw_below_drewN | apply below_drew1 | refine below_set ?_ (IsS156.ge HI106.out)) | exact HB.out)); rintro e w20 ⟨rfl, hi, hb, hk⟩; refine ⟨_, rfl, ?_⟩; have n0_ := Aside0.mk (Kd.R_mono (Kd.R_keep (IsS156.apart (show IsS156 w _ g106 t104 x107001_1 from by repeat (first | (with_reducible first | exact HI106.out | apply IsS156.alloc | apply IsS156.drewN | apply IsS156.drew | apply IsS156.set_1) | exact HI106.out)) (by (with_reducible repeat (first | apply Kd.R_alloc | apply Kd.R_drewN | apply Kd.R_drew)); exact HO_7.out) (by decide)) hk (fun _ h => h.2)) (fun _ h => h.1)); have n1_ := Aside0.mk (hb); have n2_ := Aside0.mk (hi); clear HO_7; clear HB; clear HI106; have HO_7 := n0_; have HB := n1_; have HI106 := n2_; clear n0_ n1_ n2_; (try clear hb); (try clear hb2); (try clear hk); (try clear hi)))
              go_roundg k1
              case measure => have := HK1.out; omega
              case rel => exact ⟨(x7_1), (x8_1), (t109), (by first | rfl | (simp; done) | (simp [*]; done)), H', ⟨by have := HK1.out; omega⟩, ⟨by (with_reducible repeat (first | apply Kd.R_alloc | apply Kd.R_drewN | apply Kd.R_drew)); exact HO_7.out⟩, ⟨by repeat (first | (with_reducible first | exact HI106.out | apply IsS156.alloc | apply IsS156.drewN | apply IsS156.drew | apply IsS156.set_1) | exact HI106.out)⟩, ⟨by repeat (first | (with_reducible first | exact HB.out | apply below_alloc | apply pw_below_drewN | apply below_drew1 | refine below_set ?_ (IsS156.ge HI106.out)) | exact HB.out)⟩⟩
          · rw [if_neg c9] at H
            have c9b0 : decide (x107001_1 < (t104.size : Int)) = false := decide_eq_false c9
            clear c9
            replace H := Option.bind_eq_some_iff.mp H
            obtain ⟨t116, A210, H⟩ := H
            replace H : (if (a0.size : Int) > 0 then (if 0 ≤ x8_1 then (if x8_1 ≤ (a0.size : Int) then (if x7_1.length + (a0.extract (x8_1 : Int).toNat a0.size).size < 140737488355328 then ((some (x7_1 ++ bytesOf (a0.extract (x8_1 : Int).toNat a0.size) : List Int)).bind fun y117 => (if y117.length + a2.size < 140737488355328 then (some (strOfNums (y117 ++ bytesOf a2))) else (none))) else (none)) else (none)) else (none)) else (some (strOfNums x7_1))) = some r := H
            have A21 := Aside0.mk A210
            clear A210
            by_cases c22 : (a0.size : Int) > 0
            · rw [if_pos c22] at H
              have c22b0 : decide (0 < (a0.size : Int)) = true := decide_eq_true c22
              have c22b1 : decide (0 < a0.size) = true := decide_eq_true (by omega)
              clear c22
              by_cases c23 : 0 ≤ x8_1
              · rw [if_pos c23] at H
                have c23b0 := eq_true c23
                have c23b1 : decide (0 ≤ x8_1) = true := decide_eq_true c23
                clear c23
                by_cases c24 : x8_1 ≤ (a0.size : Int)
                · rw [if_pos c24] at H
                  have c24b0 := eq_true c24
                  have c24b1 : decide (x8_1 ≤ (a0.size : Int)) = true := decide_eq_true c24
                  clear c24
                  by_cases c25 : x7_1.length + (a0.extract (x8_1 : Int).toNat a0.size).size < 140737488355328
                  · rw [if_pos c25] at H
                    have LMc25 := Aside0.mk c25
                    clear c25
                    obtain ⟨y117, hy117⟩ : ∃ y_ : List Int, y_ = (x7_1 ++ bytesOf (a0.extract (x8_1 : Int).toNat a0.size)) := ⟨_, rfl⟩
                    replace H : (if y117.length + a2.size < 140737488355328 then (some (strOfNums (y117 ++ bytesOf a2))) else (none)) = some r := by first | (rw [hy117]; with_reducible exact H) | (have H2_ := (Option.bind_some _ _).symm.trans H; rw [hy117]; with_reducible exact H2_) | (have H2_ := (Option.bind_some _ _).symm.trans H; with_reducible exact H2_) | with_reducible exact H | (rw [hy117]; exact H) | exact H
                    have Ny117 := Aside0.mk hy117
                    clear hy117
                    by_cases c26 : y117.length + a2.size < 140737488355328
                    · rw [if_pos c26] at H
                      have LMc26 := Aside0.mk c26
                      clear c26
                      obtain ⟨y120, hy120⟩ : ∃ y_ : List Int, y_ = (y117 ++ bytesOf a2) := ⟨_, rfl⟩
                      replace H : (some (strOfNums y120)) = some r := by first | (rw [hy120]; with_reducible exact H) | (have H2_ := (Option.bind_some _ _).symm.trans H; rw [hy120]; with_reducible exact H2_) | (have H2_ := (Option.bind_some _ _).symm.trans H; with_reducible exact H2_) | with_reducible exact H | (rw [hy120]; exact H) | exact H
                      have Ny120 := Aside0.mk hy120
                      clear hy120
                      obtain rfl := Option.some.inj H
                      go_wp2_with (first | ((with_reducible refine gate_dst (N := 19) rfl ?_); refine nextL_ (some 19) rfl rfl rfl (.pointer (some ⟨g106, 0, none⟩)) rfl ?_; (with_reducible refine (itr_end.calls g106 t104 x107001_1 t116 w _ ?side1 ?side2 A21.out).mono ?_); (case side1 => repeat (first | (with_reducible first | exact HI106.out | apply IsS156.alloc | apply IsS156.drewN | apply IsS156.drew | apply IsS156.set_1) | exact HI106.out)); (case side2 => repeat (first | (with_reducible first | exact HB.out | apply below_alloc | apply pw_below_drewN | apply below_drew1 | refine below_set ?_ (IsS156.ge HI106.out)) | exact HB.out)); rintro e w27 ⟨rfl, hi, hb, hk⟩; refine ⟨_, rfl, ?_⟩; have n0_ := Aside0.mk (Kd.R_mono (Kd.R_keep (IsS156.apart (show IsS156 w _ g106 t104 x107001_1 from by repeat (first | (with_reducible first | exact HI106.out | apply IsS156.alloc | apply IsS156.drewN | apply IsS156.drew | apply IsS156.set_1) | exact HI106.out)) (by (with_reducible repeat (first | apply Kd.R_alloc | apply Kd.R_drewN | apply Kd.R_drew)); exact HO_7.out) (by decide)) hk (fun _ h => h.2)) (fun _ h => h.1)); have n1_ := Aside0.mk (hb); have n2_ := Aside0.mk (hi); clear HO_7; clear HB; clear HI106; have HO_7 := n0_; have HB := n1_; have HI106 := n2_; clear n0_ n1_ n2_; (try clear hb); (try clear hb2); (try clear hk); (try clear hi)) | (at_builtin; refine print_append_str (w0 := w) w.heap.size rfl (.tmp 36) _ 57 9 5 rfl Tryz.underlying57 Tryz.underlying9 info5 u7 x7_1 (a0.extract (x8_1 : Int).toNat a0.size) rfl rfl ?aO ?aB ?aS ?aL ?_; (case aB => exact (by repeat (first | (with_reducible first | exact HB.out | apply below_alloc | apply pw_below_drewN | apply below_drew1 | refine below_set ?_ (IsS156.ge HI106.out)) | exact HB.out))); (case aO => exact (Kd.own_of_R (by (with_reducible repeat (first | apply Kd.R_alloc | apply Kd.R_drewN | apply Kd.R_drew)); exact HO_7.out))); (case aS => exact (below_size (by repeat (first | (with_reducible first | exact HB.out | apply below_alloc | apply pw_below_drewN | apply below_drew1 | refine below_set ?_ (IsS156.ge HI106.out)) | exact HB.out)))); (case aL => have := LMc25.out; first | omega | exact this | exact Nat.le_of_lt this); intro v118 w28 ho0 hb hg; have ho := Kd.R_of_own (h1 := fun _ => rfl) (ok := fun _ => True) ho0 (fun _ _ => trivial); clear ho0; have hat := True.intro; rw [← Ny117.out] at ho; change Kd.R (Kd.int .u8) 5 w28 w.heap.size (fun _ => True) v118 y117 at ho; have n0_ := Aside0.mk (IsS156.grown (by repeat (first | (with_reducible first | exact HI106.out | apply IsS156.alloc | apply IsS156.drewN | apply IsS156.drew | apply IsS156.set_1) | exact HI106.out)) hg (IsS156.own_ne HI106.out HO_7.out (by decide))); have n1_ := Aside0.mk (hb); have n2_ := Aside0.mk (ho); clear HI106; clear HB; clear HO_7; have HI106 := n0_; have HB := n1_; have HO119 := n2_; clear n0_ n1_ n2_; clear ho hb hg hat) | (at_builtin; refine print_append_str (w0 := w) w.heap.size rfl (.tmp 40) _ 57 9 5 rfl Tryz.underlying57 Tryz.underlying9 info5 v118 y117 a2 rfl rfl ?aO ?aB ?aS ?aL ?_; (case aB => exact (by repeat (first | (with_reducible first | exact HB.out | apply below_alloc | apply pw_below_drewN | apply below_drew1 | refine below_set ?_ (IsS156.ge HI106.out)) | exact HB.out))); (case aO => exact (Kd.own_of_R (by (with_reducible repeat (first | apply Kd.R_alloc | apply Kd.R_drewN | apply Kd.R_drew)); exact HO119.out))); (case aS => exact (below_size (by repeat (first | (with_reducible first | exact HB.out | apply below_alloc | apply pw_below_drewN | apply below_drew1 | refine below_set ?_ (IsS156.ge HI106.out)) | exact HB.out)))); (case aL => have := LMc26.out; first | omega | exact this | exact Nat.le_of_lt this); intro v121 w29 ho0 hb hg; have ho := Kd.R_of_own (h1 := fun _ => rfl) (ok := fun _ => True) ho0 (fun _ _ => trivial); clear ho0; have hat := True.intro; rw [← Ny120.out] at ho; change Kd.R (Kd.int .u8) 5 w29 w.heap.size (fun _ => True) v121 y120 at ho; have n0_ := Aside0.mk (IsS156.grown (by repeat (first | (with_reducible first | exact HI106.out | apply IsS156.alloc | apply IsS156.drewN | apply IsS156.drew | apply IsS156.set_1) | exact HI106.out)) hg (IsS156.own_ne HI106.out HO119.out (by decide))); have n1_ := Aside0.mk (hb); have n2_ := Aside0.mk (ho); clear HI106; clear HB; clear HO119; have HI106 := n0_; have HB := n1_; have HO122 := n2_; clear n0_ n1_ n2_; clear ho hb hg hat; have hcv30 := own_string (P := Tryz.prog) Tryz.underlying57 Tryz.underlying5 Tryz.underlying9 (Kd.own_of_R HO122.out)))
                      go_ret
                      exact ⟨by first | rfl | (simp [errW_none, errW_some] <;> rfl) | (simp [*, errW_none, errW_some] <;> rfl), by repeat (first | (with_reducible first | exact HB.out | apply below_alloc | apply pw_below_drewN | apply below_drew1 | refine below_set ?_ (IsS156.ge HI106.out)) | exact HB.out)⟩
                    · rw [if_neg c26] at H
                      exact absurd H (by simp)
                  · rw [if_neg c25] at H
                    exact absurd H (by simp)
                · rw [if_neg c24] at H
                  exact absurd H (by simp)
              · rw [if_neg c23] at H
                exact absurd H (by simp)
            · rw [if_neg c22] at H
              have c22b0 : decide (0 < (a0.size : Int)) = false := decide_eq_false c22
              have c22b1 : decide (0 < a0.size) = false := decide_eq_false (by omega)
              clear c22
              obtain rfl := Option.some.inj H
              go_wp2_with (first | ((with_reducible refine gate_dst (N := 19) rfl ?_); refine nextL_ (some 19) rfl rfl rfl (.pointer (some ⟨g106, 0, none⟩)) rfl ?_; (with_reducible refine (itr_end.calls g106 t104 x107001_1 t116 w _ ?side1 ?side2 A21.out).mono ?_); (case side1 => repeat (first | (with_reducible first | exact HI106.out | apply IsS156.alloc | apply IsS156.drewN | apply IsS156.drew | apply IsS156.set_1) | exact HI106.out)); (case side2 => repeat (first | (with_reducible first | exact HB.out | apply below_alloc | apply pw_below_drewN | apply below_drew1 | refine below_set ?_ (IsS156.ge HI106.out)) | exact HB.out)); rintro e w31 ⟨rfl, hi, hb, hk⟩; refine ⟨_, rfl, ?_⟩; have n0_ := Aside0.mk (Kd.R_mono (Kd.R_keep (IsS156.apart (show IsS156 w _ g106 t104 x107001_1 from by repeat (first | (with_reducible first | exact HI106.out | apply IsS156.alloc | apply IsS156.drewN | apply IsS156.drew | apply IsS156.set_1) | exact HI106.out)) (by (with_reducible repeat (first | apply Kd.R_alloc | apply Kd.R_drewN | apply Kd.R_drew)); exact HO_7.out) (by decide)) hk (fun _ h => h.2)) (fun _ h => h.1)); have n1_ := Aside0.mk (hb); have n2_ := Aside0.mk (hi); clear HO_7; clear HB; clear HI106; have HO_7 := n0_; have HB := n1_; have HI106 := n2_; clear n0_ n1_ n2_; (try clear hb); (try clear hb2); (try clear hk); (try clear hi); have hcv32 := own_string (P := Tryz.prog) Tryz.underlying57 Tryz.underlying5 Tryz.underlying9 (Kd.own_of_R HO_7.out)))
              go_ret
              exact ⟨by first | rfl | (simp [errW_none, errW_some] <;> rfl) | (simp [*, errW_none, errW_some] <;> rfl), by repeat (first | (with_reducible first | exact HB.out | apply below_alloc | apply pw_below_drewN | apply below_drew1 | refine below_set ?_ (IsS156.ge HI106.out)) | exact HB.out)⟩
    · rw [if_neg c5] at H
      exact absurd H (by simp)
  · rw [if_neg c4] at H
    have c4b0 : ((a1.size : Int) == 0) = false := beq_eq_false_iff_ne.mpr c4
    have c4b1 : ((a1.size : Int) != 0) = true := bne_iff_ne.mpr c4
    have H' := Aside0.mk H
    clear H
    go_enter Tryz.func51, Tryz.ntmps51
    go_wp2
    (try simp only [Act.put, List.setIfInBounds_toArray, List.set_cons_zero, List.set_cons_succ])
    go_loopg [0, 7] k (fun kq v0 v7 w' => ∃ (x0_1 : ByteArray) (x7_1 : List Int), v0 = .string x0_1 ∧ Aside0 (list_zzReplaceAll.l1 kq x0_1 a1 a2 x7_1 = some r) ∧ Aside0 (kq ≤ k) ∧ Aside0 (Kd.R (Kd.int .u8) 5 w' w.heap.size (fun _ => True) v7 x7_1) ∧ Aside0 (Below w.heap.size w w'))
    case atStart => exact ⟨(a0), (([] : List Int)), (by first | rfl | (simp; done) | (simp [*]; done)), H', ⟨Nat.le_refl _⟩, ⟨by first | exact Kd.R_nil _ _ _ _ _ | exact Kd.N_nil _ _ _ _ _ | exact Kd.V_nil _ _ _ _ _ | exact Kd.Q_nil _ _ _ _ _ | exact Kd.S_nil _ _ _ _ _⟩, ⟨by repeat (first | (with_reducible first | exact HB.out | apply below_alloc | apply pw_below_drewN | apply below_drew1) | exact HB.out)⟩⟩
    case round =>
      clear H'
      try clear c1
      try clear c2
      try clear p2
      try clear hcv3
      try clear c4
      try clear c4b0
      try clear c4b1
      try clear c5
      try clear c9
      try clear c9b0
      try clear c11
      try clear c11b0
      try clear c12
      try clear c12b0
      try clear c12b1
      try clear c13
      try clear c13b0
      try clear c13b1
      try clear c14
      try clear c14b0
      try clear c14b1
      try clear c15
      try clear c16
      try clear c22
      try clear c22b0
      try clear c22b1
      try clear c23
      try clear c23b0
      try clear c23b1
      try clear c24
      try clear c24b0
      try clear c24b1
      try clear c25
      try clear c26
      try clear hcv30
      try clear hcv32
      try clear p2
      obtain ⟨x0_1, x7_1, rfl, HA, HK1, HO_7, HB⟩ := hrel
      cases gk with
      | zero => exact absurd HA.out (by simp [list_zzReplaceAll.l1])
      | succ k1 =>
        have H := HA.out
        clear HA
        simp only [list_zzReplaceAll.l1] at H
        replace H := Option.bind_eq_some_iff.mp H
        obtain ⟨t123, A330, H⟩ := H
        replace H : (if t123 < 0 then (if x7_1.length + x0_1.size < 140737488355328 then (some (strOfNums (x7_1 ++ bytesOf x0_1))) else (none)) else (if 0 ≤ t123 then (if t123 ≤ (x0_1.size : Int) then (if x7_1.length + (x0_1.extract 0 (t123 : Int).toNat).size < 140737488355328 then ((some (x7_1 ++ bytesOf (x0_1.extract 0 (t123 : Int).toNat) : List Int)).bind fun y127 => (if y127.length + a2.size < 140737488355328 then (if 0 ≤ (wrap64 (t123 + (a1.size : Int))) then (if (wrap64 (t123 + (a1.size : Int))) ≤ (x0_1.size : Int) then (list_zzReplaceAll.l1 k1 (x0_1.extract ((wrap64 (t123 + (a1.size : Int))) : Int).toNat x0_1.size) a1 a2 (y127 ++ bytesOf a2)) else (none)) else (none)) else (none))) else (none)) else (none)) else (none))) = some r := H
        have A33 := Aside0.mk A330
        clear A330
        by_cases c34 : t123 < 0
        · rw [if_pos c34] at H
          have c34b0 : decide (t123 < 0) = true := decide_eq_true c34
          clear c34
          by_cases c35 : x7_1.length + x0_1.size < 140737488355328
          · rw [if_pos c35] at H
            have LMc35 := Aside0.mk c35
            clear c35
            obtain ⟨y124, hy124⟩ : ∃ y_ : List Int, y_ = (x7_1 ++ bytesOf x0_1) := ⟨_, rfl⟩
            replace H : (some (strOfNums y124)) = some r := by first | (rw [hy124]; with_reducible exact H) | (have H2_ := (Option.bind_some _ _).symm.trans H; rw [hy124]; with_reducible exact H2_) | (have H2_ := (Option.bind_some _ _).symm.trans H; with_reducible exact H2_) | with_reducible exact H | (rw [hy124]; exact H) | exact H
            have Ny124 := Aside0.mk hy124
            clear hy124
            obtain rfl := Option.some.inj H
            go_wp2_with (first | ((with_reducible refine gate_callee (f := 68) rfl ?_); refine goesL_ (some 47) rfl rfl Tryz.func68 (by kernel_rfl) rfl #[.string x0_1, .string a1] rfl (by (try simp only [List.map_toArray, List.map_cons, List.map_nil]); first | done | rfl | (simp only [List.length_drop, List.length_take]; rfl)) ?_; (with_reducible refine (list_zzIndex.calls k1 x0_1 a1 t123 _ A33.out).mono ?_); rintro e w' ⟨rfl, ⟨nd, rfl⟩⟩; refine ⟨_, rfl, ?_⟩) | (at_builtin; refine print_append_str (w0 := w) w.heap.size rfl (.tmp 50) _ 57 9 5 rfl Tryz.underlying57 Tryz.underlying9 info5 u7 x7_1 x0_1 rfl rfl ?aO ?aB ?aS ?aL ?_; (case aB => exact (by repeat (first | (with_reducible first | exact HB.out | apply below_alloc | apply pw_below_drewN | apply below_drew1) | exact HB.out))); (case aO => exact (Kd.own_of_R (by (with_reducible repeat (first | apply Kd.R_alloc | apply Kd.R_drewN | apply Kd.R_drew)); exact HO_7.out))); (case aS => exact (below_size (by repeat (first | (with_reducible first | exact HB.out | apply below_alloc | apply pw_below_drewN | apply below_drew1) | exact HB.out)))); (case aL => have := LMc35.out; first | omega | exact this | exact Nat.le_of_lt this); intro v125 w36 ho0 hb hg; have ho := Kd.R_of_own (h1 := fun _ => rfl) (ok := fun _ => True) ho0 (fun _ _ => trivial); clear ho0; have hat := True.intro; rw [← Ny124.out] at ho; change Kd.R (Kd.int .u8) 5 w36 w.heap.size (fun _ => True) v125 y124 at ho; have n0_ := Aside0.mk (hb); have n1_ := Aside0.mk (ho); clear HB; clear HO_7; have HB := n0_; have HO126 := n1_; clear n0_ n1_; clear ho hb hg hat; have hcv37 := own_string (P := Tryz.prog) Tryz.underlying57 Tryz.underlying5 Tryz.underlying9 (Kd.own_of_R HO126.out)))
            go_ret
            exact ⟨by first | rfl | (simp [errW_none, errW_some] <;> rfl) | (simp [*, errW_none, errW_some] <;> rfl), by repeat (first | (with_reducible first | exact HB.out | apply below_alloc | apply pw_below_drewN | apply below_drew1) | exact HB.out)⟩
          · rw [if_neg c35] at H
            exact absurd H (by simp)
        · rw [if_neg c34] at H
          have c34b0 : decide (t123 < 0) = false := decide_eq_false c34
          clear c34
          by_cases c38 : 0 ≤ t123
          · rw [if_pos c38] at H
            have c38b0 := eq_true c38
            have c38b1 : decide (0 ≤ t123) = true := decide_eq_true c38
            clear c38
            by_cases c39 : t123 ≤ (x0_1.size : Int)
            · rw [if_pos c39] at H
              have c39b0 := eq_true c39
              have c39b1 : decide (t123 ≤ (x0_1.size : Int)) = true := decide_eq_true c39
              clear c39
              by_cases c40 : x7_1.length + (x0_1.extract 0 (t123 : Int).toNat).size < 140737488355328
              · rw [if_pos c40] at H
                have LMc40 := Aside0.mk c40
                clear c40
                obtain ⟨y127, hy127⟩ : ∃ y_ : List Int, y_ = (x7_1 ++ bytesOf (x0_1.extract 0 (t123 : Int).toNat)) := ⟨_, rfl⟩
                replace H : (if y127.length + a2.size < 140737488355328 then (if 0 ≤ (wrap64 (t123 + (a1.size : Int))) then (if (wrap64 (t123 + (a1.size : Int))) ≤ (x0_1.size : Int) then (list_zzReplaceAll.l1 k1 (x0_1.extract ((wrap64 (t123 + (a1.size : Int))) : Int).toNat x0_1.size) a1 a2 (y127 ++ bytesOf a2)) else (none)) else (none)) else (none)) = some r := by first | (rw [hy127]; with_reducible exact H) | (have H2_ := (Option.bind_some _ _).symm.trans H; rw [hy127]; with_reducible exact H2_) | (have H2_ := (Option.bind_some _ _).symm.trans H; with_reducible exact H2_) | with_reducible exact H | (rw [hy127]; exact H) | exact H
                have Ny127 := Aside0.mk hy127
                clear hy127
                by_cases c41 : y127.length + a2.size < 140737488355328
                · rw [if_pos c41] at H
                  have LMc41 := Aside0.mk c41
                  clear c41
                  obtain ⟨y130, hy130⟩ : ∃ y_ : List Int, y_ = (y127 ++ bytesOf a2) := ⟨_, rfl⟩
                  replace H : (if 0 ≤ (wrap64 (t123 + (a1.size : Int))) then (if (wrap64 (t123 + (a1.size : Int))) ≤ (x0_1.size : Int) then (list_zzReplaceAll.l1 k1 (x0_1.extract ((wrap64 (t123 + (a1.size : Int))) : Int).toNat x0_1.size) a1 a2 y130) else (none)) else (none)) = some r := by first | (rw [hy130]; with_reducible exact H) | (have H2_ := (Option.bind_some _ _).symm.trans H; rw [hy130]; with_reducible exact H2_) | (have H2_ := (Option.bind_some _ _).symm.trans H; with_reducible exact H2_) | with_reducible exact H | (rw [hy130]; exact H) | exact H
                  have Ny130 := Aside0.mk hy130
                  clear hy130
                  obtain ⟨ji42, hji42⟩ : ∃ j_ : Int, (wrap64 (t123 + (a1.size : Int))) = j_ := ⟨_, rfl⟩
                  replace H : (if 0 ≤ (ji42) then (if (ji42) ≤ (x0_1.size : Int) then (list_zzReplaceAll.l1 k1 (x0_1.extract ((ji42) : Int).toNat x0_1.size) a1 a2 y130) else (none)) else (none)) = some r := by first | (rw [hji42] at H; exact H) | (simp only [hji42] at H ⊢; exact H)
                  (try rw [hji42] at A33)
                  have hji42w : (IntKind.i64.wrap (t123 + (a1.size : Int))) = ji42 := (i64_w _).trans hji42
                  by_cases c43 : 0 ≤ (ji42)
                  · rw [if_pos c43] at H
                    have c43b0 := eq_true c43
                    have c43b1 : decide (0 ≤ (ji42)) = true := decide_eq_true c43
                    clear c43
                    by_cases c44 : (ji42) ≤ (x0_1.size : Int)
                    · rw [if_pos c44] at H
                      have c44b0 := eq_true c44
                      have c44b1 : decide ((ji42) ≤ (x0_1.size : Int)) = true := decide_eq_true c44
                      clear c44
                      have H' := Aside0.mk H
                      clear H
                      go_wp2_with (first | ((with_reducible refine gate_callee (f := 68) rfl ?_); refine goesL_ (some 47) rfl rfl Tryz.func68 (by kernel_rfl) rfl #[.string x0_1, .string a1] rfl (by (try simp only [List.map_toArray, List.map_cons, List.map_nil]); first | done | rfl | (simp only [List.length_drop, List.length_take]; rfl)) ?_; (with_reducible refine (list_zzIndex.calls k1 x0_1 a1 t123 _ A33.out).mono ?_); rintro e w' ⟨rfl, ⟨nd, rfl⟩⟩; refine ⟨_, rfl, ?_⟩) | (at_builtin; refine print_append_str (w0 := w) w.heap.size rfl (.tmp 54) _ 57 9 5 rfl Tryz.underlying57 Tryz.underlying9 info5 u7 x7_1 (x0_1.extract 0 (t123 : Int).toNat) rfl rfl ?aO ?aB ?aS ?aL ?_; (case aB => exact (by repeat (first | (with_reducible first | exact HB.out | apply below_alloc | apply pw_below_drewN | apply below_drew1) | exact HB.out))); (case aO => exact (Kd.own_of_R (by (with_reducible repeat (first | apply Kd.R_alloc | apply Kd.R_drewN | apply Kd.R_drew)); exact HO_7.out))); (case aS => exact (below_size (by repeat (first | (with_reducible first | exact HB.out | apply below_alloc | apply pw_below_drewN | apply below_drew1) | exact HB.out)))); (case aL => have := LMc40.out; first | omega | exact this | exact Nat.le_of_lt this); intro v128 w45 ho0 hb hg; have ho := Kd.R_of_own (h1 := fun _ => rfl) (ok := fun _ => True) ho0 (fun _ _ => trivial); clear ho0; have hat := True.intro; rw [← Ny127.out] at ho; change Kd.R (Kd.int .u8) 5 w45 w.heap.size (fun _ => True) v128 y127 at ho; have n0_ := Aside0.mk (hb); have n1_ := Aside0.mk (ho); clear HB; clear HO_7; have HB := n0_; have HO129 := n1_; clear n0_ n1_; clear ho hb hg hat) | (at_builtin; refine print_append_str (w0 := w) w.heap.size rfl (.tmp 58) _ 57 9 5 rfl Tryz.underlying57 Tryz.underlying9 info5 v128 y127 a2 rfl rfl ?aO ?aB ?aS ?aL ?_; (case aB => exact (by repeat (first | (with_reducible first | exact HB.out | apply below_alloc | apply pw_below_drewN | apply below_drew1) | exact HB.out))); (case aO => exact (Kd.own_of_R (by (with_reducible repeat (first | apply Kd.R_alloc | apply Kd.R_drewN | apply Kd.R_drew)); exact HO129.out))); (case aS => exact (below_size (by repeat (first | (with_reducible first | exact HB.out | apply below_alloc | apply pw_below_drewN | apply below_drew1) | exact HB.out)))); (case aL => have := LMc41.out; first | omega | exact this | exact Nat.le_of_lt this); intro v131 w46 ho0 hb hg; have ho := Kd.R_of_own (h1 := fun _ => rfl) (ok := fun _ => True) ho0 (fun _ _ => trivial); clear ho0; have hat := True.intro; rw [← Ny130.out] at ho; change Kd.R (Kd.int .u8) 5 w46 w.heap.size (fun _ => True) v131 y130 at ho; have n0_ := Aside0.mk (hb); have n1_ := Aside0.mk (ho); clear HB; clear HO129; have HB := n0_; have HO132 := n1_; clear n0_ n1_; clear ho hb hg hat))
                      go_roundg k1
                      case measure => have := HK1.out; omega
                      case rel => exact ⟨(x0_1.extract ((ji42) : Int).toNat x0_1.size), (y130), (by first | rfl | (simp; done) | (simp only [← hji42] <;> (first | rfl | simp)) | (simp [*]; done)), H', ⟨by have := HK1.out; omega⟩, ⟨by (with_reducible repeat (first | apply Kd.R_alloc | apply Kd.R_drewN | apply Kd.R_drew)); exact HO132.out⟩, ⟨by repeat (first | (with_reducible first | exact HB.out | apply below_alloc | apply pw_below_drewN | apply below_drew1) | exact HB.out)⟩⟩
                    · rw [if_neg c44] at H
                      exact absurd H (by simp)
                  · rw [if_neg c43] at H
                    exact absurd H (by simp)
                · rw [if_neg c41] at H
                  exact absurd H (by simp)
              · rw [if_neg c40] at H
                exact absurd H (by simp)
            · rw [if_neg c39] at H
              exact absurd H (by simp)
          · rw [if_neg c38] at H
            exact absurd H (by simp)

/-! ### list_zzContains: function 50 -/
def list_zzContains.f (k : Nat) (a0 : ByteArray) (a1 : ByteArray) : Option (Bool) := (list_zzIndex.f k a0 a1).bind fun t133 => (some (decide (t133 ≥ 0)))
theorem list_zzContains.mono : ∀ a0 a1 k, LeO (list_zzContains.f k a0 a1) (list_zzContains.f (k + 1) a0 a1) := by
  intro a0 a1 k
  unfold list_zzContains.f
  repeat' first
      | (with_reducible exact list_zzIndex.mono _ _ _)
      | (with_reducible exact LeO.refl _)
      | (with_reducible exact LeO.none _)
      | (with_reducible refine LeO.ite ?_ ?_)
      | (with_reducible refine LeO.bind ?_ (fun _ => ?_))
      | exact list_zzIndex.mono _ _ _
      | exact LeO.none _
      | refine LeO.ite ?_ ?_
      | refine LeO.bind ?_ (fun _ => ?_)
set_option maxHeartbeats 8000000 in
set_option maxRecDepth 100000 in
theorem list_zzContains.calls (k : Nat) (a0 : ByteArray) (a1 : ByteArray) (r : Bool) (w : World) (h : list_zzContains.f k a0 a1 = some r) :
    Calls Tryz.prog 50 #[.string a0, .string a1] w fun e w' => e = .returned (.bool r) ∧ Drawn0 w w' := by
  have H : ((list_zzIndex.f k a0 a1).bind fun t133 => (some (decide (t133 ≥ 0)))) = some r := h
  clear h
  replace H := Option.bind_eq_some_iff.mp H
  obtain ⟨t133, A30, H⟩ := H
  replace H : (some (decide (t133 ≥ 0))) = some r := H
  have A3 := Aside0.mk A30
  clear A30
  obtain rfl := Option.some.inj H
  go_enter Tryz.func50, Tryz.ntmps50
  go_wp2_with (first | ((with_reducible refine gate_callee (f := 68) rfl ?_); refine goesL_ (some 7) rfl rfl Tryz.func68 (by kernel_rfl) rfl #[.string a0, .string a1] rfl (by (try simp only [List.map_toArray, List.map_cons, List.map_nil]); first | done | rfl | (simp only [List.length_drop, List.length_take]; rfl)) ?_; (with_reducible refine (list_zzIndex.calls k a0 a1 t133 _ A3.out).mono ?_); rintro e w' ⟨rfl, ⟨nd, rfl⟩⟩; refine ⟨_, rfl, ?_⟩))
  go_ret
  exact ⟨by first | rfl | (simp; done) | (simp [*]; done), by repeat (first | exact Drawn0.refl _ | apply Drawn0.step)⟩

/-- THE ONE PURE STATEMENT of list_zzContains: yours. -/
def list_zzContains.Pure : Prop := ∀ (a0 : ByteArray) (a1 : ByteArray), a0.size ≤ 140737488351232 → a1.size ≤ 140737488351232 → ∃ k, list_zzContains.f k a0 a1 = some true
theorem list_zzContains.walk (P : list_zzContains.Pure) (a0 : ByteArray) (a1 : ByteArray) (w : World) (w0 : a0.size ≤ 140737488351232) (w1 : a1.size ≤ 140737488351232) :
    Calls Tryz.prog 50 #[.string a0, .string a1] w fun e w' => e = .returned (.bool true) ∧ Below w.heap.size w w' := by
  obtain ⟨k, h⟩ := P a0 a1 w0 w1
  refine (list_zzContains.calls k a0 a1 true w h).mono ?_
  rintro e w' ⟨rfl, hd⟩
  exact ⟨rfl, hd.below⟩

/-! ### list_zzSplit: function 52 -/
mutual
def list_zzSplit.l0 : Nat → ByteArray → List ByteArray → Int → ByteArray → Int → Option (List ByteArray)
  | 0, _, _, _, _, _ => none
  | k + 1, x0, x5, x6, x137000, x137001 => if x137001 < (x137000.size : Int) then ((itr_more.f x137000 x137001).bind fun bt137 => (if bt137.1 > 0 then (if 0 ≤ x6 then (if x6 ≤ bt137.1 then (if bt137.1 ≤ (x0.size : Int) then (if x5.length < 8796093022208 then (list_zzSplit.l0 k x0 (x5 ++ [x0.extract (x6 : Int).toNat (bt137.1 : Int).toNat]) bt137.1 x137000 bt137.2.2) else (none)) else (none)) else (none)) else (none)) else (list_zzSplit.l0 k x0 x5 x6 x137000 bt137.2.2))) else ((itr_end.f x137000 x137001).bind fun t143 => (if (x0.size : Int) > 0 then (if 0 ≤ x6 then (if x6 ≤ (x0.size : Int) then (if x5.length < 8796093022208 then (some (x5 ++ [x0.extract (x6 : Int).toNat x0.size])) else (none)) else (none)) else (none)) else (some x5)))
def list_zzSplit.l1 : Nat → ByteArray → ByteArray → List ByteArray → Option (List ByteArray)
  | 0, _, _, _ => none
  | k + 1, x0, x1, x5 => (list_zzIndex.f k x0 x1).bind fun t147 => (if t147 < 0 then (if x5.length < 8796093022208 then (some (x5 ++ [x0])) else (none)) else (if 0 ≤ t147 then (if t147 ≤ (x0.size : Int) then (if x5.length < 8796093022208 then (if 0 ≤ (wrap64 (t147 + (x1.size : Int))) then (if (wrap64 (t147 + (x1.size : Int))) ≤ (x0.size : Int) then (list_zzSplit.l1 k (x0.extract ((wrap64 (t147 + (x1.size : Int))) : Int).toNat x0.size) x1 (x5 ++ [x0.extract 0 (t147 : Int).toNat])) else (none)) else (none)) else (none)) else (none)) else (none)))
end
def list_zzSplit.f (k : Nat) (a0 : ByteArray) (a1 : ByteArray) : Option (List ByteArray) := if (a1.size : Int) = 0 then ((itr_make.f a0).bind fun bt134 => (list_zzSplit.l0 k a0 ([] : List ByteArray) 0 bt134.1 bt134.2)) else (list_zzSplit.l1 k a0 a1 ([] : List ByteArray))
theorem list_zzSplit.mono_l : ∀ k, (∀ y0 y1 y2 y3 y4, LeO (list_zzSplit.l0 k y0 y1 y2 y3 y4) (list_zzSplit.l0 (k + 1) y0 y1 y2 y3 y4)) ∧ (∀ y0 y1 y2, LeO (list_zzSplit.l1 k y0 y1 y2) (list_zzSplit.l1 (k + 1) y0 y1 y2))
  | 0 => ⟨fun _ _ _ _ _ r h => by simp [list_zzSplit.l0] at h, fun _ _ _ r h => by simp [list_zzSplit.l1] at h⟩
  | k + 1 => by
    obtain ⟨ih0, ih1⟩ := list_zzSplit.mono_l k
    refine ⟨?_, ?_⟩
    · intro y0 y1 y2 y3 y4
      unfold list_zzSplit.l0
      repeat' first
      | (with_reducible exact ih0 _ _ _ _ _)
      | (with_reducible exact ih1 _ _ _)
      | (with_reducible exact list_zzIndex.mono _ _ _)
      | (with_reducible exact LeO.refl _)
      | (with_reducible exact LeO.none _)
      | (with_reducible refine LeO.ite ?_ ?_)
      | (with_reducible refine LeO.bind ?_ (fun _ => ?_))
      | exact ih0 _ _ _ _ _
      | exact ih1 _ _ _
      | exact list_zzIndex.mono _ _ _
      | exact LeO.none _
      | refine LeO.ite ?_ ?_
      | refine LeO.bind ?_ (fun _ => ?_)
    · intro y0 y1 y2
      unfold list_zzSplit.l1
      repeat' first
      | (with_reducible exact ih0 _ _ _ _ _)
      | (with_reducible exact ih1 _ _ _)
      | (with_reducible exact list_zzIndex.mono _ _ _)
      | (with_reducible exact LeO.refl _)
      | (with_reducible exact LeO.none _)
      | (with_reducible refine LeO.ite ?_ ?_)
      | (with_reducible refine LeO.bind ?_ (fun _ => ?_))
      | exact ih0 _ _ _ _ _
      | exact ih1 _ _ _
      | exact list_zzIndex.mono _ _ _
      | exact LeO.none _
      | refine LeO.ite ?_ ?_
      | refine LeO.bind ?_ (fun _ => ?_)
theorem list_zzSplit.mono : ∀ a0 a1 k, LeO (list_zzSplit.f k a0 a1) (list_zzSplit.f (k + 1) a0 a1) := by
  intro a0 a1 k
  obtain ⟨ih0, ih1⟩ := list_zzSplit.mono_l k
  unfold list_zzSplit.f
  repeat' first
      | (with_reducible exact ih0 _ _ _ _ _)
      | (with_reducible exact ih1 _ _ _)
      | (with_reducible exact list_zzIndex.mono _ _ _)
      | (with_reducible exact LeO.refl _)
      | (with_reducible exact LeO.none _)
      | (with_reducible refine LeO.ite ?_ ?_)
      | (with_reducible refine LeO.bind ?_ (fun _ => ?_))
      | exact ih0 _ _ _ _ _
      | exact ih1 _ _ _
      | exact list_zzIndex.mono _ _ _
      | exact LeO.none _
      | refine LeO.ite ?_ ?_
      | refine LeO.bind ?_ (fun _ => ?_)
set_option maxHeartbeats 8000000 in
set_option maxRecDepth 100000 in
theorem list_zzSplit.calls (k : Nat) (a0 : ByteArray) (a1 : ByteArray) (r : List ByteArray) (w : World) (h : list_zzSplit.f k a0 a1 = some r) :
    Calls Tryz.prog 52 #[.string a0, .string a1] w fun e w' => ∃ v0_ : Value, e = .returned (v0_) ∧ Kd.R Kd.string 9 w' w.heap.size (fun _ => True) v0_ r ∧ Below w.heap.size w w' := by
  have HB := Aside0.mk (Below.refl w.heap.size w)
  have H : (if (a1.size : Int) = 0 then ((itr_make.f a0).bind fun bt134 => (list_zzSplit.l0 k a0 ([] : List ByteArray) 0 bt134.1 bt134.2)) else (list_zzSplit.l1 k a0 a1 ([] : List ByteArray))) = some r := h
  clear h
  by_cases c3 : (a1.size : Int) = 0
  · rw [if_pos c3] at H
    have c3b0 : ((a1.size : Int) == 0) = true := beq_iff_eq.mpr c3
    have c3b1 : ((a1.size : Int) != 0) = false := bne_eq_false_iff_eq.mpr c3
    clear c3
    replace H := Option.bind_eq_some_iff.mp H
    obtain ⟨⟨t134, t135⟩, A40, H⟩ := H
    replace H : (list_zzSplit.l0 k a0 ([] : List ByteArray) 0 t134 t135) = some r := H
    have A4 := Aside0.mk A40
    clear A40
    have H' := Aside0.mk H
    clear H
    go_enter Tryz.func52, Tryz.ntmps52
    go_wp2_with (first | ((with_reducible refine gate_dst (N := 13) rfl ?_); refine rangeL_ (some 13) rfl rfl rfl Tryz.underlying9 a0 rfl ?_; (with_reducible refine (itr_make.calls a0 t134 t135 w _ ?side1 A4.out).mono ?_); (case side1 => repeat (first | (with_reducible first | exact HB.out | apply below_alloc | apply pw_below_drewN | apply below_drew1) | exact HB.out)); rintro e w5 ⟨g136, rfl, hi, hb, hb2, hge⟩; refine ⟨_, rfl, ?_⟩; have n0_ := Aside0.mk (hb); have n1_ := Aside0.mk (hi); clear HB; have HB := n0_; have HI136 := n1_; clear n0_ n1_; (try clear hb); (try clear hb2); (try clear hk); (try clear hi)))
    (try simp only [Act.put, List.setIfInBounds_toArray, List.set_cons_zero, List.set_cons_succ])
    go_loopg [5, 6] k (fun kq v5 v6 w' => ∃ (x5_1 : List ByteArray) (x6_1 : Int) (x137001_1 : Int), v6 = .int .i64 x6_1 ∧ Aside0 (list_zzSplit.l0 kq a0 x5_1 x6_1 t134 x137001_1 = some r) ∧ Aside0 (kq ≤ k) ∧ Aside0 (Kd.R Kd.string 9 w' w.heap.size (fun _ => True) v5 x5_1) ∧ Aside0 (IsS156 w w' g136 t134 x137001_1) ∧ Aside0 (Below w.heap.size w w'))
    case atStart => exact ⟨(([] : List ByteArray)), (0), (t135), (by first | rfl | (simp; done) | (simp [*]; done)), H', ⟨Nat.le_refl _⟩, ⟨by first | exact Kd.R_nil _ _ _ _ _ | exact Kd.N_nil _ _ _ _ _ | exact Kd.V_nil _ _ _ _ _ | exact Kd.Q_nil _ _ _ _ _ | exact Kd.S_nil _ _ _ _ _⟩, ⟨by repeat (first | (with_reducible first | exact HI136.out | apply IsS156.alloc | apply IsS156.drewN | apply IsS156.drew | apply IsS156.set_1) | exact HI136.out)⟩, ⟨by repeat (first | (with_reducible first | exact HB.out | apply below_alloc | apply pw_below_drewN | apply below_drew1 | refine below_set ?_ (IsS156.ge HI136.out)) | exact HB.out)⟩⟩
    case round =>
      clear H'
      try clear p2
      try clear c3
      try clear c3b0
      try clear c3b1
      try clear c5
      obtain ⟨x5_1, x6_1, x137001_1, rfl, HA, HK1, HO_5, HI136, HB⟩ := hrel
      cases gk with
      | zero => exact absurd HA.out (by simp [list_zzSplit.l0])
      | succ k1 =>
        have H := HA.out
        clear HA
        simp only [list_zzSplit.l0] at H
        by_cases c6 : x137001_1 < (t134.size : Int)
        · rw [if_pos c6] at H
          have c6b0 : decide (x137001_1 < (t134.size : Int)) = true := decide_eq_true c6
          clear c6
          replace H := Option.bind_eq_some_iff.mp H
          obtain ⟨⟨t137, t138, t139⟩, A70, H⟩ := H
          replace H : (if t137 > 0 then (if 0 ≤ x6_1 then (if x6_1 ≤ t137 then (if t137 ≤ (a0.size : Int) then (if x5_1.length < 8796093022208 then (list_zzSplit.l0 k1 a0 (x5_1 ++ [a0.extract (x6_1 : Int).toNat (t137 : Int).toNat]) t137 t134 t139) else (none)) else (none)) else (none)) else (none)) else (list_zzSplit.l0 k1 a0 x5_1 x6_1 t134 t139)) = some r := H
          have A7 := Aside0.mk A70
          clear A70
          by_cases c8 : t137 > 0
          · rw [if_pos c8] at H
            have c8b0 : decide (0 < t137) = true := decide_eq_true c8
            clear c8
            by_cases c9 : 0 ≤ x6_1
            · rw [if_pos c9] at H
              have c9b0 := eq_true c9
              have c9b1 : decide (0 ≤ x6_1) = true := decide_eq_true c9
              clear c9
              by_cases c10 : x6_1 ≤ t137
              · rw [if_pos c10] at H
                have c10b0 := eq_true c10
                have c10b1 : decide (x6_1 ≤ t137) = true := decide_eq_true c10
                clear c10
                by_cases c11 : t137 ≤ (a0.size : Int)
                · rw [if_pos c11] at H
                  have c11b0 := eq_true c11
                  have c11b1 : decide (t137 ≤ (a0.size : Int)) = true := decide_eq_true c11
                  clear c11
                  by_cases c12 : x5_1.length < 8796093022208
                  · rw [if_pos c12] at H
                    have LMc12 := Aside0.mk c12
                    clear c12
                    obtain ⟨y140, hy140⟩ : ∃ y_ : List ByteArray, y_ = (x5_1 ++ [a0.extract (x6_1 : Int).toNat (t137 : Int).toNat]) := ⟨_, rfl⟩
                    replace H : (list_zzSplit.l0 k1 a0 y140 t137 t134 t139) = some r := by first | (rw [hy140]; with_reducible exact H) | (have H2_ := (Option.bind_some _ _).symm.trans H; rw [hy140]; with_reducible exact H2_) | (have H2_ := (Option.bind_some _ _).symm.trans H; with_reducible exact H2_) | with_reducible exact H | (rw [hy140]; exact H) | exact H
                    have Ny140 := Aside0.mk hy140
                    clear hy140
                    have H' := Aside0.mk H
                    clear H
                    go_wp2_with (first | ((with_reducible refine gate_dst (N := 14) rfl ?_); refine nextL_ (some 14) rfl rfl rfl (.pointer (some ⟨g136, 0, none⟩)) rfl ?_; (with_reducible refine (itr_more.calls g136 t134 x137001_1 t137 t138 t139 w _ ?side1 ?side2 A7.out).mono ?_); (case side1 => repeat (first | (with_reducible first | exact HI136.out | apply IsS156.alloc | apply IsS156.drewN | apply IsS156.drew | apply IsS156.set_1) | exact HI136.out)); (case side2 => repeat (first | (with_reducible first | exact HB.out | apply below_alloc | apply pw_below_drewN | apply below_drew1 | refine below_set ?_ (IsS156.ge HI136.out)) | exact HB.out)); rintro e w13 ⟨rfl, hi, hb, hk⟩; refine ⟨_, rfl, ?_⟩; have n0_ := Aside0.mk (Kd.R_mono (Kd.R_keep (IsS156.apart (show IsS156 w _ g136 t134 x137001_1 from by repeat (first | (with_reducible first | exact HI136.out | apply IsS156.alloc | apply IsS156.drewN | apply IsS156.drew | apply IsS156.set_1) | exact HI136.out)) (by (with_reducible repeat (first | apply Kd.R_alloc | apply Kd.R_drewN | apply Kd.R_drew)); exact HO_5.out) (by decide)) hk (fun _ h => h.2)) (fun _ h => h.1)); have n1_ := Aside0.mk (hb); have n2_ := Aside0.mk (hi); clear HO_5; clear HB; clear HI136; have HO_5 := n0_; have HB := n1_; have HI136 := n2_; clear n0_ n1_ n2_; (try clear hb); (try clear hb2); (try clear hk); (try clear hi)) | ((with_reducible refine gate_builtin (b := .append) (xs := #[.tmp 19, .tmp 24]) rfl ?_); at_builtin; refine Kd.R_append Kd.string (w0 := w) w.heap.size rfl (.tmp 19) (.tmp 24) 39 9 (.string ⟨#[]⟩) 16 rfl Tryz.underlying39 info9 rfl (by decide) (by omega) u5 x5_1 (a0.extract (x6_1 : Int).toNat (t137 : Int).toNat) [.string (a0.extract (x6_1 : Int).toNat (t137 : Int).toNat)] (fun _ => True) (fun _ => False) rfl rfl ?aP (fun _ hk => hk.elim) ?aF ?aO ?aB ?aS ?aL ?_; (case aP => exact rfl); (case aB => exact (by repeat (first | (with_reducible first | exact HB.out | apply below_alloc | apply pw_below_drewN | apply below_drew1 | refine below_set ?_ (IsS156.ge HI136.out)) | exact HB.out))); (case aF => exact (fun _ _ => trivial)); (case aO => exact (by (with_reducible repeat (first | apply Kd.R_alloc | apply Kd.R_drewN | apply Kd.R_drew)); exact HO_5.out)); (case aS => exact (below_size (by repeat (first | (with_reducible first | exact HB.out | apply below_alloc | apply pw_below_drewN | apply below_drew1 | refine below_set ?_ (IsS156.ge HI136.out)) | exact HB.out)))); (case aL => have := LMc12.out; first | omega | exact this | exact Nat.le_of_lt this); intro v141 w14 ho hb hg hat; rw [← Ny140.out] at ho; have n0_ := Aside0.mk (IsS156.grown (by repeat (first | (with_reducible first | exact HI136.out | apply IsS156.alloc | apply IsS156.drewN | apply IsS156.drew | apply IsS156.set_1) | exact HI136.out)) hg (IsS156.own_ne HI136.out HO_5.out (by decide))); have n1_ := Aside0.mk (hb); have n2_ := Aside0.mk (ho); clear HI136; clear HB; clear HO_5; have HI136 := n0_; have HB := n1_; have HO142 := n2_; clear n0_ n1_ n2_; clear ho hb hg hat))
                    go_roundg k1
                    case measure => have := HK1.out; omega
                    case rel => exact ⟨(y140), (t137), (t139), (by first | rfl | (simp; done) | (simp [*]; done)), H', ⟨by have := HK1.out; omega⟩, ⟨by (with_reducible repeat (first | apply Kd.R_alloc | apply Kd.R_drewN | apply Kd.R_drew)); exact HO142.out⟩, ⟨by repeat (first | (with_reducible first | exact HI136.out | apply IsS156.alloc | apply IsS156.drewN | apply IsS156.drew | apply IsS156.set_1) | exact HI136.out)⟩, ⟨by repeat (first | (with_reducible first | exact HB.out | apply below_alloc | apply pw_below_drewN | apply below_drew1 | refine below_set ?_ (IsS156.ge HI136.out)) | exact HB.out)⟩⟩
                  · rw [if_neg c12] at H
                    exact absurd H (by simp)
                · rw [if_neg c11] at H
                  exact absurd H (by simp)
              · rw [if_neg c10] at H
                exact absurd H (by simp)
            · rw [if_neg c9] at H
              exact absurd H (by simp)
          · rw [if_neg c8] at H
            have c8b0 : decide (0 < t137) = false := decide_eq_false c8
            clear c8
            have H' := Aside0.mk H
            clear H
            go_wp2_with (first | ((with_reducible refine gate_dst (N := 14) rfl ?_); refine nextL_ (some 14) rfl rfl rfl (.pointer (some ⟨g136, 0, none⟩)) rfl ?_; (with_reducible refine (itr_more.calls g136 t134 x137001_1 t137 t138 t139 w _ ?side1 ?side2 A7.out).mono ?_); (case side1 => repeat (first | (with_reducible first | exact HI136.out | apply IsS156.alloc | apply IsS156.drewN | apply IsS156.drew | apply IsS156.set_1) | exact HI136.out)); (case side2 => repeat (first | (with_reducible first | exact HB.out | apply below_alloc | apply pw_below_drewN | apply below_drew1 | refine below_set ?_ (IsS156.ge HI136.out)) | exact HB.out)); rintro e w15 ⟨rfl, hi, hb, hk⟩; refine ⟨_, rfl, ?_⟩; have n0_ := Aside0.mk (Kd.R_mono (Kd.R_keep (IsS156.apart (show IsS156 w _ g136 t134 x137001_1 from by repeat (first | (with_reducible first | exact HI136.out | apply IsS156.alloc | apply IsS156.drewN | apply IsS156.drew | apply IsS156.set_1) | exact HI136.out)) (by (with_reducible repeat (first | apply Kd.R_alloc | apply Kd.R_drewN | apply Kd.R_drew)); exact HO_5.out) (by decide)) hk (fun _ h => h.2)) (fun _ h => h.1)); have n1_ := Aside0.mk (hb); have n2_ := Aside0.mk (hi); clear HO_5; clear HB; clear HI136; have HO_5 := n0_; have HB := n1_; have HI136 := n2_; clear n0_ n1_ n2_; (try clear hb); (try clear hb2); (try clear hk); (try clear hi)))
            go_roundg k1
            case measure => have := HK1.out; omega
            case rel => exact ⟨(x5_1), (x6_1), (t139), (by first | rfl | (simp; done) | (simp [*]; done)), H', ⟨by have := HK1.out; omega⟩, ⟨by (with_reducible repeat (first | apply Kd.R_alloc | apply Kd.R_drewN | apply Kd.R_drew)); exact HO_5.out⟩, ⟨by repeat (first | (with_reducible first | exact HI136.out | apply IsS156.alloc | apply IsS156.drewN | apply IsS156.drew | apply IsS156.set_1) | exact HI136.out)⟩, ⟨by repeat (first | (with_reducible first | exact HB.out | apply below_alloc | apply pw_below_drewN | apply below_drew1 | refine below_set ?_ (IsS156.ge HI136.out)) | exact HB.out)⟩⟩
        · rw [if_neg c6] at H
          have c6b0 : decide (x137001_1 < (t134.size : Int)) = false := decide_eq_false c6
          clear c6
          replace H := Option.bind_eq_some_iff.mp H
          obtain ⟨t143, A160, H⟩ := H
          replace H : (if (a0.size : Int) > 0 then (if 0 ≤ x6_1 then (if x6_1 ≤ (a0.size : Int) then (if x5_1.length < 8796093022208 then (some (x5_1 ++ [a0.extract (x6_1 : Int).toNat a0.size])) else (none)) else (none)) else (none)) else (some x5_1)) = some r := H
          have A16 := Aside0.mk A160
          clear A160
          by_cases c17 : (a0.size : Int) > 0
          · rw [if_pos c17] at H
            have c17b0 : decide (0 < (a0.size : Int)) = true := decide_eq_true c17
            have c17b1 : decide (0 < a0.size) = true := decide_eq_true (by omega)
            clear c17
            by_cases c18 : 0 ≤ x6_1
            · rw [if_pos c18] at H
              have c18b0 := eq_true c18
              have c18b1 : decide (0 ≤ x6_1) = true := decide_eq_true c18
              clear c18
              by_cases c19 : x6_1 ≤ (a0.size : Int)
              · rw [if_pos c19] at H
                have c19b0 := eq_true c19
                have c19b1 : decide (x6_1 ≤ (a0.size : Int)) = true := decide_eq_true c19
                clear c19
                by_cases c20 : x5_1.length < 8796093022208
                · rw [if_pos c20] at H
                  have LMc20 := Aside0.mk c20
                  clear c20
                  obtain ⟨y144, hy144⟩ : ∃ y_ : List ByteArray, y_ = (x5_1 ++ [a0.extract (x6_1 : Int).toNat a0.size]) := ⟨_, rfl⟩
                  replace H : (some y144) = some r := by first | (rw [hy144]; with_reducible exact H) | (have H2_ := (Option.bind_some _ _).symm.trans H; rw [hy144]; with_reducible exact H2_) | (have H2_ := (Option.bind_some _ _).symm.trans H; with_reducible exact H2_) | with_reducible exact H | (rw [hy144]; exact H) | exact H
                  have Ny144 := Aside0.mk hy144
                  clear hy144
                  obtain rfl := Option.some.inj H
                  go_wp2_with (first | ((with_reducible refine gate_dst (N := 14) rfl ?_); refine nextL_ (some 14) rfl rfl rfl (.pointer (some ⟨g136, 0, none⟩)) rfl ?_; (with_reducible refine (itr_end.calls g136 t134 x137001_1 t143 w _ ?side1 ?side2 A16.out).mono ?_); (case side1 => repeat (first | (with_reducible first | exact HI136.out | apply IsS156.alloc | apply IsS156.drewN | apply IsS156.drew | apply IsS156.set_1) | exact HI136.out)); (case side2 => repeat (first | (with_reducible first | exact HB.out | apply below_alloc | apply pw_below_drewN | apply below_drew1 | refine below_set ?_ (IsS156.ge HI136.out)) | exact HB.out)); rintro e w21 ⟨rfl, hi, hb, hk⟩; refine ⟨_, rfl, ?_⟩; have n0_ := Aside0.mk (Kd.R_mono (Kd.R_keep (IsS156.apart (show IsS156 w _ g136 t134 x137001_1 from by repeat (first | (with_reducible first | exact HI136.out | apply IsS156.alloc | apply IsS156.drewN | apply IsS156.drew | apply IsS156.set_1) | exact HI136.out)) (by (with_reducible repeat (first | apply Kd.R_alloc | apply Kd.R_drewN | apply Kd.R_drew)); exact HO_5.out) (by decide)) hk (fun _ h => h.2)) (fun _ h => h.1)); have n1_ := Aside0.mk (hb); have n2_ := Aside0.mk (hi); clear HO_5; clear HB; clear HI136; have HO_5 := n0_; have HB := n1_; have HI136 := n2_; clear n0_ n1_ n2_; (try clear hb); (try clear hb2); (try clear hk); (try clear hi)) | ((with_reducible refine gate_builtin (b := .append) (xs := #[.tmp 30, .tmp 34]) rfl ?_); at_builtin; refine Kd.R_append Kd.string (w0 := w) w.heap.size rfl (.tmp 30) (.tmp 34) 39 9 (.string ⟨#[]⟩) 16 rfl Tryz.underlying39 info9 rfl (by decide) (by omega) u5 x5_1 (a0.extract (x6_1 : Int).toNat a0.size) [.string (a0.extract (x6_1 : Int).toNat a0.size)] (fun _ => True) (fun _ => False) rfl rfl ?aP (fun _ hk => hk.elim) ?aF ?aO ?aB ?aS ?aL ?_; (case aP => exact rfl); (case aB => exact (by repeat (first | (with_reducible first | exact HB.out | apply below_alloc | apply pw_below_drewN | apply below_drew1 | refine below_set ?_ (IsS156.ge HI136.out)) | exact HB.out))); (case aF => exact (fun _ _ => trivial)); (case aO => exact (by (with_reducible repeat (first | apply Kd.R_alloc | apply Kd.R_drewN | apply Kd.R_drew)); exact HO_5.out)); (case aS => exact (below_size (by repeat (first | (with_reducible first | exact HB.out | apply below_alloc | apply pw_below_drewN | apply below_drew1 | refine below_set ?_ (IsS156.ge HI136.out)) | exact HB.out)))); (case aL => have := LMc20.out; first | omega | exact this | exact Nat.le_of_lt this); intro v145 w22 ho hb hg hat; rw [← Ny144.out] at ho; have n0_ := Aside0.mk (IsS156.grown (by repeat (first | (with_reducible first | exact HI136.out | apply IsS156.alloc | apply IsS156.drewN | apply IsS156.drew | apply IsS156.set_1) | exact HI136.out)) hg (IsS156.own_ne HI136.out HO_5.out (by decide))); have n1_ := Aside0.mk (hb); have n2_ := Aside0.mk (ho); clear HI136; clear HB; clear HO_5; have HI136 := n0_; have HB := n1_; have HO146 := n2_; clear n0_ n1_ n2_; clear ho hb hg hat))
                  go_ret
                  exact ⟨_, by first | rfl | (simp [errW_none, errW_some] <;> rfl) | (simp [*, errW_none, errW_some] <;> rfl), by (with_reducible repeat (first | apply Kd.R_alloc | apply Kd.R_drewN | apply Kd.R_drew)); exact HO146.out, by repeat (first | (with_reducible first | exact HB.out | apply below_alloc | apply pw_below_drewN | apply below_drew1 | refine below_set ?_ (IsS156.ge HI136.out)) | exact HB.out)⟩
                · rw [if_neg c20] at H
                  exact absurd H (by simp)
              · rw [if_neg c19] at H
                exact absurd H (by simp)
            · rw [if_neg c18] at H
              exact absurd H (by simp)
          · rw [if_neg c17] at H
            have c17b0 : decide (0 < (a0.size : Int)) = false := decide_eq_false c17
            have c17b1 : decide (0 < a0.size) = false := decide_eq_false (by omega)
            clear c17
            obtain rfl := Option.some.inj H
            go_wp2_with (first | ((with_reducible refine gate_dst (N := 14) rfl ?_); refine nextL_ (some 14) rfl rfl rfl (.pointer (some ⟨g136, 0, none⟩)) rfl ?_; (with_reducible refine (itr_end.calls g136 t134 x137001_1 t143 w _ ?side1 ?side2 A16.out).mono ?_); (case side1 => repeat (first | (with_reducible first | exact HI136.out | apply IsS156.alloc | apply IsS156.drewN | apply IsS156.drew | apply IsS156.set_1) | exact HI136.out)); (case side2 => repeat (first | (with_reducible first | exact HB.out | apply below_alloc | apply pw_below_drewN | apply below_drew1 | refine below_set ?_ (IsS156.ge HI136.out)) | exact HB.out)); rintro e w23 ⟨rfl, hi, hb, hk⟩; refine ⟨_, rfl, ?_⟩; have n0_ := Aside0.mk (Kd.R_mono (Kd.R_keep (IsS156.apart (show IsS156 w _ g136 t134 x137001_1 from by repeat (first | (with_reducible first | exact HI136.out | apply IsS156.alloc | apply IsS156.drewN | apply IsS156.drew | apply IsS156.set_1) | exact HI136.out)) (by (with_reducible repeat (first | apply Kd.R_alloc | apply Kd.R_drewN | apply Kd.R_drew)); exact HO_5.out) (by decide)) hk (fun _ h => h.2)) (fun _ h => h.1)); have n1_ := Aside0.mk (hb); have n2_ := Aside0.mk (hi); clear HO_5; clear HB; clear HI136; have HO_5 := n0_; have HB := n1_; have HI136 := n2_; clear n0_ n1_ n2_; (try clear hb); (try clear hb2); (try clear hk); (try clear hi)))
            go_ret
            exact ⟨_, by first | rfl | (simp [errW_none, errW_some] <;> rfl) | (simp [*, errW_none, errW_some] <;> rfl), by (with_reducible repeat (first | apply Kd.R_alloc | apply Kd.R_drewN | apply Kd.R_drew)); exact HO_5.out, by repeat (first | (with_reducible first | exact HB.out | apply below_alloc | apply pw_below_drewN | apply below_drew1 | refine below_set ?_ (IsS156.ge HI136.out)) | exact HB.out)⟩
  · rw [if_neg c3] at H
    have c3b0 : ((a1.size : Int) == 0) = false := beq_eq_false_iff_ne.mpr c3
    have c3b1 : ((a1.size : Int) != 0) = true := bne_iff_ne.mpr c3
    have H' := Aside0.mk H
    clear H
    go_enter Tryz.func52, Tryz.ntmps52
    go_wp2
    (try simp only [Act.put, List.setIfInBounds_toArray, List.set_cons_zero, List.set_cons_succ])
    go_loopg [0, 5] k (fun kq v0 v5 w' => ∃ (x0_1 : ByteArray) (x5_1 : List ByteArray), v0 = .string x0_1 ∧ Aside0 (list_zzSplit.l1 kq x0_1 a1 x5_1 = some r) ∧ Aside0 (kq ≤ k) ∧ Aside0 (Kd.R Kd.string 9 w' w.heap.size (fun _ => True) v5 x5_1) ∧ Aside0 (Below w.heap.size w w'))
    case atStart => exact ⟨(a0), (([] : List ByteArray)), (by first | rfl | (simp; done) | (simp [*]; done)), H', ⟨Nat.le_refl _⟩, ⟨by first | exact Kd.R_nil _ _ _ _ _ | exact Kd.N_nil _ _ _ _ _ | exact Kd.V_nil _ _ _ _ _ | exact Kd.Q_nil _ _ _ _ _ | exact Kd.S_nil _ _ _ _ _⟩, ⟨by repeat (first | (with_reducible first | exact HB.out | apply below_alloc | apply pw_below_drewN | apply below_drew1) | exact HB.out)⟩⟩
    case round =>
      clear H'
      try clear c1
      try clear c2
      try clear p2
      try clear c3
      try clear c3b0
      try clear c3b1
      try clear c5
      try clear c6
      try clear c6b0
      try clear c8
      try clear c8b0
      try clear c9
      try clear c9b0
      try clear c9b1
      try clear c10
      try clear c10b0
      try clear c10b1
      try clear c11
      try clear c11b0
      try clear c11b1
      try clear c12
      try clear c17
      try clear c17b0
      try clear c17b1
      try clear c18
      try clear c18b0
      try clear c18b1
      try clear c19
      try clear c19b0
      try clear c19b1
      try clear c20
      try clear p2
      obtain ⟨x0_1, x5_1, rfl, HA, HK1, HO_5, HB⟩ := hrel
      cases gk with
      | zero => exact absurd HA.out (by simp [list_zzSplit.l1])
      | succ k1 =>
        have H := HA.out
        clear HA
        simp only [list_zzSplit.l1] at H
        replace H := Option.bind_eq_some_iff.mp H
        obtain ⟨t147, A240, H⟩ := H
        replace H : (if t147 < 0 then (if x5_1.length < 8796093022208 then (some (x5_1 ++ [x0_1])) else (none)) else (if 0 ≤ t147 then (if t147 ≤ (x0_1.size : Int) then (if x5_1.length < 8796093022208 then (if 0 ≤ (wrap64 (t147 + (a1.size : Int))) then (if (wrap64 (t147 + (a1.size : Int))) ≤ (x0_1.size : Int) then (list_zzSplit.l1 k1 (x0_1.extract ((wrap64 (t147 + (a1.size : Int))) : Int).toNat x0_1.size) a1 (x5_1 ++ [x0_1.extract 0 (t147 : Int).toNat])) else (none)) else (none)) else (none)) else (none)) else (none))) = some r := H
        have A24 := Aside0.mk A240
        clear A240
        by_cases c25 : t147 < 0
        · rw [if_pos c25] at H
          have c25b0 : decide (t147 < 0) = true := decide_eq_true c25
          clear c25
          by_cases c26 : x5_1.length < 8796093022208
          · rw [if_pos c26] at H
            have LMc26 := Aside0.mk c26
            clear c26
            obtain ⟨y148, hy148⟩ : ∃ y_ : List ByteArray, y_ = (x5_1 ++ [x0_1]) := ⟨_, rfl⟩
            replace H : (some y148) = some r := by first | (rw [hy148]; with_reducible exact H) | (have H2_ := (Option.bind_some _ _).symm.trans H; rw [hy148]; with_reducible exact H2_) | (have H2_ := (Option.bind_some _ _).symm.trans H; with_reducible exact H2_) | with_reducible exact H | (rw [hy148]; exact H) | exact H
            have Ny148 := Aside0.mk hy148
            clear hy148
            obtain rfl := Option.some.inj H
            go_wp2_with (first | ((with_reducible refine gate_callee (f := 68) rfl ?_); refine goesL_ (some 39) rfl rfl Tryz.func68 (by kernel_rfl) rfl #[.string x0_1, .string a1] rfl (by (try simp only [List.map_toArray, List.map_cons, List.map_nil]); first | done | rfl | (simp only [List.length_drop, List.length_take]; rfl)) ?_; (with_reducible refine (list_zzIndex.calls k1 x0_1 a1 t147 _ A24.out).mono ?_); rintro e w' ⟨rfl, ⟨nd, rfl⟩⟩; refine ⟨_, rfl, ?_⟩) | ((with_reducible refine gate_builtin (b := .append) (xs := #[.tmp 42, .tmp 44]) rfl ?_); at_builtin; refine Kd.R_append Kd.string (w0 := w) w.heap.size rfl (.tmp 42) (.tmp 44) 39 9 (.string ⟨#[]⟩) 16 rfl Tryz.underlying39 info9 rfl (by decide) (by omega) u5 x5_1 x0_1 [.string x0_1] (fun _ => True) (fun _ => False) rfl rfl ?aP (fun _ hk => hk.elim) ?aF ?aO ?aB ?aS ?aL ?_; (case aP => exact rfl); (case aB => exact (by repeat (first | (with_reducible first | exact HB.out | apply below_alloc | apply pw_below_drewN | apply below_drew1) | exact HB.out))); (case aF => exact (fun _ _ => trivial)); (case aO => exact (by (with_reducible repeat (first | apply Kd.R_alloc | apply Kd.R_drewN | apply Kd.R_drew)); exact HO_5.out)); (case aS => exact (below_size (by repeat (first | (with_reducible first | exact HB.out | apply below_alloc | apply pw_below_drewN | apply below_drew1) | exact HB.out)))); (case aL => have := LMc26.out; first | omega | exact this | exact Nat.le_of_lt this); intro v149 w27 ho hb hg hat; rw [← Ny148.out] at ho; have n0_ := Aside0.mk (hb); have n1_ := Aside0.mk (ho); clear HB; clear HO_5; have HB := n0_; have HO150 := n1_; clear n0_ n1_; clear ho hb hg hat))
            go_ret
            exact ⟨_, by first | rfl | (simp [errW_none, errW_some] <;> rfl) | (simp [*, errW_none, errW_some] <;> rfl), by (with_reducible repeat (first | apply Kd.R_alloc | apply Kd.R_drewN | apply Kd.R_drew)); exact HO150.out, by repeat (first | (with_reducible first | exact HB.out | apply below_alloc | apply pw_below_drewN | apply below_drew1) | exact HB.out)⟩
          · rw [if_neg c26] at H
            exact absurd H (by simp)
        · rw [if_neg c25] at H
          have c25b0 : decide (t147 < 0) = false := decide_eq_false c25
          clear c25
          by_cases c28 : 0 ≤ t147
          · rw [if_pos c28] at H
            have c28b0 := eq_true c28
            have c28b1 : decide (0 ≤ t147) = true := decide_eq_true c28
            clear c28
            by_cases c29 : t147 ≤ (x0_1.size : Int)
            · rw [if_pos c29] at H
              have c29b0 := eq_true c29
              have c29b1 : decide (t147 ≤ (x0_1.size : Int)) = true := decide_eq_true c29
              clear c29
              by_cases c30 : x5_1.length < 8796093022208
              · rw [if_pos c30] at H
                have LMc30 := Aside0.mk c30
                clear c30
                obtain ⟨y151, hy151⟩ : ∃ y_ : List ByteArray, y_ = (x5_1 ++ [x0_1.extract 0 (t147 : Int).toNat]) := ⟨_, rfl⟩
                replace H : (if 0 ≤ (wrap64 (t147 + (a1.size : Int))) then (if (wrap64 (t147 + (a1.size : Int))) ≤ (x0_1.size : Int) then (list_zzSplit.l1 k1 (x0_1.extract ((wrap64 (t147 + (a1.size : Int))) : Int).toNat x0_1.size) a1 y151) else (none)) else (none)) = some r := by first | (rw [hy151]; with_reducible exact H) | (have H2_ := (Option.bind_some _ _).symm.trans H; rw [hy151]; with_reducible exact H2_) | (have H2_ := (Option.bind_some _ _).symm.trans H; with_reducible exact H2_) | with_reducible exact H | (rw [hy151]; exact H) | exact H
                have Ny151 := Aside0.mk hy151
                clear hy151
                obtain ⟨ji31, hji31⟩ : ∃ j_ : Int, (wrap64 (t147 + (a1.size : Int))) = j_ := ⟨_, rfl⟩
                replace H : (if 0 ≤ (ji31) then (if (ji31) ≤ (x0_1.size : Int) then (list_zzSplit.l1 k1 (x0_1.extract ((ji31) : Int).toNat x0_1.size) a1 y151) else (none)) else (none)) = some r := by first | (rw [hji31] at H; exact H) | (simp only [hji31] at H ⊢; exact H)
                (try rw [hji31] at A24)
                have hji31w : (IntKind.i64.wrap (t147 + (a1.size : Int))) = ji31 := (i64_w _).trans hji31
                by_cases c32 : 0 ≤ (ji31)
                · rw [if_pos c32] at H
                  have c32b0 := eq_true c32
                  have c32b1 : decide (0 ≤ (ji31)) = true := decide_eq_true c32
                  clear c32
                  by_cases c33 : (ji31) ≤ (x0_1.size : Int)
                  · rw [if_pos c33] at H
                    have c33b0 := eq_true c33
                    have c33b1 : decide ((ji31) ≤ (x0_1.size : Int)) = true := decide_eq_true c33
                    clear c33
                    have H' := Aside0.mk H
                    clear H
                    go_wp2_with (first | ((with_reducible refine gate_callee (f := 68) rfl ?_); refine goesL_ (some 39) rfl rfl Tryz.func68 (by kernel_rfl) rfl #[.string x0_1, .string a1] rfl (by (try simp only [List.map_toArray, List.map_cons, List.map_nil]); first | done | rfl | (simp only [List.length_drop, List.length_take]; rfl)) ?_; (with_reducible refine (list_zzIndex.calls k1 x0_1 a1 t147 _ A24.out).mono ?_); rintro e w' ⟨rfl, ⟨nd, rfl⟩⟩; refine ⟨_, rfl, ?_⟩) | ((with_reducible refine gate_builtin (b := .append) (xs := #[.tmp 46, .tmp 50]) rfl ?_); at_builtin; refine Kd.R_append Kd.string (w0 := w) w.heap.size rfl (.tmp 46) (.tmp 50) 39 9 (.string ⟨#[]⟩) 16 rfl Tryz.underlying39 info9 rfl (by decide) (by omega) u5 x5_1 (x0_1.extract 0 (t147 : Int).toNat) [.string (x0_1.extract 0 (t147 : Int).toNat)] (fun _ => True) (fun _ => False) rfl rfl ?aP (fun _ hk => hk.elim) ?aF ?aO ?aB ?aS ?aL ?_; (case aP => exact rfl); (case aB => exact (by repeat (first | (with_reducible first | exact HB.out | apply below_alloc | apply pw_below_drewN | apply below_drew1) | exact HB.out))); (case aF => exact (fun _ _ => trivial)); (case aO => exact (by (with_reducible repeat (first | apply Kd.R_alloc | apply Kd.R_drewN | apply Kd.R_drew)); exact HO_5.out)); (case aS => exact (below_size (by repeat (first | (with_reducible first | exact HB.out | apply below_alloc | apply pw_below_drewN | apply below_drew1) | exact HB.out)))); (case aL => have := LMc30.out; first | omega | exact this | exact Nat.le_of_lt this); intro v152 w34 ho hb hg hat; rw [← Ny151.out] at ho; have n0_ := Aside0.mk (hb); have n1_ := Aside0.mk (ho); clear HB; clear HO_5; have HB := n0_; have HO153 := n1_; clear n0_ n1_; clear ho hb hg hat))
                    go_roundg k1
                    case measure => have := HK1.out; omega
                    case rel => exact ⟨(x0_1.extract ((ji31) : Int).toNat x0_1.size), (y151), (by first | rfl | (simp; done) | (simp only [← hji31] <;> (first | rfl | simp)) | (simp [*]; done)), H', ⟨by have := HK1.out; omega⟩, ⟨by (with_reducible repeat (first | apply Kd.R_alloc | apply Kd.R_drewN | apply Kd.R_drew)); exact HO153.out⟩, ⟨by repeat (first | (with_reducible first | exact HB.out | apply below_alloc | apply pw_below_drewN | apply below_drew1) | exact HB.out)⟩⟩
                  · rw [if_neg c33] at H
                    exact absurd H (by simp)
                · rw [if_neg c32] at H
                  exact absurd H (by simp)
              · rw [if_neg c30] at H
                exact absurd H (by simp)
            · rw [if_neg c29] at H
              exact absurd H (by simp)
          · rw [if_neg c28] at H
            exact absurd H (by simp)

end Go.Proofs.YthjkmjimlhpbfaaGreatDoor.GLsBody
