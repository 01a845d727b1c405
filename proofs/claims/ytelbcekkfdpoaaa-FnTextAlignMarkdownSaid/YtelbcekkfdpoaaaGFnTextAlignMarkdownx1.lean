-- Written by gprint.py, a program of this session over the kit's printer, with contracts of its own for what the printer does not take. Not trusted: Lean checks it.
import Derived.Test.YtelbcekkfdpoaaaGFnTextAlignMarkdownx0
namespace Go.Proofs.Ytelbcekkfdpoaaa.GFnTextAlignMarkdown
open Go.RowKit Go.Proofs.Ytelbcekkfdpoaaa.Itr Go.Proofs.YtelbcekkfdpoaaaW.PrintWords Go.Proofs.YtelbcekkfdpoaaaW.PrintLast Go.Proofs.YtelbcekkfdpoaaaW.PrintMore
attribute [local go_sem] max2_int min2_int max_two min_two max_three min_three max_four min_four   -- for this text's walks alone
set_option linter.unusedVariables false
set_option linter.unusedSimpArgs false

/-! ### spec_TxTimes: function 12 -/
def spec_TxTimes.l0 : Nat → ByteArray → List Int → Int → Int → Option (ByteArray)
  | 0, _, _, _, _ => none
  | k + 1, x0, x5, x12, x13 => if x13 < x12 then (if x5.length + x0.size < 140737488355328 then (spec_TxTimes.l0 k x0 (x5 ++ bytesOf x0) x12 (wrap64 (x13 + 1))) else (none)) else (some (strOfNums x5))
def spec_TxTimes.f (k : Nat) (a0 : ByteArray) (a1 : Int) : Option (ByteArray) := if 0 ≤ (wrap64 ((a0.size : Int) * (mx a1 0))) then (if (wrap64 ((a0.size : Int) * (mx a1 0)) : Int).toNat ≤ 281474976710656 then (spec_TxTimes.l0 k a0 (([] : List Int)) a1 0) else (none)) else (none)
theorem spec_TxTimes.mono_l : ∀ k, (∀ y0 y1 y2 y3, LeO (spec_TxTimes.l0 k y0 y1 y2 y3) (spec_TxTimes.l0 (k + 1) y0 y1 y2 y3))
  | 0 => fun _ _ _ _ r h => by simp [spec_TxTimes.l0] at h
  | k + 1 => by
    have ih0 := spec_TxTimes.mono_l k
    · intro y0 y1 y2 y3
      unfold spec_TxTimes.l0
      repeat' first
      | (with_reducible exact ih0 _ _ _ _)
      | (with_reducible exact LeO.refl _)
      | (with_reducible exact LeO.none _)
      | (with_reducible refine LeO.ite ?_ ?_)
      | (with_reducible refine LeO.bind ?_ (fun _ => ?_))
      | exact ih0 _ _ _ _
      | exact LeO.none _
      | refine LeO.ite ?_ ?_
      | refine LeO.bind ?_ (fun _ => ?_)
theorem spec_TxTimes.mono : ∀ a0 a1 k, LeO (spec_TxTimes.f k a0 a1) (spec_TxTimes.f (k + 1) a0 a1) := by
  intro a0 a1 k
  have ih0 := spec_TxTimes.mono_l k
  unfold spec_TxTimes.f
  repeat' first
      | (with_reducible exact ih0 _ _ _ _)
      | (with_reducible exact LeO.refl _)
      | (with_reducible exact LeO.none _)
      | (with_reducible refine LeO.ite ?_ ?_)
      | (with_reducible refine LeO.bind ?_ (fun _ => ?_))
      | exact ih0 _ _ _ _
      | exact LeO.none _
      | refine LeO.ite ?_ ?_
      | refine LeO.bind ?_ (fun _ => ?_)
set_option maxHeartbeats 8000000 in
set_option maxRecDepth 100000 in
theorem spec_TxTimes.calls (k : Nat) (a0 : ByteArray) (a1 : Int) (r : ByteArray) (w : World) (h : spec_TxTimes.f k a0 a1 = some r) :
    Calls Try.prog 12 #[.string a0, .int .i64 a1] w fun e w' => e = .returned (.string r) ∧ Below w.heap.size w w' := by
  have HB := Aside0.mk (Below.refl w.heap.size w)
  have H : (if 0 ≤ (wrap64 ((a0.size : Int) * (mx a1 0))) then (if (wrap64 ((a0.size : Int) * (mx a1 0)) : Int).toNat ≤ 281474976710656 then (spec_TxTimes.l0 k a0 (([] : List Int)) a1 0) else (none)) else (none)) = some r := h
  clear h
  obtain ⟨ji3, hji3⟩ : ∃ j_ : Int, (mx a1 0) = j_ := ⟨_, rfl⟩
  replace H : (if 0 ≤ (wrap64 ((a0.size : Int) * (ji3))) then (if (wrap64 ((a0.size : Int) * (ji3)) : Int).toNat ≤ 281474976710656 then (spec_TxTimes.l0 k a0 (([] : List Int)) a1 0) else (none)) else (none)) = some r := by first | (rw [hji3] at H; exact H) | (simp only [hji3] at H ⊢; exact H)
  (try (have hji3l : 0 ≤ ji3 := by (rw [← hji3]; unfold mx; (repeat' split) <;> omega)))
  (try (have hji3m : 0 ≤ ji3 := by omega))
  have hji3_ : (if a1 < 0 then 0 else a1) = ji3 := hji3
  obtain ⟨ji4, hji4⟩ : ∃ j_ : Int, (wrap64 ((a0.size : Int) * (ji3))) = j_ := ⟨_, rfl⟩
  replace H : (if 0 ≤ (ji4) then (if (ji4 : Int).toNat ≤ 281474976710656 then (spec_TxTimes.l0 k a0 (([] : List Int)) a1 0) else (none)) else (none)) = some r := by first | (rw [hji4] at H; exact H) | (simp only [hji4] at H ⊢; exact H)
  have hji4w : (IntKind.i64.wrap ((a0.size : Int) * (ji3))) = ji4 := (i64_w _).trans hji4
  by_cases c5 : 0 ≤ (ji4)
  · rw [if_pos c5] at H
    have c5b0 := eq_true c5
    have c5b1 : decide (0 ≤ (ji4)) = true := decide_eq_true c5
    clear c5
    by_cases c6 : (ji4 : Int).toNat ≤ 281474976710656
    · rw [if_pos c6] at H
      have c6b0 := eq_true c6
      have c6b1 : decide ((ji4 : Int).toNat ≤ 281474976710656) = true := decide_eq_true c6
      clear c6
      obtain ⟨y101, hy101⟩ : ∃ y_ : List Int, y_ = (([] : List Int)) := ⟨_, rfl⟩
      replace H : (spec_TxTimes.l0 k a0 y101 a1 0) = some r := by first | (rw [hy101]; with_reducible exact H) | (have H2_ := (Option.bind_some _ _).symm.trans H; rw [hy101]; with_reducible exact H2_) | (have H2_ := (Option.bind_some _ _).symm.trans H; with_reducible exact H2_) | with_reducible exact H | (rw [hy101]; exact H) | exact H
      have Ny101 := Aside0.mk hy101
      clear hy101
      have H' := Aside0.mk H
      clear H
      go_enter Try.func12, Try.ntmps12
      go_wp2_with (first | ((with_reducible refine gate_dst (N := 11) rfl ?_); refine R_make0 (Kd.int .u8) _ 5 rfl (N := 11) rfl 46 _ _ rfl ji4 rfl rfl Try.underlying46 (.int .u8 0) 1 info5 (by omega) (ok := fun _ => True) trivial (of_decide_eq_true (by first | (with_reducible assumption) | assumption)) (Nat.le_trans (Nat.mul_le_mul_right _ (of_decide_eq_true (by first | (with_reducible assumption) | assumption) : ji4.toNat ≤ 281474976710656)) (by omega)) (Below.refl _ _) (Nat.le_refl _) ?_; intro v102 w7 ho8 hb hg_ hnew_; clear hg_ hnew_; (first | rw [← Ny101.out] at ho8 | (simp only [Int.reduceToNat] at ho8; rw [← Ny101.out] at ho8)); have n0_ := Aside0.mk (Kd.R_lower ho8 (below_size (by repeat (first | (with_reducible first | exact HB.out | apply below_alloc | apply pw_below_drewN | apply below_drew1) | exact HB.out)))); have n1_ := Aside0.mk (below_step (by repeat (first | (with_reducible first | exact HB.out | apply below_alloc | apply pw_below_drewN | apply below_drew1) | exact HB.out)) hb); clear HB; have HO103 := n0_; have HB := n1_; clear n0_ n1_; clear hb ho8))
      (try simp only [Act.put, List.setIfInBounds_toArray, List.set_cons_zero, List.set_cons_succ])
      go_loopg [5, 13] k (fun kq v5 v13 w' => ∃ (x5_1 : List Int) (x13_1 : Int), v13 = .int .i64 x13_1 ∧ Aside0 (spec_TxTimes.l0 kq a0 x5_1 a1 x13_1 = some r) ∧ Aside0 (kq ≤ k) ∧ Aside0 (Kd.R (Kd.int .u8) 5 w' w.heap.size (fun _ => True) v5 x5_1) ∧ Aside0 (Below w.heap.size w w'))
      case atStart => exact ⟨(y101), (0), (by first | rfl | (simp; done) | (simp [*]; done)), H', ⟨Nat.le_refl _⟩, ⟨by (with_reducible repeat (first | apply Kd.R_alloc | apply Kd.R_drewN | apply Kd.R_drew)); exact HO103.out⟩, ⟨by repeat (first | (with_reducible first | exact HB.out | apply below_alloc | apply pw_below_drewN | apply below_drew1) | exact HB.out)⟩⟩
      case round =>
        clear H'
        try clear c1
        try clear p2
        try clear c5
        try clear c5b0
        try clear c5b1
        try clear c6
        try clear c6b0
        try clear c6b1
        try clear p6
        obtain ⟨x5_1, x13_1, rfl, HA, HK1, HO_5, HB⟩ := hrel
        cases gk with
        | zero => exact absurd HA.out (by simp [spec_TxTimes.l0])
        | succ k1 =>
          have H := HA.out
          clear HA
          simp only [spec_TxTimes.l0] at H
          by_cases c9 : x13_1 < a1
          · rw [if_pos c9] at H
            have c9b0 : decide (x13_1 < a1) = true := decide_eq_true c9
            clear c9
            by_cases c10 : x5_1.length + a0.size < 140737488355328
            · rw [if_pos c10] at H
              have LMc10 := Aside0.mk c10
              clear c10
              obtain ⟨y104, hy104⟩ : ∃ y_ : List Int, y_ = (x5_1 ++ bytesOf a0) := ⟨_, rfl⟩
              replace H : (spec_TxTimes.l0 k1 a0 y104 a1 (wrap64 (x13_1 + 1))) = some r := by first | (rw [hy104]; with_reducible exact H) | (have H2_ := (Option.bind_some _ _).symm.trans H; rw [hy104]; with_reducible exact H2_) | (have H2_ := (Option.bind_some _ _).symm.trans H; with_reducible exact H2_) | with_reducible exact H | (rw [hy104]; exact H) | exact H
              have Ny104 := Aside0.mk hy104
              clear hy104
              have H' := Aside0.mk H
              clear H
              go_wp2_with (first | (at_builtin; refine print_append_str (w0 := w) w.heap.size rfl (.tmp 15) _ 46 9 5 rfl Try.underlying46 Try.underlying9 info5 u5 x5_1 a0 rfl rfl ?aO ?aB ?aS ?aL ?_; (case aB => exact (by repeat (first | (with_reducible first | exact HB.out | apply below_alloc | apply pw_below_drewN | apply below_drew1) | exact HB.out))); (case aO => exact (Kd.own_of_R (by (with_reducible repeat (first | apply Kd.R_alloc | apply Kd.R_drewN | apply Kd.R_drew)); exact HO_5.out))); (case aS => exact (below_size (by repeat (first | (with_reducible first | exact HB.out | apply below_alloc | apply pw_below_drewN | apply below_drew1) | exact HB.out)))); (case aL => have := LMc10.out; omega); intro v105 w11 ho0 hb hg; have ho := Kd.R_of_own (h1 := fun _ => rfl) (ok := fun _ => True) ho0 (fun _ _ => trivial); clear ho0; have hat := True.intro; rw [← Ny104.out] at ho; change Kd.R (Kd.int .u8) 5 w11 w.heap.size (fun _ => True) v105 y104 at ho; have n0_ := Aside0.mk (hb); have n1_ := Aside0.mk (ho); clear HB; clear HO_5; have HB := n0_; have HO106 := n1_; clear n0_ n1_; clear ho hb hg hat))
              go_roundg k1
              case measure => have := HK1.out; omega
              case rel => exact ⟨(y104), (wrap64 (x13_1 + 1)), (by first | rfl | (simp; done) | (simp [*]; done)), H', ⟨by have := HK1.out; omega⟩, ⟨by (with_reducible repeat (first | apply Kd.R_alloc | apply Kd.R_drewN | apply Kd.R_drew)); exact HO106.out⟩, ⟨by repeat (first | (with_reducible first | exact HB.out | apply below_alloc | apply pw_below_drewN | apply below_drew1) | exact HB.out)⟩⟩
            · rw [if_neg c10] at H
              exact absurd H (by simp)
          · rw [if_neg c9] at H
            have c9b0 : decide (x13_1 < a1) = false := decide_eq_false c9
            clear c9
            obtain rfl := Option.some.inj H
            have hcv12 := own_string (P := Try.prog) Try.underlying46 Try.underlying5 Try.underlying9 (Kd.own_of_R HO_5.out)
            go_wp2
            go_ret
            exact ⟨by first | rfl | (simp [errW_none, errW_some] <;> rfl) | (simp only [← hji3, ← hji4]; first | rfl | (simp [errW_none, errW_some] <;> rfl)) | (simp [*, errW_none, errW_some] <;> rfl), by repeat (first | (with_reducible first | exact HB.out | apply below_alloc | apply pw_below_drewN | apply below_drew1) | exact HB.out)⟩
    · rw [if_neg c6] at H
      exact absurd H (by simp)
  · rw [if_neg c5] at H
    exact absurd H (by simp)

-- NOT PRINTED: function 28 (strings_Builder_String)

-- NOT PRINTED: function 33 (strings_Builder_Len)

-- NOT PRINTED: function 58 (abi_NoEscape)

-- NOT PRINTED: function 47 (strings_Builder_copyCheck)

-- NOT PRINTED: function 36 (strings_Builder_WriteString)

/-! ### bits_Mul32: function 52 -/
def bits_Mul32.f (a0 : Int) (a1 : Int) : Option (Int × Int) := some (((IntKind.u64.wrap ((IntKind.u64.wrap (a0)) * (IntKind.u64.wrap (a1)))) / 4294967296) % 4294967296, (IntKind.u64.wrap ((IntKind.u64.wrap (a0)) * (IntKind.u64.wrap (a1)))) % 4294967296)
set_option maxHeartbeats 8000000 in
set_option maxRecDepth 100000 in
theorem bits_Mul32.calls (a0 : Int) (a1 : Int) (r1 : Int) (r2 : Int) (w : World) (h : bits_Mul32.f a0 a1 = some (r1, r2)) :
    Calls Try.prog 52 #[.int .u32 a0, .int .u32 a1] w fun e w' => e = .returned (.tuple #[.int .u32 r1, .int .u32 r2]) ∧ Drawn0 w w' := by
  have H : (some (((IntKind.u64.wrap ((IntKind.u64.wrap (a0)) * (IntKind.u64.wrap (a1)))) / 4294967296) % 4294967296, (IntKind.u64.wrap ((IntKind.u64.wrap (a0)) * (IntKind.u64.wrap (a1)))) % 4294967296)) = some (r1, r2) := h
  clear h
  simp only [Option.some.injEq, Prod.mk.injEq] at H
  obtain ⟨rfl, rfl⟩ := H
  go_enter Try.func52, Try.ntmps52
  go_wp2
  go_ret2
  exact ⟨by first | rfl | (simp; done) | (simp [*]; done), by repeat (first | exact Drawn0.refl _ | apply Drawn0.step)⟩

/-! ### bits_Mul64: function 53 -/
def bits_Mul64.f (a0 : Int) (a1 : Int) : Option (Int × Int) := some (IntKind.u64.wrap ((IntKind.u64.wrap ((IntKind.u64.wrap ((a0 / 4294967296) * (a1 / 4294967296))) + ((IntKind.u64.wrap ((IntKind.u64.wrap ((a0 / 4294967296) * (Go.bits .and .u64 a1 4294967295))) + ((IntKind.u64.wrap ((Go.bits .and .u64 a0 4294967295) * (Go.bits .and .u64 a1 4294967295))) / 4294967296))) / 4294967296))) + ((IntKind.u64.wrap ((Go.bits .and .u64 (IntKind.u64.wrap ((IntKind.u64.wrap ((a0 / 4294967296) * (Go.bits .and .u64 a1 4294967295))) + ((IntKind.u64.wrap ((Go.bits .and .u64 a0 4294967295) * (Go.bits .and .u64 a1 4294967295))) / 4294967296))) 4294967295) + (IntKind.u64.wrap ((Go.bits .and .u64 a0 4294967295) * (a1 / 4294967296))))) / 4294967296)), IntKind.u64.wrap (a0 * a1))
set_option maxHeartbeats 8000000 in
set_option maxRecDepth 100000 in
theorem bits_Mul64.calls (a0 : Int) (a1 : Int) (r1 : Int) (r2 : Int) (w : World) (h : bits_Mul64.f a0 a1 = some (r1, r2)) :
    Calls Try.prog 53 #[.int .u64 a0, .int .u64 a1] w fun e w' => e = .returned (.tuple #[.int .u64 r1, .int .u64 r2]) ∧ Drawn0 w w' := by
  have H : (some (IntKind.u64.wrap ((IntKind.u64.wrap ((IntKind.u64.wrap ((a0 / 4294967296) * (a1 / 4294967296))) + ((IntKind.u64.wrap ((IntKind.u64.wrap ((a0 / 4294967296) * (Go.bits .and .u64 a1 4294967295))) + ((IntKind.u64.wrap ((Go.bits .and .u64 a0 4294967295) * (Go.bits .and .u64 a1 4294967295))) / 4294967296))) / 4294967296))) + ((IntKind.u64.wrap ((Go.bits .and .u64 (IntKind.u64.wrap ((IntKind.u64.wrap ((a0 / 4294967296) * (Go.bits .and .u64 a1 4294967295))) + ((IntKind.u64.wrap ((Go.bits .and .u64 a0 4294967295) * (Go.bits .and .u64 a1 4294967295))) / 4294967296))) 4294967295) + (IntKind.u64.wrap ((Go.bits .and .u64 a0 4294967295) * (a1 / 4294967296))))) / 4294967296)), IntKind.u64.wrap (a0 * a1))) = some (r1, r2) := h
  clear h
  simp only [Option.some.injEq, Prod.mk.injEq] at H
  obtain ⟨rfl, rfl⟩ := H
  go_enter Try.func53, Try.ntmps53
  go_wp2
  go_ret2
  exact ⟨by first | rfl | (simp; done) | (simp [*]; done), by repeat (first | exact Drawn0.refl _ | apply Drawn0.step)⟩

/-! ### bits_Mul: function 41 -/
def bits_Mul.f (a0 : Int) (a1 : Int) : Option (Int × Int) := (bits_Mul64.f a0 a1).bind fun bt107 => (some (bt107.1, bt107.2))
set_option maxHeartbeats 8000000 in
set_option maxRecDepth 100000 in
theorem bits_Mul.calls (a0 : Int) (a1 : Int) (r1 : Int) (r2 : Int) (w : World) (h : bits_Mul.f a0 a1 = some (r1, r2)) :
    Calls Try.prog 41 #[.int .u64 a0, .int .u64 a1] w fun e w' => e = .returned (.tuple #[.int .u64 r1, .int .u64 r2]) ∧ Drawn0 w w' := by
  have H : ((bits_Mul64.f a0 a1).bind fun bt107 => (some (bt107.1, bt107.2))) = some (r1, r2) := h
  clear h
  replace H := Option.bind_eq_some_iff.mp H
  obtain ⟨⟨t107, t108⟩, A30, H⟩ := H
  replace H : (some (t107, t108)) = some (r1, r2) := H
  have A3 := Aside0.mk A30
  clear A30
  simp only [Option.some.injEq, Prod.mk.injEq] at H
  obtain ⟨rfl, rfl⟩ := H
  go_enter Try.func41, Try.ntmps41
  go_wp2_with (first | ((with_reducible refine gate_callee (f := 53) rfl ?_); refine goesL_ (some 25) rfl rfl Try.func53 (by kernel_rfl) rfl #[.int .u64 a0, .int .u64 a1] rfl (by (try simp only [List.map_toArray, List.map_cons, List.map_nil]); first | done | rfl | (simp only [List.length_drop, List.length_take]; rfl)) ?_; (with_reducible refine (bits_Mul64.calls a0 a1 t107 t108 _ A3.out).mono ?_); rintro e w' ⟨rfl, ⟨nd, rfl⟩⟩; refine ⟨_, rfl, ?_⟩))
  go_ret2
  exact ⟨by first | rfl | (simp; done) | (simp [*]; done), by repeat (first | exact Drawn0.refl _ | apply Drawn0.step)⟩

/-! ### stringslite_HasPrefix: function 54 -/
def stringslite_HasPrefix.f (a0 : ByteArray) (a1 : ByteArray) : Option (Bool) := if (a0.size : Int) ≥ (a1.size : Int) then (if 0 ≤ (a1.size : Int) then (if (a1.size : Int) ≤ (a0.size : Int) then (some ((a0.extract 0 ((a1.size : Int) : Int).toNat).toList == a1.toList)) else (none)) else (none)) else (some false)
set_option maxHeartbeats 8000000 in
set_option maxRecDepth 100000 in
theorem stringslite_HasPrefix.calls (a0 : ByteArray) (a1 : ByteArray) (r : Bool) (w : World) (h : stringslite_HasPrefix.f a0 a1 = some r) :
    Calls Try.prog 54 #[.string a0, .string a1] w fun e w' => e = .returned (.bool r) ∧ Drawn0 w w' := by
  have H : (if (a0.size : Int) ≥ (a1.size : Int) then (if 0 ≤ (a1.size : Int) then (if (a1.size : Int) ≤ (a0.size : Int) then (some ((a0.extract 0 ((a1.size : Int) : Int).toNat).toList == a1.toList)) else (none)) else (none)) else (some false)) = some r := h
  clear h
  by_cases c3 : (a0.size : Int) ≥ (a1.size : Int)
  · rw [if_pos c3] at H
    have c3b0 : decide ((a1.size : Int) ≤ (a0.size : Int)) = true := decide_eq_true c3
    have c3b1 : decide (a1.size ≤ a0.size) = true := decide_eq_true (Int.ofNat_le.mp c3)
    clear c3
    by_cases c4 : 0 ≤ (a1.size : Int)
    · rw [if_pos c4] at H
      have c4b0 := eq_true c4
      have c4b1 : decide (0 ≤ (a1.size : Int)) = true := decide_eq_true c4
      clear c4
      by_cases c5 : (a1.size : Int) ≤ (a0.size : Int)
      · rw [if_pos c5] at H
        have c5b0 := eq_true c5
        have c5b1 : decide ((a1.size : Int) ≤ (a0.size : Int)) = true := decide_eq_true c5
        clear c5
        obtain rfl := Option.some.inj H
        go_enter Try.func54, Try.ntmps54
        go_wp2
        go_ret
        exact ⟨by first | rfl | (simp; done) | (simp [*]; done), by repeat (first | exact Drawn0.refl _ | apply Drawn0.step)⟩
      · rw [if_neg c5] at H
        exact absurd H (by simp)
    · rw [if_neg c4] at H
      exact absurd H (by simp)
  · rw [if_neg c3] at H
    have c3b0 : decide ((a1.size : Int) ≤ (a0.size : Int)) = false := decide_eq_false c3
    have c3b1 : decide (a1.size ≤ a0.size) = false := decide_eq_false (fun h => c3 (Int.ofNat_le.mpr h))
    clear c3
    obtain rfl := Option.some.inj H
    go_enter Try.func54, Try.ntmps54
    go_wp2
    go_ret
    exact ⟨by first | rfl | (simp; done) | (simp [*]; done), by repeat (first | exact Drawn0.refl _ | apply Drawn0.step)⟩

/-! ### strings_HasPrefix: function 42 -/
def strings_HasPrefix.f (a0 : ByteArray) (a1 : ByteArray) : Option (Bool) := (stringslite_HasPrefix.f a0 a1).bind fun t109 => (some t109)
set_option maxHeartbeats 8000000 in
set_option maxRecDepth 100000 in
theorem strings_HasPrefix.calls (a0 : ByteArray) (a1 : ByteArray) (r : Bool) (w : World) (h : strings_HasPrefix.f a0 a1 = some r) :
    Calls Try.prog 42 #[.string a0, .string a1] w fun e w' => e = .returned (.bool r) ∧ Drawn0 w w' := by
  have H : ((stringslite_HasPrefix.f a0 a1).bind fun t109 => (some t109)) = some r := h
  clear h
  replace H := Option.bind_eq_some_iff.mp H
  obtain ⟨t109, A30, H⟩ := H
  replace H : (some t109) = some r := H
  have A3 := Aside0.mk A30
  clear A30
  obtain rfl := Option.some.inj H
  go_enter Try.func42, Try.ntmps42
  go_wp2_with (first | ((with_reducible refine gate_callee (f := 54) rfl ?_); refine goesL_ (some 7) rfl rfl Try.func54 (by kernel_rfl) rfl #[.string a0, .string a1] rfl (by (try simp only [List.map_toArray, List.map_cons, List.map_nil]); first | done | rfl | (simp only [List.length_drop, List.length_take]; rfl)) ?_; (with_reducible refine (stringslite_HasPrefix.calls a0 a1 t109 _ A3.out).mono ?_); rintro e w' ⟨rfl, ⟨nd, rfl⟩⟩; refine ⟨_, rfl, ?_⟩))
  go_ret
  exact ⟨by first | rfl | (simp; done) | (simp [*]; done), by repeat (first | exact Drawn0.refl _ | apply Drawn0.step)⟩

-- NOT PRINTED: function 61 (bytealg_MakeNoZero)

-- NOT PRINTED: function 55 (strings_Builder_grow)

-- NOT PRINTED: function 43 (strings_Builder_Grow)

/-! ### strings_Repeat: function 29 -/
def strings_Repeat.f (a0 : ByteArray) (a1 : Int) : Option (ByteArray) := if 0 ≤ a1 ∧ a1 ≤ 9223372036854775807 ∧ a0.size * a1.toNat ≤ 140737488355328 then some ⟨(Lib.repeatL a0.data.toList a1.toNat).toArray⟩ else none
theorem strings_Repeat.calls (a0 : ByteArray) (a1 : Int) (r : ByteArray) (w : World) (h : strings_Repeat.f a0 a1 = some r) :
    Calls Try.prog 29 #[.string a0, .int .i64 a1] w fun e w' => e = .returned (.string r) ∧ Below w.heap.size w w' := by
  unfold strings_Repeat.f at h
  by_cases hc : 0 ≤ a1 ∧ a1 ≤ 9223372036854775807 ∧ a0.size * a1.toNat ≤ 140737488355328
  · rw [if_pos hc] at h
    obtain rfl := Option.some.inj h
    have hk := Try.strings_Repeat a0 a1.toNat w (by omega) hc.2.2
    rw [Int.toNat_of_nonneg hc.1] at hk
    exact hk
  · rw [if_neg hc] at h
    exact absurd h (by simp)

/-! ### text_Align_MarkdownProperty: function 23 -/
mutual
def text_Align_MarkdownProperty.j0 : Nat → Int → List Int → Int → Bool → Option (ByteArray)
  | 0, _, _, _, _ => none
  | k + 1, x0, x1, x5, x16 => if x16 = true then (if 0 < (x1.length : Int) then (text_Align_MarkdownProperty.j1 k x0 (rd x1 0)) else (none)) else (text_Align_MarkdownProperty.j1 k x0 x5)
def text_Align_MarkdownProperty.j1 : Nat → Int → Int → Option (ByteArray)
  | 0, _, _ => none
  | k + 1, x0, x5 => (strings_Repeat.f (⟨#[45]⟩ : ByteArray) x5).bind fun t112 => (if x0 = 1 then (if 1 + t112.size ≤ 9223372036854775807 then (if ((⟨#[58]⟩ : ByteArray) ++ t112).size + 1 ≤ 9223372036854775807 then (some (((⟨#[58]⟩ : ByteArray) ++ t112) ++ (⟨#[32]⟩ : ByteArray))) else (none)) else (none)) else (if x0 = 2 then (if 1 + t112.size ≤ 9223372036854775807 then (if ((⟨#[58]⟩ : ByteArray) ++ t112).size + 1 ≤ 9223372036854775807 then (some (((⟨#[58]⟩ : ByteArray) ++ t112) ++ (⟨#[58]⟩ : ByteArray))) else (none)) else (none)) else (if x0 = 4 then (if 1 + t112.size ≤ 9223372036854775807 then (if ((⟨#[32]⟩ : ByteArray) ++ t112).size + 1 ≤ 9223372036854775807 then (some (((⟨#[32]⟩ : ByteArray) ++ t112) ++ (⟨#[58]⟩ : ByteArray))) else (none)) else (none)) else (if 1 + t112.size ≤ 9223372036854775807 then (if ((⟨#[32]⟩ : ByteArray) ++ t112).size + 1 ≤ 9223372036854775807 then (some (((⟨#[32]⟩ : ByteArray) ++ t112) ++ (⟨#[32]⟩ : ByteArray))) else (none)) else (none)))))
end
def text_Align_MarkdownProperty.f (k : Nat) (a0 : Int) (l1 : List Int) : Option (ByteArray) := if (l1.length : Int) > 0 then (if 0 < (l1.length : Int) then (text_Align_MarkdownProperty.j0 k a0 l1 3 (decide ((rd l1 0) > 3))) else (none)) else (text_Align_MarkdownProperty.j0 k a0 l1 3 false)
theorem text_Align_MarkdownProperty.mono_l : ∀ k, (∀ y0 y1 y2 y3, LeO (text_Align_MarkdownProperty.j0 k y0 y1 y2 y3) (text_Align_MarkdownProperty.j0 (k + 1) y0 y1 y2 y3)) ∧ (∀ y0 y1, LeO (text_Align_MarkdownProperty.j1 k y0 y1) (text_Align_MarkdownProperty.j1 (k + 1) y0 y1))
  | 0 => ⟨fun _ _ _ _ r h => by simp [text_Align_MarkdownProperty.j0] at h, fun _ _ r h => by simp [text_Align_MarkdownProperty.j1] at h⟩
  | k + 1 => by
    obtain ⟨ih0, ih1⟩ := text_Align_MarkdownProperty.mono_l k
    refine ⟨?_, ?_⟩
    · intro y0 y1 y2 y3
      unfold text_Align_MarkdownProperty.j0
      repeat' first
      | (with_reducible exact ih0 _ _ _ _)
      | (with_reducible exact ih1 _ _)
      | (with_reducible exact LeO.refl _)
      | (with_reducible exact LeO.none _)
      | (with_reducible refine LeO.ite ?_ ?_)
      | (with_reducible refine LeO.bind ?_ (fun _ => ?_))
      | exact ih0 _ _ _ _
      | exact ih1 _ _
      | exact LeO.none _
      | refine LeO.ite ?_ ?_
      | refine LeO.bind ?_ (fun _ => ?_)
    · intro y0 y1
      unfold text_Align_MarkdownProperty.j1
      repeat' first
      | (with_reducible exact ih0 _ _ _ _)
      | (with_reducible exact ih1 _ _)
      | (with_reducible exact LeO.refl _)
      | (with_reducible exact LeO.none _)
      | (with_reducible refine LeO.ite ?_ ?_)
      | (with_reducible refine LeO.bind ?_ (fun _ => ?_))
      | exact ih0 _ _ _ _
      | exact ih1 _ _
      | exact LeO.none _
      | refine LeO.ite ?_ ?_
      | refine LeO.bind ?_ (fun _ => ?_)
theorem text_Align_MarkdownProperty.mono : ∀ a0 a1 k, LeO (text_Align_MarkdownProperty.f k a0 a1) (text_Align_MarkdownProperty.f (k + 1) a0 a1) := by
  intro a0 a1 k
  obtain ⟨ih0, ih1⟩ := text_Align_MarkdownProperty.mono_l k
  unfold text_Align_MarkdownProperty.f
  repeat' first
      | (with_reducible exact ih0 _ _ _ _)
      | (with_reducible exact ih1 _ _)
      | (with_reducible exact LeO.refl _)
      | (with_reducible exact LeO.none _)
      | (with_reducible refine LeO.ite ?_ ?_)
      | (with_reducible refine LeO.bind ?_ (fun _ => ?_))
      | exact ih0 _ _ _ _
      | exact ih1 _ _
      | exact LeO.none _
      | refine LeO.ite ?_ ?_
      | refine LeO.bind ?_ (fun _ => ?_)
set_option maxHeartbeats 8000000 in
set_option maxRecDepth 100000 in
theorem text_Align_MarkdownProperty.calls (k : Nat) (a0 : Int) (A1 : Option Addr) (c1 : Nat) (l1 : List Int) (r : ByteArray) (w : World) (hr1 : Kd.C (Kd.int .i64) w A1 l1.length l1) (hc1 : l1.length ≤ c1) (h : text_Align_MarkdownProperty.f k a0 l1 = some r) :
    Calls Try.prog 23 #[.int .i64 a0, .slice A1 l1.length c1] w fun e w' => e = .returned (.string r) ∧ Below w.heap.size w w' := by
  have HR1 := Aside0.mk hr1
  have HC1 := Aside0.mk hc1
  clear hr1 hc1
  have HB := Aside0.mk (Below.refl w.heap.size w)
  have H : (if (l1.length : Int) > 0 then (if 0 < (l1.length : Int) then (text_Align_MarkdownProperty.j0 k a0 l1 3 (decide ((rd l1 0) > 3))) else (none)) else (text_Align_MarkdownProperty.j0 k a0 l1 3 false)) = some r := h
  clear h
  have HC3 := Aside0.mk H
  clear H
  go_enter Try.func23, Try.ntmps23
  go_upto_region 2 with (fail)
  go_cut [16] (fun v16 wc => ∃ (kq : Nat) (x16_2 : Bool), v16 = .bool x16_2 ∧ Aside0 (text_Align_MarkdownProperty.j0 kq a0 l1 3 x16_2 = some r) ∧ Aside0 (kq ≤ k) ∧ Aside0 (Below w.heap.size w wc))
  case first =>
    have H := HC3.out
    clear HC3
    by_cases c4 : (l1.length : Int) > 0
    · rw [if_pos c4] at H
      have c4b0 : decide (0 < (l1.length : Int)) = true := decide_eq_true c4
      have c4b1 : decide (0 < l1.length) = true := decide_eq_true (by omega)
      clear c4
      (first | rw [c4b0] | (simp only [i64_w, i32_w]; rw [c4b0]) | skip)
      by_cases c5 : 0 < (l1.length : Int)
      · rw [if_pos c5] at H
        have c5b0 : decide (0 < (l1.length : Int)) = true := decide_eq_true c5
        have c5b1 : decide (0 < l1.length) = true := decide_eq_true (by omega)
        clear c5
        have H' := Aside0.mk H
        clear H
        have p110 : 0 ≤ (0 : Int) := (by omega)
        have q110 : 0 < (l1.length : Int) := of_decide_eq_true (by first | (with_reducible assumption) | assumption)
        obtain ⟨ad110, e110, hx110_0⟩ := Kd.at_int HR1.out 0 p110 q110
        cases e110
        have qi110 : (0 < l1.length) = True := eq_true (by omega)
        (try rw [show ((0 : Int)).toNat = 0 from rfl] at hx110_0)
        (try rw [Addr.add_zero'] at hx110_0)
        replace hx110_0 := (HB.out.cell (World.block_lt_of_cell? w _ hx110_0)).trans hx110_0
        replace p110 := eq_true p110
        replace q110 := eq_true q110
        go_wp2
        go_meet
        case rel => exact ⟨_, (decide ((rd l1 0) > 3)), (by first | rfl | (simp; done) | (simp [*]; done)), H', ⟨by first | omega | exact Nat.le_refl _⟩, ⟨by repeat (first | (with_reducible first | exact HB.out | apply below_alloc | apply pw_below_drewN | apply below_drew1) | exact HB.out)⟩⟩
      · rw [if_neg c5] at H
        exact absurd H (by simp)
    · rw [if_neg c4] at H
      have c4b0 : decide (0 < (l1.length : Int)) = false := decide_eq_false c4
      have c4b1 : decide (0 < l1.length) = false := decide_eq_false (by omega)
      clear c4
      (first | rw [c4b0] | (simp only [i64_w, i32_w]; rw [c4b0]) | skip)
      have H' := Aside0.mk H
      clear H
      go_wp2
      go_meet
      case rel => exact ⟨_, (false), (by first | rfl | (simp; done) | (simp [*]; done)), H', ⟨by first | omega | exact Nat.le_refl _⟩, ⟨by repeat (first | (with_reducible first | exact HB.out | apply below_alloc | apply pw_below_drewN | apply below_drew1) | exact HB.out)⟩⟩
  case rest =>
    clear HC3
    try clear c1
    try clear p1
    try clear q1
    try clear hx1
    try clear qi1
    try clear c2
    try clear p2
    try clear c4
    try clear c4b0
    try clear c4b1
    try clear c5
    try clear c5b0
    try clear c5b1
    try clear hx110_0
    try clear p110
    try clear q110
    obtain ⟨kq, x16_2, rfl, HA, HJ2, HB⟩ := hcut
    cases kq with
    | zero => exact absurd HA.out (by simp [text_Align_MarkdownProperty.j0])
    | succ kj2 =>
      have H := HA.out
      clear HA
      simp only [text_Align_MarkdownProperty.j0] at H
      have HC6 := Aside0.mk H
      clear H
      go_upto_if 16 with (fail)
      go_cut [5] (fun v5 wc => ∃ (kq : Nat) (x5_5 : Int), v5 = .int .i64 x5_5 ∧ Aside0 (text_Align_MarkdownProperty.j1 kq a0 x5_5 = some r) ∧ Aside0 (kq ≤ kj2) ∧ Aside0 (Below w.heap.size w wc))
      case first =>
        have H := HC6.out
        clear HC6
        by_cases c7 : x16_2 = true
        · subst c7
          have H1 : (if 0 < (l1.length : Int) then (text_Align_MarkdownProperty.j1 kj2 a0 (rd l1 0)) else (none)) = some r := by rw [if_pos rfl] at H; exact H
          clear H
          have H := H1
          clear H1
          by_cases c8 : 0 < (l1.length : Int)
          · rw [if_pos c8] at H
            have c8b0 : decide (0 < (l1.length : Int)) = true := decide_eq_true c8
            have c8b1 : decide (0 < l1.length) = true := decide_eq_true (by omega)
            clear c8
            (first | rw [c8b0] | (simp only [i64_w, i32_w]; rw [c8b0]) | skip)
            have H' := Aside0.mk H
            clear H
            have p111 : 0 ≤ (0 : Int) := (by omega)
            have q111 : 0 < (l1.length : Int) := of_decide_eq_true (by first | (with_reducible assumption) | assumption)
            obtain ⟨ad111, e111, hx111_0⟩ := Kd.at_int HR1.out 0 p111 q111
            cases e111
            have qi111 : (0 < l1.length) = True := eq_true (by omega)
            (try rw [show ((0 : Int)).toNat = 0 from rfl] at hx111_0)
            (try rw [Addr.add_zero'] at hx111_0)
            replace hx111_0 := (HB.out.cell (World.block_lt_of_cell? w _ hx111_0)).trans hx111_0
            replace p111 := eq_true p111
            replace q111 := eq_true q111
            go_wp2
            go_meet
            case rel => exact ⟨_, (rd l1 0), (by first | rfl | (simp; done) | (simp [*]; done)), H', ⟨by have := HJ2.out; first | omega | exact Nat.le_refl _⟩, ⟨by repeat (first | (with_reducible first | exact HB.out | apply below_alloc | apply pw_below_drewN | apply below_drew1) | exact HB.out)⟩⟩
          · rw [if_neg c8] at H
            exact absurd H (by simp)
        · replace c7 := Bool.eq_false_iff.mpr c7
          subst c7
          have H1 : (text_Align_MarkdownProperty.j1 kj2 a0 3) = some r := by rw [if_neg (show ¬ (false = true) by decide)] at H; exact H
          clear H
          have H := H1
          clear H1
          have H' := Aside0.mk H
          clear H
          go_wp2
          go_meet
          case rel => exact ⟨_, (3), (by first | rfl | (simp; done) | (simp [*]; done)), H', ⟨by have := HJ2.out; first | omega | exact Nat.le_refl _⟩, ⟨by repeat (first | (with_reducible first | exact HB.out | apply below_alloc | apply pw_below_drewN | apply below_drew1) | exact HB.out)⟩⟩
      case rest =>
        clear HC6
        try clear c1
        try clear p1
        try clear q1
        try clear hx1
        try clear qi1
        try clear c2
        try clear p2
        try clear c4
        try clear c4b0
        try clear c4b1
        try clear c5
        try clear c5b0
        try clear c5b1
        try clear c7
        try clear c8
        try clear c8b0
        try clear c8b1
        try clear hx110_0
        try clear hx111_0
        try clear p1
        try clear p110
        try clear p111
        try clear p2
        try clear q1
        try clear q110
        try clear q111
        obtain ⟨kq, x5_5, rfl, HA, HJ5, HB⟩ := hcut
        cases kq with
        | zero => exact absurd HA.out (by simp [text_Align_MarkdownProperty.j1])
        | succ kj5 =>
          have H := HA.out
          clear HA
          simp only [text_Align_MarkdownProperty.j1] at H
          replace H := Option.bind_eq_some_iff.mp H
          obtain ⟨t112, A90, H⟩ := H
          replace H : (if a0 = 1 then (if 1 + t112.size ≤ 9223372036854775807 then (if ((⟨#[58]⟩ : ByteArray) ++ t112).size + 1 ≤ 9223372036854775807 then (some (((⟨#[58]⟩ : ByteArray) ++ t112) ++ (⟨#[32]⟩ : ByteArray))) else (none)) else (none)) else (if a0 = 2 then (if 1 + t112.size ≤ 9223372036854775807 then (if ((⟨#[58]⟩ : ByteArray) ++ t112).size + 1 ≤ 9223372036854775807 then (some (((⟨#[58]⟩ : ByteArray) ++ t112) ++ (⟨#[58]⟩ : ByteArray))) else (none)) else (none)) else (if a0 = 4 then (if 1 + t112.size ≤ 9223372036854775807 then (if ((⟨#[32]⟩ : ByteArray) ++ t112).size + 1 ≤ 9223372036854775807 then (some (((⟨#[32]⟩ : ByteArray) ++ t112) ++ (⟨#[58]⟩ : ByteArray))) else (none)) else (none)) else (if 1 + t112.size ≤ 9223372036854775807 then (if ((⟨#[32]⟩ : ByteArray) ++ t112).size + 1 ≤ 9223372036854775807 then (some (((⟨#[32]⟩ : ByteArray) ++ t112) ++ (⟨#[32]⟩ : ByteArray))) else (none)) else (none))))) = some r := H
          have A9 := Aside0.mk A90
          clear A90
          by_cases c10 : a0 = 1
          · rw [if_pos c10] at H
            have c10b0 : (a0 == 1) = true := beq_iff_eq.mpr c10
            have c10b1 : (a0 != 1) = false := bne_eq_false_iff_eq.mpr c10
            clear c10
            by_cases c11 : 1 + t112.size ≤ 9223372036854775807
            · rw [if_pos c11] at H
              have c11b0 := eq_true c11
              have c11b1 : decide (1 + t112.size ≤ 9223372036854775807) = true := decide_eq_true c11
              try have c11b2 : (9223372036854775807 < 1 + t112.size) = False := eq_false (Nat.not_lt.2 c11)
              by_cases c12 : ((⟨#[58]⟩ : ByteArray) ++ t112).size + 1 ≤ 9223372036854775807
              · rw [if_pos c12] at H
                have c12b0 := eq_true c12
                have c12b1 : decide (((⟨#[58]⟩ : ByteArray) ++ t112).size + 1 ≤ 9223372036854775807) = true := decide_eq_true c12
                have c12l : (9223372036854775807 < ((⟨#[58]⟩ : ByteArray) ++ t112).size + 1) = False := eq_false (Nat.not_lt.2 c12)
                try simp only [ByteArray.size_append, bytes_size_mk, List.size_toArray, List.length_cons, List.length_nil, Nat.zero_add, Nat.reduceAdd] at c12l
                try have c12b2 : (9223372036854775807 < ((⟨#[58]⟩ : ByteArray) ++ t112).size + 1) = False := eq_false (Nat.not_lt.2 c12)
                obtain rfl := Option.some.inj H
                go_wp2_with (first | ((with_reducible refine gate_callee (f := 29) rfl ?_); refine goesL_ (some 21) rfl rfl Try.func29 (by kernel_rfl) rfl #[.string (⟨#[45]⟩ : ByteArray), .int .i64 x5_5] rfl (by (try simp only [List.map_toArray, List.map_cons, List.map_nil]); first | done | rfl | (simp only [List.length_drop, List.length_take]; rfl)) ?_; (with_reducible refine (strings_Repeat.calls (⟨#[45]⟩ : ByteArray) x5_5 t112 _ A9.out).mono ?_); rintro e w13 ⟨rfl, hb⟩; refine ⟨_, rfl, ?_⟩; have n0_ := Aside0.mk (below_step (by repeat (first | (with_reducible first | exact HB.out | apply below_alloc | apply pw_below_drewN | apply below_drew1) | exact HB.out)) hb); clear HB; have HB := n0_; clear n0_; (try clear hb); (try clear hb2); (try clear hk); (try clear hi)))
                go_ret
                exact ⟨by first | rfl | (simp [errW_none, errW_some] <;> rfl) | (simp [*, errW_none, errW_some] <;> rfl), by repeat (first | (with_reducible first | exact HB.out | apply below_alloc | apply pw_below_drewN | apply below_drew1) | exact HB.out)⟩
              · rw [if_neg c12] at H
                exact absurd H (by simp)
            · rw [if_neg c11] at H
              exact absurd H (by simp)
          · rw [if_neg c10] at H
            have c10b0 : (a0 == 1) = false := beq_eq_false_iff_ne.mpr c10
            have c10b1 : (a0 != 1) = true := bne_iff_ne.mpr c10
            by_cases c14 : a0 = 2
            · rw [if_pos c14] at H
              have c14b0 : (a0 == 2) = true := beq_iff_eq.mpr c14
              have c14b1 : (a0 != 2) = false := bne_eq_false_iff_eq.mpr c14
              clear c14
              by_cases c15 : 1 + t112.size ≤ 9223372036854775807
              · rw [if_pos c15] at H
                have c15b0 := eq_true c15
                have c15b1 : decide (1 + t112.size ≤ 9223372036854775807) = true := decide_eq_true c15
                try have c15b2 : (9223372036854775807 < 1 + t112.size) = False := eq_false (Nat.not_lt.2 c15)
                by_cases c16 : ((⟨#[58]⟩ : ByteArray) ++ t112).size + 1 ≤ 9223372036854775807
                · rw [if_pos c16] at H
                  have c16b0 := eq_true c16
                  have c16b1 : decide (((⟨#[58]⟩ : ByteArray) ++ t112).size + 1 ≤ 9223372036854775807) = true := decide_eq_true c16
                  have c16l : (9223372036854775807 < ((⟨#[58]⟩ : ByteArray) ++ t112).size + 1) = False := eq_false (Nat.not_lt.2 c16)
                  try simp only [ByteArray.size_append, bytes_size_mk, List.size_toArray, List.length_cons, List.length_nil, Nat.zero_add, Nat.reduceAdd] at c16l
                  try have c16b2 : (9223372036854775807 < ((⟨#[58]⟩ : ByteArray) ++ t112).size + 1) = False := eq_false (Nat.not_lt.2 c16)
                  obtain rfl := Option.some.inj H
                  go_wp2_with (first | ((with_reducible refine gate_callee (f := 29) rfl ?_); refine goesL_ (some 21) rfl rfl Try.func29 (by kernel_rfl) rfl #[.string (⟨#[45]⟩ : ByteArray), .int .i64 x5_5] rfl (by (try simp only [List.map_toArray, List.map_cons, List.map_nil]); first | done | rfl | (simp only [List.length_drop, List.length_take]; rfl)) ?_; (with_reducible refine (strings_Repeat.calls (⟨#[45]⟩ : ByteArray) x5_5 t112 _ A9.out).mono ?_); rintro e w17 ⟨rfl, hb⟩; refine ⟨_, rfl, ?_⟩; have n0_ := Aside0.mk (below_step (by repeat (first | (with_reducible first | exact HB.out | apply below_alloc | apply pw_below_drewN | apply below_drew1) | exact HB.out)) hb); clear HB; have HB := n0_; clear n0_; (try clear hb); (try clear hb2); (try clear hk); (try clear hi)))
                  go_ret
                  exact ⟨by first | rfl | (simp [errW_none, errW_some] <;> rfl) | (simp [*, errW_none, errW_some] <;> rfl), by repeat (first | (with_reducible first | exact HB.out | apply below_alloc | apply pw_below_drewN | apply below_drew1) | exact HB.out)⟩
                · rw [if_neg c16] at H
                  exact absurd H (by simp)
              · rw [if_neg c15] at H
                exact absurd H (by simp)
            · rw [if_neg c14] at H
              have c14b0 : (a0 == 2) = false := beq_eq_false_iff_ne.mpr c14
              have c14b1 : (a0 != 2) = true := bne_iff_ne.mpr c14
              by_cases c18 : a0 = 4
              · rw [if_pos c18] at H
                have c18b0 : (a0 == 4) = true := beq_iff_eq.mpr c18
                have c18b1 : (a0 != 4) = false := bne_eq_false_iff_eq.mpr c18
                clear c18
                by_cases c19 : 1 + t112.size ≤ 9223372036854775807
                · rw [if_pos c19] at H
                  have c19b0 := eq_true c19
                  have c19b1 : decide (1 + t112.size ≤ 9223372036854775807) = true := decide_eq_true c19
                  try have c19b2 : (9223372036854775807 < 1 + t112.size) = False := eq_false (Nat.not_lt.2 c19)
                  by_cases c20 : ((⟨#[32]⟩ : ByteArray) ++ t112).size + 1 ≤ 9223372036854775807
                  · rw [if_pos c20] at H
                    have c20b0 := eq_true c20
                    have c20b1 : decide (((⟨#[32]⟩ : ByteArray) ++ t112).size + 1 ≤ 9223372036854775807) = true := decide_eq_true c20
                    have c20l : (9223372036854775807 < ((⟨#[32]⟩ : ByteArray) ++ t112).size + 1) = False := eq_false (Nat.not_lt.2 c20)
                    try simp only [ByteArray.size_append, bytes_size_mk, List.size_toArray, List.length_cons, List.length_nil, Nat.zero_add, Nat.reduceAdd] at c20l
                    try have c20b2 : (9223372036854775807 < ((⟨#[32]⟩ : ByteArray) ++ t112).size + 1) = False := eq_false (Nat.not_lt.2 c20)
                    obtain rfl := Option.some.inj H
                    go_wp2_with (first | ((with_reducible refine gate_callee (f := 29) rfl ?_); refine goesL_ (some 21) rfl rfl Try.func29 (by kernel_rfl) rfl #[.string (⟨#[45]⟩ : ByteArray), .int .i64 x5_5] rfl (by (try simp only [List.map_toArray, List.map_cons, List.map_nil]); first | done | rfl | (simp only [List.length_drop, List.length_take]; rfl)) ?_; (with_reducible refine (strings_Repeat.calls (⟨#[45]⟩ : ByteArray) x5_5 t112 _ A9.out).mono ?_); rintro e w21 ⟨rfl, hb⟩; refine ⟨_, rfl, ?_⟩; have n0_ := Aside0.mk (below_step (by repeat (first | (with_reducible first | exact HB.out | apply below_alloc | apply pw_below_drewN | apply below_drew1) | exact HB.out)) hb); clear HB; have HB := n0_; clear n0_; (try clear hb); (try clear hb2); (try clear hk); (try clear hi)))
                    go_ret
                    exact ⟨by first | rfl | (simp [errW_none, errW_some] <;> rfl) | (simp [*, errW_none, errW_some] <;> rfl), by repeat (first | (with_reducible first | exact HB.out | apply below_alloc | apply pw_below_drewN | apply below_drew1) | exact HB.out)⟩
                  · rw [if_neg c20] at H
                    exact absurd H (by simp)
                · rw [if_neg c19] at H
                  exact absurd H (by simp)
              · rw [if_neg c18] at H
                have c18b0 : (a0 == 4) = false := beq_eq_false_iff_ne.mpr c18
                have c18b1 : (a0 != 4) = true := bne_iff_ne.mpr c18
                by_cases c22 : 1 + t112.size ≤ 9223372036854775807
                · rw [if_pos c22] at H
                  have c22b0 := eq_true c22
                  have c22b1 : decide (1 + t112.size ≤ 9223372036854775807) = true := decide_eq_true c22
                  try have c22b2 : (9223372036854775807 < 1 + t112.size) = False := eq_false (Nat.not_lt.2 c22)
                  by_cases c23 : ((⟨#[32]⟩ : ByteArray) ++ t112).size + 1 ≤ 9223372036854775807
                  · rw [if_pos c23] at H
                    have c23b0 := eq_true c23
                    have c23b1 : decide (((⟨#[32]⟩ : ByteArray) ++ t112).size + 1 ≤ 9223372036854775807) = true := decide_eq_true c23
                    have c23l : (9223372036854775807 < ((⟨#[32]⟩ : ByteArray) ++ t112).size + 1) = False := eq_false (Nat.not_lt.2 c23)
                    try simp only [ByteArray.size_append, bytes_size_mk, List.size_toArray, List.length_cons, List.length_nil, Nat.zero_add, Nat.reduceAdd] at c23l
                    try have c23b2 : (9223372036854775807 < ((⟨#[32]⟩ : ByteArray) ++ t112).size + 1) = False := eq_false (Nat.not_lt.2 c23)
                    obtain rfl := Option.some.inj H
                    go_wp2_with (first | ((with_reducible refine gate_callee (f := 29) rfl ?_); refine goesL_ (some 21) rfl rfl Try.func29 (by kernel_rfl) rfl #[.string (⟨#[45]⟩ : ByteArray), .int .i64 x5_5] rfl (by (try simp only [List.map_toArray, List.map_cons, List.map_nil]); first | done | rfl | (simp only [List.length_drop, List.length_take]; rfl)) ?_; (with_reducible refine (strings_Repeat.calls (⟨#[45]⟩ : ByteArray) x5_5 t112 _ A9.out).mono ?_); rintro e w24 ⟨rfl, hb⟩; refine ⟨_, rfl, ?_⟩; have n0_ := Aside0.mk (below_step (by repeat (first | (with_reducible first | exact HB.out | apply below_alloc | apply pw_below_drewN | apply below_drew1) | exact HB.out)) hb); clear HB; have HB := n0_; clear n0_; (try clear hb); (try clear hb2); (try clear hk); (try clear hi)))
                    go_ret
                    exact ⟨by first | rfl | (simp [errW_none, errW_some] <;> rfl) | (simp [*, errW_none, errW_some] <;> rfl), by repeat (first | (with_reducible first | exact HB.out | apply below_alloc | apply pw_below_drewN | apply below_drew1) | exact HB.out)⟩
                  · rw [if_neg c23] at H
                    exact absurd H (by simp)
                · rw [if_neg c22] at H
                  exact absurd H (by simp)

/-! ### impl_TextAlignMarkdown: function 13 -/
def impl_TextAlignMarkdown.f (k : Nat) (a0 : Int) (l1 : List Int) : Option (ByteArray) := (text_Align_MarkdownProperty.f k a0 l1).bind fun t113 => (some t113)
theorem impl_TextAlignMarkdown.mono : ∀ a0 a1 k, LeO (impl_TextAlignMarkdown.f k a0 a1) (impl_TextAlignMarkdown.f (k + 1) a0 a1) := by
  intro a0 a1 k
  unfold impl_TextAlignMarkdown.f
  repeat' first
      | (with_reducible exact text_Align_MarkdownProperty.mono _ _ _)
      | (with_reducible exact LeO.refl _)
      | (with_reducible exact LeO.none _)
      | (with_reducible refine LeO.ite ?_ ?_)
      | (with_reducible refine LeO.bind ?_ (fun _ => ?_))
      | exact text_Align_MarkdownProperty.mono _ _ _
      | exact LeO.none _
      | refine LeO.ite ?_ ?_
      | refine LeO.bind ?_ (fun _ => ?_)
set_option maxHeartbeats 8000000 in
set_option maxRecDepth 100000 in
theorem impl_TextAlignMarkdown.calls (k : Nat) (a0 : Int) (A1 : Option Addr) (c1 : Nat) (l1 : List Int) (r : ByteArray) (w : World) (hr1 : Kd.C (Kd.int .i64) w A1 l1.length l1) (hc1 : l1.length ≤ c1) (h : impl_TextAlignMarkdown.f k a0 l1 = some r) :
    Calls Try.prog 13 #[.int .i64 a0, .slice A1 l1.length c1] w fun e w' => e = .returned (.string r) ∧ Below w.heap.size w w' := by
  have HR1 := Aside0.mk hr1
  have HC1 := Aside0.mk hc1
  clear hr1 hc1
  have HB := Aside0.mk (Below.refl w.heap.size w)
  have H : ((text_Align_MarkdownProperty.f k a0 l1).bind fun t113 => (some t113)) = some r := h
  clear h
  replace H := Option.bind_eq_some_iff.mp H
  obtain ⟨t113, A30, H⟩ := H
  replace H : (some t113) = some r := H
  have A3 := Aside0.mk A30
  clear A30
  obtain rfl := Option.some.inj H
  go_enter Try.func13, Try.ntmps13
  go_wp2_with (first | ((with_reducible refine gate_callee (f := 23) rfl ?_); refine goesL_ (some 7) rfl rfl Try.func23 (by kernel_rfl) rfl #[.int .i64 a0, .slice A1 l1.length c1] rfl (by (try simp only [List.map_toArray, List.map_cons, List.map_nil]); first | done | rfl | (simp only [List.length_drop, List.length_take]; rfl)) ?_; (with_reducible refine (text_Align_MarkdownProperty.calls k a0 _ _ l1 t113 _ ?side1 ?side2 A3.out).mono ?_); (case side1 => repeat (first | exact HR1.out | (with_reducible refine Kd.C_alloc ?_ _) | (with_reducible refine Kd.C_drewN ?_ _) | (with_reducible refine Kd.C_drew ?_))); (case side2 => exact HC1.out); rintro e w4 ⟨rfl, hb⟩; refine ⟨_, rfl, ?_⟩; have n0_ := Aside0.mk (below_step (by repeat (first | (with_reducible first | exact HB.out | apply below_alloc | apply pw_below_drewN | apply below_drew1) | exact HB.out)) hb); clear HB; have HB := n0_; clear n0_; (try clear hb); (try clear hb2); (try clear hk); (try clear hi)))
  go_ret
  exact ⟨by first | rfl | (simp [errW_none, errW_some] <;> rfl) | (simp [*, errW_none, errW_some] <;> rfl), by repeat (first | (with_reducible first | exact HB.out | apply below_alloc | apply pw_below_drewN | apply below_drew1) | exact HB.out)⟩

end Go.Proofs.Ytelbcekkfdpoaaa.GFnTextAlignMarkdown
