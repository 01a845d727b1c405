-- Written by gprint.py, a program of this session over the kit's printer, with contracts of its own for what the printer does not take. Not trusted: Lean checks it.
import Derived.Test.YtpgnipfpinldgaaGreatDoorGHtBodyx0
namespace Go.Proofs.YtpgnipfpinldgaaGreatDoor.GHtBody
open Go.RowKit Go.Proofs.YtpgnipfpinldgaaGreatDoor.Itr Go.Proofs.YtpgnipfpinldgaaGreatDoorW.PrintWords Go.Proofs.YtpgnipfpinldgaaGreatDoorW.PrintLast Go.Proofs.YtpgnipfpinldgaaGreatDoorW.PrintMore
attribute [local go_sem] max2_int min2_int max_two min_two max_three min_three max_four min_four   -- for this text's walks alone
set_option linter.unusedVariables false
set_option linter.unusedSimpArgs false

/-! ### table_zzEscape: function 9 -/
def table_zzEscape.l0 : Nat → ByteArray → List Int → Int → Option (ByteArray)
  | 0, _, _, _ => none
  | k + 1, x0, x3, x4 => if x4 < (x0.size : Int) then (if 0 ≤ x4 then (if (bt x0 x4) = 60 then (if x3.length + 4 < 140737488355328 then (table_zzEscape.l0 k x0 (x3 ++ bytesOf (⟨#[38, 108, 116, 59]⟩ : ByteArray)) (wrap64 (x4 + 1))) else (none)) else (if (bt x0 x4) = 62 then (if x3.length + 4 < 140737488355328 then (table_zzEscape.l0 k x0 (x3 ++ bytesOf (⟨#[38, 103, 116, 59]⟩ : ByteArray)) (wrap64 (x4 + 1))) else (none)) else (if (bt x0 x4) = 38 then (if x3.length + 5 < 140737488355328 then (table_zzEscape.l0 k x0 (x3 ++ bytesOf (⟨#[38, 97, 109, 112, 59]⟩ : ByteArray)) (wrap64 (x4 + 1))) else (none)) else (if (bt x0 x4) = 39 then (if x3.length + 5 < 140737488355328 then (table_zzEscape.l0 k x0 (x3 ++ bytesOf (⟨#[38, 35, 51, 57, 59]⟩ : ByteArray)) (wrap64 (x4 + 1))) else (none)) else (if (bt x0 x4) = 34 then (if x3.length + 5 < 140737488355328 then (table_zzEscape.l0 k x0 (x3 ++ bytesOf (⟨#[38, 35, 51, 52, 59]⟩ : ByteArray)) (wrap64 (x4 + 1))) else (none)) else (if x3.length < 140737488355328 then (table_zzEscape.l0 k x0 (x3 ++ [bt x0 x4]) (wrap64 (x4 + 1))) else (none))))))) else (none)) else (some (strOfNums x3))
def table_zzEscape.f (k : Nat) (a0 : ByteArray) : Option (ByteArray) := table_zzEscape.l0 k a0 ([] : List Int) 0
theorem table_zzEscape.mono_l : ∀ k, (∀ y0 y1 y2, LeO (table_zzEscape.l0 k y0 y1 y2) (table_zzEscape.l0 (k + 1) y0 y1 y2))
  | 0 => fun _ _ _ r h => by simp [table_zzEscape.l0] at h
  | k + 1 => by
    have ih0 := table_zzEscape.mono_l k
    · intro y0 y1 y2
      unfold table_zzEscape.l0
      repeat' first
      | (with_reducible exact ih0 _ _ _)
      | (with_reducible exact LeO.refl _)
      | (with_reducible exact LeO.none _)
      | (with_reducible refine LeO.ite ?_ ?_)
      | (with_reducible refine LeO.bind ?_ (fun _ => ?_))
      | exact ih0 _ _ _
      | exact LeO.none _
      | refine LeO.ite ?_ ?_
      | refine LeO.bind ?_ (fun _ => ?_)
theorem table_zzEscape.mono : ∀ a0 k, LeO (table_zzEscape.f k a0) (table_zzEscape.f (k + 1) a0) := by
  intro a0 k
  have ih0 := table_zzEscape.mono_l k
  unfold table_zzEscape.f
  repeat' first
      | (with_reducible exact ih0 _ _ _)
      | (with_reducible exact LeO.refl _)
      | (with_reducible exact LeO.none _)
      | (with_reducible refine LeO.ite ?_ ?_)
      | (with_reducible refine LeO.bind ?_ (fun _ => ?_))
      | exact ih0 _ _ _
      | exact LeO.none _
      | refine LeO.ite ?_ ?_
      | refine LeO.bind ?_ (fun _ => ?_)
set_option maxHeartbeats 8000000 in
set_option maxRecDepth 100000 in
theorem table_zzEscape.calls (k : Nat) (a0 : ByteArray) (r : ByteArray) (w : World) (h : table_zzEscape.f k a0 = some r) :
    Calls Tryz.prog 9 #[.string a0] w fun e w' => e = .returned (.string r) ∧ Below w.heap.size w w' := by
  have HB := Aside0.mk (Below.refl w.heap.size w)
  have H : (table_zzEscape.l0 k a0 ([] : List Int) 0) = some r := h
  clear h
  have H' := Aside0.mk H
  clear H
  go_enter Tryz.func9, Tryz.ntmps9
  go_wp2
  (try simp only [Act.put, List.setIfInBounds_toArray, List.set_cons_zero, List.set_cons_succ])
  go_loopg [3, 4] k (fun kq v3 v4 w' => ∃ (x3_1 : List Int) (x4_1 : Int), v4 = .int .i64 x4_1 ∧ Aside0 (table_zzEscape.l0 kq a0 x3_1 x4_1 = some r) ∧ Aside0 (kq ≤ k) ∧ Aside0 (Kd.R (Kd.int .u8) 5 w' w.heap.size (fun _ => True) v3 x3_1) ∧ Aside0 (Below w.heap.size w w'))
  case atStart => exact ⟨(([] : List Int)), (0), (by first | rfl | (simp; done) | (simp [*]; done)), H', ⟨Nat.le_refl _⟩, ⟨by first | exact Kd.R_nil _ _ _ _ _ | exact Kd.N_nil _ _ _ _ _ | exact Kd.V_nil _ _ _ _ _ | exact Kd.Q_nil _ _ _ _ _ | exact Kd.S_nil _ _ _ _ _⟩, ⟨by repeat (first | (with_reducible first | exact HB.out | apply below_alloc | apply pw_below_drewN | apply below_drew1) | exact HB.out)⟩⟩
  case round =>
    clear H'
    obtain ⟨x3_1, x4_1, rfl, HA, HK1, HO_3, HB⟩ := hrel
    cases gk with
    | zero => exact absurd HA.out (by simp [table_zzEscape.l0])
    | succ k1 =>
      have H := HA.out
      clear HA
      simp only [table_zzEscape.l0] at H
      by_cases c2 : x4_1 < (a0.size : Int)
      · rw [if_pos c2] at H
        have c2b0 : decide (x4_1 < (a0.size : Int)) = true := decide_eq_true c2
        clear c2
        by_cases c3 : 0 ≤ x4_1
        · rw [if_pos c3] at H
          have c3b0 : decide (0 ≤ x4_1) = true := decide_eq_true c3
          clear c3
          by_cases c5 : (bt a0 x4_1) = 60
          · rw [if_pos c5] at H
            have c5b0 : ((bt a0 x4_1) == 60) = true := beq_iff_eq.mpr c5
            have c5b1 : ((bt a0 x4_1) != 60) = false := bne_eq_false_iff_eq.mpr c5
            clear c5
            by_cases c6 : x3_1.length + 4 < 140737488355328
            · rw [if_pos c6] at H
              have LMc6 := Aside0.mk c6
              clear c6
              obtain ⟨y101, hy101⟩ : ∃ y_ : List Int, y_ = (x3_1 ++ bytesOf (⟨#[38, 108, 116, 59]⟩ : ByteArray)) := ⟨_, rfl⟩
              replace H : (table_zzEscape.l0 k1 a0 y101 (wrap64 (x4_1 + 1))) = some r := by first | (rw [hy101]; with_reducible exact H) | (have H2_ := (Option.bind_some _ _).symm.trans H; rw [hy101]; with_reducible exact H2_) | (have H2_ := (Option.bind_some _ _).symm.trans H; with_reducible exact H2_) | with_reducible exact H | (rw [hy101]; exact H) | exact H
              have Ny101 := Aside0.mk hy101
              clear hy101
              have H' := Aside0.mk H
              clear H
              have p4 : 0 ≤ (x4_1 : Int) := of_decide_eq_true (by first | (with_reducible assumption) | assumption)
              have q4 : x4_1 < (a0.size : Int) := of_decide_eq_true (by first | (with_reducible assumption) | assumption)
              have hx4 := bt_at a0 x4_1
              replace p4 := eq_true p4
              replace q4 := eq_true q4
              go_wp2_with (first | (at_builtin; refine print_append_str (w0 := w) w.heap.size rfl (.tmp 22) _ 28 9 5 rfl Tryz.underlying28 Tryz.underlying9 info5 u3 x3_1 (⟨#[38, 108, 116, 59]⟩ : ByteArray) rfl rfl ?aO ?aB ?aS ?aL ?_; (case aB => exact (by repeat (first | (with_reducible first | exact HB.out | apply below_alloc | apply pw_below_drewN | apply below_drew1) | exact HB.out))); (case aO => exact (Kd.own_of_R (by (with_reducible repeat (first | apply Kd.R_alloc | apply Kd.R_drewN | apply Kd.R_drew)); exact HO_3.out))); (case aS => exact (below_size (by repeat (first | (with_reducible first | exact HB.out | apply below_alloc | apply pw_below_drewN | apply below_drew1) | exact HB.out)))); (case aL => have := LMc6.out; first | omega | exact this | exact Nat.le_of_lt this); intro v102 w7 ho0 hb hg; have ho := Kd.R_of_own (h1 := fun _ => rfl) (ok := fun _ => True) ho0 (fun _ _ => trivial); clear ho0; have hat := True.intro; rw [← Ny101.out] at ho; change Kd.R (Kd.int .u8) 5 w7 w.heap.size (fun _ => True) v102 y101 at ho; have n0_ := Aside0.mk (hb); have n1_ := Aside0.mk (ho); clear HB; clear HO_3; have HB := n0_; have HO103 := n1_; clear n0_ n1_; clear ho hb hg hat))
              go_roundg k1
              case measure => have := HK1.out; omega
              case rel => exact ⟨(y101), (wrap64 (x4_1 + 1)), (by first | rfl | (simp; done) | (simp [*]; done)), H', ⟨by have := HK1.out; omega⟩, ⟨by (with_reducible repeat (first | apply Kd.R_alloc | apply Kd.R_drewN | apply Kd.R_drew)); exact HO103.out⟩, ⟨by repeat (first | (with_reducible first | exact HB.out | apply below_alloc | apply pw_below_drewN | apply below_drew1) | exact HB.out)⟩⟩
            · rw [if_neg c6] at H
              exact absurd H (by simp)
          · rw [if_neg c5] at H
            have c5b0 : ((bt a0 x4_1) == 60) = false := beq_eq_false_iff_ne.mpr c5
            have c5b1 : ((bt a0 x4_1) != 60) = true := bne_iff_ne.mpr c5
            by_cases c8 : (bt a0 x4_1) = 62
            · rw [if_pos c8] at H
              have c8b0 : ((bt a0 x4_1) == 62) = true := beq_iff_eq.mpr c8
              have c8b1 : ((bt a0 x4_1) != 62) = false := bne_eq_false_iff_eq.mpr c8
              clear c8
              by_cases c9 : x3_1.length + 4 < 140737488355328
              · rw [if_pos c9] at H
                have LMc9 := Aside0.mk c9
                clear c9
                obtain ⟨y104, hy104⟩ : ∃ y_ : List Int, y_ = (x3_1 ++ bytesOf (⟨#[38, 103, 116, 59]⟩ : ByteArray)) := ⟨_, rfl⟩
                replace H : (table_zzEscape.l0 k1 a0 y104 (wrap64 (x4_1 + 1))) = some r := by first | (rw [hy104]; with_reducible exact H) | (have H2_ := (Option.bind_some _ _).symm.trans H; rw [hy104]; with_reducible exact H2_) | (have H2_ := (Option.bind_some _ _).symm.trans H; with_reducible exact H2_) | with_reducible exact H | (rw [hy104]; exact H) | exact H
                have Ny104 := Aside0.mk hy104
                clear hy104
                have H' := Aside0.mk H
                clear H
                have p4 : 0 ≤ (x4_1 : Int) := of_decide_eq_true (by first | (with_reducible assumption) | assumption)
                have q4 : x4_1 < (a0.size : Int) := of_decide_eq_true (by first | (with_reducible assumption) | assumption)
                have hx4 := bt_at a0 x4_1
                replace p4 := eq_true p4
                replace q4 := eq_true q4
                go_wp2_with (first | (at_builtin; refine print_append_str (w0 := w) w.heap.size rfl (.tmp 26) _ 28 9 5 rfl Tryz.underlying28 Tryz.underlying9 info5 u3 x3_1 (⟨#[38, 103, 116, 59]⟩ : ByteArray) rfl rfl ?aO ?aB ?aS ?aL ?_; (case aB => exact (by repeat (first | (with_reducible first | exact HB.out | apply below_alloc | apply pw_below_drewN | apply below_drew1) | exact HB.out))); (case aO => exact (Kd.own_of_R (by (with_reducible repeat (first | apply Kd.R_alloc | apply Kd.R_drewN | apply Kd.R_drew)); exact HO_3.out))); (case aS => exact (below_size (by repeat (first | (with_reducible first | exact HB.out | apply below_alloc | apply pw_below_drewN | apply below_drew1) | exact HB.out)))); (case aL => have := LMc9.out; first | omega | exact this | exact Nat.le_of_lt this); intro v105 w10 ho0 hb hg; have ho := Kd.R_of_own (h1 := fun _ => rfl) (ok := fun _ => True) ho0 (fun _ _ => trivial); clear ho0; have hat := True.intro; rw [← Ny104.out] at ho; change Kd.R (Kd.int .u8) 5 w10 w.heap.size (fun _ => True) v105 y104 at ho; have n0_ := Aside0.mk (hb); have n1_ := Aside0.mk (ho); clear HB; clear HO_3; have HB := n0_; have HO106 := n1_; clear n0_ n1_; clear ho hb hg hat))
                go_roundg k1
                case measure => have := HK1.out; omega
                case rel => exact ⟨(y104), (wrap64 (x4_1 + 1)), (by first | rfl | (simp; done) | (simp [*]; done)), H', ⟨by have := HK1.out; omega⟩, ⟨by (with_reducible repeat (first | apply Kd.R_alloc | apply Kd.R_drewN | apply Kd.R_drew)); exact HO106.out⟩, ⟨by repeat (first | (with_reducible first | exact HB.out | apply below_alloc | apply pw_below_drewN | apply below_drew1) | exact HB.out)⟩⟩
              · rw [if_neg c9] at H
                exact absurd H (by simp)
            · rw [if_neg c8] at H
              have c8b0 : ((bt a0 x4_1) == 62) = false := beq_eq_false_iff_ne.mpr c8
              have c8b1 : ((bt a0 x4_1) != 62) = true := bne_iff_ne.mpr c8
              by_cases c11 : (bt a0 x4_1) = 38
              · rw [if_pos c11] at H
                have c11b0 : ((bt a0 x4_1) == 38) = true := beq_iff_eq.mpr c11
                have c11b1 : ((bt a0 x4_1) != 38) = false := bne_eq_false_iff_eq.mpr c11
                clear c11
                by_cases c12 : x3_1.length + 5 < 140737488355328
                · rw [if_pos c12] at H
                  have LMc12 := Aside0.mk c12
                  clear c12
                  obtain ⟨y107, hy107⟩ : ∃ y_ : List Int, y_ = (x3_1 ++ bytesOf (⟨#[38, 97, 109, 112, 59]⟩ : ByteArray)) := ⟨_, rfl⟩
                  replace H : (table_zzEscape.l0 k1 a0 y107 (wrap64 (x4_1 + 1))) = some r := by first | (rw [hy107]; with_reducible exact H) | (have H2_ := (Option.bind_some _ _).symm.trans H; rw [hy107]; with_reducible exact H2_) | (have H2_ := (Option.bind_some _ _).symm.trans H; with_reducible exact H2_) | with_reducible exact H | (rw [hy107]; exact H) | exact H
                  have Ny107 := Aside0.mk hy107
                  clear hy107
                  have H' := Aside0.mk H
                  clear H
                  have p4 : 0 ≤ (x4_1 : Int) := of_decide_eq_true (by first | (with_reducible assumption) | assumption)
                  have q4 : x4_1 < (a0.size : Int) := of_decide_eq_true (by first | (with_reducible assumption) | assumption)
                  have hx4 := bt_at a0 x4_1
                  replace p4 := eq_true p4
                  replace q4 := eq_true q4
                  go_wp2_with (first | (at_builtin; refine print_append_str (w0 := w) w.heap.size rfl (.tmp 30) _ 28 9 5 rfl Tryz.underlying28 Tryz.underlying9 info5 u3 x3_1 (⟨#[38, 97, 109, 112, 59]⟩ : ByteArray) rfl rfl ?aO ?aB ?aS ?aL ?_; (case aB => exact (by repeat (first | (with_reducible first | exact HB.out | apply below_alloc | apply pw_below_drewN | apply below_drew1) | exact HB.out))); (case aO => exact (Kd.own_of_R (by (with_reducible repeat (first | apply Kd.R_alloc | apply Kd.R_drewN | apply Kd.R_drew)); exact HO_3.out))); (case aS => exact (below_size (by repeat (first | (with_reducible first | exact HB.out | apply below_alloc | apply pw_below_drewN | apply below_drew1) | exact HB.out)))); (case aL => have := LMc12.out; first | omega | exact this | exact Nat.le_of_lt this); intro v108 w13 ho0 hb hg; have ho := Kd.R_of_own (h1 := fun _ => rfl) (ok := fun _ => True) ho0 (fun _ _ => trivial); clear ho0; have hat := True.intro; rw [← Ny107.out] at ho; change Kd.R (Kd.int .u8) 5 w13 w.heap.size (fun _ => True) v108 y107 at ho; have n0_ := Aside0.mk (hb); have n1_ := Aside0.mk (ho); clear HB; clear HO_3; have HB := n0_; have HO109 := n1_; clear n0_ n1_; clear ho hb hg hat))
                  go_roundg k1
                  case measure => have := HK1.out; omega
                  case rel => exact ⟨(y107), (wrap64 (x4_1 + 1)), (by first | rfl | (simp; done) | (simp [*]; done)), H', ⟨by have := HK1.out; omega⟩, ⟨by (with_reducible repeat (first | apply Kd.R_alloc | apply Kd.R_drewN | apply Kd.R_drew)); exact HO109.out⟩, ⟨by repeat (first | (with_reducible first | exact HB.out | apply below_alloc | apply pw_below_drewN | apply below_drew1) | exact HB.out)⟩⟩
                · rw [if_neg c12] at H
                  exact absurd H (by simp)
              · rw [if_neg c11] at H
                have c11b0 : ((bt a0 x4_1) == 38) = false := beq_eq_false_iff_ne.mpr c11
                have c11b1 : ((bt a0 x4_1) != 38) = true := bne_iff_ne.mpr c11
                by_cases c14 : (bt a0 x4_1) = 39
                · rw [if_pos c14] at H
                  have c14b0 : ((bt a0 x4_1) == 39) = true := beq_iff_eq.mpr c14
                  have c14b1 : ((bt a0 x4_1) != 39) = false := bne_eq_false_iff_eq.mpr c14
                  clear c14
                  by_cases c15 : x3_1.length + 5 < 140737488355328
                  · rw [if_pos c15] at H
                    have LMc15 := Aside0.mk c15
                    clear c15
                    obtain ⟨y110, hy110⟩ : ∃ y_ : List Int, y_ = (x3_1 ++ bytesOf (⟨#[38, 35, 51, 57, 59]⟩ : ByteArray)) := ⟨_, rfl⟩
                    replace H : (table_zzEscape.l0 k1 a0 y110 (wrap64 (x4_1 + 1))) = some r := by first | (rw [hy110]; with_reducible exact H) | (have H2_ := (Option.bind_some _ _).symm.trans H; rw [hy110]; with_reducible exact H2_) | (have H2_ := (Option.bind_some _ _).symm.trans H; with_reducible exact H2_) | with_reducible exact H | (rw [hy110]; exact H) | exact H
                    have Ny110 := Aside0.mk hy110
                    clear hy110
                    have H' := Aside0.mk H
                    clear H
                    have p4 : 0 ≤ (x4_1 : Int) := of_decide_eq_true (by first | (with_reducible assumption) | assumption)
                    have q4 : x4_1 < (a0.size : Int) := of_decide_eq_true (by first | (with_reducible assumption) | assumption)
                    have hx4 := bt_at a0 x4_1
                    replace p4 := eq_true p4
                    replace q4 := eq_true q4
                    go_wp2_with (first | (at_builtin; refine print_append_str (w0 := w) w.heap.size rfl (.tmp 34) _ 28 9 5 rfl Tryz.underlying28 Tryz.underlying9 info5 u3 x3_1 (⟨#[38, 35, 51, 57, 59]⟩ : ByteArray) rfl rfl ?aO ?aB ?aS ?aL ?_; (case aB => exact (by repeat (first | (with_reducible first | exact HB.out | apply below_alloc | apply pw_below_drewN | apply below_drew1) | exact HB.out))); (case aO => exact (Kd.own_of_R (by (with_reducible repeat (first | apply Kd.R_alloc | apply Kd.R_drewN | apply Kd.R_drew)); exact HO_3.out))); (case aS => exact (below_size (by repeat (first | (with_reducible first | exact HB.out | apply below_alloc | apply pw_below_drewN | apply below_drew1) | exact HB.out)))); (case aL => have := LMc15.out; first | omega | exact this | exact Nat.le_of_lt this); intro v111 w16 ho0 hb hg; have ho := Kd.R_of_own (h1 := fun _ => rfl) (ok := fun _ => True) ho0 (fun _ _ => trivial); clear ho0; have hat := True.intro; rw [← Ny110.out] at ho; change Kd.R (Kd.int .u8) 5 w16 w.heap.size (fun _ => True) v111 y110 at ho; have n0_ := Aside0.mk (hb); have n1_ := Aside0.mk (ho); clear HB; clear HO_3; have HB := n0_; have HO112 := n1_; clear n0_ n1_; clear ho hb hg hat))
                    go_roundg k1
                    case measure => have := HK1.out; omega
                    case rel => exact ⟨(y110), (wrap64 (x4_1 + 1)), (by first | rfl | (simp; done) | (simp [*]; done)), H', ⟨by have := HK1.out; omega⟩, ⟨by (with_reducible repeat (first | apply Kd.R_alloc | apply Kd.R_drewN | apply Kd.R_drew)); exact HO112.out⟩, ⟨by repeat (first | (with_reducible first | exact HB.out | apply below_alloc | apply pw_below_drewN | apply below_drew1) | exact HB.out)⟩⟩
                  · rw [if_neg c15] at H
                    exact absurd H (by simp)
                · rw [if_neg c14] at H
                  have c14b0 : ((bt a0 x4_1) == 39) = false := beq_eq_false_iff_ne.mpr c14
                  have c14b1 : ((bt a0 x4_1) != 39) = true := bne_iff_ne.mpr c14
                  by_cases c17 : (bt a0 x4_1) = 34
                  · rw [if_pos c17] at H
                    have c17b0 : ((bt a0 x4_1) == 34) = true := beq_iff_eq.mpr c17
                    have c17b1 : ((bt a0 x4_1) != 34) = false := bne_eq_false_iff_eq.mpr c17
                    clear c17
                    by_cases c18 : x3_1.length + 5 < 140737488355328
                    · rw [if_pos c18] at H
                      have LMc18 := Aside0.mk c18
                      clear c18
                      obtain ⟨y113, hy113⟩ : ∃ y_ : List Int, y_ = (x3_1 ++ bytesOf (⟨#[38, 35, 51, 52, 59]⟩ : ByteArray)) := ⟨_, rfl⟩
                      replace H : (table_zzEscape.l0 k1 a0 y113 (wrap64 (x4_1 + 1))) = some r := by first | (rw [hy113]; with_reducible exact H) | (have H2_ := (Option.bind_some _ _).symm.trans H; rw [hy113]; with_reducible exact H2_) | (have H2_ := (Option.bind_some _ _).symm.trans H; with_reducible exact H2_) | with_reducible exact H | (rw [hy113]; exact H) | exact H
                      have Ny113 := Aside0.mk hy113
                      clear hy113
                      have H' := Aside0.mk H
                      clear H
                      have p4 : 0 ≤ (x4_1 : Int) := of_decide_eq_true (by first | (with_reducible assumption) | assumption)
                      have q4 : x4_1 < (a0.size : Int) := of_decide_eq_true (by first | (with_reducible assumption) | assumption)
                      have hx4 := bt_at a0 x4_1
                      replace p4 := eq_true p4
                      replace q4 := eq_true q4
                      go_wp2_with (first | (at_builtin; refine print_append_str (w0 := w) w.heap.size rfl (.tmp 38) _ 28 9 5 rfl Tryz.underlying28 Tryz.underlying9 info5 u3 x3_1 (⟨#[38, 35, 51, 52, 59]⟩ : ByteArray) rfl rfl ?aO ?aB ?aS ?aL ?_; (case aB => exact (by repeat (first | (with_reducible first | exact HB.out | apply below_alloc | apply pw_below_drewN | apply below_drew1) | exact HB.out))); (case aO => exact (Kd.own_of_R (by (with_reducible repeat (first | apply Kd.R_alloc | apply Kd.R_drewN | apply Kd.R_drew)); exact HO_3.out))); (case aS => exact (below_size (by repeat (first | (with_reducible first | exact HB.out | apply below_alloc | apply pw_below_drewN | apply below_drew1) | exact HB.out)))); (case aL => have := LMc18.out; first | omega | exact this | exact Nat.le_of_lt this); intro v114 w19 ho0 hb hg; have ho := Kd.R_of_own (h1 := fun _ => rfl) (ok := fun _ => True) ho0 (fun _ _ => trivial); clear ho0; have hat := True.intro; rw [← Ny113.out] at ho; change Kd.R (Kd.int .u8) 5 w19 w.heap.size (fun _ => True) v114 y113 at ho; have n0_ := Aside0.mk (hb); have n1_ := Aside0.mk (ho); clear HB; clear HO_3; have HB := n0_; have HO115 := n1_; clear n0_ n1_; clear ho hb hg hat))
                      go_roundg k1
                      case measure => have := HK1.out; omega
                      case rel => exact ⟨(y113), (wrap64 (x4_1 + 1)), (by first | rfl | (simp; done) | (simp [*]; done)), H', ⟨by have := HK1.out; omega⟩, ⟨by (with_reducible repeat (first | apply Kd.R_alloc | apply Kd.R_drewN | apply Kd.R_drew)); exact HO115.out⟩, ⟨by repeat (first | (with_reducible first | exact HB.out | apply below_alloc | apply pw_below_drewN | apply below_drew1) | exact HB.out)⟩⟩
                    · rw [if_neg c18] at H
                      exact absurd H (by simp)
                  · rw [if_neg c17] at H
                    have c17b0 : ((bt a0 x4_1) == 34) = false := beq_eq_false_iff_ne.mpr c17
                    have c17b1 : ((bt a0 x4_1) != 34) = true := bne_iff_ne.mpr c17
                    by_cases c21 : x3_1.length < 140737488355328
                    · rw [if_pos c21] at H
                      have LMc21 := Aside0.mk c21
                      clear c21
                      obtain ⟨y116, hy116⟩ : ∃ y_ : List Int, y_ = (x3_1 ++ [bt a0 x4_1]) := ⟨_, rfl⟩
                      replace H : (table_zzEscape.l0 k1 a0 y116 (wrap64 (x4_1 + 1))) = some r := by first | (rw [hy116]; with_reducible exact H) | (have H2_ := (Option.bind_some _ _).symm.trans H; rw [hy116]; with_reducible exact H2_) | (have H2_ := (Option.bind_some _ _).symm.trans H; with_reducible exact H2_) | with_reducible exact H | (rw [hy116]; exact H) | exact H
                      have Ny116 := Aside0.mk hy116
                      clear hy116
                      have H' := Aside0.mk H
                      clear H
                      have p4 : 0 ≤ (x4_1 : Int) := of_decide_eq_true (by first | (with_reducible assumption) | assumption)
                      have q4 : x4_1 < (a0.size : Int) := of_decide_eq_true (by first | (with_reducible assumption) | assumption)
                      have hx4 := bt_at a0 x4_1
                      replace p4 := eq_true p4
                      replace q4 := eq_true q4
                      have p20 : 0 ≤ (x4_1 : Int) := of_decide_eq_true (by first | (with_reducible assumption) | assumption)
                      have q20 : x4_1 < (a0.size : Int) := of_decide_eq_true (by first | (with_reducible assumption) | assumption)
                      have hx20 := bt_at a0 x4_1
                      replace p20 := eq_true p20
                      replace q20 := eq_true q20
                      go_wp2_with (first | ((with_reducible refine gate_builtin (b := .append) (xs := #[.tmp 14, .tmp 18]) rfl ?_); at_builtin; refine Kd.R_append (Kd.int .u8) (w0 := w) w.heap.size rfl (.tmp 14) (.tmp 18) 28 5 (.int .u8 0) 1 rfl Tryz.underlying28 info5 rfl (by decide) (by omega) u3 x3_1 (bt a0 x4_1) [.int .u8 (bt a0 x4_1)] (fun _ => True) (fun _ => False) rfl rfl ?aP (fun _ hk => hk.elim) ?aF ?aO ?aB ?aS ?aL ?_; (case aP => exact rfl); (case aB => exact (by repeat (first | (with_reducible first | exact HB.out | apply below_alloc | apply pw_below_drewN | apply below_drew1) | exact HB.out))); (case aF => exact (fun _ _ => trivial)); (case aO => exact (by (with_reducible repeat (first | apply Kd.R_alloc | apply Kd.R_drewN | apply Kd.R_drew)); exact HO_3.out)); (case aS => exact (below_size (by repeat (first | (with_reducible first | exact HB.out | apply below_alloc | apply pw_below_drewN | apply below_drew1) | exact HB.out)))); (case aL => have := LMc21.out; first | omega | exact this | exact Nat.le_of_lt this); intro v117 w22 ho hb hg hat; rw [← Ny116.out] at ho; have n0_ := Aside0.mk (hb); have n1_ := Aside0.mk (ho); clear HB; clear HO_3; have HB := n0_; have HO118 := n1_; clear n0_ n1_; clear ho hb hg hat))
                      go_roundg k1
                      case measure => have := HK1.out; omega
                      case rel => exact ⟨(y116), (wrap64 (x4_1 + 1)), (by first | rfl | (simp; done) | (simp [*]; done)), H', ⟨by have := HK1.out; omega⟩, ⟨by (with_reducible repeat (first | apply Kd.R_alloc | apply Kd.R_drewN | apply Kd.R_drew)); exact HO118.out⟩, ⟨by repeat (first | (with_reducible first | exact HB.out | apply below_alloc | apply pw_below_drewN | apply below_drew1) | exact HB.out)⟩⟩
                    · rw [if_neg c21] at H
                      exact absurd H (by simp)
        · rw [if_neg c3] at H
          exact absurd H (by simp)
      · rw [if_neg c2] at H
        have c2b0 : decide (x4_1 < (a0.size : Int)) = false := decide_eq_false c2
        clear c2
        obtain rfl := Option.some.inj H
        have hcv23 := own_string (P := Tryz.prog) Tryz.underlying28 Tryz.underlying5 Tryz.underlying9 (Kd.own_of_R HO_3.out)
        go_wp2
        go_ret
        exact ⟨by first | rfl | (simp [errW_none, errW_some] <;> rfl) | (simp [*, errW_none, errW_some] <;> rfl), by repeat (first | (with_reducible first | exact HB.out | apply below_alloc | apply pw_below_drewN | apply below_drew1) | exact HB.out)⟩

/-! ### table_zzIndex: function 14 -/
def table_zzIndex.l0 : Nat → ByteArray → ByteArray → Int → Option (Int)
  | 0, _, _, _ => none
  | k + 1, x0, x1, x5 => if (wrap64 (x5 + (x1.size : Int))) ≤ (x0.size : Int) then (if 0 ≤ x5 then (if x5 ≤ (wrap64 (x5 + (x1.size : Int))) then (if (x0.extract (x5 : Int).toNat ((wrap64 (x5 + (x1.size : Int))) : Int).toNat).toList = x1.toList then (some x5) else (table_zzIndex.l0 k x0 x1 (wrap64 (x5 + 1)))) else (none)) else (none)) else (some (-1))
def table_zzIndex.f (k : Nat) (a0 : ByteArray) (a1 : ByteArray) : Option (Int) := table_zzIndex.l0 k a0 a1 0
theorem table_zzIndex.mono_l : ∀ k, (∀ y0 y1 y2, LeO (table_zzIndex.l0 k y0 y1 y2) (table_zzIndex.l0 (k + 1) y0 y1 y2))
  | 0 => fun _ _ _ r h => by simp [table_zzIndex.l0] at h
  | k + 1 => by
    have ih0 := table_zzIndex.mono_l k
    · intro y0 y1 y2
      unfold table_zzIndex.l0
      repeat' first
      | (with_reducible exact ih0 _ _ _)
      | (with_reducible exact LeO.refl _)
      | (with_reducible exact LeO.none _)
      | (with_reducible refine LeO.ite ?_ ?_)
      | (with_reducible refine LeO.bind ?_ (fun _ => ?_))
      | exact ih0 _ _ _
      | exact LeO.none _
      | refine LeO.ite ?_ ?_
      | refine LeO.bind ?_ (fun _ => ?_)
theorem table_zzIndex.mono : ∀ a0 a1 k, LeO (table_zzIndex.f k a0 a1) (table_zzIndex.f (k + 1) a0 a1) := by
  intro a0 a1 k
  have ih0 := table_zzIndex.mono_l k
  unfold table_zzIndex.f
  repeat' first
      | (with_reducible exact ih0 _ _ _)
      | (with_reducible exact LeO.refl _)
      | (with_reducible exact LeO.none _)
      | (with_reducible refine LeO.ite ?_ ?_)
      | (with_reducible refine LeO.bind ?_ (fun _ => ?_))
      | exact ih0 _ _ _
      | exact LeO.none _
      | refine LeO.ite ?_ ?_
      | refine LeO.bind ?_ (fun _ => ?_)
set_option maxHeartbeats 8000000 in
set_option maxRecDepth 100000 in
theorem table_zzIndex.calls (k : Nat) (a0 : ByteArray) (a1 : ByteArray) (r : Int) (w : World) (h : table_zzIndex.f k a0 a1 = some r) :
    Calls Tryz.prog 14 #[.string a0, .string a1] w fun e w' => e = .returned (.int .i64 r) ∧ Drawn0 w w' := by
  have H : (table_zzIndex.l0 k a0 a1 0) = some r := h
  clear h
  have H' := Aside0.mk H
  clear H
  go_enter Tryz.func14, Tryz.ntmps14
  go_wp2
  (try simp only [Act.put, List.setIfInBounds_toArray, List.set_cons_zero, List.set_cons_succ])
  go_loopg [5] k (fun kq v5 w' => ∃ (x5_1 : Int), v5 = .int .i64 x5_1 ∧ Aside0 (table_zzIndex.l0 kq a0 a1 x5_1 = some r) ∧ Aside0 (kq ≤ k) ∧ Drawn0 w w')
  case atStart => exact ⟨(0), (by first | rfl | (simp; done) | (simp [*]; done)), H', ⟨Nat.le_refl _⟩, by repeat (first | exact Drawn0.refl _ | apply Drawn0.step)⟩
  case round =>
    clear H'
    try clear c1
    try clear p2
    obtain ⟨x5_1, rfl, HA, HK1, ⟨m1, rfl⟩⟩ := hrel
    cases gk with
    | zero => exact absurd HA.out (by simp [table_zzIndex.l0])
    | succ k1 =>
      have H := HA.out
      clear HA
      simp only [table_zzIndex.l0] at H
      by_cases c3 : (wrap64 (x5_1 + (a1.size : Int))) ≤ (a0.size : Int)
      · rw [if_pos c3] at H
        have c3b0 : decide ((wrap64 (x5_1 + (a1.size : Int))) ≤ (a0.size : Int)) = true := decide_eq_true c3
        clear c3
        by_cases c4 : 0 ≤ x5_1
        · rw [if_pos c4] at H
          have c4b0 := eq_true c4
          have c4b1 : decide (0 ≤ x5_1) = true := decide_eq_true c4
          clear c4
          by_cases c5 : x5_1 ≤ (wrap64 (x5_1 + (a1.size : Int)))
          · rw [if_pos c5] at H
            have c5b0 := eq_true c5
            have c5b1 : decide (x5_1 ≤ (wrap64 (x5_1 + (a1.size : Int)))) = true := decide_eq_true c5
            have c6b0 := eq_true (of_decide_eq_true (by first | (with_reducible assumption) | assumption) : (wrap64 (x5_1 + (a1.size : Int))) ≤ (a0.size : Int))
            by_cases c7 : (a0.extract (x5_1 : Int).toNat ((wrap64 (x5_1 + (a1.size : Int))) : Int).toNat).toList = a1.toList
            · rw [if_pos c7] at H
              have c7b0 : ((a0.extract (x5_1 : Int).toNat ((wrap64 (x5_1 + (a1.size : Int))) : Int).toNat).toList == a1.toList) = true := beq_iff_eq.mpr c7
              have c7b1 : ((a0.extract (x5_1 : Int).toNat ((wrap64 (x5_1 + (a1.size : Int))) : Int).toNat).toList != a1.toList) = false := bne_eq_false_iff_eq.mpr c7
              clear c7
              obtain rfl := Option.some.inj H
              go_wp2
              go_ret
              exact ⟨by first | rfl | (simp; done) | (simp [*]; done), by repeat (first | exact Drawn0.refl _ | apply Drawn0.step)⟩
            · rw [if_neg c7] at H
              have c7b0 : ((a0.extract (x5_1 : Int).toNat ((wrap64 (x5_1 + (a1.size : Int))) : Int).toNat).toList == a1.toList) = false := beq_eq_false_iff_ne.mpr c7
              have c7b1 : ((a0.extract (x5_1 : Int).toNat ((wrap64 (x5_1 + (a1.size : Int))) : Int).toNat).toList != a1.toList) = true := bne_iff_ne.mpr c7
              have H' := Aside0.mk H
              clear H
              go_wp2
              go_roundg k1
              case measure => have := HK1.out; omega
              case rel => exact ⟨(wrap64 (x5_1 + 1)), (by first | rfl | (simp; done) | (simp [*]; done)), H', ⟨by have := HK1.out; omega⟩, by repeat (first | exact Drawn0.refl _ | apply Drawn0.step)⟩
          · rw [if_neg c5] at H
            exact absurd H (by simp)
        · rw [if_neg c4] at H
          exact absurd H (by simp)
      · rw [if_neg c3] at H
        have c3b0 : decide ((wrap64 (x5_1 + (a1.size : Int))) ≤ (a0.size : Int)) = false := decide_eq_false c3
        clear c3
        obtain rfl := Option.some.inj H
        go_wp2
        go_ret
        exact ⟨by first | rfl | (simp; done) | (simp [*]; done), by repeat (first | exact Drawn0.refl _ | apply Drawn0.step)⟩

/-! ### table_zzReplaceAll: function 10 -/
mutual
def table_zzReplaceAll.l0 : Nat → ByteArray → ByteArray → List Int → Int → ByteArray → Int → Option (ByteArray)
  | 0, _, _, _, _, _, _ => none
  | k + 1, x0, x2, x7, x8, x125000, x125001 => if x125001 < (x125000.size : Int) then ((itr_more.f x125000 x125001).bind fun bt125 => (if bt125.1 > 0 then (if 0 ≤ x8 then (if x8 ≤ bt125.1 then (if bt125.1 ≤ (x0.size : Int) then (if x7.length + (x0.extract (x8 : Int).toNat (bt125.1 : Int).toNat).size < 140737488355328 then ((some (x7 ++ bytesOf (x0.extract (x8 : Int).toNat (bt125.1 : Int).toNat) : List Int)).bind fun y128 => (if y128.length + x2.size < 140737488355328 then (table_zzReplaceAll.l0 k x0 x2 (y128 ++ bytesOf x2) bt125.1 x125000 bt125.2.2) else (none))) else (none)) else (none)) else (none)) else (none)) else (table_zzReplaceAll.l0 k x0 x2 x7 x8 x125000 bt125.2.2))) else ((itr_end.f x125000 x125001).bind fun t134 => (if (x0.size : Int) > 0 then (if 0 ≤ x8 then (if x8 ≤ (x0.size : Int) then (if x7.length + (x0.extract (x8 : Int).toNat x0.size).size < 140737488355328 then ((some (x7 ++ bytesOf (x0.extract (x8 : Int).toNat x0.size) : List Int)).bind fun y135 => (if y135.length + x2.size < 140737488355328 then (some (strOfNums (y135 ++ bytesOf x2))) else (none))) else (none)) else (none)) else (none)) else (some (strOfNums x7))))
def table_zzReplaceAll.l1 : Nat → ByteArray → ByteArray → ByteArray → List Int → Option (ByteArray)
  | 0, _, _, _, _ => none
  | k + 1, x0, x1, x2, x7 => (table_zzIndex.f k x0 x1).bind fun t141 => (if t141 < 0 then (if x7.length + x0.size < 140737488355328 then (some (strOfNums (x7 ++ bytesOf x0))) else (none)) else (if 0 ≤ t141 then (if t141 ≤ (x0.size : Int) then (if x7.length + (x0.extract 0 (t141 : Int).toNat).size < 140737488355328 then ((some (x7 ++ bytesOf (x0.extract 0 (t141 : Int).toNat) : List Int)).bind fun y145 => (if y145.length + x2.size < 140737488355328 then (if 0 ≤ (wrap64 (t141 + (x1.size : Int))) then (if (wrap64 (t141 + (x1.size : Int))) ≤ (x0.size : Int) then (table_zzReplaceAll.l1 k (x0.extract ((wrap64 (t141 + (x1.size : Int))) : Int).toNat x0.size) x1 x2 (y145 ++ bytesOf x2)) else (none)) else (none)) else (none))) else (none)) else (none)) else (none)))
end
def table_zzReplaceAll.f (k : Nat) (a0 : ByteArray) (a1 : ByteArray) (a2 : ByteArray) : Option (ByteArray) := if (a1.size : Int) = 0 then (if ([] : List Int).length + a2.size < 140737488355328 then ((itr_make.f a0).bind fun bt122 => (table_zzReplaceAll.l0 k a0 a2 (([] : List Int) ++ bytesOf a2) 0 bt122.1 bt122.2)) else (none)) else (table_zzReplaceAll.l1 k a0 a1 a2 ([] : List Int))
theorem table_zzReplaceAll.mono_l : ∀ k, (∀ y0 y1 y2 y3 y4 y5, LeO (table_zzReplaceAll.l0 k y0 y1 y2 y3 y4 y5) (table_zzReplaceAll.l0 (k + 1) y0 y1 y2 y3 y4 y5)) ∧ (∀ y0 y1 y2 y3, LeO (table_zzReplaceAll.l1 k y0 y1 y2 y3) (table_zzReplaceAll.l1 (k + 1) y0 y1 y2 y3))
  | 0 => ⟨fun _ _ _ _ _ _ r h => by simp [table_zzReplaceAll.l0] at h, fun _ _ _ _ r h => by simp [table_zzReplaceAll.l1] at h⟩
  | k + 1 => by
    obtain ⟨ih0, ih1⟩ := table_zzReplaceAll.mono_l k
    refine ⟨?_, ?_⟩
    · intro y0 y1 y2 y3 y4 y5
      unfold table_zzReplaceAll.l0
      repeat' first
      | (with_reducible exact ih0 _ _ _ _ _ _)
      | (with_reducible exact ih1 _ _ _ _)
      | (with_reducible exact table_zzIndex.mono _ _ _)
      | (with_reducible exact LeO.refl _)
      | (with_reducible exact LeO.none _)
      | (with_reducible refine LeO.ite ?_ ?_)
      | (with_reducible refine LeO.bind ?_ (fun _ => ?_))
      | exact ih0 _ _ _ _ _ _
      | exact ih1 _ _ _ _
      | exact table_zzIndex.mono _ _ _
      | exact LeO.none _
      | refine LeO.ite ?_ ?_
      | refine LeO.bind ?_ (fun _ => ?_)
    · intro y0 y1 y2 y3
      unfold table_zzReplaceAll.l1
      repeat' first
      | (with_reducible exact ih0 _ _ _ _ _ _)
      | (with_reducible exact ih1 _ _ _ _)
      | (with_reducible exact table_zzIndex.mono _ _ _)
      | (with_reducible exact LeO.refl _)
      | (with_reducible exact LeO.none _)
      | (with_reducible refine LeO.ite ?_ ?_)
      | (with_reducible refine LeO.bind ?_ (fun _ => ?_))
      | exact ih0 _ _ _ _ _ _
      | exact ih1 _ _ _ _
      | exact table_zzIndex.mono _ _ _
      | exact LeO.none _
      | refine LeO.ite ?_ ?_
      | refine LeO.bind ?_ (fun _ => ?_)
theorem table_zzReplaceAll.mono : ∀ a0 a1 a2 k, LeO (table_zzReplaceAll.f k a0 a1 a2) (table_zzReplaceAll.f (k + 1) a0 a1 a2) := by
  intro a0 a1 a2 k
  obtain ⟨ih0, ih1⟩ := table_zzReplaceAll.mono_l k
  unfold table_zzReplaceAll.f
  repeat' first
      | (with_reducible exact ih0 _ _ _ _ _ _)
      | (with_reducible exact ih1 _ _ _ _)
      | (with_reducible exact table_zzIndex.mono _ _ _)
      | (with_reducible exact LeO.refl _)
      | (with_reducible exact LeO.none _)
      | (with_reducible refine LeO.ite ?_ ?_)
      | (with_reducible refine LeO.bind ?_ (fun _ => ?_))
      | exact ih0 _ _ _ _ _ _
      | exact ih1 _ _ _ _
      | exact table_zzIndex.mono _ _ _
      | exact LeO.none _
      | refine LeO.ite ?_ ?_
      | refine LeO.bind ?_ (fun _ => ?_)
set_option maxHeartbeats 8000000 in
set_option maxRecDepth 100000 in
theorem table_zzReplaceAll.calls (k : Nat) (a0 : ByteArray) (a1 : ByteArray) (a2 : ByteArray) (r : ByteArray) (w : World) (h : table_zzReplaceAll.f k a0 a1 a2 = some r) :
    Calls Tryz.prog 10 #[.string a0, .string a1, .string a2] w fun e w' => e = .returned (.string r) ∧ Below w.heap.size w w' := by
  have HB := Aside0.mk (Below.refl w.heap.size w)
  have H : (if (a1.size : Int) = 0 then (if ([] : List Int).length + a2.size < 140737488355328 then ((itr_make.f a0).bind fun bt122 => (table_zzReplaceAll.l0 k a0 a2 (([] : List Int) ++ bytesOf a2) 0 bt122.1 bt122.2)) else (none)) else (table_zzReplaceAll.l1 k a0 a1 a2 ([] : List Int))) = some r := h
  clear h
  by_cases c4 : (a1.size : Int) = 0
  · rw [if_pos c4] at H
    have c4b0 : ((a1.size : Int) == 0) = true := beq_iff_eq.mpr c4
    have c4b1 : ((a1.size : Int) != 0) = false := bne_eq_false_iff_eq.mpr c4
    clear c4
    by_cases c5 : ([] : List Int).length + a2.size < 140737488355328
    · rw [if_pos c5] at H
      have LMc5 := Aside0.mk c5
      clear c5
      obtain ⟨y119, hy119⟩ : ∃ y_ : List Int, y_ = (([] : List Int) ++ bytesOf a2) := ⟨_, rfl⟩
      replace H : ((itr_make.f a0).bind fun bt122 => (table_zzReplaceAll.l0 k a0 a2 y119 0 bt122.1 bt122.2)) = some r := by first | (rw [hy119]; with_reducible exact H) | (have H2_ := (Option.bind_some _ _).symm.trans H; rw [hy119]; with_reducible exact H2_) | (have H2_ := (Option.bind_some _ _).symm.trans H; with_reducible exact H2_) | with_reducible exact H | (rw [hy119]; exact H) | exact H
      have Ny119 := Aside0.mk hy119
      clear hy119
      replace H := Option.bind_eq_some_iff.mp H
      obtain ⟨⟨t122, t123⟩, A60, H⟩ := H
      replace H : (table_zzReplaceAll.l0 k a0 a2 y119 0 t122 t123) = some r := H
      have A6 := Aside0.mk A60
      clear A60
      have H' := Aside0.mk H
      clear H
      go_enter Tryz.func10, Tryz.ntmps10
      go_wp2_with (first | (at_builtin; refine print_append_str (w0 := w) w.heap.size rfl (.tmp 14) _ 28 9 5 rfl Tryz.underlying28 Tryz.underlying9 info5 (.slice none 0 0) ([] : List Int) a2 rfl rfl ?aO ?aB ?aS ?aL ?_; (case aB => exact (by repeat (first | (with_reducible first | exact HB.out | apply below_alloc | apply pw_below_drewN | apply below_drew1) | exact HB.out))); (case aO => exact (own_nil _ _ _ _)); (case aS => exact (below_size (by repeat (first | (with_reducible first | exact HB.out | apply below_alloc | apply pw_below_drewN | apply below_drew1) | exact HB.out)))); (case aL => have := LMc5.out; first | omega | exact this | exact Nat.le_of_lt this); intro v120 w7 ho0 hb hg; have ho := Kd.R_of_own (h1 := fun _ => rfl) (ok := fun _ => True) ho0 (fun _ _ => trivial); clear ho0; have hat := True.intro; rw [← Ny119.out] at ho; change Kd.R (Kd.int .u8) 5 w7 w.heap.size (fun _ => True) v120 y119 at ho; have n0_ := Aside0.mk (hb); have n1_ := Aside0.mk (ho); clear HB; have HB := n0_; have HO121 := n1_; clear n0_ n1_; clear ho hb hg hat) | ((with_reducible refine gate_dst (N := 18) rfl ?_); refine rangeL_ (some 18) rfl rfl rfl Tryz.underlying9 a0 rfl ?_; (with_reducible refine (itr_make.calls a0 t122 t123 w _ ?side1 A6.out).mono ?_); (case side1 => repeat (first | (with_reducible first | exact HB.out | apply below_alloc | apply pw_below_drewN | apply below_drew1) | exact HB.out)); rintro e w8 ⟨g124, rfl, hi, hb, hb2, hge⟩; refine ⟨_, rfl, ?_⟩; have n0_ := Aside0.mk (Kd.R_below (by (with_reducible repeat (first | apply Kd.R_alloc | apply Kd.R_drewN | apply Kd.R_drew)); exact HO121.out) hb2); have n1_ := Aside0.mk (hb); have n2_ := Aside0.mk (hi); clear HO121; clear HB; have HO121 := n0_; have HB := n1_; have HI124 := n2_; clear n0_ n1_ n2_; (try clear hb); (try clear hb2); (try clear hk); (try clear hi)))
      (try simp only [Act.put, List.setIfInBounds_toArray, List.set_cons_zero, List.set_cons_succ])
      go_loopg [7, 8] k (fun kq v7 v8 w' => ∃ (x7_1 : List Int) (x8_1 : Int) (x125001_1 : Int), v8 = .int .i64 x8_1 ∧ Aside0 (table_zzReplaceAll.l0 kq a0 a2 x7_1 x8_1 t122 x125001_1 = some r) ∧ Aside0 (kq ≤ k) ∧ Aside0 (Kd.R (Kd.int .u8) 5 w' w.heap.size (fun _ => True) v7 x7_1) ∧ Aside0 (IsS247 w w' g124 t122 x125001_1) ∧ Aside0 (Below w.heap.size w w'))
      case atStart => exact ⟨(y119), (0), (t123), (by first | rfl | (simp; done) | (simp [*]; done)), H', ⟨Nat.le_refl _⟩, ⟨by (with_reducible repeat (first | apply Kd.R_alloc | apply Kd.R_drewN | apply Kd.R_drew)); exact HO121.out⟩, ⟨by repeat (first | (with_reducible first | exact HI124.out | apply IsS247.alloc | apply IsS247.drewN | apply IsS247.drew | apply IsS247.set_1) | exact HI124.out)⟩, ⟨by repeat (first | (with_reducible first | exact HB.out | apply below_alloc | apply pw_below_drewN | apply below_drew1 | refine below_set ?_ (IsS247.ge HI124.out)) | exact HB.out)⟩⟩
      case round =>
        clear H'
        try clear c1
        try clear p2
        try clear c4
        try clear c4b0
        try clear c4b1
        try clear c5
        obtain ⟨x7_1, x8_1, x125001_1, rfl, HA, HK1, HO_7, HI124, HB⟩ := hrel
        cases gk with
        | zero => exact absurd HA.out (by simp [table_zzReplaceAll.l0])
        | succ k1 =>
          have H := HA.out
          clear HA
          simp only [table_zzReplaceAll.l0] at H
          by_cases c9 : x125001_1 < (t122.size : Int)
          · rw [if_pos c9] at H
            have c9b0 : decide (x125001_1 < (t122.size : Int)) = true := decide_eq_true c9
            clear c9
            replace H := Option.bind_eq_some_iff.mp H
            obtain ⟨⟨t125, t126, t127⟩, A100, H⟩ := H
            replace H : (if t125 > 0 then (if 0 ≤ x8_1 then (if x8_1 ≤ t125 then (if t125 ≤ (a0.size : Int) then (if x7_1.length + (a0.extract (x8_1 : Int).toNat (t125 : Int).toNat).size < 140737488355328 then ((some (x7_1 ++ bytesOf (a0.extract (x8_1 : Int).toNat (t125 : Int).toNat) : List Int)).bind fun y128 => (if y128.length + a2.size < 140737488355328 then (table_zzReplaceAll.l0 k1 a0 a2 (y128 ++ bytesOf a2) t125 t122 t127) else (none))) else (none)) else (none)) else (none)) else (none)) else (table_zzReplaceAll.l0 k1 a0 a2 x7_1 x8_1 t122 t127)) = some r := H
            have A10 := Aside0.mk A100
            clear A100
            by_cases c11 : t125 > 0
            · rw [if_pos c11] at H
              have c11b0 : decide (0 < t125) = true := decide_eq_true c11
              clear c11
              by_cases c12 : 0 ≤ x8_1
              · rw [if_pos c12] at H
                have c12b0 := eq_true c12
                have c12b1 : decide (0 ≤ x8_1) = true := decide_eq_true c12
                clear c12
                by_cases c13 : x8_1 ≤ t125
                · rw [if_pos c13] at H
                  have c13b0 := eq_true c13
                  have c13b1 : decide (x8_1 ≤ t125) = true := decide_eq_true c13
                  clear c13
                  by_cases c14 : t125 ≤ (a0.size : Int)
                  · rw [if_pos c14] at H
                    have c14b0 := eq_true c14
                    have c14b1 : decide (t125 ≤ (a0.size : Int)) = true := decide_eq_true c14
                    clear c14
                    by_cases c15 : x7_1.length + (a0.extract (x8_1 : Int).toNat (t125 : Int).toNat).size < 140737488355328
                    · rw [if_pos c15] at H
                      have LMc15 := Aside0.mk c15
                      clear c15
                      obtain ⟨y128, hy128⟩ : ∃ y_ : List Int, y_ = (x7_1 ++ bytesOf (a0.extract (x8_1 : Int).toNat (t125 : Int).toNat)) := ⟨_, rfl⟩
                      replace H : (if y128.length + a2.size < 140737488355328 then (table_zzReplaceAll.l0 k1 a0 a2 (y128 ++ bytesOf a2) t125 t122 t127) else (none)) = some r := by first | (rw [hy128]; with_reducible exact H) | (have H2_ := (Option.bind_some _ _).symm.trans H; rw [hy128]; with_reducible exact H2_) | (have H2_ := (Option.bind_some _ _).symm.trans H; with_reducible exact H2_) | with_reducible exact H | (rw [hy128]; exact H) | exact H
                      have Ny128 := Aside0.mk hy128
                      clear hy128
                      by_cases c16 : y128.length + a2.size < 140737488355328
                      · rw [if_pos c16] at H
                        have LMc16 := Aside0.mk c16
                        clear c16
                        obtain ⟨y131, hy131⟩ : ∃ y_ : List Int, y_ = (y128 ++ bytesOf a2) := ⟨_, rfl⟩
                        replace H : (table_zzReplaceAll.l0 k1 a0 a2 y131 t125 t122 t127) = some r := by first | (rw [hy131]; with_reducible exact H) | (have H2_ := (Option.bind_some _ _).symm.trans H; rw [hy131]; with_reducible exact H2_) | (have H2_ := (Option.bind_some _ _).symm.trans H; with_reducible exact H2_) | with_reducible exact H | (rw [hy131]; exact H) | exact H
                        have Ny131 := Aside0.mk hy131
                        clear hy131
                        have H' := Aside0.mk H
                        clear H
                        go_wp2_with (first | ((with_reducible refine gate_dst (N := 19) rfl ?_); refine nextL_ (some 19) rfl rfl rfl (.pointer (some ⟨g124, 0, none⟩)) rfl ?_; (with_reducible refine (itr_more.calls g124 t122 x125001_1 t125 t126 t127 w _ ?side1 ?side2 A10.out).mono ?_); (case side1 => repeat (first | (with_reducible first | exact HI124.out | apply IsS247.alloc | apply IsS247.drewN | apply IsS247.drew | apply IsS247.set_1) | exact HI124.out)); (case side2 => repeat (first | (with_reducible first | exact HB.out | apply below_alloc | apply pw_below_drewN | apply below_drew1 | refine below_set ?_ (IsS247.ge HI124.out)) | exact HB.out)); rintro e w17 ⟨rfl, hi, hb, hk⟩; refine ⟨_, rfl, ?_⟩; have n0_ := Aside0.mk (Kd.R_mono (Kd.R_keep (IsS247.apart (show IsS247 w _ g124 t122 x125001_1 from by repeat (first | (with_reducible first | exact HI124.out | apply IsS247.alloc | apply IsS247.drewN | apply IsS247.drew | apply IsS247.set_1) | exact HI124.out)) (by (with_reducible repeat (first | apply Kd.R_alloc | apply Kd.R_drewN | apply Kd.R_drew)); exact HO_7.out) (by decide)) hk (fun _ h => h.2)) (fun _ h => h.1)); have n1_ := Aside0.mk (hb); have n2_ := Aside0.mk (hi); clear HO_7; clear HB; clear HI124; have HO_7 := n0_; have HB := n1_; have HI124 := n2_; clear n0_ n1_ n2_; (try clear hb); (try clear hb2); (try clear hk); (try clear hi)) | (at_builtin; refine print_append_str (w0 := w) w.heap.size rfl (.tmp 24) _ 28 9 5 rfl Tryz.underlying28 Tryz.underlying9 info5 u7 x7_1 (a0.extract (x8_1 : Int).toNat (t125 : Int).toNat) rfl rfl ?aO ?aB ?aS ?aL ?_; (case aB => exact (by repeat (first | (with_reducible first | exact HB.out | apply below_alloc | apply pw_below_drewN | apply below_drew1 | refine below_set ?_ (IsS247.ge HI124.out)) | exact HB.out))); (case aO => exact (Kd.own_of_R (by (with_reducible repeat (first | apply Kd.R_alloc | apply Kd.R_drewN | apply Kd.R_drew)); exact HO_7.out))); (case aS => exact (below_size (by repeat (first | (with_reducible first | exact HB.out | apply below_alloc | apply pw_below_drewN | apply below_drew1 | refine below_set ?_ (IsS247.ge HI124.out)) | exact HB.out)))); (case aL => have := LMc15.out; first | omega | exact this | exact Nat.le_of_lt this); intro v129 w18 ho0 hb hg; have ho := Kd.R_of_own (h1 := fun _ => rfl) (ok := fun _ => True) ho0 (fun _ _ => trivial); clear ho0; have hat := True.intro; rw [← Ny128.out] at ho; change Kd.R (Kd.int .u8) 5 w18 w.heap.size (fun _ => True) v129 y128 at ho; have n0_ := Aside0.mk (IsS247.grown (by repeat (first | (with_reducible first | exact HI124.out | apply IsS247.alloc | apply IsS247.drewN | apply IsS247.drew | apply IsS247.set_1) | exact HI124.out)) hg (IsS247.own_ne HI124.out HO_7.out (by decide))); have n1_ := Aside0.mk (hb); have n2_ := Aside0.mk (ho); clear HI124; clear HB; clear HO_7; have HI124 := n0_; have HB := n1_; have HO130 := n2_; clear n0_ n1_ n2_; clear ho hb hg hat) | (at_builtin; refine print_append_str (w0 := w) w.heap.size rfl (.tmp 29) _ 28 9 5 rfl Tryz.underlying28 Tryz.underlying9 info5 v129 y128 a2 rfl rfl ?aO ?aB ?aS ?aL ?_; (case aB => exact (by repeat (first | (with_reducible first | exact HB.out | apply below_alloc | apply pw_below_drewN | apply below_drew1 | refine below_set ?_ (IsS247.ge HI124.out)) | exact HB.out))); (case aO => exact (Kd.own_of_R (by (with_reducible repeat (first | apply Kd.R_alloc | apply Kd.R_drewN | apply Kd.R_drew)); exact HO130.out))); (case aS => exact (below_size (by repeat (first | (with_reducible first | exact HB.out | apply below_alloc | apply pw_below_drewN | apply below_drew1 | refine below_set ?_ (IsS247.ge HI124.out)) | exact HB.out)))); (case aL => have := LMc16.out; first | omega | exact this | exact Nat.le_of_lt this); intro v132 w19 ho0 hb hg; have ho := Kd.R_of_own (h1 := fun _ => rfl) (ok := fun _ => True) ho0 (fun _ _ => trivial); clear ho0; have hat := True.intro; rw [← Ny131.out] at ho; change Kd.R (Kd.int .u8) 5 w19 w.heap.size (fun _ => True) v132 y131 at ho; have n0_ := Aside0.mk (IsS247.grown (by repeat (first | (with_reducible first | exact HI124.out | apply IsS247.alloc | apply IsS247.drewN | apply IsS247.drew | apply IsS247.set_1) | exact HI124.out)) hg (IsS247.own_ne HI124.out HO130.out (by decide))); have n1_ := Aside0.mk (hb); have n2_ := Aside0.mk (ho); clear HI124; clear HB; clear HO130; have HI124 := n0_; have HB := n1_; have HO133 := n2_; clear n0_ n1_ n2_; clear ho hb hg hat))
                        go_roundg k1
                        case measure => have := HK1.out; omega
                        case rel => exact ⟨(y131), (t125), (t127), (by first | rfl | (simp; done) | (simp [*]; done)), H', ⟨by have := HK1.out; omega⟩, ⟨by (with_reducible repeat (first | apply Kd.R_alloc | apply Kd.R_drewN | apply Kd.R_drew)); exact HO133.out⟩, ⟨by repeat (first | (with_reducible first | exact HI124.out | apply IsS247.alloc | apply IsS247.drewN | apply IsS247.drew | apply IsS247.set_1) | exact HI124.out)⟩, ⟨by repeat (first | (with_reducible first | exact HB.out | apply below_alloc | apply pw_below_drewN | apply below_drew1 | refine below_set ?_ (IsS247.ge HI124.out)) | exact HB.out)⟩⟩
                      · rw [if_neg c16] at H
                        exact absurd H (by simp)
                    · rw [if_neg c15] at H
                      exact absurd H (by simp)
                  · rw [if_neg c14] at H
                    exact absurd H (by simp)
                · rw [if_neg c13] at H
                  exact absurd H (by simp)
              · rw [if_neg c12] at H
                exact absurd H (by simp)
            · rw [if_neg c11] at H
              have c11b0 : decide (0 < t125) = false := decide_eq_false c11
              clear c11
              have H' := Aside0.mk H
              clear H
              go_wp2_with (first | ((with_reducible refine gate_dst (N := 19) rfl ?_); refine nextL_ (some 19) rfl rfl rfl (.pointer (some ⟨g124, 0, none⟩)) rfl ?_; (with_reducible refine (itr_more.calls g124 t122 x125001_1 t125 t126 t127 w _ ?side1 ?side2 A10.out).mono ?_); (case side1 => repeat (first | (with_reducible first | exact HI124.out | apply IsS247.alloc | apply IsS247.drewN | apply IsS247.drew | apply IsS247.set_1) | exact HI124.out)); (case side2 => repeat (first | (with_reducible first | exact HB.out | apply below_alloc | apply pw_below_drewN | apply below_drew1 | refine below_set ?_ (IsS247.ge HI124.out)) | exact HB.out)); rintro e w20 ⟨rfl, hi, hb, hk⟩; refine ⟨_, rfl, ?_⟩; have n0_ := Aside0.mk (Kd.R_mono (Kd.R_keep (IsS247.apart (show IsS247 w _ g124 t122 x125001_1 from by repeat (first | (with_reducible first | exact HI124.out | apply IsS247.alloc | apply IsS247.drewN | apply IsS247.drew | apply IsS247.set_1) | exact HI124.out)) (by (with_reducible repeat (first | apply Kd.R_alloc | apply Kd.R_drewN | apply Kd.R_drew)); exact HO_7.out) (by decide)) hk (fun _ h => h.2)) (fun _ h => h.1)); have n1_ := Aside0.mk (hb); have n2_ := Aside0.mk (hi); clear HO_7; clear HB; clear HI124; have HO_7 := n0_; have HB := n1_; have HI124 := n2_; clear n0_ n1_ n2_; (try clear hb); (try clear hb2); (try clear hk); (try clear hi)))
              go_roundg k1
              case measure => have := HK1.out; omega
              case rel => exact ⟨(x7_1), (x8_1), (t127), (by first | rfl | (simp; done) | (simp [*]; done)), H', ⟨by have := HK1.out; omega⟩, ⟨by (with_reducible repeat (first | apply Kd.R_alloc | apply Kd.R_drewN | apply Kd.R_drew)); exact HO_7.out⟩, ⟨by repeat (first | (with_reducible first | exact HI124.out | apply IsS247.alloc | apply IsS247.drewN | apply IsS247.drew | apply IsS247.set_1) | exact HI124.out)⟩, ⟨by repeat (first | (with_reducible first | exact HB.out | apply below_alloc | apply pw_below_drewN | apply below_drew1 | refine below_set ?_ (IsS247.ge HI124.out)) | exact HB.out)⟩⟩
          · rw [if_neg c9] at H
            have c9b0 : decide (x125001_1 < (t122.size : Int)) = false := decide_eq_false c9
            clear c9
            replace H := Option.bind_eq_some_iff.mp H
            obtain ⟨t134, A210, H⟩ := H
            replace H : (if (a0.size : Int) > 0 then (if 0 ≤ x8_1 then (if x8_1 ≤ (a0.size : Int) then (if x7_1.length + (a0.extract (x8_1 : Int).toNat a0.size).size < 140737488355328 then ((some (x7_1 ++ bytesOf (a0.extract (x8_1 : Int).toNat a0.size) : List Int)).bind fun y135 => (if y135.length + a2.size < 140737488355328 then (some (strOfNums (y135 ++ bytesOf a2))) else (none))) else (none)) else (none)) else (none)) else (some (strOfNums x7_1))) = some r := H
            have A21 := Aside0.mk A210
            clear A210
            by_cases c22 : (a0.size : Int) > 0
            · rw [if_pos c22] at H
              have c22b0 : decide (0 < (a0.size : Int)) = true := decide_eq_true c22
              have c22b1 : decide (0 < a0.size) = true := decide_eq_true (by omega)
              clear c22
              by_cases c23 : 0 ≤ x8_1
              · rw [if_pos c23] at H
                have c23b0 := eq_true c23
                have c23b1 : decide (0 ≤ x8_1) = true := decide_eq_true c23
                clear c23
                by_cases c24 : x8_1 ≤ (a0.size : Int)
                · rw [if_pos c24] at H
                  have c24b0 := eq_true c24
                  have c24b1 : decide (x8_1 ≤ (a0.size : Int)) = true := decide_eq_true c24
                  clear c24
                  by_cases c25 : x7_1.length + (a0.extract (x8_1 : Int).toNat a0.size).size < 140737488355328
                  · rw [if_pos c25] at H
                    have LMc25 := Aside0.mk c25
                    clear c25
                    obtain ⟨y135, hy135⟩ : ∃ y_ : List Int, y_ = (x7_1 ++ bytesOf (a0.extract (x8_1 : Int).toNat a0.size)) := ⟨_, rfl⟩
                    replace H : (if y135.length + a2.size < 140737488355328 then (some (strOfNums (y135 ++ bytesOf a2))) else (none)) = some r := by first | (rw [hy135]; with_reducible exact H) | (have H2_ := (Option.bind_some _ _).symm.trans H; rw [hy135]; with_reducible exact H2_) | (have H2_ := (Option.bind_some _ _).symm.trans H; with_reducible exact H2_) | with_reducible exact H | (rw [hy135]; exact H) | exact H
                    have Ny135 := Aside0.mk hy135
                    clear hy135
                    by_cases c26 : y135.length + a2.size < 140737488355328
                    · rw [if_pos c26] at H
                      have LMc26 := Aside0.mk c26
                      clear c26
                      obtain ⟨y138, hy138⟩ : ∃ y_ : List Int, y_ = (y135 ++ bytesOf a2) := ⟨_, rfl⟩
                      replace H : (some (strOfNums y138)) = some r := by first | (rw [hy138]; with_reducible exact H) | (have H2_ := (Option.bind_some _ _).symm.trans H; rw [hy138]; with_reducible exact H2_) | (have H2_ := (Option.bind_some _ _).symm.trans H; with_reducible exact H2_) | with_reducible exact H | (rw [hy138]; exact H) | exact H
                      have Ny138 := Aside0.mk hy138
                      clear hy138
                      obtain rfl := Option.some.inj H
                      go_wp2_with (first | ((with_reducible refine gate_dst (N := 19) rfl ?_); refine nextL_ (some 19) rfl rfl rfl (.pointer (some ⟨g124, 0, none⟩)) rfl ?_; (with_reducible refine (itr_end.calls g124 t122 x125001_1 t134 w _ ?side1 ?side2 A21.out).mono ?_); (case side1 => repeat (first | (with_reducible first | exact HI124.out | apply IsS247.alloc | apply IsS247.drewN | apply IsS247.drew | apply IsS247.set_1) | exact HI124.out)); (case side2 => repeat (first | (with_reducible first | exact HB.out | apply below_alloc | apply pw_below_drewN | apply below_drew1 | refine below_set ?_ (IsS247.ge HI124.out)) | exact HB.out)); rintro e w27 ⟨rfl, hi, hb, hk⟩; refine ⟨_, rfl, ?_⟩; have n0_ := Aside0.mk (Kd.R_mono (Kd.R_keep (IsS247.apart (show IsS247 w _ g124 t122 x125001_1 from by repeat (first | (with_reducible first | exact HI124.out | apply IsS247.alloc | apply IsS247.drewN | apply IsS247.drew | apply IsS247.set_1) | exact HI124.out)) (by (with_reducible repeat (first | apply Kd.R_alloc | apply Kd.R_drewN | apply Kd.R_drew)); exact HO_7.out) (by decide)) hk (fun _ h => h.2)) (fun _ h => h.1)); have n1_ := Aside0.mk (hb); have n2_ := Aside0.mk (hi); clear HO_7; clear HB; clear HI124; have HO_7 := n0_; have HB := n1_; have HI124 := n2_; clear n0_ n1_ n2_; (try clear hb); (try clear hb2); (try clear hk); (try clear hi)) | (at_builtin; refine print_append_str (w0 := w) w.heap.size rfl (.tmp 36) _ 28 9 5 rfl Tryz.underlying28 Tryz.underlying9 info5 u7 x7_1 (a0.extract (x8_1 : Int).toNat a0.size) rfl rfl ?aO ?aB ?aS ?aL ?_; (case aB => exact (by repeat (first | (with_reducible first | exact HB.out | apply below_alloc | apply pw_below_drewN | apply below_drew1 | refine below_set ?_ (IsS247.ge HI124.out)) | exact HB.out))); (case aO => exact (Kd.own_of_R (by (with_reducible repeat (first | apply Kd.R_alloc | apply Kd.R_drewN | apply Kd.R_drew)); exact HO_7.out))); (case aS => exact (below_size (by repeat (first | (with_reducible first | exact HB.out | apply below_alloc | apply pw_below_drewN | apply below_drew1 | refine below_set ?_ (IsS247.ge HI124.out)) | exact HB.out)))); (case aL => have := LMc25.out; first | omega | exact this | exact Nat.le_of_lt this); intro v136 w28 ho0 hb hg; have ho := Kd.R_of_own (h1 := fun _ => rfl) (ok := fun _ => True) ho0 (fun _ _ => trivial); clear ho0; have hat := True.intro; rw [← Ny135.out] at ho; change Kd.R (Kd.int .u8) 5 w28 w.heap.size (fun _ => True) v136 y135 at ho; have n0_ := Aside0.mk (IsS247.grown (by repeat (first | (with_reducible first | exact HI124.out | apply IsS247.alloc | apply IsS247.drewN | apply IsS247.drew | apply IsS247.set_1) | exact HI124.out)) hg (IsS247.own_ne HI124.out HO_7.out (by decide))); have n1_ := Aside0.mk (hb); have n2_ := Aside0.mk (ho); clear HI124; clear HB; clear HO_7; have HI124 := n0_; have HB := n1_; have HO137 := n2_; clear n0_ n1_ n2_; clear ho hb hg hat) | (at_builtin; refine print_append_str (w0 := w) w.heap.size rfl (.tmp 40) _ 28 9 5 rfl Tryz.underlying28 Tryz.underlying9 info5 v136 y135 a2 rfl rfl ?aO ?aB ?aS ?aL ?_; (case aB => exact (by repeat (first | (with_reducible first | exact HB.out | apply below_alloc | apply pw_below_drewN | apply below_drew1 | refine below_set ?_ (IsS247.ge HI124.out)) | exact HB.out))); (case aO => exact (Kd.own_of_R (by (with_reducible repeat (first | apply Kd.R_alloc | apply Kd.R_drewN | apply Kd.R_drew)); exact HO137.out))); (case aS => exact (below_size (by repeat (first | (with_reducible first | exact HB.out | apply below_alloc | apply pw_below_drewN | apply below_drew1 | refine below_set ?_ (IsS247.ge HI124.out)) | exact HB.out)))); (case aL => have := LMc26.out; first | omega | exact this | exact Nat.le_of_lt this); intro v139 w29 ho0 hb hg; have ho := Kd.R_of_own (h1 := fun _ => rfl) (ok := fun _ => True) ho0 (fun _ _ => trivial); clear ho0; have hat := True.intro; rw [← Ny138.out] at ho; change Kd.R (Kd.int .u8) 5 w29 w.heap.size (fun _ => True) v139 y138 at ho; have n0_ := Aside0.mk (IsS247.grown (by repeat (first | (with_reducible first | exact HI124.out | apply IsS247.alloc | apply IsS247.drewN | apply IsS247.drew | apply IsS247.set_1) | exact HI124.out)) hg (IsS247.own_ne HI124.out HO137.out (by decide))); have n1_ := Aside0.mk (hb); have n2_ := Aside0.mk (ho); clear HI124; clear HB; clear HO137; have HI124 := n0_; have HB := n1_; have HO140 := n2_; clear n0_ n1_ n2_; clear ho hb hg hat; have hcv30 := own_string (P := Tryz.prog) Tryz.underlying28 Tryz.underlying5 Tryz.underlying9 (Kd.own_of_R HO140.out)))
                      go_ret
                      exact ⟨by first | rfl | (simp [errW_none, errW_some] <;> rfl) | (simp [*, errW_none, errW_some] <;> rfl), by repeat (first | (with_reducible first | exact HB.out | apply below_alloc | apply pw_below_drewN | apply below_drew1 | refine below_set ?_ (IsS247.ge HI124.out)) | exact HB.out)⟩
                    · rw [if_neg c26] at H
                      exact absurd H (by simp)
                  · rw [if_neg c25] at H
                    exact absurd H (by simp)
                · rw [if_neg c24] at H
                  exact absurd H (by simp)
              · rw [if_neg c23] at H
                exact absurd H (by simp)
            · rw [if_neg c22] at H
              have c22b0 : decide (0 < (a0.size : Int)) = false := decide_eq_false c22
              have c22b1 : decide (0 < a0.size) = false := decide_eq_false (by omega)
              clear c22
              obtain rfl := Option.some.inj H
              go_wp2_with (first | ((with_reducible refine gate_dst (N := 19) rfl ?_); refine nextL_ (some 19) rfl rfl rfl (.pointer (some ⟨g124, 0, none⟩)) rfl ?_; (with_reducible refine (itr_end.calls g124 t122 x125001_1 t134 w _ ?side1 ?side2 A21.out).mono ?_); (case side1 => repeat (first | (with_reducible first | exact HI124.out | apply IsS247.alloc | apply IsS247.drewN | apply IsS247.drew | apply IsS247.set_1) | exact HI124.out)); (case side2 => repeat (first | (with_reducible first | exact HB.out | apply below_alloc | apply pw_below_drewN | apply below_drew1 | refine below_set ?_ (IsS247.ge HI124.out)) | exact HB.out)); rintro e w31 ⟨rfl, hi, hb, hk⟩; refine ⟨_, rfl, ?_⟩; have n0_ := Aside0.mk (Kd.R_mono (Kd.R_keep (IsS247.apart (show IsS247 w _ g124 t122 x125001_1 from by repeat (first | (with_reducible first | exact HI124.out | apply IsS247.alloc | apply IsS247.drewN | apply IsS247.drew | apply IsS247.set_1) | exact HI124.out)) (by (with_reducible repeat (first | apply Kd.R_alloc | apply Kd.R_drewN | apply Kd.R_drew)); exact HO_7.out) (by decide)) hk (fun _ h => h.2)) (fun _ h => h.1)); have n1_ := Aside0.mk (hb); have n2_ := Aside0.mk (hi); clear HO_7; clear HB; clear HI124; have HO_7 := n0_; have HB := n1_; have HI124 := n2_; clear n0_ n1_ n2_; (try clear hb); (try clear hb2); (try clear hk); (try clear hi); have hcv32 := own_string (P := Tryz.prog) Tryz.underlying28 Tryz.underlying5 Tryz.underlying9 (Kd.own_of_R HO_7.out)))
              go_ret
              exact ⟨by first | rfl | (simp [errW_none, errW_some] <;> rfl) | (simp [*, errW_none, errW_some] <;> rfl), by repeat (first | (with_reducible first | exact HB.out | apply below_alloc | apply pw_below_drewN | apply below_drew1 | refine below_set ?_ (IsS247.ge HI124.out)) | exact HB.out)⟩
    · rw [if_neg c5] at H
      exact absurd H (by simp)
  · rw [if_neg c4] at H
    have c4b0 : ((a1.size : Int) == 0) = false := beq_eq_false_iff_ne.mpr c4
    have c4b1 : ((a1.size : Int) != 0) = true := bne_iff_ne.mpr c4
    have H' := Aside0.mk H
    clear H
    go_enter Tryz.func10, Tryz.ntmps10
    go_wp2
    (try simp only [Act.put, List.setIfInBounds_toArray, List.set_cons_zero, List.set_cons_succ])
    go_loopg [0, 7] k (fun kq v0 v7 w' => ∃ (x0_1 : ByteArray) (x7_1 : List Int), v0 = .string x0_1 ∧ Aside0 (table_zzReplaceAll.l1 kq x0_1 a1 a2 x7_1 = some r) ∧ Aside0 (kq ≤ k) ∧ Aside0 (Kd.R (Kd.int .u8) 5 w' w.heap.size (fun _ => True) v7 x7_1) ∧ Aside0 (Below w.heap.size w w'))
    case atStart => exact ⟨(a0), (([] : List Int)), (by first | rfl | (simp; done) | (simp [*]; done)), H', ⟨Nat.le_refl _⟩, ⟨by first | exact Kd.R_nil _ _ _ _ _ | exact Kd.N_nil _ _ _ _ _ | exact Kd.V_nil _ _ _ _ _ | exact Kd.Q_nil _ _ _ _ _ | exact Kd.S_nil _ _ _ _ _⟩, ⟨by repeat (first | (with_reducible first | exact HB.out | apply below_alloc | apply pw_below_drewN | apply below_drew1) | exact HB.out)⟩⟩
    case round =>
      clear H'
      try clear c1
      try clear c2
      try clear p2
      try clear hcv3
      try clear c4
      try clear c4b0
      try clear c4b1
      try clear c5
      try clear c9
      try clear c9b0
      try clear c10
      try clear c11
      try clear c11b0
      try clear c12
      try clear c12b0
      try clear c12b1
      try clear c13
      try clear c13b0
      try clear c13b1
      try clear c14
      try clear c14b0
      try clear c14b1
      try clear c15
      try clear c16
      try clear c22
      try clear c22b0
      try clear c22b1
      try clear c23
      try clear c23b0
      try clear c23b1
      try clear c24
      try clear c24b0
      try clear c24b1
      try clear c25
      try clear c26
      try clear hcv30
      try clear hcv32
      try clear p2
      obtain ⟨x0_1, x7_1, rfl, HA, HK1, HO_7, HB⟩ := hrel
      cases gk with
      | zero => exact absurd HA.out (by simp [table_zzReplaceAll.l1])
      | succ k1 =>
        have H := HA.out
        clear HA
        simp only [table_zzReplaceAll.l1] at H
        replace H := Option.bind_eq_some_iff.mp H
        obtain ⟨t141, A330, H⟩ := H
        replace H : (if t141 < 0 then (if x7_1.length + x0_1.size < 140737488355328 then (some (strOfNums (x7_1 ++ bytesOf x0_1))) else (none)) else (if 0 ≤ t141 then (if t141 ≤ (x0_1.size : Int) then (if x7_1.length + (x0_1.extract 0 (t141 : Int).toNat).size < 140737488355328 then ((some (x7_1 ++ bytesOf (x0_1.extract 0 (t141 : Int).toNat) : List Int)).bind fun y145 => (if y145.length + a2.size < 140737488355328 then (if 0 ≤ (wrap64 (t141 + (a1.size : Int))) then (if (wrap64 (t141 + (a1.size : Int))) ≤ (x0_1.size : Int) then (table_zzReplaceAll.l1 k1 (x0_1.extract ((wrap64 (t141 + (a1.size : Int))) : Int).toNat x0_1.size) a1 a2 (y145 ++ bytesOf a2)) else (none)) else (none)) else (none))) else (none)) else (none)) else (none))) = some r := H
        have A33 := Aside0.mk A330
        clear A330
        by_cases c34 : t141 < 0
        · rw [if_pos c34] at H
          have c34b0 : decide (t141 < 0) = true := decide_eq_true c34
          clear c34
          by_cases c35 : x7_1.length + x0_1.size < 140737488355328
          · rw [if_pos c35] at H
            have LMc35 := Aside0.mk c35
            clear c35
            obtain ⟨y142, hy142⟩ : ∃ y_ : List Int, y_ = (x7_1 ++ bytesOf x0_1) := ⟨_, rfl⟩
            replace H : (some (strOfNums y142)) = some r := by first | (rw [hy142]; with_reducible exact H) | (have H2_ := (Option.bind_some _ _).symm.trans H; rw [hy142]; with_reducible exact H2_) | (have H2_ := (Option.bind_some _ _).symm.trans H; with_reducible exact H2_) | with_reducible exact H | (rw [hy142]; exact H) | exact H
            have Ny142 := Aside0.mk hy142
            clear hy142
            obtain rfl := Option.some.inj H
            go_wp2_with (first | ((with_reducible refine gate_callee (f := 14) rfl ?_); refine goesL_ (some 47) rfl rfl Tryz.func14 (by kernel_rfl) rfl #[.string x0_1, .string a1] rfl (by (try simp only [List.map_toArray, List.map_cons, List.map_nil]); first | done | rfl | (simp only [List.length_drop, List.length_take]; rfl)) ?_; (with_reducible refine (table_zzIndex.calls k1 x0_1 a1 t141 _ A33.out).mono ?_); rintro e w' ⟨rfl, ⟨nd, rfl⟩⟩; refine ⟨_, rfl, ?_⟩) | (at_builtin; refine print_append_str (w0 := w) w.heap.size rfl (.tmp 50) _ 28 9 5 rfl Tryz.underlying28 Tryz.underlying9 info5 u7 x7_1 x0_1 rfl rfl ?aO ?aB ?aS ?aL ?_; (case aB => exact (by repeat (first | (with_reducible first | exact HB.out | apply below_alloc | apply pw_below_drewN | apply below_drew1) | exact HB.out))); (case aO => exact (Kd.own_of_R (by (with_reducible repeat (first | apply Kd.R_alloc | apply Kd.R_drewN | apply Kd.R_drew)); exact HO_7.out))); (case aS => exact (below_size (by repeat (first | (with_reducible first | exact HB.out | apply below_alloc | apply pw_below_drewN | apply below_drew1) | exact HB.out)))); (case aL => have := LMc35.out; first | omega | exact this | exact Nat.le_of_lt this); intro v143 w36 ho0 hb hg; have ho := Kd.R_of_own (h1 := fun _ => rfl) (ok := fun _ => True) ho0 (fun _ _ => trivial); clear ho0; have hat := True.intro; rw [← Ny142.out] at ho; change Kd.R (Kd.int .u8) 5 w36 w.heap.size (fun _ => True) v143 y142 at ho; have n0_ := Aside0.mk (hb); have n1_ := Aside0.mk (ho); clear HB; clear HO_7; have HB := n0_; have HO144 := n1_; clear n0_ n1_; clear ho hb hg hat; have hcv37 := own_string (P := Tryz.prog) Tryz.underlying28 Tryz.underlying5 Tryz.underlying9 (Kd.own_of_R HO144.out)))
            go_ret
            exact ⟨by first | rfl | (simp [errW_none, errW_some] <;> rfl) | (simp [*, errW_none, errW_some] <;> rfl), by repeat (first | (with_reducible first | exact HB.out | apply below_alloc | apply pw_below_drewN | apply below_drew1) | exact HB.out)⟩
          · rw [if_neg c35] at H
            exact absurd H (by simp)
        · rw [if_neg c34] at H
          have c34b0 : decide (t141 < 0) = false := decide_eq_false c34
          clear c34
          by_cases c38 : 0 ≤ t141
          · rw [if_pos c38] at H
            have c38b0 := eq_true c38
            have c38b1 : decide (0 ≤ t141) = true := decide_eq_true c38
            clear c38
            by_cases c39 : t141 ≤ (x0_1.size : Int)
            · rw [if_pos c39] at H
              have c39b0 := eq_true c39
              have c39b1 : decide (t141 ≤ (x0_1.size : Int)) = true := decide_eq_true c39
              clear c39
              by_cases c40 : x7_1.length + (x0_1.extract 0 (t141 : Int).toNat).size < 140737488355328
              · rw [if_pos c40] at H
                have LMc40 := Aside0.mk c40
                clear c40
                obtain ⟨y145, hy145⟩ : ∃ y_ : List Int, y_ = (x7_1 ++ bytesOf (x0_1.extract 0 (t141 : Int).toNat)) := ⟨_, rfl⟩
                replace H : (if y145.length + a2.size < 140737488355328 then (if 0 ≤ (wrap64 (t141 + (a1.size : Int))) then (if (wrap64 (t141 + (a1.size : Int))) ≤ (x0_1.size : Int) then (table_zzReplaceAll.l1 k1 (x0_1.extract ((wrap64 (t141 + (a1.size : Int))) : Int).toNat x0_1.size) a1 a2 (y145 ++ bytesOf a2)) else (none)) else (none)) else (none)) = some r := by first | (rw [hy145]; with_reducible exact H) | (have H2_ := (Option.bind_some _ _).symm.trans H; rw [hy145]; with_reducible exact H2_) | (have H2_ := (Option.bind_some _ _).symm.trans H; with_reducible exact H2_) | with_reducible exact H | (rw [hy145]; exact H) | exact H
                have Ny145 := Aside0.mk hy145
                clear hy145
                by_cases c41 : y145.length + a2.size < 140737488355328
                · rw [if_pos c41] at H
                  have LMc41 := Aside0.mk c41
                  clear c41
                  obtain ⟨y148, hy148⟩ : ∃ y_ : List Int, y_ = (y145 ++ bytesOf a2) := ⟨_, rfl⟩
                  replace H : (if 0 ≤ (wrap64 (t141 + (a1.size : Int))) then (if (wrap64 (t141 + (a1.size : Int))) ≤ (x0_1.size : Int) then (table_zzReplaceAll.l1 k1 (x0_1.extract ((wrap64 (t141 + (a1.size : Int))) : Int).toNat x0_1.size) a1 a2 y148) else (none)) else (none)) = some r := by first | (rw [hy148]; with_reducible exact H) | (have H2_ := (Option.bind_some _ _).symm.trans H; rw [hy148]; with_reducible exact H2_) | (have H2_ := (Option.bind_some _ _).symm.trans H; with_reducible exact H2_) | with_reducible exact H | (rw [hy148]; exact H) | exact H
                  have Ny148 := Aside0.mk hy148
                  clear hy148
                  obtain ⟨ji42, hji42⟩ : ∃ j_ : Int, (wrap64 (t141 + (a1.size : Int))) = j_ := ⟨_, rfl⟩
                  replace H : (if 0 ≤ (ji42) then (if (ji42) ≤ (x0_1.size : Int) then (table_zzReplaceAll.l1 k1 (x0_1.extract ((ji42) : Int).toNat x0_1.size) a1 a2 y148) else (none)) else (none)) = some r := by first | (rw [hji42] at H; exact H) | (simp only [hji42] at H ⊢; exact H)
                  (try rw [hji42] at A33)
                  have hji42w : (IntKind.i64.wrap (t141 + (a1.size : Int))) = ji42 := (i64_w _).trans hji42
                  by_cases c43 : 0 ≤ (ji42)
                  · rw [if_pos c43] at H
                    have c43b0 := eq_true c43
                    have c43b1 : decide (0 ≤ (ji42)) = true := decide_eq_true c43
                    clear c43
                    by_cases c44 : (ji42) ≤ (x0_1.size : Int)
                    · rw [if_pos c44] at H
                      have c44b0 := eq_true c44
                      have c44b1 : decide ((ji42) ≤ (x0_1.size : Int)) = true := decide_eq_true c44
                      clear c44
                      have H' := Aside0.mk H
                      clear H
                      go_wp2_with (first | ((with_reducible refine gate_callee (f := 14) rfl ?_); refine goesL_ (some 47) rfl rfl Tryz.func14 (by kernel_rfl) rfl #[.string x0_1, .string a1] rfl (by (try simp only [List.map_toArray, List.map_cons, List.map_nil]); first | done | rfl | (simp only [List.length_drop, List.length_take]; rfl)) ?_; (with_reducible refine (table_zzIndex.calls k1 x0_1 a1 t141 _ A33.out).mono ?_); rintro e w' ⟨rfl, ⟨nd, rfl⟩⟩; refine ⟨_, rfl, ?_⟩) | (at_builtin; refine print_append_str (w0 := w) w.heap.size rfl (.tmp 54) _ 28 9 5 rfl Tryz.underlying28 Tryz.underlying9 info5 u7 x7_1 (x0_1.extract 0 (t141 : Int).toNat) rfl rfl ?aO ?aB ?aS ?aL ?_; (case aB => exact (by repeat (first | (with_reducible first | exact HB.out | apply below_alloc | apply pw_below_drewN | apply below_drew1) | exact HB.out))); (case aO => exact (Kd.own_of_R (by (with_reducible repeat (first | apply Kd.R_alloc | apply Kd.R_drewN | apply Kd.R_drew)); exact HO_7.out))); (case aS => exact (below_size (by repeat (first | (with_reducible first | exact HB.out | apply below_alloc | apply pw_below_drewN | apply below_drew1) | exact HB.out)))); (case aL => have := LMc40.out; first | omega | exact this | exact Nat.le_of_lt this); intro v146 w45 ho0 hb hg; have ho := Kd.R_of_own (h1 := fun _ => rfl) (ok := fun _ => True) ho0 (fun _ _ => trivial); clear ho0; have hat := True.intro; rw [← Ny145.out] at ho; change Kd.R (Kd.int .u8) 5 w45 w.heap.size (fun _ => True) v146 y145 at ho; have n0_ := Aside0.mk (hb); have n1_ := Aside0.mk (ho); clear HB; clear HO_7; have HB := n0_; have HO147 := n1_; clear n0_ n1_; clear ho hb hg hat) | (at_builtin; refine print_append_str (w0 := w) w.heap.size rfl (.tmp 58) _ 28 9 5 rfl Tryz.underlying28 Tryz.underlying9 info5 v146 y145 a2 rfl rfl ?aO ?aB ?aS ?aL ?_; (case aB => exact (by repeat (first | (with_reducible first | exact HB.out | apply below_alloc | apply pw_below_drewN | apply below_drew1) | exact HB.out))); (case aO => exact (Kd.own_of_R (by (with_reducible repeat (first | apply Kd.R_alloc | apply Kd.R_drewN | apply Kd.R_drew)); exact HO147.out))); (case aS => exact (below_size (by repeat (first | (with_reducible first | exact HB.out | apply below_alloc | apply pw_below_drewN | apply below_drew1) | exact HB.out)))); (case aL => have := LMc41.out; first | omega | exact this | exact Nat.le_of_lt this); intro v149 w46 ho0 hb hg; have ho := Kd.R_of_own (h1 := fun _ => rfl) (ok := fun _ => True) ho0 (fun _ _ => trivial); clear ho0; have hat := True.intro; rw [← Ny148.out] at ho; change Kd.R (Kd.int .u8) 5 w46 w.heap.size (fun _ => True) v149 y148 at ho; have n0_ := Aside0.mk (hb); have n1_ := Aside0.mk (ho); clear HB; clear HO147; have HB := n0_; have HO150 := n1_; clear n0_ n1_; clear ho hb hg hat))
                      go_roundg k1
                      case measure => have := HK1.out; omega
                      case rel => exact ⟨(x0_1.extract ((ji42) : Int).toNat x0_1.size), (y148), (by first | rfl | (simp; done) | (simp only [← hji42] <;> (first | rfl | simp)) | (simp [*]; done)), H', ⟨by have := HK1.out; omega⟩, ⟨by (with_reducible repeat (first | apply Kd.R_alloc | apply Kd.R_drewN | apply Kd.R_drew)); exact HO150.out⟩, ⟨by repeat (first | (with_reducible first | exact HB.out | apply below_alloc | apply pw_below_drewN | apply below_drew1) | exact HB.out)⟩⟩
                    · rw [if_neg c44] at H
                      exact absurd H (by simp)
                  · rw [if_neg c43] at H
                    exact absurd H (by simp)
                · rw [if_neg c41] at H
                  exact absurd H (by simp)
              · rw [if_neg c40] at H
                exact absurd H (by simp)
            · rw [if_neg c39] at H
              exact absurd H (by simp)
          · rw [if_neg c38] at H
            exact absurd H (by simp)

end Go.Proofs.YtpgnipfpinldgaaGreatDoor.GHtBody
