-- Written by gprint.py, a program of this session over the kit's printer, with contracts of its own for what the printer does not take. Not trusted: Lean checks it.
import Derived.Test.YthjkmjimlhpbfaaDoorGFnListMarkdownLinesx0
namespace Go.Proofs.YthjkmjimlhpbfaaDoor.GFnListMarkdownLines
open Go.RowKit Go.Proofs.YthjkmjimlhpbfaaDoor.Itr Go.Proofs.YthjkmjimlhpbfaaDoorW.PrintWords Go.Proofs.YthjkmjimlhpbfaaDoorW.PrintLast Go.Proofs.YthjkmjimlhpbfaaDoorW.PrintMore
attribute [local go_sem] max2_int min2_int max_two min_two max_three min_three max_four min_four   -- for this text's walks alone
set_option linter.unusedVariables false
set_option linter.unusedSimpArgs false
noncomputable section

/-! ### spec_TxLines: function 10 -/
def spec_TxLines.l0 : Nat → List ByteArray → ByteArray → Int → Option (List ByteArray)
  | 0, _, _, _ => none
  | k + 1, x3, x143000, x143001 => if x143001 < (x143000.size : Int) then ((itr_more.f x143000 x143001).bind fun bt143 => (if bt143.2.1 = 10 then (if x3.length < 8796093022208 then (spec_TxLines.l0 k (x3 ++ [(⟨#[]⟩ : ByteArray)]) x143000 bt143.2.2) else (none)) else (if 0 ≤ (wrap64 ((x3.length : Int) - 1)) then (if (wrap64 ((x3.length : Int) - 1)) < (x3.length : Int) then (if (rdOf ByteArray.empty x3 (wrap64 ((x3.length : Int) - 1))).size + (Utf8.encode bt143.2.1).size ≤ 9223372036854775807 then (spec_TxLines.l0 k (x3.set ((wrap64 ((x3.length : Int) - 1)) : Int).toNat ((rdOf ByteArray.empty x3 (wrap64 ((x3.length : Int) - 1))) ++ (Utf8.encode bt143.2.1))) x143000 bt143.2.2) else (none)) else (none)) else (none)))) else ((itr_end.f x143000 x143001).bind fun t151 => (some x3))
def spec_TxLines.f (k : Nat) (a0 : ByteArray) : Option (List ByteArray) := (itr_make.f a0).bind fun bt140 => (spec_TxLines.l0 k (([(⟨#[]⟩ : ByteArray)] : List ByteArray)) bt140.1 bt140.2)
theorem spec_TxLines.mono_l : ∀ k, (∀ y0 y1 y2, LeO (spec_TxLines.l0 k y0 y1 y2) (spec_TxLines.l0 (k + 1) y0 y1 y2))
  | 0 => fun _ _ _ r h => by simp [spec_TxLines.l0] at h
  | k + 1 => by
    have ih0 := spec_TxLines.mono_l k
    · intro y0 y1 y2
      unfold spec_TxLines.l0
      repeat' first
      | (with_reducible exact ih0 _ _ _)
      | (with_reducible exact LeO.refl _)
      | (with_reducible exact LeO.none _)
      | (with_reducible refine LeO.ite ?_ ?_)
      | (with_reducible refine LeO.bind ?_ (fun _ => ?_))
      | exact ih0 _ _ _
      | exact LeO.none _
      | refine LeO.ite ?_ ?_
      | refine LeO.bind ?_ (fun _ => ?_)
theorem spec_TxLines.mono : ∀ a0 k, LeO (spec_TxLines.f k a0) (spec_TxLines.f (k + 1) a0) := by
  intro a0 k
  have ih0 := spec_TxLines.mono_l k
  unfold spec_TxLines.f
  repeat' first
      | (with_reducible exact ih0 _ _ _)
      | (with_reducible exact LeO.refl _)
      | (with_reducible exact LeO.none _)
      | (with_reducible refine LeO.ite ?_ ?_)
      | (with_reducible refine LeO.bind ?_ (fun _ => ?_))
      | exact ih0 _ _ _
      | exact LeO.none _
      | refine LeO.ite ?_ ?_
      | refine LeO.bind ?_ (fun _ => ?_)
set_option maxHeartbeats 8000000 in
set_option maxRecDepth 100000 in
theorem spec_TxLines.calls (k : Nat) (a0 : ByteArray) (r : List ByteArray) (w : World) (h : spec_TxLines.f k a0 = some r) :
    Calls Tryd.prog 10 #[.string a0] w fun e w' => ∃ v0_ : Value, e = .returned (v0_) ∧ Kd.R Kd.string 9 w' w.heap.size (fun _ => True) v0_ r ∧ Below w.heap.size w w' := by
  have HB := Aside0.mk (Below.refl w.heap.size w)
  have H : ((itr_make.f a0).bind fun bt140 => (spec_TxLines.l0 k (([(⟨#[]⟩ : ByteArray)] : List ByteArray)) bt140.1 bt140.2)) = some r := h
  clear h
  obtain ⟨y137, hy137⟩ : ∃ y_ : List ByteArray, y_ = (([(⟨#[]⟩ : ByteArray)] : List ByteArray)) := ⟨_, rfl⟩
  replace H : ((itr_make.f a0).bind fun bt140 => (spec_TxLines.l0 k y137 bt140.1 bt140.2)) = some r := by first | (rw [hy137]; with_reducible exact H) | (have H2_ := (Option.bind_some _ _).symm.trans H; rw [hy137]; with_reducible exact H2_) | (have H2_ := (Option.bind_some _ _).symm.trans H; with_reducible exact H2_) | with_reducible exact H | (rw [hy137]; exact H) | exact H
  have Ny137 := Aside0.mk hy137
  clear hy137
  replace H := Option.bind_eq_some_iff.mp H
  obtain ⟨⟨t140, t141⟩, A20, H⟩ := H
  replace H : (spec_TxLines.l0 k y137 t140 t141) = some r := H
  have A2 := Aside0.mk A20
  clear A20
  have H' := Aside0.mk H
  clear H
  go_enter Tryd.func10, Tryd.ntmps10
  go_wp2_with (first | ((with_reducible refine gate_dst (N := 6) rfl ?_); refine Kd.R_lit Kd.string _ 9 ?hg (N := 6) ?hd (xs := ([(⟨#[]⟩ : ByteArray)] : List ByteArray)) (inner := [.string (⟨#[]⟩ : ByteArray)]) (ok := fun _ => True) (okp := fun _ => True) ?hr ?hp (fun _ hk => hk) trivial (Below.refl _ _) (Nat.le_refl _) (by simp) ?_; (case hd => rfl); (case hg => rfl); (case hr => first | (go_simp; done) | (go_simp; rfl)); (case hp => exact (Reps.one (show Kd.M Kd.string _ _ _ (⟨#[]⟩ : ByteArray) [.string (⟨#[]⟩ : ByteArray)] from rfl) (Reps.none _ _))); intro v138 w3 ho4 hb hg_ hnew_; clear hg_ hnew_; (first | rw [← Ny137.out] at ho4 | (simp only [Int.reduceToNat] at ho4; rw [← Ny137.out] at ho4)); have n0_ := Aside0.mk (Kd.R_lower ho4 (below_size (by repeat (first | (with_reducible first | exact HB.out | apply below_alloc | apply pw_below_drewN | apply below_drew1) | exact HB.out)))); have n1_ := Aside0.mk (below_step (by repeat (first | (with_reducible first | exact HB.out | apply below_alloc | apply pw_below_drewN | apply below_drew1) | exact HB.out)) hb); clear HB; have HO139 := n0_; have HB := n1_; clear n0_ n1_; clear hb ho4) | ((with_reducible refine gate_dst (N := 8) rfl ?_); refine rangeL_ (some 8) rfl rfl rfl Tryd.underlying9 a0 rfl ?_; (with_reducible refine (itr_make.calls a0 t140 t141 w _ ?side1 A2.out).mono ?_); (case side1 => repeat (first | (with_reducible first | exact HB.out | apply below_alloc | apply pw_below_drewN | apply below_drew1) | exact HB.out)); rintro e w5 ⟨g142, rfl, hi, hb, hb2, hge⟩; refine ⟨_, rfl, ?_⟩; have n0_ := Aside0.mk (Kd.R_below (by (with_reducible repeat (first | apply Kd.R_alloc | apply Kd.R_drewN | apply Kd.R_drew)); exact HO139.out) hb2); have n1_ := Aside0.mk (hb); have n2_ := Aside0.mk (hi); clear HO139; clear HB; have HO139 := n0_; have HB := n1_; have HI142 := n2_; clear n0_ n1_ n2_; (try clear hb); (try clear hb2); (try clear hk); (try clear hi)))
  (try simp only [Act.put, List.setIfInBounds_toArray, List.set_cons_zero, List.set_cons_succ])
  go_loopg [3] k (fun kq v3 w' => ∃ (x3_1 : List ByteArray) (x143001_1 : Int), Aside0 (spec_TxLines.l0 kq x3_1 t140 x143001_1 = some r) ∧ Aside0 (kq ≤ k) ∧ Aside0 (Kd.R Kd.string 9 w' w.heap.size (fun _ => True) v3 x3_1) ∧ Aside0 (IsS159 w w' g142 t140 x143001_1) ∧ Aside0 (Below w.heap.size w w'))
  case atStart => exact ⟨(y137), (t141), H', ⟨Nat.le_refl _⟩, ⟨by (with_reducible repeat (first | apply Kd.R_alloc | apply Kd.R_drewN | apply Kd.R_drew)); exact HO139.out⟩, ⟨by repeat (first | (with_reducible first | exact HI142.out | apply IsS159.alloc | apply IsS159.drewN | apply IsS159.drew | apply IsS159.set_1) | exact HI142.out)⟩, ⟨by repeat (first | (with_reducible first | exact HB.out | apply below_alloc | apply pw_below_drewN | apply below_drew1 | refine below_set ?_ (IsS159.ge HI142.out)) | exact HB.out)⟩⟩
  case round =>
    clear H'
    try clear c1
    try clear p2
    obtain ⟨x3_1, x143001_1, HA, HK1, HO_3, HI142, HB⟩ := hrel
    cases gk with
    | zero => exact absurd HA.out (by simp [spec_TxLines.l0])
    | succ k1 =>
      have H := HA.out
      clear HA
      simp only [spec_TxLines.l0] at H
      by_cases c6 : x143001_1 < (t140.size : Int)
      · rw [if_pos c6] at H
        have c6b0 : decide (x143001_1 < (t140.size : Int)) = true := decide_eq_true c6
        clear c6
        replace H := Option.bind_eq_some_iff.mp H
        obtain ⟨⟨t143, t144, t145⟩, A70, H⟩ := H
        replace H : (if t144 = 10 then (if x3_1.length < 8796093022208 then (spec_TxLines.l0 k1 (x3_1 ++ [(⟨#[]⟩ : ByteArray)]) t140 t145) else (none)) else (if 0 ≤ (wrap64 ((x3_1.length : Int) - 1)) then (if (wrap64 ((x3_1.length : Int) - 1)) < (x3_1.length : Int) then (if (rdOf ByteArray.empty x3_1 (wrap64 ((x3_1.length : Int) - 1))).size + (Utf8.encode t144).size ≤ 9223372036854775807 then (spec_TxLines.l0 k1 (x3_1.set ((wrap64 ((x3_1.length : Int) - 1)) : Int).toNat ((rdOf ByteArray.empty x3_1 (wrap64 ((x3_1.length : Int) - 1))) ++ (Utf8.encode t144))) t140 t145) else (none)) else (none)) else (none))) = some r := H
        have A7 := Aside0.mk A70
        clear A70
        by_cases c8 : t144 = 10
        · rw [if_pos c8] at H
          have c8b0 : (t144 == 10) = true := beq_iff_eq.mpr c8
          have c8b1 : (t144 != 10) = false := bne_eq_false_iff_eq.mpr c8
          clear c8
          by_cases c9 : x3_1.length < 8796093022208
          · rw [if_pos c9] at H
            have LMc9 := Aside0.mk c9
            clear c9
            obtain ⟨y146, hy146⟩ : ∃ y_ : List ByteArray, y_ = (x3_1 ++ [(⟨#[]⟩ : ByteArray)]) := ⟨_, rfl⟩
            replace H : (spec_TxLines.l0 k1 y146 t140 t145) = some r := by first | (rw [hy146]; with_reducible exact H) | (have H2_ := (Option.bind_some _ _).symm.trans H; rw [hy146]; with_reducible exact H2_) | (have H2_ := (Option.bind_some _ _).symm.trans H; with_reducible exact H2_) | with_reducible exact H | (rw [hy146]; exact H) | exact H
            have Ny146 := Aside0.mk hy146
            clear hy146
            have H' := Aside0.mk H
            clear H
            go_wp2_with (first | ((with_reducible refine gate_dst (N := 9) rfl ?_); refine nextL_ (some 9) rfl rfl rfl (.pointer (some ⟨g142, 0, none⟩)) rfl ?_; (with_reducible refine (itr_more.calls g142 t140 x143001_1 t143 t144 t145 w _ ?side1 ?side2 A7.out).mono ?_); (case side1 => repeat (first | (with_reducible first | exact HI142.out | apply IsS159.alloc | apply IsS159.drewN | apply IsS159.drew | apply IsS159.set_1) | exact HI142.out)); (case side2 => repeat (first | (with_reducible first | exact HB.out | apply below_alloc | apply pw_below_drewN | apply below_drew1 | refine below_set ?_ (IsS159.ge HI142.out)) | exact HB.out)); rintro e w10 ⟨rfl, hi, hb, hk⟩; refine ⟨_, rfl, ?_⟩; have n0_ := Aside0.mk (Kd.R_mono (Kd.R_keep (IsS159.apart (show IsS159 w _ g142 t140 x143001_1 from by repeat (first | (with_reducible first | exact HI142.out | apply IsS159.alloc | apply IsS159.drewN | apply IsS159.drew | apply IsS159.set_1) | exact HI142.out)) (by (with_reducible repeat (first | apply Kd.R_alloc | apply Kd.R_drewN | apply Kd.R_drew)); exact HO_3.out) (by decide)) hk (fun _ h => h.2)) (fun _ h => h.1)); have n1_ := Aside0.mk (hb); have n2_ := Aside0.mk (hi); clear HO_3; clear HB; clear HI142; have HO_3 := n0_; have HB := n1_; have HI142 := n2_; clear n0_ n1_ n2_; (try clear hb); (try clear hb2); (try clear hk); (try clear hi)) | ((with_reducible refine gate_builtin (b := .append) (xs := #[.tmp 14, .tmp 15]) rfl ?_); at_builtin; refine Kd.R_append Kd.string (w0 := w) w.heap.size rfl (.tmp 14) (.tmp 15) 27 9 (.string ⟨#[]⟩) 16 rfl Tryd.underlying27 info9 rfl (by decide) (by omega) u3 x3_1 (⟨#[]⟩ : ByteArray) [.string (⟨#[]⟩ : ByteArray)] (fun _ => True) (fun _ => False) rfl rfl ?aP (fun _ hk => hk.elim) ?aF ?aO ?aB ?aS ?aL ?_; (case aP => exact rfl); (case aB => exact (by repeat (first | (with_reducible first | exact HB.out | apply below_alloc | apply pw_below_drewN | apply below_drew1 | refine below_set ?_ (IsS159.ge HI142.out)) | exact HB.out))); (case aF => exact (fun _ _ => trivial)); (case aO => exact (by (with_reducible repeat (first | apply Kd.R_alloc | apply Kd.R_drewN | apply Kd.R_drew)); exact HO_3.out)); (case aS => exact (below_size (by repeat (first | (with_reducible first | exact HB.out | apply below_alloc | apply pw_below_drewN | apply below_drew1 | refine below_set ?_ (IsS159.ge HI142.out)) | exact HB.out)))); (case aL => have := LMc9.out; first | omega | exact this | exact Nat.le_of_lt this); intro v147 w11 ho hb hg hat; rw [← Ny146.out] at ho; have n0_ := Aside0.mk (IsS159.grown (by repeat (first | (with_reducible first | exact HI142.out | apply IsS159.alloc | apply IsS159.drewN | apply IsS159.drew | apply IsS159.set_1) | exact HI142.out)) hg (IsS159.own_ne HI142.out HO_3.out (by decide))); have n1_ := Aside0.mk (hb); have n2_ := Aside0.mk (ho); clear HI142; clear HB; clear HO_3; have HI142 := n0_; have HB := n1_; have HO148 := n2_; clear n0_ n1_ n2_; clear ho hb hg hat))
            go_roundg k1
            case measure => have := HK1.out; omega
            case rel => exact ⟨(y146), (t145), H', ⟨by have := HK1.out; omega⟩, ⟨by (with_reducible repeat (first | apply Kd.R_alloc | apply Kd.R_drewN | apply Kd.R_drew)); exact HO148.out⟩, ⟨by repeat (first | (with_reducible first | exact HI142.out | apply IsS159.alloc | apply IsS159.drewN | apply IsS159.drew | apply IsS159.set_1) | exact HI142.out)⟩, ⟨by repeat (first | (with_reducible first | exact HB.out | apply below_alloc | apply pw_below_drewN | apply below_drew1 | refine below_set ?_ (IsS159.ge HI142.out)) | exact HB.out)⟩⟩
          · rw [if_neg c9] at H
            exact absurd H (by simp)
        · rw [if_neg c8] at H
          have c8b0 : (t144 == 10) = false := beq_eq_false_iff_ne.mpr c8
          have c8b1 : (t144 != 10) = true := bne_iff_ne.mpr c8
          obtain ⟨ji12, hji12⟩ : ∃ j_ : Int, (wrap64 ((x3_1.length : Int) - 1)) = j_ := ⟨_, rfl⟩
          replace H : (if 0 ≤ (ji12) then (if (ji12) < (x3_1.length : Int) then (if (rdOf ByteArray.empty x3_1 (ji12)).size + (Utf8.encode t144).size ≤ 9223372036854775807 then (spec_TxLines.l0 k1 (x3_1.set ((ji12) : Int).toNat ((rdOf ByteArray.empty x3_1 (ji12)) ++ (Utf8.encode t144))) t140 t145) else (none)) else (none)) else (none)) = some r := by first | (rw [hji12] at H; exact H) | (simp only [hji12] at H ⊢; exact H)
          (try rw [hji12] at A7)
          have hji12w : (IntKind.i64.wrap ((x3_1.length : Int) - 1)) = ji12 := (i64_w _).trans hji12
          by_cases c13 : 0 ≤ (ji12)
          · rw [if_pos c13] at H
            have c13b0 : decide (0 ≤ (ji12)) = true := decide_eq_true c13
            clear c13
            by_cases c14 : (ji12) < (x3_1.length : Int)
            · rw [if_pos c14] at H
              have c14b0 : decide ((ji12) < (x3_1.length : Int)) = true := decide_eq_true c14
              clear c14
              by_cases c15 : (rdOf ByteArray.empty x3_1 (ji12)).size + (Utf8.encode t144).size ≤ 9223372036854775807
              · rw [if_pos c15] at H
                have c15b0 := eq_true c15
                have c15b1 : decide ((rdOf ByteArray.empty x3_1 (ji12)).size + (Utf8.encode t144).size ≤ 9223372036854775807) = true := decide_eq_true c15
                try have c15b2 : (9223372036854775807 < (rdOf ByteArray.empty x3_1 (ji12)).size + (Utf8.encode t144).size) = False := eq_false (Nat.not_lt.2 c15)
                obtain ⟨y150, hy150⟩ : ∃ y_ : List ByteArray, y_ = (x3_1.set ((ji12) : Int).toNat ((rdOf ByteArray.empty x3_1 (ji12)) ++ (Utf8.encode t144))) := ⟨_, rfl⟩
                replace H : (spec_TxLines.l0 k1 y150 t140 t145) = some r := by first | (rw [hy150]; with_reducible exact H) | (have H2_ := (Option.bind_some _ _).symm.trans H; rw [hy150]; with_reducible exact H2_) | (have H2_ := (Option.bind_some _ _).symm.trans H; with_reducible exact H2_) | with_reducible exact H | (rw [hy150]; exact H) | exact H
                have Ny150 := Aside0.mk hy150
                clear hy150
                have H' := Aside0.mk H
                clear H
                go_wp2_with (first | ((with_reducible refine gate_dst (N := 9) rfl ?_); refine nextL_ (some 9) rfl rfl rfl (.pointer (some ⟨g142, 0, none⟩)) rfl ?_; (with_reducible refine (itr_more.calls g142 t140 x143001_1 t143 t144 t145 w _ ?side1 ?side2 A7.out).mono ?_); (case side1 => repeat (first | (with_reducible first | exact HI142.out | apply IsS159.alloc | apply IsS159.drewN | apply IsS159.drew | apply IsS159.set_1) | exact HI142.out)); (case side2 => repeat (first | (with_reducible first | exact HB.out | apply below_alloc | apply pw_below_drewN | apply below_drew1 | refine below_set ?_ (IsS159.ge HI142.out)) | exact HB.out)); rintro e w17 ⟨rfl, hi, hb, hk⟩; refine ⟨_, rfl, ?_⟩; have n0_ := Aside0.mk (Kd.R_mono (Kd.R_keep (IsS159.apart (show IsS159 w _ g142 t140 x143001_1 from by repeat (first | (with_reducible first | exact HI142.out | apply IsS159.alloc | apply IsS159.drewN | apply IsS159.drew | apply IsS159.set_1) | exact HI142.out)) (by (with_reducible repeat (first | apply Kd.R_alloc | apply Kd.R_drewN | apply Kd.R_drew)); exact HO_3.out) (by decide)) hk (fun _ h => h.2)) (fun _ h => h.1)); have n1_ := Aside0.mk (hb); have n2_ := Aside0.mk (hi); clear HO_3; clear HB; clear HI142; have HO_3 := n0_; have HB := n1_; have HI142 := n2_; clear n0_ n1_ n2_; (try clear hb); (try clear hb2); (try clear hk); (try clear hi); obtain ⟨Ao18, co18, eo18⟩ := Kd.R_slice HO_3.out; subst eo18; have p149 : 0 ≤ ((ji12) : Int) := of_decide_eq_true (by first | (with_reducible assumption) | assumption); have q149 : (ji12) < (x3_1.length : Int) := of_decide_eq_true (by first | (with_reducible assumption) | assumption); obtain ⟨ad149, e149, hx149_0⟩ := Kd.at_string (Kd.R_reads' HO_3.out).2.2 (ji12) p149 q149; cases e149; replace p149 := eq_true p149; replace q149 := eq_true q149; have p16 : 0 ≤ ((ji12) : Int) := of_decide_eq_true (by first | (with_reducible assumption) | assumption); have q16 : ((ji12) : Int) < ((x3_1.length : Int) : Int) := of_decide_eq_true (by first | (with_reducible assumption) | assumption); obtain ⟨go16, co16, eo16, gb16, gl16, cl16, HG16⟩ := Kd.R_form HO_3.out (by omega); (first | cases eo16 | (injection eo16 with ea_ en_ ec_; (first | subst ea_ | (injection ea_ with ea_; subst ea_)); subst ec_; clear en_)); have GB16 := Aside0.mk gb16; have GG16 := Aside0.mk HG16; clear gb16 gl16 HG16; (first | simp only [add_plain] at hx149_0 | skip); obtain ⟨hx16_0, hf16_0⟩ := Kd.R_celln (⟨#[]⟩ : ByteArray) HO_3.out ((ji12) : Int) p16 q16; replace p16 := eq_true p16; replace q16 := eq_true q16; obtain ⟨hy19_, hz19_⟩ := Kd.R_celln (⟨#[]⟩ : ByteArray) HO_3.out ((ji12) : Int) (of_decide_eq_true (by first | (with_reducible assumption) | assumption)) (of_decide_eq_true (by first | (with_reducible assumption) | assumption)); have HP19 := Kd.R_putg HO_3.out ((ji12) : Int) ((rdOf ByteArray.empty x3_1 (ji12)) ++ (Utf8.encode t144))) | ((with_reducible refine gate_store (t := 9) (p := 26) rfl ?_); refine store_event (t := 9) (p := 26) (v := ?vo_w20) (w1 := (w17.setCell ⟨go16, ((ji12) : Int).toNat, none⟩ (.string ((rdOf ByteArray.empty x3_1 (ji12)) ++ (Utf8.encode t144))))) ?hg ?ho ?hn ?hr ?_; (case ho => rfl); (case hg => rfl); (case hn => rfl); (case hr => first | (go_simp; done) | (go_simp; rfl)); intro w20 hw; have hg : w17.grownBy w20 (some go16) := (by rw [hw]; exact HP19.2); have hp_ : Kd.R Kd.string 9 w20 w.heap.size (fun _ => True) (.slice (some ⟨go16, 0, none⟩) x3_1.length co18) y150 := (by rw [hw, Ny150.out]; exact HP19.1); clear HP19; have n0_ := Aside0.mk (hp_); have n1_ := Aside0.mk (IsS159.grown (by repeat (first | (with_reducible first | exact HI142.out | apply IsS159.alloc | apply IsS159.drewN | apply IsS159.drew | apply IsS159.set_1) | exact HI142.out)) hg (IsS159.own_ne HI142.out HO_3.out (by decide))); have n2_ := Aside0.mk ((by rw [hw]; exact below_set (HB.out) GB16.out : Below w.heap.size w w20)); clear HO_3; clear HI142; clear HB; have HO_3 := n0_; have HI142 := n1_; have HB := n2_; clear n0_ n1_ n2_; clear hg hw hp_))
                go_roundg k1
                case measure => have := HK1.out; omega
                case rel => exact ⟨(y150), (t145), H', ⟨by have := HK1.out; omega⟩, ⟨by (with_reducible repeat (first | apply Kd.R_alloc | apply Kd.R_drewN | apply Kd.R_drew)); exact HO_3.out⟩, ⟨by repeat (first | (with_reducible first | exact HI142.out | apply IsS159.alloc | apply IsS159.drewN | apply IsS159.drew | apply IsS159.set_1) | exact HI142.out)⟩, ⟨by repeat (first | (with_reducible first | exact HB.out | apply below_alloc | apply pw_below_drewN | apply below_drew1 | refine below_set ?_ (IsS159.ge HI142.out)) | exact HB.out)⟩⟩
              · rw [if_neg c15] at H
                exact absurd H (by simp)
            · rw [if_neg c14] at H
              exact absurd H (by simp)
          · rw [if_neg c13] at H
            exact absurd H (by simp)
      · rw [if_neg c6] at H
        have c6b0 : decide (x143001_1 < (t140.size : Int)) = false := decide_eq_false c6
        clear c6
        replace H := Option.bind_eq_some_iff.mp H
        obtain ⟨t151, A210, H⟩ := H
        replace H : (some x3_1) = some r := H
        have A21 := Aside0.mk A210
        clear A210
        obtain rfl := Option.some.inj H
        go_wp2_with (first | ((with_reducible refine gate_dst (N := 9) rfl ?_); refine nextL_ (some 9) rfl rfl rfl (.pointer (some ⟨g142, 0, none⟩)) rfl ?_; (with_reducible refine (itr_end.calls g142 t140 x143001_1 t151 w _ ?side1 ?side2 A21.out).mono ?_); (case side1 => repeat (first | (with_reducible first | exact HI142.out | apply IsS159.alloc | apply IsS159.drewN | apply IsS159.drew | apply IsS159.set_1) | exact HI142.out)); (case side2 => repeat (first | (with_reducible first | exact HB.out | apply below_alloc | apply pw_below_drewN | apply below_drew1 | refine below_set ?_ (IsS159.ge HI142.out)) | exact HB.out)); rintro e w22 ⟨rfl, hi, hb, hk⟩; refine ⟨_, rfl, ?_⟩; have n0_ := Aside0.mk (Kd.R_mono (Kd.R_keep (IsS159.apart (show IsS159 w _ g142 t140 x143001_1 from by repeat (first | (with_reducible first | exact HI142.out | apply IsS159.alloc | apply IsS159.drewN | apply IsS159.drew | apply IsS159.set_1) | exact HI142.out)) (by (with_reducible repeat (first | apply Kd.R_alloc | apply Kd.R_drewN | apply Kd.R_drew)); exact HO_3.out) (by decide)) hk (fun _ h => h.2)) (fun _ h => h.1)); have n1_ := Aside0.mk (hb); have n2_ := Aside0.mk (hi); clear HO_3; clear HB; clear HI142; have HO_3 := n0_; have HB := n1_; have HI142 := n2_; clear n0_ n1_ n2_; (try clear hb); (try clear hb2); (try clear hk); (try clear hi)))
        go_ret
        exact ⟨_, by first | rfl | (simp [errW_none, errW_some] <;> rfl) | (simp [*, errW_none, errW_some] <;> rfl), by (with_reducible repeat (first | apply Kd.R_alloc | apply Kd.R_drewN | apply Kd.R_drew)); exact HO_3.out, by repeat (first | (with_reducible first | exact HB.out | apply below_alloc | apply pw_below_drewN | apply below_drew1 | refine below_set ?_ (IsS159.ge HI142.out)) | exact HB.out)⟩

/-! ### spec_LsSteps: function 12 -/
mutual
def spec_LsSteps.l0 : Nat → List (S36) → Int → List (S38) → Int → Int → Option ((List (S36)))
  | 0, _, _, _, _, _ => none
  | k + 1, x3, x4, x7, x8, x9 => if x9 < x8 then (if 0 ≤ x9 then (if x9 < (x7.length : Int) then (spec_LsSteps.l1 k x3 x4 x7 x8 x9 ((rd_T38 x7 x9).f0) ((rd_T38 x7 x9).f1)) else (none)) else (none)) else (some x3)
def spec_LsSteps.l1 : Nat → List (S36) → Int → List (S38) → Int → Int → ByteArray → Int → Option ((List (S36)))
  | 0, _, _, _, _, _, _, _ => none
  | k + 1, x3, x4, x7, x8, x9, x154000, x154001 => if x4 < x154001 then (if x3.length < 2932031007402 then (spec_LsSteps.l1 k (x3 ++ [(⟨2, (⟨#[]⟩ : ByteArray), ([] : List ByteArray)⟩ : S36)]) (wrap64 (x4 + 1)) x7 x8 x9 x154000 x154001) else (none)) else (spec_LsSteps.l2 k x3 x4 x7 x8 x9 x154000 x154001)
def spec_LsSteps.l2 : Nat → List (S36) → Int → List (S38) → Int → Int → ByteArray → Int → Option ((List (S36)))
  | 0, _, _, _, _, _, _, _ => none
  | k + 1, x3, x4, x7, x8, x9, x154000, x154001 => if x4 > x154001 then (if x3.length < 2932031007402 then (spec_LsSteps.l2 k (x3 ++ [(⟨3, (⟨#[]⟩ : ByteArray), ([] : List ByteArray)⟩ : S36)]) (wrap64 (x4 - 1)) x7 x8 x9 x154000 x154001) else (none)) else (if x3.length < 2932031007402 then (spec_LsSteps.l0 k (x3 ++ [(⟨0, x154000, ([] : List ByteArray)⟩ : S36)]) x4 x7 x8 (wrap64 (x9 + 1))) else (none))
end
def spec_LsSteps.f (k : Nat) (l0 : List (S38)) : Option ((List (S36))) := spec_LsSteps.l0 k ([] : List (S36)) 0 l0 (l0.length : Int) 0
theorem spec_LsSteps.mono_l : ∀ k, (∀ y0 y1 y2 y3 y4, LeO (spec_LsSteps.l0 k y0 y1 y2 y3 y4) (spec_LsSteps.l0 (k + 1) y0 y1 y2 y3 y4)) ∧ (∀ y0 y1 y2 y3 y4 y5 y6, LeO (spec_LsSteps.l1 k y0 y1 y2 y3 y4 y5 y6) (spec_LsSteps.l1 (k + 1) y0 y1 y2 y3 y4 y5 y6)) ∧ (∀ y0 y1 y2 y3 y4 y5 y6, LeO (spec_LsSteps.l2 k y0 y1 y2 y3 y4 y5 y6) (spec_LsSteps.l2 (k + 1) y0 y1 y2 y3 y4 y5 y6))
  | 0 => ⟨fun _ _ _ _ _ r h => by simp [spec_LsSteps.l0] at h, fun _ _ _ _ _ _ _ r h => by simp [spec_LsSteps.l1] at h, fun _ _ _ _ _ _ _ r h => by simp [spec_LsSteps.l2] at h⟩
  | k + 1 => by
    obtain ⟨ih0, ih1, ih2⟩ := spec_LsSteps.mono_l k
    refine ⟨?_, ?_, ?_⟩
    · intro y0 y1 y2 y3 y4
      unfold spec_LsSteps.l0
      repeat' first
      | (with_reducible exact ih0 _ _ _ _ _)
      | (with_reducible exact ih1 _ _ _ _ _ _ _)
      | (with_reducible exact ih2 _ _ _ _ _ _ _)
      | (with_reducible exact LeO.refl _)
      | (with_reducible exact LeO.none _)
      | (with_reducible refine LeO.ite ?_ ?_)
      | (with_reducible refine LeO.bind ?_ (fun _ => ?_))
      | exact ih0 _ _ _ _ _
      | exact ih1 _ _ _ _ _ _ _
      | exact ih2 _ _ _ _ _ _ _
      | exact LeO.none _
      | refine LeO.ite ?_ ?_
      | refine LeO.bind ?_ (fun _ => ?_)
    · intro y0 y1 y2 y3 y4 y5 y6
      unfold spec_LsSteps.l1
      repeat' first
      | (with_reducible exact ih0 _ _ _ _ _)
      | (with_reducible exact ih1 _ _ _ _ _ _ _)
      | (with_reducible exact ih2 _ _ _ _ _ _ _)
      | (with_reducible exact LeO.refl _)
      | (with_reducible exact LeO.none _)
      | (with_reducible refine LeO.ite ?_ ?_)
      | (with_reducible refine LeO.bind ?_ (fun _ => ?_))
      | exact ih0 _ _ _ _ _
      | exact ih1 _ _ _ _ _ _ _
      | exact ih2 _ _ _ _ _ _ _
      | exact LeO.none _
      | refine LeO.ite ?_ ?_
      | refine LeO.bind ?_ (fun _ => ?_)
    · intro y0 y1 y2 y3 y4 y5 y6
      unfold spec_LsSteps.l2
      repeat' first
      | (with_reducible exact ih0 _ _ _ _ _)
      | (with_reducible exact ih1 _ _ _ _ _ _ _)
      | (with_reducible exact ih2 _ _ _ _ _ _ _)
      | (with_reducible exact LeO.refl _)
      | (with_reducible exact LeO.none _)
      | (with_reducible refine LeO.ite ?_ ?_)
      | (with_reducible refine LeO.bind ?_ (fun _ => ?_))
      | exact ih0 _ _ _ _ _
      | exact ih1 _ _ _ _ _ _ _
      | exact ih2 _ _ _ _ _ _ _
      | exact LeO.none _
      | refine LeO.ite ?_ ?_
      | refine LeO.bind ?_ (fun _ => ?_)
theorem spec_LsSteps.mono : ∀ a0 k, LeO (spec_LsSteps.f k a0) (spec_LsSteps.f (k + 1) a0) := by
  intro a0 k
  obtain ⟨ih0, ih1, ih2⟩ := spec_LsSteps.mono_l k
  unfold spec_LsSteps.f
  repeat' first
      | (with_reducible exact ih0 _ _ _ _ _)
      | (with_reducible exact ih1 _ _ _ _ _ _ _)
      | (with_reducible exact ih2 _ _ _ _ _ _ _)
      | (with_reducible exact LeO.refl _)
      | (with_reducible exact LeO.none _)
      | (with_reducible refine LeO.ite ?_ ?_)
      | (with_reducible refine LeO.bind ?_ (fun _ => ?_))
      | exact ih0 _ _ _ _ _
      | exact ih1 _ _ _ _ _ _ _
      | exact ih2 _ _ _ _ _ _ _
      | exact LeO.none _
      | refine LeO.ite ?_ ?_
      | refine LeO.bind ?_ (fun _ => ?_)
set_option maxHeartbeats 8000000 in
set_option maxRecDepth 100000 in
theorem spec_LsSteps.calls (k : Nat) (A0 : Option Addr) (c0 : Nat) (l0 : List (S38)) (r : List (S36)) (w : World) (hr0 : Kd.C k38 w A0 l0.length l0) (hc0 : l0.length ≤ c0) (h : spec_LsSteps.f k l0 = some r) :
    Calls Tryd.prog 12 #[.slice A0 l0.length c0] w fun e w' => ∃ v0_ : Value, e = .returned (v0_) ∧ Kd.S k36 36 w' w.heap.size (fun _ => True) v0_ r ∧ Below w.heap.size w w' := by
  have hu38 := Tryd.underlying38
  have hu36 := Tryd.underlying36
  have HR0 := Aside0.mk hr0
  have HC0 := Aside0.mk hc0
  clear hr0 hc0
  have HB := Aside0.mk (Below.refl w.heap.size w)
  have H : (spec_LsSteps.l0 k ([] : List (S36)) 0 l0 (l0.length : Int) 0) = some r := h
  clear h
  have H' := Aside0.mk H
  clear H
  go_enter Tryd.func12, Tryd.ntmps12
  go_wp2
  (try simp only [Act.put, List.setIfInBounds_toArray, List.set_cons_zero, List.set_cons_succ])
  go_loopg [3, 4, 9] k (fun kq v3 v4 v9 w' => ∃ (x3_1 : List (S36)) (x4_1 : Int) (x9_1 : Int), v4 = .int .i64 x4_1 ∧ v9 = .int .i64 x9_1 ∧ Aside0 (spec_LsSteps.l0 kq x3_1 x4_1 l0 (l0.length : Int) x9_1 = some r) ∧ Aside0 (kq ≤ k) ∧ Aside0 (Kd.S k36 36 w' w.heap.size (fun _ => True) v3 x3_1) ∧ Aside0 (Below w.heap.size w w'))
  case atStart => exact ⟨(([] : List (S36))), (0), (0), (by first | rfl | (simp; done) | (simp [*]; done)), (by first | rfl | (simp; done) | (simp [*]; done)), H', ⟨Nat.le_refl _⟩, ⟨by first | exact Kd.S_nil _ _ _ _ _ | exact Kd.N_nil _ _ _ _ _ | exact Kd.V_nil _ _ _ _ _ | exact Kd.Q_nil _ _ _ _ _ | exact Kd.R_nil _ _ _ _ _⟩, ⟨by repeat (first | (with_reducible first | exact HB.out | apply below_alloc | apply pw_below_drewN | apply below_drew1) | exact HB.out)⟩⟩
  case round =>
    clear H'
    try clear c1
    obtain ⟨x3_1, x4_1, x9_1, rfl, rfl, HA, HK1, HO_3, HB⟩ := hrel
    cases gk with
    | zero => exact absurd HA.out (by simp [spec_LsSteps.l0])
    | succ k1 =>
      have H := HA.out
      clear HA
      simp only [spec_LsSteps.l0] at H
      by_cases c2 : x9_1 < (l0.length : Int)
      · rw [if_pos c2] at H
        have c2b0 : decide (x9_1 < (l0.length : Int)) = true := decide_eq_true c2
        clear c2
        by_cases c3 : 0 ≤ x9_1
        · rw [if_pos c3] at H
          have c3b0 : decide (0 ≤ x9_1) = true := decide_eq_true c3
          clear c3
          by_cases c4 : x9_1 < (l0.length : Int)
          · rw [if_pos c4] at H
            have c4b0 : decide (x9_1 < (l0.length : Int)) = true := decide_eq_true c4
            clear c4
            have H' := Aside0.mk H
            clear H
            have p152 : 0 ≤ (x9_1 : Int) := of_decide_eq_true (by first | (with_reducible assumption) | assumption)
            have q152 : x9_1 < (l0.length : Int) := of_decide_eq_true (by first | (with_reducible assumption) | assumption)
            obtain ⟨ad152, e152, hx152_0, hx152_1⟩ := at_T38 HR0.out x9_1 p152 q152
            cases e152
            replace hx152_0 := (HB.out.cell (World.block_lt_of_cell? w _ hx152_0)).trans hx152_0
            replace hx152_1 := (HB.out.cell (World.block_lt_of_cell? w _ hx152_1)).trans hx152_1
            replace p152 := eq_true p152
            replace q152 := eq_true q152
            go_wp2_with (first | ((with_reducible refine gate_dst (N := 6) rfl ?_); refine box_event ?hg (N := 6) ?hd (cs := #[.string (⟨#[]⟩ : ByteArray), .int .i64 0]) (t := 38) ?hr ?_; (case hd => rfl); (case hg => rfl); (case hr => first | (go_simp; done) | (go_simp; rfl)); intro gb153 hg w5 hbox hb; have n0_ := Aside0.mk (Kd.S_below (by (with_reducible repeat (first | apply Kd.S_alloc | apply Kd.S_drewN | apply Kd.S_drew)); exact HO_3.out) hb); have n1_ := Aside0.mk (below_step (by repeat (first | (with_reducible first | exact HB.out | apply below_alloc | apply pw_below_drewN | apply below_drew1) | exact HB.out)) hb); have n2_ := Aside0.mk (hbox); have n3_ := Aside0.mk ((by rw [hg]; exact (below_size (by repeat (first | (with_reducible first | exact HB.out | apply below_alloc | apply pw_below_drewN | apply below_drew1) | exact HB.out))) : w.heap.size ≤ gb153)); have n4_ := Aside0.mk ((by rw [hg]; exact (below_size (by repeat (first | (with_reducible first | exact HB.out | apply below_alloc | apply pw_below_drewN | apply below_drew1) | exact HB.out))) : w.heap.size ≤ gb153)); clear HO_3; clear HB; have HO_3 := n0_; have HB := n1_; have BK153 := n2_; have GW153 := n3_; have GE153 := n4_; clear n0_ n1_ n2_ n3_ n4_; clear hb hbox hg; have hcz6_0 : w5.cell? ⟨gb153, 0, none⟩ = some (.string (⟨#[]⟩ : ByteArray)) := (blk_cell BK153.out 0).trans rfl; have hcz6_1 : w5.cell? ⟨gb153, 1, none⟩ = some (.int .i64 0) := (blk_cell BK153.out 1).trans rfl; have hfz6_0 := blk_frozen BK153.out 0; have hfz6_1 := blk_frozen BK153.out 1))
            (try simp only [Act.put, List.setIfInBounds_toArray, List.set_cons_zero, List.set_cons_succ])
            go_loopg [3, 4] k1 (fun kq v3 v4 w' => ∃ (x3_2 : List (S36)) (x4_2 : Int), v4 = .int .i64 x4_2 ∧ Aside0 (spec_LsSteps.l1 kq x3_2 x4_2 l0 (l0.length : Int) x9_1 ((rd_T38 l0 x9_1).f0) ((rd_T38 l0 x9_1).f1) = some r) ∧ Aside0 (kq ≤ k1) ∧ Aside0 (Kd.S k36 36 w' w.heap.size (fun _ => True) v3 x3_2) ∧ Aside0 (w'.heap[gb153]? = some (.cells #[.string ((rd_T38 l0 x9_1).f0), .int .i64 ((rd_T38 l0 x9_1).f1)] 38 (0, 0))) ∧ Aside0 (Below w.heap.size w w'))
            case atStart => exact ⟨(x3_1), (x4_1), (by first | rfl | (simp; done) | (simp [*]; done)), H', ⟨Nat.le_refl _⟩, ⟨by (with_reducible repeat (first | apply Kd.S_alloc | apply Kd.S_drewN | apply Kd.S_drew)); exact Kd.S_mono (Kd.S_far (p := ⟨gb153, 1, none⟩) (Kd.S_far (p := ⟨gb153, 0, none⟩) (Kd.S_types HO_3.out BK153.out (by decide)) (fun _ hk => hk.2) (.string ((rd_T38 l0 x9_1).f0))) (fun _ hk => hk.2) (.int .i64 ((rd_T38 l0 x9_1).f1))) (fun _ hk => trivial)⟩, ⟨by (with_reducible repeat (first | refine blk_drewN ?_ _ | refine blk_drew ?_ | refine blk_alloc ?_ _)); refine blk_put (cs := #[.string ((rd_T38 l0 x9_1).f0), .int .i64 0]) ?_ 1 _ rfl; (with_reducible repeat (first | refine blk_drewN ?_ _ | refine blk_drew ?_ | refine blk_alloc ?_ _)); refine blk_put (cs := #[.string (⟨#[]⟩ : ByteArray), .int .i64 0]) ?_ 0 _ rfl; (with_reducible repeat (first | refine blk_drewN ?_ _ | refine blk_drew ?_ | refine blk_alloc ?_ _)); exact BK153.out⟩, ⟨by repeat (first | (with_reducible first | exact HB.out | apply below_alloc | apply pw_below_drewN | apply below_drew1 | refine below_set ?_ GE153.out) | exact HB.out)⟩⟩
            case round =>
              clear H'
              try clear c1
              try clear p1
              try clear q1
              try clear hx1
              try clear c2
              try clear c2b0
              try clear p2
              try clear c3
              try clear c3b0
              try clear c4
              try clear c4b0
              try clear hcz6_0
              try clear hcz6_1
              try clear hfz6_0
              try clear hfz6_1
              try clear hx152_0
              try clear hx152_1
              try clear p152
              try clear q152
              obtain ⟨x3_2, x4_2, rfl, HA, HK2, HO_3, BK153, HB⟩ := hrel
              cases gk with
              | zero => exact absurd HA.out (by simp [spec_LsSteps.l1])
              | succ k2 =>
                have H := HA.out
                clear HA
                simp only [spec_LsSteps.l1] at H
                by_cases c7 : x4_2 < ((rd_T38 l0 x9_1).f1)
                · rw [if_pos c7] at H
                  have c7b0 : decide (x4_2 < ((rd_T38 l0 x9_1).f1)) = true := decide_eq_true c7
                  clear c7
                  by_cases c8 : x3_2.length < 2932031007402
                  · rw [if_pos c8] at H
                    have LMc8 := Aside0.mk c8
                    clear c8
                    obtain ⟨y154, hy154⟩ : ∃ y_ : List (S36), y_ = (x3_2 ++ [(⟨2, (⟨#[]⟩ : ByteArray), ([] : List ByteArray)⟩ : S36)]) := ⟨_, rfl⟩
                    replace H : (spec_LsSteps.l1 k2 y154 (wrap64 (x4_2 + 1)) l0 (l0.length : Int) x9_1 ((rd_T38 l0 x9_1).f0) ((rd_T38 l0 x9_1).f1)) = some r := by first | (rw [hy154]; with_reducible exact H) | (have H2_ := (Option.bind_some _ _).symm.trans H; rw [hy154]; with_reducible exact H2_) | (have H2_ := (Option.bind_some _ _).symm.trans H; with_reducible exact H2_) | with_reducible exact H | (rw [hy154]; exact H) | exact H
                    have Ny154 := Aside0.mk hy154
                    clear hy154
                    have H' := Aside0.mk H
                    clear H
                    have hcz9_0 : wr.cell? ⟨gb153, 0, none⟩ = some (.string ((rd_T38 l0 x9_1).f0)) := (blk_cell BK153.out 0).trans rfl
                    have hcz9_1 : wr.cell? ⟨gb153, 1, none⟩ = some (.int .i64 ((rd_T38 l0 x9_1).f1)) := (blk_cell BK153.out 1).trans rfl
                    have hfz9_0 := blk_frozen BK153.out 0
                    have hfz9_1 := blk_frozen BK153.out 1
                    go_wp2_with (first | ((with_reducible refine gate_builtin (b := .append) (xs := #[.tmp 19, .tmp 21]) rfl ?_); at_builtin; refine Kd.S_append k36 (w0 := w) w.heap.size rfl (.tmp 19) (.tmp 21) 30 36 (.agg #[(.int .i64 0), (.string ⟨#[]⟩), (.slice none 0 0)]) 48 rfl Tryd.underlying30 info36 rfl (by decide) (by omega) u3 x3_2 (⟨2, (⟨#[]⟩ : ByteArray), ([] : List ByteArray)⟩ : S36) [.int .i64 2, .string (⟨#[]⟩ : ByteArray), .slice none 0 0] (fun _ => True) (fun _ => False) rfl rfl ?aP (fun k_ hk_ => hk_.elim) ?aF ?aO ?aB ?aS ?aL ?_; (case aP => exact k36_mkM _ _ _ (⟨2, (⟨#[]⟩ : ByteArray), ([] : List ByteArray)⟩ : S36) (Kd.R_nil _ _ _ _ _)); (case aB => exact (by repeat (first | (with_reducible first | exact HB.out | apply below_alloc | apply pw_below_drewN | apply below_drew1 | refine below_set ?_ GE153.out) | exact HB.out))); (case aF => exact (fun _ _ => trivial)); (case aO => exact (by (with_reducible repeat (first | apply Kd.S_alloc | apply Kd.S_drewN | apply Kd.S_drew)); exact Kd.S_mono HO_3.out (fun k_ hk => ⟨trivial, fun e_ => e_⟩))); (case aS => exact (below_size (by repeat (first | (with_reducible first | exact HB.out | apply below_alloc | apply pw_below_drewN | apply below_drew1 | refine below_set ?_ GE153.out) | exact HB.out)))); (case aL => have := LMc8.out; first | omega | exact this | exact Nat.le_of_lt this); intro v155 w10 ho hb hg hat; rw [← Ny154.out] at ho; have n0_ := Aside0.mk (blk_grown (g := gb153) (o := .cells #[.string ((rd_T38 l0 x9_1).f0), .int .i64 ((rd_T38 l0 x9_1).f1)] 38 (0, 0)) (by (with_reducible repeat (first | refine blk_drewN ?_ _ | refine blk_drew ?_ | refine blk_alloc ?_ _)); exact BK153.out) hg (Kd.S_ne HO_3.out BK153.out (by decide))); have n1_ := Aside0.mk (hb); have n2_ := Aside0.mk (ho); clear BK153; clear HB; clear HO_3; have BK153 := n0_; have HB := n1_; have HO156 := n2_; clear n0_ n1_ n2_; clear ho hb hg hat))
                    go_roundg k2
                    case measure => have := HK1.out; have := HK2.out; omega
                    case rel => exact ⟨(y154), (wrap64 (x4_2 + 1)), (by first | rfl | (simp; done) | (simp [*]; done)), H', ⟨by have := HK1.out; have := HK2.out; omega⟩, ⟨by (with_reducible repeat (first | apply Kd.S_alloc | apply Kd.S_drewN | apply Kd.S_drew)); exact HO156.out⟩, ⟨by (with_reducible repeat (first | refine blk_drewN ?_ _ | refine blk_drew ?_ | refine blk_alloc ?_ _)); exact BK153.out⟩, ⟨by repeat (first | (with_reducible first | exact HB.out | apply below_alloc | apply pw_below_drewN | apply below_drew1 | refine below_set ?_ GE153.out) | exact HB.out)⟩⟩
                  · rw [if_neg c8] at H
                    exact absurd H (by simp)
                · rw [if_neg c7] at H
                  have c7b0 : decide (x4_2 < ((rd_T38 l0 x9_1).f1)) = false := decide_eq_false c7
                  clear c7
                  have H' := Aside0.mk H
                  clear H
                  have hcz11_0 : wr.cell? ⟨gb153, 0, none⟩ = some (.string ((rd_T38 l0 x9_1).f0)) := (blk_cell BK153.out 0).trans rfl
                  have hcz11_1 : wr.cell? ⟨gb153, 1, none⟩ = some (.int .i64 ((rd_T38 l0 x9_1).f1)) := (blk_cell BK153.out 1).trans rfl
                  have hfz11_0 := blk_frozen BK153.out 0
                  have hfz11_1 := blk_frozen BK153.out 1
                  go_wp2
                  (try simp only [Act.put, List.setIfInBounds_toArray, List.set_cons_zero, List.set_cons_succ])
                  go_loopg [3, 4] k2 (fun kq v3 v4 w' => ∃ (x3_3 : List (S36)) (x4_3 : Int), v4 = .int .i64 x4_3 ∧ Aside0 (spec_LsSteps.l2 kq x3_3 x4_3 l0 (l0.length : Int) x9_1 ((rd_T38 l0 x9_1).f0) ((rd_T38 l0 x9_1).f1) = some r) ∧ Aside0 (kq ≤ k2) ∧ Aside0 (Kd.S k36 36 w' w.heap.size (fun _ => True) v3 x3_3) ∧ Aside0 (w'.heap[gb153]? = some (.cells #[.string ((rd_T38 l0 x9_1).f0), .int .i64 ((rd_T38 l0 x9_1).f1)] 38 (0, 0))) ∧ Aside0 (Below w.heap.size w w'))
                  case atStart => exact ⟨(x3_2), (x4_2), (by first | rfl | (simp; done) | (simp [*]; done)), H', ⟨Nat.le_refl _⟩, ⟨by (with_reducible repeat (first | apply Kd.S_alloc | apply Kd.S_drewN | apply Kd.S_drew)); exact HO_3.out⟩, ⟨by (with_reducible repeat (first | refine blk_drewN ?_ _ | refine blk_drew ?_ | refine blk_alloc ?_ _)); exact BK153.out⟩, ⟨by repeat (first | (with_reducible first | exact HB.out | apply below_alloc | apply pw_below_drewN | apply below_drew1 | refine below_set ?_ GE153.out) | exact HB.out)⟩⟩
                  case round =>
                    clear H'
                    try clear c1
                    try clear p1
                    try clear q1
                    try clear hx1
                    try clear c2
                    try clear c2b0
                    try clear p2
                    try clear c3
                    try clear c3b0
                    try clear c4
                    try clear c4b0
                    try clear p6
                    try clear c7
                    try clear c7b0
                    try clear c8
                    try clear hcz11_0
                    try clear hcz11_1
                    try clear hcz6_0
                    try clear hcz6_1
                    try clear hcz9_0
                    try clear hcz9_1
                    try clear hfz11_0
                    try clear hfz11_1
                    try clear hfz6_0
                    try clear hfz6_1
                    try clear hfz9_0
                    try clear hfz9_1
                    try clear hx152_0
                    try clear hx152_1
                    try clear p1
                    try clear p152
                    try clear p2
                    try clear q1
                    try clear q152
                    obtain ⟨x3_3, x4_3, rfl, HA, HK3, HO_3, BK153, HB⟩ := hrel
                    cases gk with
                    | zero => exact absurd HA.out (by simp [spec_LsSteps.l2])
                    | succ k3 =>
                      have H := HA.out
                      clear HA
                      simp only [spec_LsSteps.l2] at H
                      by_cases c12 : x4_3 > ((rd_T38 l0 x9_1).f1)
                      · rw [if_pos c12] at H
                        have c12b0 : decide (((rd_T38 l0 x9_1).f1) < x4_3) = true := decide_eq_true c12
                        clear c12
                        by_cases c13 : x3_3.length < 2932031007402
                        · rw [if_pos c13] at H
                          have LMc13 := Aside0.mk c13
                          clear c13
                          obtain ⟨y157, hy157⟩ : ∃ y_ : List (S36), y_ = (x3_3 ++ [(⟨3, (⟨#[]⟩ : ByteArray), ([] : List ByteArray)⟩ : S36)]) := ⟨_, rfl⟩
                          replace H : (spec_LsSteps.l2 k3 y157 (wrap64 (x4_3 - 1)) l0 (l0.length : Int) x9_1 ((rd_T38 l0 x9_1).f0) ((rd_T38 l0 x9_1).f1)) = some r := by first | (rw [hy157]; with_reducible exact H) | (have H2_ := (Option.bind_some _ _).symm.trans H; rw [hy157]; with_reducible exact H2_) | (have H2_ := (Option.bind_some _ _).symm.trans H; with_reducible exact H2_) | with_reducible exact H | (rw [hy157]; exact H) | exact H
                          have Ny157 := Aside0.mk hy157
                          clear hy157
                          have H' := Aside0.mk H
                          clear H
                          have hcz14_0 : wr.cell? ⟨gb153, 0, none⟩ = some (.string ((rd_T38 l0 x9_1).f0)) := (blk_cell BK153.out 0).trans rfl
                          have hcz14_1 : wr.cell? ⟨gb153, 1, none⟩ = some (.int .i64 ((rd_T38 l0 x9_1).f1)) := (blk_cell BK153.out 1).trans rfl
                          have hfz14_0 := blk_frozen BK153.out 0
                          have hfz14_1 := blk_frozen BK153.out 1
                          go_wp2_with (first | ((with_reducible refine gate_builtin (b := .append) (xs := #[.tmp 29, .tmp 31]) rfl ?_); at_builtin; refine Kd.S_append k36 (w0 := w) w.heap.size rfl (.tmp 29) (.tmp 31) 30 36 (.agg #[(.int .i64 0), (.string ⟨#[]⟩), (.slice none 0 0)]) 48 rfl Tryd.underlying30 info36 rfl (by decide) (by omega) u3 x3_3 (⟨3, (⟨#[]⟩ : ByteArray), ([] : List ByteArray)⟩ : S36) [.int .i64 3, .string (⟨#[]⟩ : ByteArray), .slice none 0 0] (fun _ => True) (fun _ => False) rfl rfl ?aP (fun k_ hk_ => hk_.elim) ?aF ?aO ?aB ?aS ?aL ?_; (case aP => exact k36_mkM _ _ _ (⟨3, (⟨#[]⟩ : ByteArray), ([] : List ByteArray)⟩ : S36) (Kd.R_nil _ _ _ _ _)); (case aB => exact (by repeat (first | (with_reducible first | exact HB.out | apply below_alloc | apply pw_below_drewN | apply below_drew1 | refine below_set ?_ GE153.out) | exact HB.out))); (case aF => exact (fun _ _ => trivial)); (case aO => exact (by (with_reducible repeat (first | apply Kd.S_alloc | apply Kd.S_drewN | apply Kd.S_drew)); exact Kd.S_mono HO_3.out (fun k_ hk => ⟨trivial, fun e_ => e_⟩))); (case aS => exact (below_size (by repeat (first | (with_reducible first | exact HB.out | apply below_alloc | apply pw_below_drewN | apply below_drew1 | refine below_set ?_ GE153.out) | exact HB.out)))); (case aL => have := LMc13.out; first | omega | exact this | exact Nat.le_of_lt this); intro v158 w15 ho hb hg hat; rw [← Ny157.out] at ho; have n0_ := Aside0.mk (blk_grown (g := gb153) (o := .cells #[.string ((rd_T38 l0 x9_1).f0), .int .i64 ((rd_T38 l0 x9_1).f1)] 38 (0, 0)) (by (with_reducible repeat (first | refine blk_drewN ?_ _ | refine blk_drew ?_ | refine blk_alloc ?_ _)); exact BK153.out) hg (Kd.S_ne HO_3.out BK153.out (by decide))); have n1_ := Aside0.mk (hb); have n2_ := Aside0.mk (ho); clear BK153; clear HB; clear HO_3; have BK153 := n0_; have HB := n1_; have HO159 := n2_; clear n0_ n1_ n2_; clear ho hb hg hat))
                          go_roundg k3
                          case measure => have := HK1.out; have := HK2.out; have := HK3.out; omega
                          case rel => exact ⟨(y157), (wrap64 (x4_3 - 1)), (by first | rfl | (simp; done) | (simp [*]; done)), H', ⟨by have := HK1.out; have := HK2.out; have := HK3.out; omega⟩, ⟨by (with_reducible repeat (first | apply Kd.S_alloc | apply Kd.S_drewN | apply Kd.S_drew)); exact HO159.out⟩, ⟨by (with_reducible repeat (first | refine blk_drewN ?_ _ | refine blk_drew ?_ | refine blk_alloc ?_ _)); exact BK153.out⟩, ⟨by repeat (first | (with_reducible first | exact HB.out | apply below_alloc | apply pw_below_drewN | apply below_drew1 | refine below_set ?_ GE153.out) | exact HB.out)⟩⟩
                        · rw [if_neg c13] at H
                          exact absurd H (by simp)
                      · rw [if_neg c12] at H
                        have c12b0 : decide (((rd_T38 l0 x9_1).f1) < x4_3) = false := decide_eq_false c12
                        clear c12
                        by_cases c16 : x3_3.length < 2932031007402
                        · rw [if_pos c16] at H
                          have LMc16 := Aside0.mk c16
                          clear c16
                          obtain ⟨y160, hy160⟩ : ∃ y_ : List (S36), y_ = (x3_3 ++ [(⟨0, ((rd_T38 l0 x9_1).f0), ([] : List ByteArray)⟩ : S36)]) := ⟨_, rfl⟩
                          replace H : (spec_LsSteps.l0 k3 y160 x4_3 l0 (l0.length : Int) (wrap64 (x9_1 + 1))) = some r := by first | (rw [hy160]; with_reducible exact H) | (have H2_ := (Option.bind_some _ _).symm.trans H; rw [hy160]; with_reducible exact H2_) | (have H2_ := (Option.bind_some _ _).symm.trans H; with_reducible exact H2_) | with_reducible exact H | (rw [hy160]; exact H) | exact H
                          have Ny160 := Aside0.mk hy160
                          clear hy160
                          have H' := Aside0.mk H
                          clear H
                          have hcz17_0 : wr.cell? ⟨gb153, 0, none⟩ = some (.string ((rd_T38 l0 x9_1).f0)) := (blk_cell BK153.out 0).trans rfl
                          have hcz17_1 : wr.cell? ⟨gb153, 1, none⟩ = some (.int .i64 ((rd_T38 l0 x9_1).f1)) := (blk_cell BK153.out 1).trans rfl
                          have hfz17_0 := blk_frozen BK153.out 0
                          have hfz17_1 := blk_frozen BK153.out 1
                          go_wp2_with (first | ((with_reducible refine gate_builtin (b := .append) (xs := #[.tmp 33, .tmp 37]) rfl ?_); at_builtin; refine Kd.S_append k36 (w0 := w) w.heap.size rfl (.tmp 33) (.tmp 37) 30 36 (.agg #[(.int .i64 0), (.string ⟨#[]⟩), (.slice none 0 0)]) 48 rfl Tryd.underlying30 info36 rfl (by decide) (by omega) u3 x3_3 (⟨0, ((rd_T38 l0 x9_1).f0), ([] : List ByteArray)⟩ : S36) [.int .i64 0, .string ((rd_T38 l0 x9_1).f0), .slice none 0 0] (fun _ => True) (fun _ => False) rfl rfl ?aP (fun k_ hk_ => hk_.elim) ?aF ?aO ?aB ?aS ?aL ?_; (case aP => exact k36_mkM _ _ _ (⟨0, ((rd_T38 l0 x9_1).f0), ([] : List ByteArray)⟩ : S36) (Kd.R_nil _ _ _ _ _)); (case aB => exact (by repeat (first | (with_reducible first | exact HB.out | apply below_alloc | apply pw_below_drewN | apply below_drew1 | refine below_set ?_ GE153.out) | exact HB.out))); (case aF => exact (fun _ _ => trivial)); (case aO => exact (by (with_reducible repeat (first | apply Kd.S_alloc | apply Kd.S_drewN | apply Kd.S_drew)); exact Kd.S_mono HO_3.out (fun k_ hk => ⟨trivial, fun e_ => e_⟩))); (case aS => exact (below_size (by repeat (first | (with_reducible first | exact HB.out | apply below_alloc | apply pw_below_drewN | apply below_drew1 | refine below_set ?_ GE153.out) | exact HB.out)))); (case aL => have := LMc16.out; first | omega | exact this | exact Nat.le_of_lt this); intro v161 w18 ho hb hg hat; rw [← Ny160.out] at ho; have n0_ := Aside0.mk (blk_grown (g := gb153) (o := .cells #[.string ((rd_T38 l0 x9_1).f0), .int .i64 ((rd_T38 l0 x9_1).f1)] 38 (0, 0)) (by (with_reducible repeat (first | refine blk_drewN ?_ _ | refine blk_drew ?_ | refine blk_alloc ?_ _)); exact BK153.out) hg (Kd.S_ne HO_3.out BK153.out (by decide))); have n1_ := Aside0.mk (hb); have n2_ := Aside0.mk (ho); clear BK153; clear HB; clear HO_3; have BK153 := n0_; have HB := n1_; have HO162 := n2_; clear n0_ n1_ n2_; clear ho hb hg hat))
                          go_roundg k3
                          case measure => have := HK1.out; have := HK2.out; have := HK3.out; omega
                          case rel => exact ⟨(y160), (x4_3), (wrap64 (x9_1 + 1)), (by first | rfl | (simp; done) | (simp [*]; done)), (by first | rfl | (simp; done) | (simp [*]; done)), H', ⟨by have := HK1.out; have := HK2.out; have := HK3.out; omega⟩, ⟨by (with_reducible repeat (first | apply Kd.S_alloc | apply Kd.S_drewN | apply Kd.S_drew)); exact HO162.out⟩, ⟨by repeat (first | (with_reducible first | exact HB.out | apply below_alloc | apply pw_below_drewN | apply below_drew1 | refine below_set ?_ GE153.out) | exact HB.out)⟩⟩
                        · rw [if_neg c16] at H
                          exact absurd H (by simp)
          · rw [if_neg c4] at H
            exact absurd H (by simp)
        · rw [if_neg c3] at H
          exact absurd H (by simp)
      · rw [if_neg c2] at H
        have c2b0 : decide (x9_1 < (l0.length : Int)) = false := decide_eq_false c2
        clear c2
        obtain rfl := Option.some.inj H
        go_wp2
        go_ret
        exact ⟨_, by first | rfl | (simp [errW_none, errW_some] <;> rfl) | (simp [*, errW_none, errW_some] <;> rfl), by (with_reducible repeat (first | apply Kd.S_alloc | apply Kd.S_drewN | apply Kd.S_drew)); exact HO_3.out, by repeat (first | (with_reducible first | exact HB.out | apply below_alloc | apply pw_below_drewN | apply below_drew1) | exact HB.out)⟩

/-! ### spec_TxSameTexts: function 13 -/
def spec_TxSameTexts.l0 : Nat → List ByteArray → List ByteArray → Int → Int → Option (Bool)
  | 0, _, _, _, _ => none
  | k + 1, x0, x1, x12, x13 => if x13 < x12 then (if 0 ≤ x13 then (if x13 < (x0.length : Int) then (if x13 < (x1.length : Int) then (if (rdOf ByteArray.empty x0 x13).toList = (rdOf ByteArray.empty x1 x13).toList then (spec_TxSameTexts.l0 k x0 x1 x12 (wrap64 (x13 + 1))) else (some false)) else (none)) else (none)) else (none)) else (some true)
def spec_TxSameTexts.f (k : Nat) (l0 : List ByteArray) (l1 : List ByteArray) : Option (Bool) := if (l0.length : Int) = (l1.length : Int) then (spec_TxSameTexts.l0 k l0 l1 (l0.length : Int) 0) else (some false)
theorem spec_TxSameTexts.mono_l : ∀ k, (∀ y0 y1 y2 y3, LeO (spec_TxSameTexts.l0 k y0 y1 y2 y3) (spec_TxSameTexts.l0 (k + 1) y0 y1 y2 y3))
  | 0 => fun _ _ _ _ r h => by simp [spec_TxSameTexts.l0] at h
  | k + 1 => by
    have ih0 := spec_TxSameTexts.mono_l k
    · intro y0 y1 y2 y3
      unfold spec_TxSameTexts.l0
      repeat' first
      | (with_reducible exact ih0 _ _ _ _)
      | (with_reducible exact LeO.refl _)
      | (with_reducible exact LeO.none _)
      | (with_reducible refine LeO.ite ?_ ?_)
      | (with_reducible refine LeO.bind ?_ (fun _ => ?_))
      | exact ih0 _ _ _ _
      | exact LeO.none _
      | refine LeO.ite ?_ ?_
      | refine LeO.bind ?_ (fun _ => ?_)
theorem spec_TxSameTexts.mono : ∀ a0 a1 k, LeO (spec_TxSameTexts.f k a0 a1) (spec_TxSameTexts.f (k + 1) a0 a1) := by
  intro a0 a1 k
  have ih0 := spec_TxSameTexts.mono_l k
  unfold spec_TxSameTexts.f
  repeat' first
      | (with_reducible exact ih0 _ _ _ _)
      | (with_reducible exact LeO.refl _)
      | (with_reducible exact LeO.none _)
      | (with_reducible refine LeO.ite ?_ ?_)
      | (with_reducible refine LeO.bind ?_ (fun _ => ?_))
      | exact ih0 _ _ _ _
      | exact LeO.none _
      | refine LeO.ite ?_ ?_
      | refine LeO.bind ?_ (fun _ => ?_)
set_option maxHeartbeats 8000000 in
set_option maxRecDepth 100000 in
theorem spec_TxSameTexts.calls (k : Nat) (A0 : Option Addr) (c0 : Nat) (l0 : List ByteArray) (A1 : Option Addr) (c1 : Nat) (l1 : List ByteArray) (r : Bool) (w : World) (hr0 : Kd.C Kd.string w A0 l0.length l0) (hc0 : l0.length ≤ c0) (hr1 : Kd.C Kd.string w A1 l1.length l1) (hc1 : l1.length ≤ c1) (h : spec_TxSameTexts.f k l0 l1 = some r) :
    Calls Tryd.prog 13 #[.slice A0 l0.length c0, .slice A1 l1.length c1] w fun e w' => e = .returned (.bool r) ∧ Drawn0 w w' := by
  have HR0 := Aside0.mk hr0
  have HC0 := Aside0.mk hc0
  clear hr0 hc0
  have HR1 := Aside0.mk hr1
  have HC1 := Aside0.mk hc1
  clear hr1 hc1
  have H : (if (l0.length : Int) = (l1.length : Int) then (spec_TxSameTexts.l0 k l0 l1 (l0.length : Int) 0) else (some false)) = some r := h
  clear h
  by_cases c3 : (l0.length : Int) = (l1.length : Int)
  · rw [if_pos c3] at H
    have c3b0 : ((l0.length : Int) == (l1.length : Int)) = true := beq_iff_eq.mpr c3
    have c3b1 : ((l0.length : Int) != (l1.length : Int)) = false := bne_eq_false_iff_eq.mpr c3
    have c3b2 : (l0.length == l1.length) = true := by first | simpa using c3 | (simp at c3 ⊢; omega)
    clear c3
    have H' := Aside0.mk H
    clear H
    go_enter Tryd.func13, Tryd.ntmps13
    go_wp2
    repeat (go_quiet (fail); try go_wp2)
    (try simp only [Act.put, List.setIfInBounds_toArray, List.set_cons_zero, List.set_cons_succ])
    go_loopg [13] k (fun kq v13 w' => ∃ (x13_1 : Int), v13 = .int .i64 x13_1 ∧ Aside0 (spec_TxSameTexts.l0 kq l0 l1 (l0.length : Int) x13_1 = some r) ∧ Aside0 (kq ≤ k) ∧ Drawn0 w w')
    case atStart => exact ⟨(0), (by first | rfl | (simp; done) | (simp [*]; done)), H', ⟨Nat.le_refl _⟩, by repeat (first | exact Drawn0.refl _ | apply Drawn0.step)⟩
    case round =>
      clear H'
      try clear c1
      try clear p2
      try clear c3
      try clear c3b0
      try clear c3b1
      try clear c3b2
      obtain ⟨x13_1, rfl, HA, HK1, ⟨m1, rfl⟩⟩ := hrel
      cases gk with
      | zero => exact absurd HA.out (by simp [spec_TxSameTexts.l0])
      | succ k1 =>
        have H := HA.out
        clear HA
        simp only [spec_TxSameTexts.l0] at H
        by_cases c4 : x13_1 < (l0.length : Int)
        · rw [if_pos c4] at H
          have c4b0 : decide (x13_1 < (l0.length : Int)) = true := decide_eq_true c4
          clear c4
          by_cases c5 : 0 ≤ x13_1
          · rw [if_pos c5] at H
            have c5b0 : decide (0 ≤ x13_1) = true := decide_eq_true c5
            clear c5
            by_cases c6 : x13_1 < (l0.length : Int)
            · rw [if_pos c6] at H
              have c6b0 : decide (x13_1 < (l0.length : Int)) = true := decide_eq_true c6
              clear c6
              by_cases c7 : x13_1 < (l1.length : Int)
              · rw [if_pos c7] at H
                have c7b0 : decide (x13_1 < (l1.length : Int)) = true := decide_eq_true c7
                clear c7
                by_cases c8 : (rdOf ByteArray.empty l0 x13_1).toList = (rdOf ByteArray.empty l1 x13_1).toList
                · rw [if_pos c8] at H
                  have c8b0 : ((rdOf ByteArray.empty l0 x13_1).toList == (rdOf ByteArray.empty l1 x13_1).toList) = true := beq_iff_eq.mpr c8
                  have c8b1 : ((rdOf ByteArray.empty l0 x13_1).toList != (rdOf ByteArray.empty l1 x13_1).toList) = false := bne_eq_false_iff_eq.mpr c8
                  clear c8
                  have H' := Aside0.mk H
                  clear H
                  have p163 : 0 ≤ (x13_1 : Int) := of_decide_eq_true (by first | (with_reducible assumption) | assumption)
                  have q163 : x13_1 < (l0.length : Int) := of_decide_eq_true (by first | (with_reducible assumption) | assumption)
                  obtain ⟨ad163, e163, hx163_0⟩ := Kd.at_string HR0.out x13_1 p163 q163
                  cases e163
                  replace p163 := eq_true p163
                  replace q163 := eq_true q163
                  have p164 : 0 ≤ (x13_1 : Int) := of_decide_eq_true (by first | (with_reducible assumption) | assumption)
                  have q164 : x13_1 < (l1.length : Int) := of_decide_eq_true (by first | (with_reducible assumption) | assumption)
                  obtain ⟨ad164, e164, hx164_0⟩ := Kd.at_string HR1.out x13_1 p164 q164
                  cases e164
                  replace p164 := eq_true p164
                  replace q164 := eq_true q164
                  go_wp2
                  repeat (go_quiet (fail); try go_wp2)
                  go_roundg k1
                  case measure => have := HK1.out; omega
                  case rel => exact ⟨(wrap64 (x13_1 + 1)), (by first | rfl | (simp; done) | (simp [*]; done)), H', ⟨by have := HK1.out; omega⟩, by repeat (first | exact Drawn0.refl _ | apply Drawn0.step)⟩
                · rw [if_neg c8] at H
                  have c8b0 : ((rdOf ByteArray.empty l0 x13_1).toList == (rdOf ByteArray.empty l1 x13_1).toList) = false := beq_eq_false_iff_ne.mpr c8
                  have c8b1 : ((rdOf ByteArray.empty l0 x13_1).toList != (rdOf ByteArray.empty l1 x13_1).toList) = true := bne_iff_ne.mpr c8
                  obtain rfl := Option.some.inj H
                  have p163 : 0 ≤ (x13_1 : Int) := of_decide_eq_true (by first | (with_reducible assumption) | assumption)
                  have q163 : x13_1 < (l0.length : Int) := of_decide_eq_true (by first | (with_reducible assumption) | assumption)
                  obtain ⟨ad163, e163, hx163_0⟩ := Kd.at_string HR0.out x13_1 p163 q163
                  cases e163
                  replace p163 := eq_true p163
                  replace q163 := eq_true q163
                  have p164 : 0 ≤ (x13_1 : Int) := of_decide_eq_true (by first | (with_reducible assumption) | assumption)
                  have q164 : x13_1 < (l1.length : Int) := of_decide_eq_true (by first | (with_reducible assumption) | assumption)
                  obtain ⟨ad164, e164, hx164_0⟩ := Kd.at_string HR1.out x13_1 p164 q164
                  cases e164
                  replace p164 := eq_true p164
                  replace q164 := eq_true q164
                  go_wp2
                  repeat (go_quiet (fail); try go_wp2)
                  go_ret
                  exact ⟨by first | rfl | (simp; done) | (simp [*]; done), by repeat (first | exact Drawn0.refl _ | apply Drawn0.step)⟩
              · rw [if_neg c7] at H
                exact absurd H (by simp)
            · rw [if_neg c6] at H
              exact absurd H (by simp)
          · rw [if_neg c5] at H
            exact absurd H (by simp)
        · rw [if_neg c4] at H
          have c4b0 : decide (x13_1 < (l0.length : Int)) = false := decide_eq_false c4
          clear c4
          obtain rfl := Option.some.inj H
          go_wp2
          repeat (go_quiet (fail); try go_wp2)
          go_ret
          exact ⟨by first | rfl | (simp; done) | (simp [*]; done), by repeat (first | exact Drawn0.refl _ | apply Drawn0.step)⟩
  · rw [if_neg c3] at H
    have c3b0 : ((l0.length : Int) == (l1.length : Int)) = false := beq_eq_false_iff_ne.mpr c3
    have c3b1 : ((l0.length : Int) != (l1.length : Int)) = true := bne_iff_ne.mpr c3
    have c3b2 : (l0.length == l1.length) = false := by first | simpa using c3 | (simp at c3 ⊢; omega)
    obtain rfl := Option.some.inj H
    go_enter Tryd.func13, Tryd.ntmps13
    go_wp2
    repeat (go_quiet (fail); try go_wp2)
    go_ret
    exact ⟨by first | rfl | (simp; done) | (simp [*]; done), by repeat (first | exact Drawn0.refl _ | apply Drawn0.step)⟩

/-! ### spec_TxTimes: function 16 -/
def spec_TxTimes.l0 : Nat → ByteArray → List Int → Int → Int → Option (ByteArray)
  | 0, _, _, _, _ => none
  | k + 1, x0, x5, x12, x13 => if x13 < x12 then (if x5.length + x0.size < 140737488355328 then (spec_TxTimes.l0 k x0 (x5 ++ bytesOf x0) x12 (wrap64 (x13 + 1))) else (none)) else (some (strOfNums x5))
def spec_TxTimes.f (k : Nat) (a0 : ByteArray) (a1 : Int) : Option (ByteArray) := if 0 ≤ (wrap64 ((a0.size : Int) * (mx a1 0))) then (if (wrap64 ((a0.size : Int) * (mx a1 0)) : Int).toNat ≤ 281474976710656 then (spec_TxTimes.l0 k a0 (([] : List Int)) a1 0) else (none)) else (none)
theorem spec_TxTimes.mono_l : ∀ k, (∀ y0 y1 y2 y3, LeO (spec_TxTimes.l0 k y0 y1 y2 y3) (spec_TxTimes.l0 (k + 1) y0 y1 y2 y3))
  | 0 => fun _ _ _ _ r h => by simp [spec_TxTimes.l0] at h
  | k + 1 => by
    have ih0 := spec_TxTimes.mono_l k
    · intro y0 y1 y2 y3
      unfold spec_TxTimes.l0
      repeat' first
      | (with_reducible exact ih0 _ _ _ _)
      | (with_reducible exact LeO.refl _)
      | (with_reducible exact LeO.none _)
      | (with_reducible refine LeO.ite ?_ ?_)
      | (with_reducible refine LeO.bind ?_ (fun _ => ?_))
      | exact ih0 _ _ _ _
      | exact LeO.none _
      | refine LeO.ite ?_ ?_
      | refine LeO.bind ?_ (fun _ => ?_)
theorem spec_TxTimes.mono : ∀ a0 a1 k, LeO (spec_TxTimes.f k a0 a1) (spec_TxTimes.f (k + 1) a0 a1) := by
  intro a0 a1 k
  have ih0 := spec_TxTimes.mono_l k
  unfold spec_TxTimes.f
  repeat' first
      | (with_reducible exact ih0 _ _ _ _)
      | (with_reducible exact LeO.refl _)
      | (with_reducible exact LeO.none _)
      | (with_reducible refine LeO.ite ?_ ?_)
      | (with_reducible refine LeO.bind ?_ (fun _ => ?_))
      | exact ih0 _ _ _ _
      | exact LeO.none _
      | refine LeO.ite ?_ ?_
      | refine LeO.bind ?_ (fun _ => ?_)
set_option maxHeartbeats 8000000 in
set_option maxRecDepth 100000 in
theorem spec_TxTimes.calls (k : Nat) (a0 : ByteArray) (a1 : Int) (r : ByteArray) (w : World) (h : spec_TxTimes.f k a0 a1 = some r) :
    Calls Tryd.prog 16 #[.string a0, .int .i64 a1] w fun e w' => e = .returned (.string r) ∧ Below w.heap.size w w' := by
  have HB := Aside0.mk (Below.refl w.heap.size w)
  have H : (if 0 ≤ (wrap64 ((a0.size : Int) * (mx a1 0))) then (if (wrap64 ((a0.size : Int) * (mx a1 0)) : Int).toNat ≤ 281474976710656 then (spec_TxTimes.l0 k a0 (([] : List Int)) a1 0) else (none)) else (none)) = some r := h
  clear h
  obtain ⟨ji3, hji3⟩ : ∃ j_ : Int, (mx a1 0) = j_ := ⟨_, rfl⟩
  replace H : (if 0 ≤ (wrap64 ((a0.size : Int) * (ji3))) then (if (wrap64 ((a0.size : Int) * (ji3)) : Int).toNat ≤ 281474976710656 then (spec_TxTimes.l0 k a0 (([] : List Int)) a1 0) else (none)) else (none)) = some r := by first | (rw [hji3] at H; exact H) | (simp only [hji3] at H ⊢; exact H)
  (try (have hji3l : 0 ≤ ji3 := by (rw [← hji3]; unfold mx; (repeat' split) <;> omega)))
  (try (have hji3m : 0 ≤ ji3 := by omega))
  have hji3_ : (if a1 < 0 then 0 else a1) = ji3 := hji3
  obtain ⟨ji4, hji4⟩ : ∃ j_ : Int, (wrap64 ((a0.size : Int) * (ji3))) = j_ := ⟨_, rfl⟩
  replace H : (if 0 ≤ (ji4) then (if (ji4 : Int).toNat ≤ 281474976710656 then (spec_TxTimes.l0 k a0 (([] : List Int)) a1 0) else (none)) else (none)) = some r := by first | (rw [hji4] at H; exact H) | (simp only [hji4] at H ⊢; exact H)
  have hji4w : (IntKind.i64.wrap ((a0.size : Int) * (ji3))) = ji4 := (i64_w _).trans hji4
  by_cases c5 : 0 ≤ (ji4)
  · rw [if_pos c5] at H
    have c5b0 := eq_true c5
    have c5b1 : decide (0 ≤ (ji4)) = true := decide_eq_true c5
    clear c5
    by_cases c6 : (ji4 : Int).toNat ≤ 281474976710656
    · rw [if_pos c6] at H
      have c6b0 := eq_true c6
      have c6b1 : decide ((ji4 : Int).toNat ≤ 281474976710656) = true := decide_eq_true c6
      clear c6
      obtain ⟨y165, hy165⟩ : ∃ y_ : List Int, y_ = (([] : List Int)) := ⟨_, rfl⟩
      replace H : (spec_TxTimes.l0 k a0 y165 a1 0) = some r := by first | (rw [hy165]; with_reducible exact H) | (have H2_ := (Option.bind_some _ _).symm.trans H; rw [hy165]; with_reducible exact H2_) | (have H2_ := (Option.bind_some _ _).symm.trans H; with_reducible exact H2_) | with_reducible exact H | (rw [hy165]; exact H) | exact H
      have Ny165 := Aside0.mk hy165
      clear hy165
      have H' := Aside0.mk H
      clear H
      go_enter Tryd.func16, Tryd.ntmps16
      go_wp2_with (first | ((with_reducible refine gate_dst (N := 11) rfl ?_); refine R_make0 (Kd.int .u8) _ 5 rfl (N := 11) rfl 52 _ _ rfl ji4 rfl rfl Tryd.underlying52 (.int .u8 0) 1 info5 (by omega) (ok := fun _ => True) trivial (of_decide_eq_true (by first | (with_reducible assumption) | assumption)) (Nat.le_trans (Nat.mul_le_mul_right _ (of_decide_eq_true (by first | (with_reducible assumption) | assumption) : ji4.toNat ≤ 281474976710656)) (by omega)) (Below.refl _ _) (Nat.le_refl _) ?_; intro v166 w7 ho8 hb hg_ hnew_; clear hg_ hnew_; (first | rw [← Ny165.out] at ho8 | (simp only [Int.reduceToNat] at ho8; rw [← Ny165.out] at ho8)); have n0_ := Aside0.mk (Kd.R_lower ho8 (below_size (by repeat (first | (with_reducible first | exact HB.out | apply below_alloc | apply pw_below_drewN | apply below_drew1) | exact HB.out)))); have n1_ := Aside0.mk (below_step (by repeat (first | (with_reducible first | exact HB.out | apply below_alloc | apply pw_below_drewN | apply below_drew1) | exact HB.out)) hb); clear HB; have HO167 := n0_; have HB := n1_; clear n0_ n1_; clear hb ho8))
      (try simp only [Act.put, List.setIfInBounds_toArray, List.set_cons_zero, List.set_cons_succ])
      go_loopg [5, 13] k (fun kq v5 v13 w' => ∃ (x5_1 : List Int) (x13_1 : Int), v13 = .int .i64 x13_1 ∧ Aside0 (spec_TxTimes.l0 kq a0 x5_1 a1 x13_1 = some r) ∧ Aside0 (kq ≤ k) ∧ Aside0 (Kd.R (Kd.int .u8) 5 w' w.heap.size (fun _ => True) v5 x5_1) ∧ Aside0 (Below w.heap.size w w'))
      case atStart => exact ⟨(y165), (0), (by first | rfl | (simp; done) | (simp [*]; done)), H', ⟨Nat.le_refl _⟩, ⟨by (with_reducible repeat (first | apply Kd.R_alloc | apply Kd.R_drewN | apply Kd.R_drew)); exact HO167.out⟩, ⟨by repeat (first | (with_reducible first | exact HB.out | apply below_alloc | apply pw_below_drewN | apply below_drew1) | exact HB.out)⟩⟩
      case round =>
        clear H'
        try clear c1
        try clear p2
        try clear c5
        try clear c5b0
        try clear c5b1
        try clear c6
        try clear c6b0
        try clear c6b1
        try clear p6
        obtain ⟨x5_1, x13_1, rfl, HA, HK1, HO_5, HB⟩ := hrel
        cases gk with
        | zero => exact absurd HA.out (by simp [spec_TxTimes.l0])
        | succ k1 =>
          have H := HA.out
          clear HA
          simp only [spec_TxTimes.l0] at H
          by_cases c9 : x13_1 < a1
          · rw [if_pos c9] at H
            have c9b0 : decide (x13_1 < a1) = true := decide_eq_true c9
            clear c9
            by_cases c10 : x5_1.length + a0.size < 140737488355328
            · rw [if_pos c10] at H
              have LMc10 := Aside0.mk c10
              clear c10
              obtain ⟨y168, hy168⟩ : ∃ y_ : List Int, y_ = (x5_1 ++ bytesOf a0) := ⟨_, rfl⟩
              replace H : (spec_TxTimes.l0 k1 a0 y168 a1 (wrap64 (x13_1 + 1))) = some r := by first | (rw [hy168]; with_reducible exact H) | (have H2_ := (Option.bind_some _ _).symm.trans H; rw [hy168]; with_reducible exact H2_) | (have H2_ := (Option.bind_some _ _).symm.trans H; with_reducible exact H2_) | with_reducible exact H | (rw [hy168]; exact H) | exact H
              have Ny168 := Aside0.mk hy168
              clear hy168
              have H' := Aside0.mk H
              clear H
              go_wp2_with (first | (at_builtin; refine print_append_str (w0 := w) w.heap.size rfl (.tmp 15) _ 52 9 5 rfl Tryd.underlying52 Tryd.underlying9 info5 u5 x5_1 a0 rfl rfl ?aO ?aB ?aS ?aL ?_; (case aB => exact (by repeat (first | (with_reducible first | exact HB.out | apply below_alloc | apply pw_below_drewN | apply below_drew1) | exact HB.out))); (case aO => exact (Kd.own_of_R (by (with_reducible repeat (first | apply Kd.R_alloc | apply Kd.R_drewN | apply Kd.R_drew)); exact HO_5.out))); (case aS => exact (below_size (by repeat (first | (with_reducible first | exact HB.out | apply below_alloc | apply pw_below_drewN | apply below_drew1) | exact HB.out)))); (case aL => have := LMc10.out; first | omega | exact this | exact Nat.le_of_lt this); intro v169 w11 ho0 hb hg; have ho := Kd.R_of_own (h1 := fun _ => rfl) (ok := fun _ => True) ho0 (fun _ _ => trivial); clear ho0; have hat := True.intro; rw [← Ny168.out] at ho; change Kd.R (Kd.int .u8) 5 w11 w.heap.size (fun _ => True) v169 y168 at ho; have n0_ := Aside0.mk (hb); have n1_ := Aside0.mk (ho); clear HB; clear HO_5; have HB := n0_; have HO170 := n1_; clear n0_ n1_; clear ho hb hg hat))
              go_roundg k1
              case measure => have := HK1.out; omega
              case rel => exact ⟨(y168), (wrap64 (x13_1 + 1)), (by first | rfl | (simp; done) | (simp [*]; done)), H', ⟨by have := HK1.out; omega⟩, ⟨by (with_reducible repeat (first | apply Kd.R_alloc | apply Kd.R_drewN | apply Kd.R_drew)); exact HO170.out⟩, ⟨by repeat (first | (with_reducible first | exact HB.out | apply below_alloc | apply pw_below_drewN | apply below_drew1) | exact HB.out)⟩⟩
            · rw [if_neg c10] at H
              exact absurd H (by simp)
          · rw [if_neg c9] at H
            have c9b0 : decide (x13_1 < a1) = false := decide_eq_false c9
            clear c9
            obtain rfl := Option.some.inj H
            have hcv12 := own_string (P := Tryd.prog) Tryd.underlying52 Tryd.underlying5 Tryd.underlying9 (Kd.own_of_R HO_5.out)
            go_wp2
            go_ret
            exact ⟨by first | rfl | (simp [errW_none, errW_some] <;> rfl) | (simp only [← hji3, ← hji4]; first | rfl | (simp [errW_none, errW_some] <;> rfl)) | (simp [*, errW_none, errW_some] <;> rfl), by repeat (first | (with_reducible first | exact HB.out | apply below_alloc | apply pw_below_drewN | apply below_drew1) | exact HB.out)⟩
    · rw [if_neg c6] at H
      exact absurd H (by simp)
  · rw [if_neg c5] at H
    exact absurd H (by simp)

/-! ### impl_ListMarkdown: function 17 -/
def impl_ListMarkdown.f (l0 : List (S36)) (a1_0 : Int) (a1_1 : ByteArray) (a1_2 : ByteArray) (a1_3 : ByteArray) (a1_4 : ByteArray) (a1_5 : ByteArray) (a1_6 : ByteArray) (a1_7 : ByteArray) (a1_8 : ByteArray) : Option (ByteArray) := @ite _ (Lmd.GoodM (l0.map fun x => (x.f0, x.f1))) (Classical.propDecidable _) (some (Lrn.R (l0.map fun x => (x.f0, x.f1)) Lmd.m1 Lmd.m1 Lmd.m1 Lmd.m1 Lmd.m2 Lmd.m1 Lmd.m2)) none
theorem impl_ListMarkdown.calls (A0 : Option Addr) (c0 : Nat) (l0 : List (S36)) (a1_0 : Int) (a1_1 : ByteArray) (a1_2 : ByteArray) (a1_3 : ByteArray) (a1_4 : ByteArray) (a1_5 : ByteArray) (a1_6 : ByteArray) (a1_7 : ByteArray) (a1_8 : ByteArray) (r : ByteArray) (w : World) (hr0 : Kd.C k36 w A0 l0.length l0) (hc0 : l0.length ≤ c0) (h : impl_ListMarkdown.f l0 a1_0 a1_1 a1_2 a1_3 a1_4 a1_5 a1_6 a1_7 a1_8 = some r) :
    Calls Tryd.prog 17 #[.slice A0 l0.length c0, .agg #[.int .i64 a1_0, .string a1_1, .string a1_2, .string a1_3, .string a1_4, .string a1_5, .string a1_6, .string a1_7, .string a1_8]] w fun e w' => e = .returned (.string r) ∧ Below w.heap.size w w' := by
  unfold impl_ListMarkdown.f at h
  by_cases hg : Lmd.GoodM (l0.map fun x => (x.f0, x.f1))
  · rw [if_pos hg] at h
    obtain rfl := Option.some.inj h
    obtain ⟨hn, hok⟩ := hg
    refine Lmd.listMarkdown A0 c0 l0.length _ w (by simp) (by simpa using hn) hok (fun w' hw j hj => ?_) a1_0 a1_1 a1_2 a1_3 a1_4 a1_5 a1_6 a1_7 a1_8
    obtain ⟨ad, A2, c2, rfl, h0, h1, h2⟩ := at_T36 (Kd.C_below hr0 hw) (j : Int) (Int.natCast_nonneg j) (by simpa using hj)
    have e : rd_T36 l0 (j : Int) = l0[j] := by simp [rd_T36, hj]
    rw [e] at h0 h1 h2
    rw [Int.toNat_natCast] at h0 h1 h2
    have hsp := Lrn.spot_none h0
    refine ⟨ad, (l0[j].f0, l0[j].f1), _, _, _, _, _, rfl, by simp [hj], Lrn.addr_eta hsp, ?_, h1, h2.1⟩
    rw [← Lrn.addr_eta hsp]; exact h0
  · rw [if_neg hg] at h
    exact absurd h (by simp)

end
end Go.Proofs.YthjkmjimlhpbfaaDoor.GFnListMarkdownLines
