-- Written by gprint.py, a program of this session over the kit's printer, with contracts of its own for what the printer does not take. Not trusted: Lean checks it.
import Derived.Test.YtenclpkeffhjaaaDoorGEsBodyx0
import Derived.Test.YtenclpkeffhjaaaDoorGEsBodyx2
namespace Go.Proofs.YtenclpkeffhjaaaDoor.GEsBody
open Go.RowKit Go.Proofs.YtenclpkeffhjaaaDoor.Itr Go.Proofs.YtenclpkeffhjaaaDoorW.PrintWords Go.Proofs.YtenclpkeffhjaaaDoorW.PrintLast Go.Proofs.YtenclpkeffhjaaaDoorW.PrintMore
attribute [local go_sem] max2_int min2_int max_two min_two max_three min_three max_four min_four   -- for this text's walks alone
set_option linter.unusedVariables false
set_option linter.unusedSimpArgs false

/-! ### laws_txTexts: function 15 -/
def laws_txTexts.l0 : Nat → List ByteArray → ByteArray → List ByteArray → Int → Int → Option (ByteArray × Bool)
  | 0, _, _, _, _, _ => none
  | k + 1, x0, x4, x7, x8, x9 => if x9 < x8 then (if 0 ≤ x9 then (if x9 < (x7.length : Int) then (if ((rdOf ByteArray.empty x7 x9).size : Int) > 300 then (some ((⟨#[]⟩ : ByteArray), false)) else ((spec_TxSimple.f k (rdOf ByteArray.empty x7 x9) false).bind fun t147 => (if t147 = true then (if x4.size + (rdOf ByteArray.empty x7 x9).size ≤ 9223372036854775807 then (laws_txTexts.l0 k x0 (x4 ++ (rdOf ByteArray.empty x7 x9)) x7 x8 (wrap64 (x9 + 1))) else (none)) else (some ((⟨#[]⟩ : ByteArray), false))))) else (none)) else (none)) else (if x4.toList = ([] : List UInt8) then (some (x4, false)) else (some (x4, decide ((x0.length : Int) ≤ 20))))
def laws_txTexts.f (k : Nat) (l0 : List ByteArray) : Option (ByteArray × Bool) := laws_txTexts.l0 k l0 (⟨#[]⟩ : ByteArray) l0 (l0.length : Int) 0
theorem laws_txTexts.mono_l : ∀ k, (∀ y0 y1 y2 y3 y4, LeO (laws_txTexts.l0 k y0 y1 y2 y3 y4) (laws_txTexts.l0 (k + 1) y0 y1 y2 y3 y4))
  | 0 => fun _ _ _ _ _ r h => by simp [laws_txTexts.l0] at h
  | k + 1 => by
    have ih0 := laws_txTexts.mono_l k
    · intro y0 y1 y2 y3 y4
      unfold laws_txTexts.l0
      repeat' first
      | (with_reducible exact ih0 _ _ _ _ _)
      | (with_reducible exact spec_TxSimple.mono _ _ _)
      | (with_reducible exact LeO.refl _)
      | (with_reducible exact LeO.none _)
      | (with_reducible refine LeO.ite ?_ ?_)
      | (with_reducible refine LeO.bind ?_ (fun _ => ?_))
      | exact ih0 _ _ _ _ _
      | exact spec_TxSimple.mono _ _ _
      | exact LeO.none _
      | refine LeO.ite ?_ ?_
      | refine LeO.bind ?_ (fun _ => ?_)
theorem laws_txTexts.mono : ∀ a0 k, LeO (laws_txTexts.f k a0) (laws_txTexts.f (k + 1) a0) := by
  intro a0 k
  have ih0 := laws_txTexts.mono_l k
  unfold laws_txTexts.f
  repeat' first
      | (with_reducible exact ih0 _ _ _ _ _)
      | (with_reducible exact spec_TxSimple.mono _ _ _)
      | (with_reducible exact LeO.refl _)
      | (with_reducible exact LeO.none _)
      | (with_reducible refine LeO.ite ?_ ?_)
      | (with_reducible refine LeO.bind ?_ (fun _ => ?_))
      | exact ih0 _ _ _ _ _
      | exact spec_TxSimple.mono _ _ _
      | exact LeO.none _
      | refine LeO.ite ?_ ?_
      | refine LeO.bind ?_ (fun _ => ?_)
set_option maxHeartbeats 8000000 in
set_option maxRecDepth 100000 in
theorem laws_txTexts.calls (k : Nat) (A0 : Option Addr) (c0 : Nat) (l0 : List ByteArray) (r1 : ByteArray) (r2 : Bool) (w : World) (hr0 : Kd.C Kd.string w A0 l0.length l0) (hc0 : l0.length ≤ c0) (h : laws_txTexts.f k l0 = some (r1, r2)) :
    Calls Tryd.prog 15 #[.slice A0 l0.length c0] w fun e w' => e = .returned (.tuple #[.string r1, .bool r2]) ∧ Below w.heap.size w w' := by
  have HR0 := Aside0.mk hr0
  have HC0 := Aside0.mk hc0
  clear hr0 hc0
  have HB := Aside0.mk (Below.refl w.heap.size w)
  have H : (laws_txTexts.l0 k l0 (⟨#[]⟩ : ByteArray) l0 (l0.length : Int) 0) = some (r1, r2) := h
  clear h
  have H' := Aside0.mk H
  clear H
  go_enter Tryd.func15, Tryd.ntmps15
  go_wp2
  (try simp only [Act.put, List.setIfInBounds_toArray, List.set_cons_zero, List.set_cons_succ])
  go_loopg [4, 9] k (fun kq v4 v9 w' => ∃ (x4_1 : ByteArray) (x9_1 : Int), v4 = .string x4_1 ∧ v9 = .int .i64 x9_1 ∧ Aside0 (laws_txTexts.l0 kq l0 x4_1 l0 (l0.length : Int) x9_1 = some (r1, r2)) ∧ Aside0 (kq ≤ k) ∧ Aside0 (Below w.heap.size w w'))
  case atStart => exact ⟨((⟨#[]⟩ : ByteArray)), (0), (by first | rfl | (simp; done) | (simp [*]; done)), (by first | rfl | (simp; done) | (simp [*]; done)), H', ⟨Nat.le_refl _⟩, ⟨by repeat (first | (with_reducible first | exact HB.out | apply below_alloc | apply pw_below_drewN | apply below_drew1) | exact HB.out)⟩⟩
  case round =>
    clear H'
    try clear c1
    obtain ⟨x4_1, x9_1, rfl, rfl, HA, HK1, HB⟩ := hrel
    cases gk with
    | zero => exact absurd HA.out (by simp [laws_txTexts.l0])
    | succ k1 =>
      have H := HA.out
      clear HA
      simp only [laws_txTexts.l0] at H
      by_cases c2 : x9_1 < (l0.length : Int)
      · rw [if_pos c2] at H
        have c2b0 : decide (x9_1 < (l0.length : Int)) = true := decide_eq_true c2
        clear c2
        by_cases c3 : 0 ≤ x9_1
        · rw [if_pos c3] at H
          have c3b0 : decide (0 ≤ x9_1) = true := decide_eq_true c3
          clear c3
          by_cases c4 : x9_1 < (l0.length : Int)
          · rw [if_pos c4] at H
            have c4b0 : decide (x9_1 < (l0.length : Int)) = true := decide_eq_true c4
            clear c4
            by_cases c5 : ((rdOf ByteArray.empty l0 x9_1).size : Int) > 300
            · rw [if_pos c5] at H
              have c5b0 : decide (300 < ((rdOf ByteArray.empty l0 x9_1).size : Int)) = true := decide_eq_true c5
              have c5b1 : decide (300 < (rdOf ByteArray.empty l0 x9_1).size) = true := decide_eq_true (by omega)
              clear c5
              simp only [Option.some.injEq, Prod.mk.injEq] at H
              obtain ⟨rfl, rfl⟩ := H
              have p146 : 0 ≤ (x9_1 : Int) := of_decide_eq_true (by first | (with_reducible assumption) | assumption)
              have q146 : x9_1 < (l0.length : Int) := of_decide_eq_true (by first | (with_reducible assumption) | assumption)
              obtain ⟨ad146, e146, hx146_0⟩ := Kd.at_string HR0.out x9_1 p146 q146
              cases e146
              replace hx146_0 := (HB.out.cell (World.block_lt_of_cell? w _ hx146_0)).trans hx146_0
              replace p146 := eq_true p146
              replace q146 := eq_true q146
              go_wp2
              go_ret2
              exact ⟨by first | rfl | (simp [errW_none, errW_some] <;> rfl) | (simp [*, errW_none, errW_some] <;> rfl), by repeat (first | (with_reducible first | exact HB.out | apply below_alloc | apply pw_below_drewN | apply below_drew1) | exact HB.out)⟩
            · rw [if_neg c5] at H
              have c5b0 : decide (300 < ((rdOf ByteArray.empty l0 x9_1).size : Int)) = false := decide_eq_false c5
              have c5b1 : decide (300 < (rdOf ByteArray.empty l0 x9_1).size) = false := decide_eq_false (by omega)
              clear c5
              replace H := Option.bind_eq_some_iff.mp H
              obtain ⟨t147, A60, H⟩ := H
              replace H : (if t147 = true then (if x4_1.size + (rdOf ByteArray.empty l0 x9_1).size ≤ 9223372036854775807 then (laws_txTexts.l0 k1 l0 (x4_1 ++ (rdOf ByteArray.empty l0 x9_1)) l0 (l0.length : Int) (wrap64 (x9_1 + 1))) else (none)) else (some ((⟨#[]⟩ : ByteArray), false))) = some (r1, r2) := H
              have A6 := Aside0.mk A60
              clear A60
              by_cases c7 : t147 = true
              · subst c7
                have H1 : (if x4_1.size + (rdOf ByteArray.empty l0 x9_1).size ≤ 9223372036854775807 then (laws_txTexts.l0 k1 l0 (x4_1 ++ (rdOf ByteArray.empty l0 x9_1)) l0 (l0.length : Int) (wrap64 (x9_1 + 1))) else (none)) = some (r1, r2) := by rw [if_pos rfl] at H; exact H
                clear H
                have H := H1
                clear H1
                by_cases c8 : x4_1.size + (rdOf ByteArray.empty l0 x9_1).size ≤ 9223372036854775807
                · rw [if_pos c8] at H
                  have c8b0 := eq_true c8
                  have c8b1 : decide (x4_1.size + (rdOf ByteArray.empty l0 x9_1).size ≤ 9223372036854775807) = true := decide_eq_true c8
                  try have c8b2 : (9223372036854775807 < x4_1.size + (rdOf ByteArray.empty l0 x9_1).size) = False := eq_false (Nat.not_lt.2 c8)
                  have H' := Aside0.mk H
                  clear H
                  have p146 : 0 ≤ (x9_1 : Int) := of_decide_eq_true (by first | (with_reducible assumption) | assumption)
                  have q146 : x9_1 < (l0.length : Int) := of_decide_eq_true (by first | (with_reducible assumption) | assumption)
                  obtain ⟨ad146, e146, hx146_0⟩ := Kd.at_string HR0.out x9_1 p146 q146
                  cases e146
                  replace hx146_0 := (HB.out.cell (World.block_lt_of_cell? w _ hx146_0)).trans hx146_0
                  replace p146 := eq_true p146
                  replace q146 := eq_true q146
                  go_wp2_with (first | (go_at_call 18; (with_reducible refine (spec_TxSimple.calls k1 (rdOf ByteArray.empty l0 x9_1) false true _ A6.out).mono ?_); rintro e w9 ⟨rfl, hb⟩; have n0_ := Aside0.mk (below_step (by repeat (first | (with_reducible first | exact HB.out | apply below_alloc | apply pw_below_drewN | apply below_drew1) | exact HB.out)) hb); clear HB; have HB := n0_; clear n0_; (try clear hb); (try clear hb2); (try clear hk); (try clear hi)))
                  go_roundg k1
                  case measure => have := HK1.out; omega
                  case rel => exact ⟨(x4_1 ++ (rdOf ByteArray.empty l0 x9_1)), (wrap64 (x9_1 + 1)), (by first | rfl | (simp; done) | (simp [*]; done)), (by first | rfl | (simp; done) | (simp [*]; done)), H', ⟨by have := HK1.out; omega⟩, ⟨by repeat (first | (with_reducible first | exact HB.out | apply below_alloc | apply pw_below_drewN | apply below_drew1) | exact HB.out)⟩⟩
                · rw [if_neg c8] at H
                  exact absurd H (by simp)
              · replace c7 := Bool.eq_false_iff.mpr c7
                subst c7
                have H1 : (some ((⟨#[]⟩ : ByteArray), false)) = some (r1, r2) := by rw [if_neg (show ¬ (false = true) by decide)] at H; exact H
                clear H
                have H := H1
                clear H1
                simp only [Option.some.injEq, Prod.mk.injEq] at H
                obtain ⟨rfl, rfl⟩ := H
                have p146 : 0 ≤ (x9_1 : Int) := of_decide_eq_true (by first | (with_reducible assumption) | assumption)
                have q146 : x9_1 < (l0.length : Int) := of_decide_eq_true (by first | (with_reducible assumption) | assumption)
                obtain ⟨ad146, e146, hx146_0⟩ := Kd.at_string HR0.out x9_1 p146 q146
                cases e146
                replace hx146_0 := (HB.out.cell (World.block_lt_of_cell? w _ hx146_0)).trans hx146_0
                replace p146 := eq_true p146
                replace q146 := eq_true q146
                go_wp2_with (first | (go_at_call 18; (with_reducible refine (spec_TxSimple.calls k1 (rdOf ByteArray.empty l0 x9_1) false false _ A6.out).mono ?_); rintro e w10 ⟨rfl, hb⟩; have n0_ := Aside0.mk (below_step (by repeat (first | (with_reducible first | exact HB.out | apply below_alloc | apply pw_below_drewN | apply below_drew1) | exact HB.out)) hb); clear HB; have HB := n0_; clear n0_; (try clear hb); (try clear hb2); (try clear hk); (try clear hi)))
                go_ret2
                exact ⟨by first | rfl | (simp [errW_none, errW_some] <;> rfl) | (simp [*, errW_none, errW_some] <;> rfl), by repeat (first | (with_reducible first | exact HB.out | apply below_alloc | apply pw_below_drewN | apply below_drew1) | exact HB.out)⟩
          · rw [if_neg c4] at H
            exact absurd H (by simp)
        · rw [if_neg c3] at H
          exact absurd H (by simp)
      · rw [if_neg c2] at H
        have c2b0 : decide (x9_1 < (l0.length : Int)) = false := decide_eq_false c2
        clear c2
        by_cases c11 : x4_1.toList = ([] : List UInt8)
        · rw [if_pos c11] at H
          have c11b0 : (x4_1.toList == ([] : List UInt8)) = true := beq_iff_eq.mpr c11
          have c11b1 : (x4_1.toList != ([] : List UInt8)) = false := bne_eq_false_iff_eq.mpr c11
          clear c11
          simp only [Option.some.injEq, Prod.mk.injEq] at H
          obtain ⟨rfl, rfl⟩ := H
          go_wp2
          go_ret2
          exact ⟨by first | rfl | (simp [errW_none, errW_some] <;> rfl) | (simp [*, errW_none, errW_some] <;> rfl), by repeat (first | (with_reducible first | exact HB.out | apply below_alloc | apply pw_below_drewN | apply below_drew1) | exact HB.out)⟩
        · rw [if_neg c11] at H
          have c11b0 : (x4_1.toList == ([] : List UInt8)) = false := beq_eq_false_iff_ne.mpr c11
          have c11b1 : (x4_1.toList != ([] : List UInt8)) = true := bne_iff_ne.mpr c11
          simp only [Option.some.injEq, Prod.mk.injEq] at H
          obtain ⟨rfl, rfl⟩ := H
          go_wp2
          go_ret2
          exact ⟨by first | rfl | (simp [errW_none, errW_some] <;> rfl) | (simp [*, errW_none, errW_some] <;> rfl), by repeat (first | (with_reducible first | exact HB.out | apply below_alloc | apply pw_below_drewN | apply below_drew1) | exact HB.out)⟩

/-! ### laws_zzFits4: function 14 -/
def laws_zzFits4.l0 : Nat → List ByteArray → Int → Int → Option (Bool)
  | 0, _, _, _ => none
  | k + 1, x8, x9, x10 => if x10 < x9 then (if 0 ≤ x10 then (if x10 < (x8.length : Int) then (if ((rdOf ByteArray.empty x8 x10).size : Int) > 2147483647 then (some false) else (laws_zzFits4.l0 k x8 x9 (wrap64 (x10 + 1)))) else (none)) else (none)) else (some true)
def laws_zzFits4.f (k : Nat) (l0 : List ByteArray) : Option (Bool) := if (l0.length : Int) > 2147483647 then (some false) else (laws_zzFits4.l0 k l0 (l0.length : Int) 0)
theorem laws_zzFits4.mono_l : ∀ k, (∀ y0 y1 y2, LeO (laws_zzFits4.l0 k y0 y1 y2) (laws_zzFits4.l0 (k + 1) y0 y1 y2))
  | 0 => fun _ _ _ r h => by simp [laws_zzFits4.l0] at h
  | k + 1 => by
    have ih0 := laws_zzFits4.mono_l k
    · intro y0 y1 y2
      unfold laws_zzFits4.l0
      repeat' first
      | (with_reducible exact ih0 _ _ _)
      | (with_reducible exact LeO.refl _)
      | (with_reducible exact LeO.none _)
      | (with_reducible refine LeO.ite ?_ ?_)
      | (with_reducible refine LeO.bind ?_ (fun _ => ?_))
      | exact ih0 _ _ _
      | exact LeO.none _
      | refine LeO.ite ?_ ?_
      | refine LeO.bind ?_ (fun _ => ?_)
theorem laws_zzFits4.mono : ∀ a0 k, LeO (laws_zzFits4.f k a0) (laws_zzFits4.f (k + 1) a0) := by
  intro a0 k
  have ih0 := laws_zzFits4.mono_l k
  unfold laws_zzFits4.f
  repeat' first
      | (with_reducible exact ih0 _ _ _)
      | (with_reducible exact LeO.refl _)
      | (with_reducible exact LeO.none _)
      | (with_reducible refine LeO.ite ?_ ?_)
      | (with_reducible refine LeO.bind ?_ (fun _ => ?_))
      | exact ih0 _ _ _
      | exact LeO.none _
      | refine LeO.ite ?_ ?_
      | refine LeO.bind ?_ (fun _ => ?_)
set_option maxHeartbeats 8000000 in
set_option maxRecDepth 100000 in
theorem laws_zzFits4.calls (k : Nat) (A0 : Option Addr) (c0 : Nat) (l0 : List ByteArray) (r : Bool) (w : World) (hr0 : Kd.C Kd.string w A0 l0.length l0) (hc0 : l0.length ≤ c0) (h : laws_zzFits4.f k l0 = some r) :
    Calls Tryd.prog 14 #[.slice A0 l0.length c0] w fun e w' => e = .returned (.bool r) ∧ Drawn0 w w' := by
  have HR0 := Aside0.mk hr0
  have HC0 := Aside0.mk hc0
  clear hr0 hc0
  have H : (if (l0.length : Int) > 2147483647 then (some false) else (laws_zzFits4.l0 k l0 (l0.length : Int) 0)) = some r := h
  clear h
  by_cases c2 : (l0.length : Int) > 2147483647
  · rw [if_pos c2] at H
    have c2b0 : decide (2147483647 < (l0.length : Int)) = true := decide_eq_true c2
    have c2b1 : decide (2147483647 < l0.length) = true := decide_eq_true (by omega)
    clear c2
    obtain rfl := Option.some.inj H
    go_enter Tryd.func14, Tryd.ntmps14
    go_wp2
    go_ret
    exact ⟨by first | rfl | (simp; done) | (simp [*]; done), by repeat (first | exact Drawn0.refl _ | apply Drawn0.step)⟩
  · rw [if_neg c2] at H
    have c2b0 : decide (2147483647 < (l0.length : Int)) = false := decide_eq_false c2
    have c2b1 : decide (2147483647 < l0.length) = false := decide_eq_false (by omega)
    clear c2
    have H' := Aside0.mk H
    clear H
    go_enter Tryd.func14, Tryd.ntmps14
    go_wp2
    (try simp only [Act.put, List.setIfInBounds_toArray, List.set_cons_zero, List.set_cons_succ])
    go_loopg [10] k (fun kq v10 w' => ∃ (x10_1 : Int), v10 = .int .i64 x10_1 ∧ Aside0 (laws_zzFits4.l0 kq l0 (l0.length : Int) x10_1 = some r) ∧ Aside0 (kq ≤ k) ∧ Drawn0 w w')
    case atStart => exact ⟨(0), (by first | rfl | (simp; done) | (simp [*]; done)), H', ⟨Nat.le_refl _⟩, by repeat (first | exact Drawn0.refl _ | apply Drawn0.step)⟩
    case round =>
      clear H'
      try clear c1
      try clear c2
      try clear c2b0
      try clear c2b1
      try clear p2
      obtain ⟨x10_1, rfl, HA, HK1, ⟨m1, rfl⟩⟩ := hrel
      cases gk with
      | zero => exact absurd HA.out (by simp [laws_zzFits4.l0])
      | succ k1 =>
        have H := HA.out
        clear HA
        simp only [laws_zzFits4.l0] at H
        by_cases c3 : x10_1 < (l0.length : Int)
        · rw [if_pos c3] at H
          have c3b0 : decide (x10_1 < (l0.length : Int)) = true := decide_eq_true c3
          clear c3
          by_cases c4 : 0 ≤ x10_1
          · rw [if_pos c4] at H
            have c4b0 : decide (0 ≤ x10_1) = true := decide_eq_true c4
            clear c4
            by_cases c5 : x10_1 < (l0.length : Int)
            · rw [if_pos c5] at H
              have c5b0 : decide (x10_1 < (l0.length : Int)) = true := decide_eq_true c5
              clear c5
              by_cases c6 : ((rdOf ByteArray.empty l0 x10_1).size : Int) > 2147483647
              · rw [if_pos c6] at H
                have c6b0 : decide (2147483647 < ((rdOf ByteArray.empty l0 x10_1).size : Int)) = true := decide_eq_true c6
                have c6b1 : decide (2147483647 < (rdOf ByteArray.empty l0 x10_1).size) = true := decide_eq_true (by omega)
                clear c6
                obtain rfl := Option.some.inj H
                have p148 : 0 ≤ (x10_1 : Int) := of_decide_eq_true (by first | (with_reducible assumption) | assumption)
                have q148 : x10_1 < (l0.length : Int) := of_decide_eq_true (by first | (with_reducible assumption) | assumption)
                obtain ⟨ad148, e148, hx148_0⟩ := Kd.at_string HR0.out x10_1 p148 q148
                cases e148
                replace p148 := eq_true p148
                replace q148 := eq_true q148
                go_wp2
                go_ret
                exact ⟨by first | rfl | (simp; done) | (simp [*]; done), by repeat (first | exact Drawn0.refl _ | apply Drawn0.step)⟩
              · rw [if_neg c6] at H
                have c6b0 : decide (2147483647 < ((rdOf ByteArray.empty l0 x10_1).size : Int)) = false := decide_eq_false c6
                have c6b1 : decide (2147483647 < (rdOf ByteArray.empty l0 x10_1).size) = false := decide_eq_false (by omega)
                clear c6
                have H' := Aside0.mk H
                clear H
                have p148 : 0 ≤ (x10_1 : Int) := of_decide_eq_true (by first | (with_reducible assumption) | assumption)
                have q148 : x10_1 < (l0.length : Int) := of_decide_eq_true (by first | (with_reducible assumption) | assumption)
                obtain ⟨ad148, e148, hx148_0⟩ := Kd.at_string HR0.out x10_1 p148 q148
                cases e148
                replace p148 := eq_true p148
                replace q148 := eq_true q148
                go_wp2
                go_roundg k1
                case measure => have := HK1.out; omega
                case rel => exact ⟨(wrap64 (x10_1 + 1)), (by first | rfl | (simp; done) | (simp [*]; done)), H', ⟨by have := HK1.out; omega⟩, by repeat (first | exact Drawn0.refl _ | apply Drawn0.step)⟩
            · rw [if_neg c5] at H
              exact absurd H (by simp)
          · rw [if_neg c4] at H
            exact absurd H (by simp)
        · rw [if_neg c3] at H
          have c3b0 : decide (x10_1 < (l0.length : Int)) = false := decide_eq_false c3
          clear c3
          obtain rfl := Option.some.inj H
          go_wp2
          go_ret
          exact ⟨by first | rfl | (simp; done) | (simp [*]; done), by repeat (first | exact Drawn0.refl _ | apply Drawn0.step)⟩

end Go.Proofs.YtenclpkeffhjaaaDoor.GEsBody
