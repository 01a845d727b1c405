-- Written by gprint.py, a program of this session over the kit's printer, with contracts of its own for what the printer does not take. Not trusted: Lean checks it.
import Derived.Test.YthjkmjimlhpbfaaDoorGFnListPrefixx0
import Derived.Test.YthjkmjimlhpbfaaDoorGFnListPrefixx1
import Derived.Test.YthjkmjimlhpbfaaDoorGFnListPrefixx2
import Derived.Test.YthjkmjimlhpbfaaDoorGFnListPrefixx3
namespace Go.Proofs.YthjkmjimlhpbfaaDoor.GFnListPrefix
open Go.RowKit Go.Proofs.YthjkmjimlhpbfaaDoor.Itr Go.Proofs.YthjkmjimlhpbfaaDoorW.PrintWords Go.Proofs.YthjkmjimlhpbfaaDoorW.PrintLast Go.Proofs.YthjkmjimlhpbfaaDoorW.PrintMore
attribute [local go_sem] max2_int min2_int max_two min_two max_three min_three max_four min_four   -- for this text's walks alone
set_option linter.unusedVariables false
set_option linter.unusedSimpArgs false
noncomputable section

/-! ### laws_FnListPrefix: function 3 -/
mutual
def laws_FnListPrefix.j0 : Nat → List (S38) → Bool → Int → ByteArray → ByteArray → ByteArray → ByteArray → ByteArray → ByteArray → ByteArray → ByteArray → Option (Bool)
  | 0, _, _, _, _, _, _, _, _, _, _, _ => none
  | k + 1, x0, x15, x166000, x166001, x166002, x166003, x166004, x166005, x166006, x166007, x166008 => if x15 = true then (some true) else ((spec_LsRight.f k x0).bind fun t168 => (if t168 = true then (if (x0.length : Int) = 0 then (laws_FnListPrefix.j1 k x0 true x166000 x166001 x166002 x166003 x166004 x166005 x166006 x166007 x166008) else ((spec_LsStyled.f k x166000 x166001 x166002 x166003 x166004 x166005 x166006 x166007 x166008).bind fun t169 => (laws_FnListPrefix.j1 k x0 (!t169) x166000 x166001 x166002 x166003 x166004 x166005 x166006 x166007 x166008))) else (laws_FnListPrefix.j1 k x0 true x166000 x166001 x166002 x166003 x166004 x166005 x166006 x166007 x166008)))
def laws_FnListPrefix.j1 : Nat → List (S38) → Bool → Int → ByteArray → ByteArray → ByteArray → ByteArray → ByteArray → ByteArray → ByteArray → ByteArray → Option (Bool)
  | 0, _, _, _, _, _, _, _, _, _, _, _ => none
  | k + 1, x0, x28, x166000, x166001, x166002, x166003, x166004, x166005, x166006, x166007, x166008 => if x28 = true then (some true) else ((spec_LsSteps.f k x0).bind fun t171 => ((impl_ListRender.f t171 x166000 x166001 x166002 x166003 x166004 x166005 x166006 x166007 (⟨#[]⟩ : ByteArray)).bind fun t174 => ((spec_TxLines.f k t174).bind fun t175 => (laws_FnListPrefix.l0 k x0 t175 (t175.length : Int) 0 x166000 x166001 x166002 x166003 x166004 x166005 x166006 x166007 x166008))))
def laws_FnListPrefix.l0 : Nat → List (S38) → List ByteArray → Int → Int → Int → ByteArray → ByteArray → ByteArray → ByteArray → ByteArray → ByteArray → ByteArray → ByteArray → Option (Bool)
  | 0, _, _, _, _, _, _, _, _, _, _, _, _, _ => none
  | k + 1, x0, x6, x37, x38, x166000, x166001, x166002, x166003, x166004, x166005, x166006, x166007, x166008 => if x38 < x37 then (if 0 ≤ x38 then (if x38 < (x6.length : Int) then (if x166008.size + (rdOf ByteArray.empty x6 x38).size ≤ 9223372036854775807 then (laws_FnListPrefix.l0 k x0 (x6.set (x38 : Int).toNat (x166008 ++ (rdOf ByteArray.empty x6 x38))) x37 (wrap64 (x38 + 1)) x166000 x166001 x166002 x166003 x166004 x166005 x166006 x166007 x166008) else (none)) else (none)) else (none)) else ((spec_LsSteps.f k x0).bind fun t180 => ((impl_ListRender.f t180 x166000 x166001 x166002 x166003 x166004 x166005 x166006 x166007 x166008).bind fun t183 => ((spec_TxLines.f k t183).bind fun t184 => ((spec_TxSameTexts.f k t184 x6).bind fun t187 => (some t187)))))
end
def laws_FnListPrefix.f (k : Nat) (l0 : List (S38)) (a1_0 : Int) (a1_1 : ByteArray) (a1_2 : ByteArray) (a1_3 : ByteArray) (a1_4 : ByteArray) (a1_5 : ByteArray) (a1_6 : ByteArray) (a1_7 : ByteArray) (a1_8 : ByteArray) : Option (Bool) := (laws_zzFits1.f k l0).bind fun t166 => (if t166 = true then ((laws_zzFits3.f a1_0 a1_1 a1_2 a1_3 a1_4 a1_5 a1_6 a1_7 a1_8).bind fun t167 => (laws_FnListPrefix.j0 k l0 (!t167) a1_0 a1_1 a1_2 a1_3 a1_4 a1_5 a1_6 a1_7 a1_8)) else (laws_FnListPrefix.j0 k l0 true a1_0 a1_1 a1_2 a1_3 a1_4 a1_5 a1_6 a1_7 a1_8))
theorem laws_FnListPrefix.mono_l : ∀ k, (∀ y0 y1 y2 y3 y4 y5 y6 y7 y8 y9 y10, LeO (laws_FnListPrefix.j0 k y0 y1 y2 y3 y4 y5 y6 y7 y8 y9 y10) (laws_FnListPrefix.j0 (k + 1) y0 y1 y2 y3 y4 y5 y6 y7 y8 y9 y10)) ∧ (∀ y0 y1 y2 y3 y4 y5 y6 y7 y8 y9 y10, LeO (laws_FnListPrefix.j1 k y0 y1 y2 y3 y4 y5 y6 y7 y8 y9 y10) (laws_FnListPrefix.j1 (k + 1) y0 y1 y2 y3 y4 y5 y6 y7 y8 y9 y10)) ∧ (∀ y0 y1 y2 y3 y4 y5 y6 y7 y8 y9 y10 y11 y12, LeO (laws_FnListPrefix.l0 k y0 y1 y2 y3 y4 y5 y6 y7 y8 y9 y10 y11 y12) (laws_FnListPrefix.l0 (k + 1) y0 y1 y2 y3 y4 y5 y6 y7 y8 y9 y10 y11 y12))
  | 0 => ⟨fun _ _ _ _ _ _ _ _ _ _ _ r h => by simp [laws_FnListPrefix.j0] at h, fun _ _ _ _ _ _ _ _ _ _ _ r h => by simp [laws_FnListPrefix.j1] at h, fun _ _ _ _ _ _ _ _ _ _ _ _ _ r h => by simp [laws_FnListPrefix.l0] at h⟩
  | k + 1 => by
    obtain ⟨ih0, ih1, ih2⟩ := laws_FnListPrefix.mono_l k
    refine ⟨?_, ?_, ?_⟩
    · intro y0 y1 y2 y3 y4 y5 y6 y7 y8 y9 y10
      unfold laws_FnListPrefix.j0
      repeat' first
      | (with_reducible exact ih0 _ _ _ _ _ _ _ _ _ _ _)
      | (with_reducible exact ih1 _ _ _ _ _ _ _ _ _ _ _)
      | (with_reducible exact ih2 _ _ _ _ _ _ _ _ _ _ _ _ _)
      | (with_reducible exact laws_zzFits1.mono _ _)
      | (with_reducible exact spec_LsRight.mono _ _)
      | (with_reducible exact spec_LsSteps.mono _ _)
      | (with_reducible exact spec_LsStyled.mono _ _ _ _ _ _ _ _ _ _)
      | (with_reducible exact spec_TxLines.mono _ _)
      | (with_reducible exact spec_TxSameTexts.mono _ _ _)
      | (with_reducible exact LeO.refl _)
      | (with_reducible exact LeO.none _)
      | (with_reducible refine LeO.ite ?_ ?_)
      | (with_reducible refine LeO.bind ?_ (fun _ => ?_))
      | exact ih0 _ _ _ _ _ _ _ _ _ _ _
      | exact ih1 _ _ _ _ _ _ _ _ _ _ _
      | exact ih2 _ _ _ _ _ _ _ _ _ _ _ _ _
      | exact laws_zzFits1.mono _ _
      | exact spec_LsRight.mono _ _
      | exact spec_LsSteps.mono _ _
      | exact spec_LsStyled.mono _ _ _ _ _ _ _ _ _ _
      | exact spec_TxLines.mono _ _
      | exact spec_TxSameTexts.mono _ _ _
      | exact LeO.none _
      | refine LeO.ite ?_ ?_
      | refine LeO.bind ?_ (fun _ => ?_)
    · intro y0 y1 y2 y3 y4 y5 y6 y7 y8 y9 y10
      unfold laws_FnListPrefix.j1
      repeat' first
      | (with_reducible exact ih0 _ _ _ _ _ _ _ _ _ _ _)
      | (with_reducible exact ih1 _ _ _ _ _ _ _ _ _ _ _)
      | (with_reducible exact ih2 _ _ _ _ _ _ _ _ _ _ _ _ _)
      | (with_reducible exact laws_zzFits1.mono _ _)
      | (with_reducible exact spec_LsRight.mono _ _)
      | (with_reducible exact spec_LsSteps.mono _ _)
      | (with_reducible exact spec_LsStyled.mono _ _ _ _ _ _ _ _ _ _)
      | (with_reducible exact spec_TxLines.mono _ _)
      | (with_reducible exact spec_TxSameTexts.mono _ _ _)
      | (with_reducible exact LeO.refl _)
      | (with_reducible exact LeO.none _)
      | (with_reducible refine LeO.ite ?_ ?_)
      | (with_reducible refine LeO.bind ?_ (fun _ => ?_))
      | exact ih0 _ _ _ _ _ _ _ _ _ _ _
      | exact ih1 _ _ _ _ _ _ _ _ _ _ _
      | exact ih2 _ _ _ _ _ _ _ _ _ _ _ _ _
      | exact laws_zzFits1.mono _ _
      | exact spec_LsRight.mono _ _
      | exact spec_LsSteps.mono _ _
      | exact spec_LsStyled.mono _ _ _ _ _ _ _ _ _ _
      | exact spec_TxLines.mono _ _
      | exact spec_TxSameTexts.mono _ _ _
      | exact LeO.none _
      | refine LeO.ite ?_ ?_
      | refine LeO.bind ?_ (fun _ => ?_)
    · intro y0 y1 y2 y3 y4 y5 y6 y7 y8 y9 y10 y11 y12
      unfold laws_FnListPrefix.l0
      repeat' first
      | (with_reducible exact ih0 _ _ _ _ _ _ _ _ _ _ _)
      | (with_reducible exact ih1 _ _ _ _ _ _ _ _ _ _ _)
      | (with_reducible exact ih2 _ _ _ _ _ _ _ _ _ _ _ _ _)
      | (with_reducible exact laws_zzFits1.mono _ _)
      | (with_reducible exact spec_LsRight.mono _ _)
      | (with_reducible exact spec_LsSteps.mono _ _)
      | (with_reducible exact spec_LsStyled.mono _ _ _ _ _ _ _ _ _ _)
      | (with_reducible exact spec_TxLines.mono _ _)
      | (with_reducible exact spec_TxSameTexts.mono _ _ _)
      | (with_reducible exact LeO.refl _)
      | (with_reducible exact LeO.none _)
      | (with_reducible refine LeO.ite ?_ ?_)
      | (with_reducible refine LeO.bind ?_ (fun _ => ?_))
      | exact ih0 _ _ _ _ _ _ _ _ _ _ _
      | exact ih1 _ _ _ _ _ _ _ _ _ _ _
      | exact ih2 _ _ _ _ _ _ _ _ _ _ _ _ _
      | exact laws_zzFits1.mono _ _
      | exact spec_LsRight.mono _ _
      | exact spec_LsSteps.mono _ _
      | exact spec_LsStyled.mono _ _ _ _ _ _ _ _ _ _
      | exact spec_TxLines.mono _ _
      | exact spec_TxSameTexts.mono _ _ _
      | exact LeO.none _
      | refine LeO.ite ?_ ?_
      | refine LeO.bind ?_ (fun _ => ?_)
theorem laws_FnListPrefix.mono : ∀ a0 a1 a2 a3 a4 a5 a6 a7 a8 a9 k, LeO (laws_FnListPrefix.f k a0 a1 a2 a3 a4 a5 a6 a7 a8 a9) (laws_FnListPrefix.f (k + 1) a0 a1 a2 a3 a4 a5 a6 a7 a8 a9) := by
  intro a0 a1 a2 a3 a4 a5 a6 a7 a8 a9 k
  obtain ⟨ih0, ih1, ih2⟩ := laws_FnListPrefix.mono_l k
  unfold laws_FnListPrefix.f
  repeat' first
      | (with_reducible exact ih0 _ _ _ _ _ _ _ _ _ _ _)
      | (with_reducible exact ih1 _ _ _ _ _ _ _ _ _ _ _)
      | (with_reducible exact ih2 _ _ _ _ _ _ _ _ _ _ _ _ _)
      | (with_reducible exact laws_zzFits1.mono _ _)
      | (with_reducible exact spec_LsRight.mono _ _)
      | (with_reducible exact spec_LsSteps.mono _ _)
      | (with_reducible exact spec_LsStyled.mono _ _ _ _ _ _ _ _ _ _)
      | (with_reducible exact spec_TxLines.mono _ _)
      | (with_reducible exact spec_TxSameTexts.mono _ _ _)
      | (with_reducible exact LeO.refl _)
      | (with_reducible exact LeO.none _)
      | (with_reducible refine LeO.ite ?_ ?_)
      | (with_reducible refine LeO.bind ?_ (fun _ => ?_))
      | exact ih0 _ _ _ _ _ _ _ _ _ _ _
      | exact ih1 _ _ _ _ _ _ _ _ _ _ _
      | exact ih2 _ _ _ _ _ _ _ _ _ _ _ _ _
      | exact laws_zzFits1.mono _ _
      | exact spec_LsRight.mono _ _
      | exact spec_LsSteps.mono _ _
      | exact spec_LsStyled.mono _ _ _ _ _ _ _ _ _ _
      | exact spec_TxLines.mono _ _
      | exact spec_TxSameTexts.mono _ _ _
      | exact LeO.none _
      | refine LeO.ite ?_ ?_
      | refine LeO.bind ?_ (fun _ => ?_)
def laws_FnListPrefix.T11 : Bool × List (List Nat × List Nat) := (true, [([], []), ([], []), ([], []), ([2], [2]), ([], []), ([], []), ([4, 5], [4, 5]), ([6], [6]), ([3, 7], [3, 7]), ([0, 1, 0, 1, 2, 3, 4, 5, 6, 7, 8], [0, 1]), ([9, 8, 0, 1, 2, 3, 4, 5, 6, 7, 8], [8, 9])])
def laws_FnListPrefix.B11 : List Nat := [0, 0, 0, 4, 0, 0, 48, 112, 252, 511, 1023]
theorem laws_FnListPrefix.tab11 : rtab .any (opsOf Tryd.f3 11) = laws_FnListPrefix.T11 := by kernel_rfl
theorem laws_FnListPrefix.bits11 : waitsOk laws_FnListPrefix.T11.2 laws_FnListPrefix.B11 = true := by kernel_rfl
def laws_FnListPrefix.T13 : Bool × List (List Nat × List Nat) := (true, [([], []), ([0], [0]), ([], []), ([1, 2, 1], [1, 2]), ([3, 3], [3]), ([], []), ([4, 5, 4], [4, 5]), ([6, 6, 0, 1, 2, 3, 4, 5, 6], [6])])
def laws_FnListPrefix.B13 : List Nat := [0, 1, 0, 7, 15, 0, 63, 127]
theorem laws_FnListPrefix.tab13 : rtab .any (opsOf Tryd.f3 13) = laws_FnListPrefix.T13 := by kernel_rfl
theorem laws_FnListPrefix.bits13 : waitsOk laws_FnListPrefix.T13.2 laws_FnListPrefix.B13 = true := by kernel_rfl
set_option maxHeartbeats 8000000 in
set_option maxRecDepth 100000 in
theorem laws_FnListPrefix.calls (k : Nat) (A0 : Option Addr) (c0 : Nat) (l0 : List (S38)) (a1_0 : Int) (a1_1 : ByteArray) (a1_2 : ByteArray) (a1_3 : ByteArray) (a1_4 : ByteArray) (a1_5 : ByteArray) (a1_6 : ByteArray) (a1_7 : ByteArray) (a1_8 : ByteArray) (r : Bool) (w : World) (hr0 : Kd.C k38 w A0 l0.length l0) (hc0 : l0.length ≤ c0) (h : laws_FnListPrefix.f k l0 a1_0 a1_1 a1_2 a1_3 a1_4 a1_5 a1_6 a1_7 a1_8 = some r) :
    Calls Tryd.prog 3 #[.slice A0 l0.length c0, .agg #[.int .i64 a1_0, .string a1_1, .string a1_2, .string a1_3, .string a1_4, .string a1_5, .string a1_6, .string a1_7, .string a1_8]] w fun e w' => e = .returned (.bool r) ∧ Below w.heap.size w w' := by
  have hu24 := Tryd.underlying24
  have HR0 := Aside0.mk hr0
  have HC0 := Aside0.mk hc0
  clear hr0 hc0
  have HB := Aside0.mk (Below.refl w.heap.size w)
  have H : ((laws_zzFits1.f k l0).bind fun t166 => (if t166 = true then ((laws_zzFits3.f a1_0 a1_1 a1_2 a1_3 a1_4 a1_5 a1_6 a1_7 a1_8).bind fun t167 => (laws_FnListPrefix.j0 k l0 (!t167) a1_0 a1_1 a1_2 a1_3 a1_4 a1_5 a1_6 a1_7 a1_8)) else (laws_FnListPrefix.j0 k l0 true a1_0 a1_1 a1_2 a1_3 a1_4 a1_5 a1_6 a1_7 a1_8))) = some r := h
  clear h
  have HC3 := Aside0.mk H
  clear H
  go_enter Tryd.func3, Tryd.ntmps3
  go_upto_region 1 with (first | ((with_reducible refine gate_dst (N := 3) rfl ?_); (try (refine gate_guard (by rfl) ?_; dsimp only)); refine box_event ?hg (N := 3) ?hd (cs := #[.int .i64 a1_0, .string a1_1, .string a1_2, .string a1_3, .string a1_4, .string a1_5, .string a1_6, .string a1_7, .string a1_8]) (t := 24) ?hr ?_; (case hd => rfl); (case hg => rfl); (case hr => first | (go_simp; done) | (go_simp; rfl)); intro gb165 hg w4 hbox hb; have n0_ := Aside0.mk (below_step (by repeat (first | (with_reducible first | exact HB.out | apply below_alloc | apply pw_below_drewN | apply below_drew1) | exact HB.out)) hb); have n1_ := Aside0.mk (hbox); have n2_ := Aside0.mk ((by rw [hg]; exact (below_size (by repeat (first | (with_reducible first | exact HB.out | apply below_alloc | apply pw_below_drewN | apply below_drew1) | exact HB.out))) : w.heap.size ≤ gb165)); have n3_ := Aside0.mk ((by rw [hg]; exact (below_size (by repeat (first | (with_reducible first | exact HB.out | apply below_alloc | apply pw_below_drewN | apply below_drew1) | exact HB.out))) : w.heap.size ≤ gb165)); clear HB; have HB := n0_; have BK165 := n1_; have GW165 := n2_; have GE165 := n3_; clear n0_ n1_ n2_ n3_; clear hb hbox hg))
  (try simp only [Act.put, List.setIfInBounds_toArray, List.set_cons_zero, List.set_cons_succ])
  go_cut [15] (fun v15 wc => ∃ (kq : Nat) (x15_2 : Bool), v15 = .bool x15_2 ∧ Aside0 (laws_FnListPrefix.j0 kq l0 x15_2 a1_0 a1_1 a1_2 a1_3 a1_4 a1_5 a1_6 a1_7 a1_8 = some r) ∧ Aside0 (kq ≤ k) ∧ Aside0 (wc.heap[gb165]? = some (.cells #[.int .i64 a1_0, .string a1_1, .string a1_2, .string a1_3, .string a1_4, .string a1_5, .string a1_6, .string a1_7, .string a1_8] 24 (0, 0))) ∧ Aside0 (Below w.heap.size w wc))
  case first =>
    have H := HC3.out
    clear HC3
    replace H := Option.bind_eq_some_iff.mp H
    obtain ⟨t166, A50, H⟩ := H
    replace H : (if t166 = true then ((laws_zzFits3.f a1_0 a1_1 a1_2 a1_3 a1_4 a1_5 a1_6 a1_7 a1_8).bind fun t167 => (laws_FnListPrefix.j0 k l0 (!t167) a1_0 a1_1 a1_2 a1_3 a1_4 a1_5 a1_6 a1_7 a1_8)) else (laws_FnListPrefix.j0 k l0 true a1_0 a1_1 a1_2 a1_3 a1_4 a1_5 a1_6 a1_7 a1_8)) = some r := H
    have A5 := Aside0.mk A50
    clear A50
    by_cases c6 : t166 = true
    · subst c6
      have H1 : ((laws_zzFits3.f a1_0 a1_1 a1_2 a1_3 a1_4 a1_5 a1_6 a1_7 a1_8).bind fun t167 => (laws_FnListPrefix.j0 k l0 (!t167) a1_0 a1_1 a1_2 a1_3 a1_4 a1_5 a1_6 a1_7 a1_8)) = some r := by rw [if_pos rfl] at H; exact H
      clear H
      have H := H1
      clear H1
      replace H := Option.bind_eq_some_iff.mp H
      obtain ⟨t167, A70, H⟩ := H
      replace H : (laws_FnListPrefix.j0 k l0 (!t167) a1_0 a1_1 a1_2 a1_3 a1_4 a1_5 a1_6 a1_7 a1_8) = some r := H
      have A7 := Aside0.mk A70
      clear A70
      have H' := Aside0.mk H
      clear H
      go_wp2_with (first | ((with_reducible refine gate_callee (f := 6) rfl ?_); refine goesL_ (some 9) rfl rfl Tryd.func6 (by kernel_rfl) rfl #[.slice A0 l0.length c0] rfl (by (try simp only [List.map_toArray, List.map_cons, List.map_nil]); first | done | rfl | (simp only [List.length_drop, List.length_take]; rfl)) ?_; (with_reducible refine (laws_zzFits1.calls k _ _ l0 true _ ?side1 ?side2 A5.out).mono ?_); (case side1 => repeat (first | exact (Kd.C_below HR0.out HB.out) | (with_reducible refine Kd.C_alloc ?_ _) | (with_reducible refine Kd.C_drewN ?_ _) | (with_reducible refine Kd.C_drew ?_))); (case side2 => exact HC0.out); rintro e w8 ⟨rfl, hb⟩; refine ⟨_, rfl, ?_⟩; have n0_ := Aside0.mk (blk_below (g := gb165) (o := .cells #[.int .i64 a1_0, .string a1_1, .string a1_2, .string a1_3, .string a1_4, .string a1_5, .string a1_6, .string a1_7, .string a1_8] 24 (0, 0)) (by (with_reducible repeat (first | refine blk_drewN ?_ _ | refine blk_drew ?_ | refine blk_alloc ?_ _)); exact BK165.out) hb); have n1_ := Aside0.mk (below_step (by repeat (first | (with_reducible first | exact HB.out | apply below_alloc | apply pw_below_drewN | apply below_drew1 | refine below_set ?_ GE165.out) | exact HB.out)) hb); clear BK165; clear HB; have BK165 := n0_; have HB := n1_; clear n0_ n1_; (try clear hb); (try clear hb2); (try clear hk); (try clear hi); have hcz9_0 : w8.cell? ⟨gb165, 0, none⟩ = some (.int .i64 a1_0) := (blk_cell BK165.out 0).trans rfl; have hcz9_1 : w8.cell? ⟨gb165, 1, none⟩ = some (.string a1_1) := (blk_cell BK165.out 1).trans rfl; have hcz9_2 : w8.cell? ⟨gb165, 2, none⟩ = some (.string a1_2) := (blk_cell BK165.out 2).trans rfl; have hcz9_3 : w8.cell? ⟨gb165, 3, none⟩ = some (.string a1_3) := (blk_cell BK165.out 3).trans rfl; have hcz9_4 : w8.cell? ⟨gb165, 4, none⟩ = some (.string a1_4) := (blk_cell BK165.out 4).trans rfl; have hcz9_5 : w8.cell? ⟨gb165, 5, none⟩ = some (.string a1_5) := (blk_cell BK165.out 5).trans rfl; have hcz9_6 : w8.cell? ⟨gb165, 6, none⟩ = some (.string a1_6) := (blk_cell BK165.out 6).trans rfl; have hcz9_7 : w8.cell? ⟨gb165, 7, none⟩ = some (.string a1_7) := (blk_cell BK165.out 7).trans rfl; have hcz9_8 : w8.cell? ⟨gb165, 8, none⟩ = some (.string a1_8) := (blk_cell BK165.out 8).trans rfl; have hfz9_0 := blk_frozen BK165.out 0; have hfz9_1 := blk_frozen BK165.out 1; have hfz9_2 := blk_frozen BK165.out 2; have hfz9_3 := blk_frozen BK165.out 3; have hfz9_4 := blk_frozen BK165.out 4; have hfz9_5 := blk_frozen BK165.out 5; have hfz9_6 := blk_frozen BK165.out 6; have hfz9_7 := blk_frozen BK165.out 7; have hfz9_8 := blk_frozen BK165.out 8) | (go_at_call 7; (with_reducible refine (laws_zzFits3.calls a1_0 a1_1 a1_2 a1_3 a1_4 a1_5 a1_6 a1_7 a1_8 t167 _ A7.out).mono ?_); rintro e w10 ⟨rfl, hb⟩; have n0_ := Aside0.mk (blk_below (g := gb165) (o := .cells #[.int .i64 a1_0, .string a1_1, .string a1_2, .string a1_3, .string a1_4, .string a1_5, .string a1_6, .string a1_7, .string a1_8] 24 (0, 0)) (by (with_reducible repeat (first | refine blk_drewN ?_ _ | refine blk_drew ?_ | refine blk_alloc ?_ _)); exact BK165.out) hb); have n1_ := Aside0.mk (below_step (by repeat (first | (with_reducible first | exact HB.out | apply below_alloc | apply pw_below_drewN | apply below_drew1 | refine below_set ?_ GE165.out) | exact HB.out)) hb); clear BK165; clear HB; have BK165 := n0_; have HB := n1_; clear n0_ n1_; (try clear hb); (try clear hb2); (try clear hk); (try clear hi)))
      go_meet
      case rel => exact ⟨_, (!t167), (by first | rfl | (simp; done) | (simp [*]; done)), H', ⟨by first | omega | exact Nat.le_refl _⟩, ⟨by (with_reducible repeat (first | refine blk_drewN ?_ _ | refine blk_drew ?_ | refine blk_alloc ?_ _)); exact BK165.out⟩, ⟨by repeat (first | (with_reducible first | exact HB.out | apply below_alloc | apply pw_below_drewN | apply below_drew1 | refine below_set ?_ GE165.out) | exact HB.out)⟩⟩
    · replace c6 := Bool.eq_false_iff.mpr c6
      subst c6
      have H1 : (laws_FnListPrefix.j0 k l0 true a1_0 a1_1 a1_2 a1_3 a1_4 a1_5 a1_6 a1_7 a1_8) = some r := by rw [if_neg (show ¬ (false = true) by decide)] at H; exact H
      clear H
      have H := H1
      clear H1
      have H' := Aside0.mk H
      clear H
      go_wp2_with (first | ((with_reducible refine gate_callee (f := 6) rfl ?_); refine goesL_ (some 9) rfl rfl Tryd.func6 (by kernel_rfl) rfl #[.slice A0 l0.length c0] rfl (by (try simp only [List.map_toArray, List.map_cons, List.map_nil]); first | done | rfl | (simp only [List.length_drop, List.length_take]; rfl)) ?_; (with_reducible refine (laws_zzFits1.calls k _ _ l0 false _ ?side1 ?side2 A5.out).mono ?_); (case side1 => repeat (first | exact (Kd.C_below HR0.out HB.out) | (with_reducible refine Kd.C_alloc ?_ _) | (with_reducible refine Kd.C_drewN ?_ _) | (with_reducible refine Kd.C_drew ?_))); (case side2 => exact HC0.out); rintro e w11 ⟨rfl, hb⟩; refine ⟨_, rfl, ?_⟩; have n0_ := Aside0.mk (blk_below (g := gb165) (o := .cells #[.int .i64 a1_0, .string a1_1, .string a1_2, .string a1_3, .string a1_4, .string a1_5, .string a1_6, .string a1_7, .string a1_8] 24 (0, 0)) (by (with_reducible repeat (first | refine blk_drewN ?_ _ | refine blk_drew ?_ | refine blk_alloc ?_ _)); exact BK165.out) hb); have n1_ := Aside0.mk (below_step (by repeat (first | (with_reducible first | exact HB.out | apply below_alloc | apply pw_below_drewN | apply below_drew1 | refine below_set ?_ GE165.out) | exact HB.out)) hb); clear BK165; clear HB; have BK165 := n0_; have HB := n1_; clear n0_ n1_; (try clear hb); (try clear hb2); (try clear hk); (try clear hi)))
      go_meet
      case rel => exact ⟨_, (true), (by first | rfl | (simp; done) | (simp [*]; done)), H', ⟨by first | omega | exact Nat.le_refl _⟩, ⟨by (with_reducible repeat (first | refine blk_drewN ?_ _ | refine blk_drew ?_ | refine blk_alloc ?_ _)); exact BK165.out⟩, ⟨by repeat (first | (with_reducible first | exact HB.out | apply below_alloc | apply pw_below_drewN | apply below_drew1 | refine below_set ?_ GE165.out) | exact HB.out)⟩⟩
  case rest =>
    clear HC3
    try clear p2
    try clear c3
    try clear c6
    try clear hcz9_0
    try clear hcz9_1
    try clear hcz9_2
    try clear hcz9_3
    try clear hcz9_4
    try clear hcz9_5
    try clear hcz9_6
    try clear hcz9_7
    try clear hcz9_8
    try clear hfz9_0
    try clear hfz9_1
    try clear hfz9_2
    try clear hfz9_3
    try clear hfz9_4
    try clear hfz9_5
    try clear hfz9_6
    try clear hfz9_7
    try clear hfz9_8
    obtain ⟨kq, x15_2, rfl, HA, HJ2, BK165, HB⟩ := hcut
    cases kq with
    | zero => exact absurd HA.out (by simp [laws_FnListPrefix.j0])
    | succ kj2 =>
      have H := HA.out
      clear HA
      simp only [laws_FnListPrefix.j0] at H
      by_cases c12 : x15_2 = true
      · subst c12
        have H1 : (some true) = some r := by rw [if_pos rfl] at H; exact H
        clear H
        have H := H1
        clear H1
        obtain rfl := Option.some.inj H
        go_wp2
        go_ret
        exact ⟨by first | rfl | (simp [errW_none, errW_some] <;> rfl) | (simp [*, errW_none, errW_some] <;> rfl), by repeat (first | (with_reducible first | exact HB.out | apply below_alloc | apply pw_below_drewN | apply below_drew1 | refine below_set ?_ GE165.out) | exact HB.out)⟩
      · replace c12 := Bool.eq_false_iff.mpr c12
        subst c12
        have H1 : ((spec_LsRight.f kj2 l0).bind fun t168 => (if t168 = true then (if (l0.length : Int) = 0 then (laws_FnListPrefix.j1 kj2 l0 true a1_0 a1_1 a1_2 a1_3 a1_4 a1_5 a1_6 a1_7 a1_8) else ((spec_LsStyled.f kj2 a1_0 a1_1 a1_2 a1_3 a1_4 a1_5 a1_6 a1_7 a1_8).bind fun t169 => (laws_FnListPrefix.j1 kj2 l0 (!t169) a1_0 a1_1 a1_2 a1_3 a1_4 a1_5 a1_6 a1_7 a1_8))) else (laws_FnListPrefix.j1 kj2 l0 true a1_0 a1_1 a1_2 a1_3 a1_4 a1_5 a1_6 a1_7 a1_8))) = some r := by rw [if_neg (show ¬ (false = true) by decide)] at H; exact H
        clear H
        have H := H1
        clear H1
        have HC13 := Aside0.mk H
        clear H
        go_upto_region 3 with (fail)
        go_cut [28] (fun v28 wc => ∃ (kq : Nat) (x28_12 : Bool), v28 = .bool x28_12 ∧ Aside0 (laws_FnListPrefix.j1 kq l0 x28_12 a1_0 a1_1 a1_2 a1_3 a1_4 a1_5 a1_6 a1_7 a1_8 = some r) ∧ Aside0 (kq ≤ kj2) ∧ Aside0 (wc.heap[gb165]? = some (.cells #[.int .i64 a1_0, .string a1_1, .string a1_2, .string a1_3, .string a1_4, .string a1_5, .string a1_6, .string a1_7, .string a1_8] 24 (0, 0))) ∧ Aside0 (Below w.heap.size w wc))
        case first =>
          have H := HC13.out
          clear HC13
          replace H := Option.bind_eq_some_iff.mp H
          obtain ⟨t168, A140, H⟩ := H
          replace H : (if t168 = true then (if (l0.length : Int) = 0 then (laws_FnListPrefix.j1 kj2 l0 true a1_0 a1_1 a1_2 a1_3 a1_4 a1_5 a1_6 a1_7 a1_8) else ((spec_LsStyled.f kj2 a1_0 a1_1 a1_2 a1_3 a1_4 a1_5 a1_6 a1_7 a1_8).bind fun t169 => (laws_FnListPrefix.j1 kj2 l0 (!t169) a1_0 a1_1 a1_2 a1_3 a1_4 a1_5 a1_6 a1_7 a1_8))) else (laws_FnListPrefix.j1 kj2 l0 true a1_0 a1_1 a1_2 a1_3 a1_4 a1_5 a1_6 a1_7 a1_8)) = some r := H
          have A14 := Aside0.mk A140
          clear A140
          by_cases c15 : t168 = true
          · subst c15
            have H1 : (if (l0.length : Int) = 0 then (laws_FnListPrefix.j1 kj2 l0 true a1_0 a1_1 a1_2 a1_3 a1_4 a1_5 a1_6 a1_7 a1_8) else ((spec_LsStyled.f kj2 a1_0 a1_1 a1_2 a1_3 a1_4 a1_5 a1_6 a1_7 a1_8).bind fun t169 => (laws_FnListPrefix.j1 kj2 l0 (!t169) a1_0 a1_1 a1_2 a1_3 a1_4 a1_5 a1_6 a1_7 a1_8))) = some r := by rw [if_pos rfl] at H; exact H
            clear H
            have H := H1
            clear H1
            by_cases c16 : (l0.length : Int) = 0
            · rw [if_pos c16] at H
              have c16b0 : ((l0.length : Int) == 0) = true := beq_iff_eq.mpr c16
              have c16b1 : ((l0.length : Int) != 0) = false := bne_eq_false_iff_eq.mpr c16
              clear c16
              (first | rw [c16b0] | (simp only [i64_w, i32_w]; rw [c16b0]) | skip)
              have H' := Aside0.mk H
              clear H
              go_wp2_with (first | ((with_reducible refine gate_callee (f := 8) rfl ?_); refine goesL_ (some 17) rfl rfl Tryd.func8 (by kernel_rfl) rfl #[.slice A0 l0.length c0] rfl (by (try simp only [List.map_toArray, List.map_cons, List.map_nil]); first | done | rfl | (simp only [List.length_drop, List.length_take]; rfl)) ?_; (with_reducible refine (spec_LsRight.calls kj2 _ _ l0 true _ ?side1 ?side2 A14.out).mono ?_); (case side1 => repeat (first | exact (Kd.C_below HR0.out HB.out) | (with_reducible refine Kd.C_alloc ?_ _) | (with_reducible refine Kd.C_drewN ?_ _) | (with_reducible refine Kd.C_drew ?_))); (case side2 => exact HC0.out); rintro e w17 ⟨rfl, hb⟩; refine ⟨_, rfl, ?_⟩; have n0_ := Aside0.mk (blk_below (g := gb165) (o := .cells #[.int .i64 a1_0, .string a1_1, .string a1_2, .string a1_3, .string a1_4, .string a1_5, .string a1_6, .string a1_7, .string a1_8] 24 (0, 0)) (by (with_reducible repeat (first | refine blk_drewN ?_ _ | refine blk_drew ?_ | refine blk_alloc ?_ _)); exact BK165.out) hb); have n1_ := Aside0.mk (below_step (by repeat (first | (with_reducible first | exact HB.out | apply below_alloc | apply pw_below_drewN | apply below_drew1 | refine below_set ?_ GE165.out) | exact HB.out)) hb); clear BK165; clear HB; have BK165 := n0_; have HB := n1_; clear n0_ n1_; (try clear hb); (try clear hb2); (try clear hk); (try clear hi)))
              go_meet
              case rel => exact ⟨_, (true), (by first | rfl | (simp; done) | (simp [*]; done)), H', ⟨by have := HJ2.out; first | omega | exact Nat.le_refl _⟩, ⟨by (with_reducible repeat (first | refine blk_drewN ?_ _ | refine blk_drew ?_ | refine blk_alloc ?_ _)); exact BK165.out⟩, ⟨by repeat (first | (with_reducible first | exact HB.out | apply below_alloc | apply pw_below_drewN | apply below_drew1 | refine below_set ?_ GE165.out) | exact HB.out)⟩⟩
            · rw [if_neg c16] at H
              have c16b0 : ((l0.length : Int) == 0) = false := beq_eq_false_iff_ne.mpr c16
              have c16b1 : ((l0.length : Int) != 0) = true := bne_iff_ne.mpr c16
              have c16b2 : ¬ (l0 = []) := fun h_ => c16 (by rw [h_]; rfl)
              (first | rw [c16b0] | (simp only [i64_w, i32_w]; rw [c16b0]) | skip)
              replace H := Option.bind_eq_some_iff.mp H
              obtain ⟨t169, A180, H⟩ := H
              replace H : (laws_FnListPrefix.j1 kj2 l0 (!t169) a1_0 a1_1 a1_2 a1_3 a1_4 a1_5 a1_6 a1_7 a1_8) = some r := H
              have A18 := Aside0.mk A180
              clear A180
              have H' := Aside0.mk H
              clear H
              go_wp2_with (first | ((with_reducible refine gate_callee (f := 8) rfl ?_); refine goesL_ (some 17) rfl rfl Tryd.func8 (by kernel_rfl) rfl #[.slice A0 l0.length c0] rfl (by (try simp only [List.map_toArray, List.map_cons, List.map_nil]); first | done | rfl | (simp only [List.length_drop, List.length_take]; rfl)) ?_; (with_reducible refine (spec_LsRight.calls kj2 _ _ l0 true _ ?side1 ?side2 A14.out).mono ?_); (case side1 => repeat (first | exact (Kd.C_below HR0.out HB.out) | (with_reducible refine Kd.C_alloc ?_ _) | (with_reducible refine Kd.C_drewN ?_ _) | (with_reducible refine Kd.C_drew ?_))); (case side2 => exact HC0.out); rintro e w19 ⟨rfl, hb⟩; refine ⟨_, rfl, ?_⟩; have n0_ := Aside0.mk (blk_below (g := gb165) (o := .cells #[.int .i64 a1_0, .string a1_1, .string a1_2, .string a1_3, .string a1_4, .string a1_5, .string a1_6, .string a1_7, .string a1_8] 24 (0, 0)) (by (with_reducible repeat (first | refine blk_drewN ?_ _ | refine blk_drew ?_ | refine blk_alloc ?_ _)); exact BK165.out) hb); have n1_ := Aside0.mk (below_step (by repeat (first | (with_reducible first | exact HB.out | apply below_alloc | apply pw_below_drewN | apply below_drew1 | refine below_set ?_ GE165.out) | exact HB.out)) hb); clear BK165; clear HB; have BK165 := n0_; have HB := n1_; clear n0_ n1_; (try clear hb); (try clear hb2); (try clear hk); (try clear hi); have hcz20_0 : w19.cell? ⟨gb165, 0, none⟩ = some (.int .i64 a1_0) := (blk_cell BK165.out 0).trans rfl; have hcz20_1 : w19.cell? ⟨gb165, 1, none⟩ = some (.string a1_1) := (blk_cell BK165.out 1).trans rfl; have hcz20_2 : w19.cell? ⟨gb165, 2, none⟩ = some (.string a1_2) := (blk_cell BK165.out 2).trans rfl; have hcz20_3 : w19.cell? ⟨gb165, 3, none⟩ = some (.string a1_3) := (blk_cell BK165.out 3).trans rfl; have hcz20_4 : w19.cell? ⟨gb165, 4, none⟩ = some (.string a1_4) := (blk_cell BK165.out 4).trans rfl; have hcz20_5 : w19.cell? ⟨gb165, 5, none⟩ = some (.string a1_5) := (blk_cell BK165.out 5).trans rfl; have hcz20_6 : w19.cell? ⟨gb165, 6, none⟩ = some (.string a1_6) := (blk_cell BK165.out 6).trans rfl; have hcz20_7 : w19.cell? ⟨gb165, 7, none⟩ = some (.string a1_7) := (blk_cell BK165.out 7).trans rfl; have hcz20_8 : w19.cell? ⟨gb165, 8, none⟩ = some (.string a1_8) := (blk_cell BK165.out 8).trans rfl; have hfz20_0 := blk_frozen BK165.out 0; have hfz20_1 := blk_frozen BK165.out 1; have hfz20_2 := blk_frozen BK165.out 2; have hfz20_3 := blk_frozen BK165.out 3; have hfz20_4 := blk_frozen BK165.out 4; have hfz20_5 := blk_frozen BK165.out 5; have hfz20_6 := blk_frozen BK165.out 6; have hfz20_7 := blk_frozen BK165.out 7; have hfz20_8 := blk_frozen BK165.out 8) | (go_at_call 9; (with_reducible refine (spec_LsStyled.calls kj2 a1_0 a1_1 a1_2 a1_3 a1_4 a1_5 a1_6 a1_7 a1_8 t169 _ A18.out).mono ?_); rintro e w21 ⟨rfl, hb⟩; have n0_ := Aside0.mk (blk_below (g := gb165) (o := .cells #[.int .i64 a1_0, .string a1_1, .string a1_2, .string a1_3, .string a1_4, .string a1_5, .string a1_6, .string a1_7, .string a1_8] 24 (0, 0)) (by (with_reducible repeat (first | refine blk_drewN ?_ _ | refine blk_drew ?_ | refine blk_alloc ?_ _)); exact BK165.out) hb); have n1_ := Aside0.mk (below_step (by repeat (first | (with_reducible first | exact HB.out | apply below_alloc | apply pw_below_drewN | apply below_drew1 | refine below_set ?_ GE165.out) | exact HB.out)) hb); clear BK165; clear HB; have BK165 := n0_; have HB := n1_; clear n0_ n1_; (try clear hb); (try clear hb2); (try clear hk); (try clear hi)))
              go_meet
              case rel => exact ⟨_, (!t169), (by first | rfl | (simp; done) | (simp [*]; done)), H', ⟨by have := HJ2.out; first | omega | exact Nat.le_refl _⟩, ⟨by (with_reducible repeat (first | refine blk_drewN ?_ _ | refine blk_drew ?_ | refine blk_alloc ?_ _)); exact BK165.out⟩, ⟨by repeat (first | (with_reducible first | exact HB.out | apply below_alloc | apply pw_below_drewN | apply below_drew1 | refine below_set ?_ GE165.out) | exact HB.out)⟩⟩
          · replace c15 := Bool.eq_false_iff.mpr c15
            subst c15
            have H1 : (laws_FnListPrefix.j1 kj2 l0 true a1_0 a1_1 a1_2 a1_3 a1_4 a1_5 a1_6 a1_7 a1_8) = some r := by rw [if_neg (show ¬ (false = true) by decide)] at H; exact H
            clear H
            have H := H1
            clear H1
            have H' := Aside0.mk H
            clear H
            go_wp2_with (first | ((with_reducible refine gate_callee (f := 8) rfl ?_); refine goesL_ (some 17) rfl rfl Tryd.func8 (by kernel_rfl) rfl #[.slice A0 l0.length c0] rfl (by (try simp only [List.map_toArray, List.map_cons, List.map_nil]); first | done | rfl | (simp only [List.length_drop, List.length_take]; rfl)) ?_; (with_reducible refine (spec_LsRight.calls kj2 _ _ l0 false _ ?side1 ?side2 A14.out).mono ?_); (case side1 => repeat (first | exact (Kd.C_below HR0.out HB.out) | (with_reducible refine Kd.C_alloc ?_ _) | (with_reducible refine Kd.C_drewN ?_ _) | (with_reducible refine Kd.C_drew ?_))); (case side2 => exact HC0.out); rintro e w22 ⟨rfl, hb⟩; refine ⟨_, rfl, ?_⟩; have n0_ := Aside0.mk (blk_below (g := gb165) (o := .cells #[.int .i64 a1_0, .string a1_1, .string a1_2, .string a1_3, .string a1_4, .string a1_5, .string a1_6, .string a1_7, .string a1_8] 24 (0, 0)) (by (with_reducible repeat (first | refine blk_drewN ?_ _ | refine blk_drew ?_ | refine blk_alloc ?_ _)); exact BK165.out) hb); have n1_ := Aside0.mk (below_step (by repeat (first | (with_reducible first | exact HB.out | apply below_alloc | apply pw_below_drewN | apply below_drew1 | refine below_set ?_ GE165.out) | exact HB.out)) hb); clear BK165; clear HB; have BK165 := n0_; have HB := n1_; clear n0_ n1_; (try clear hb); (try clear hb2); (try clear hk); (try clear hi)))
            go_meet
            case rel => exact ⟨_, (true), (by first | rfl | (simp; done) | (simp [*]; done)), H', ⟨by have := HJ2.out; first | omega | exact Nat.le_refl _⟩, ⟨by (with_reducible repeat (first | refine blk_drewN ?_ _ | refine blk_drew ?_ | refine blk_alloc ?_ _)); exact BK165.out⟩, ⟨by repeat (first | (with_reducible first | exact HB.out | apply below_alloc | apply pw_below_drewN | apply below_drew1 | refine below_set ?_ GE165.out) | exact HB.out)⟩⟩
        case rest =>
          clear HC13
          try clear c1
          try clear p2
          try clear c3
          try clear c6
          try clear c8
          try clear c12
          try clear c15
          try clear c16
          try clear c16b0
          try clear c16b1
          try clear c16b2
          try clear hcz20_0
          try clear hcz20_1
          try clear hcz20_2
          try clear hcz20_3
          try clear hcz20_4
          try clear hcz20_5
          try clear hcz20_6
          try clear hcz20_7
          try clear hcz20_8
          try clear hcz9_0
          try clear hcz9_1
          try clear hcz9_2
          try clear hcz9_3
          try clear hcz9_4
          try clear hcz9_5
          try clear hcz9_6
          try clear hcz9_7
          try clear hcz9_8
          try clear hfz20_0
          try clear hfz20_1
          try clear hfz20_2
          try clear hfz20_3
          try clear hfz20_4
          try clear hfz20_5
          try clear hfz20_6
          try clear hfz20_7
          try clear hfz20_8
          try clear hfz9_0
          try clear hfz9_1
          try clear hfz9_2
          try clear hfz9_3
          try clear hfz9_4
          try clear hfz9_5
          try clear hfz9_6
          try clear hfz9_7
          try clear hfz9_8
          try clear p2
          obtain ⟨kq, x28_12, rfl, HA, HJ12, BK165, HB⟩ := hcut
          cases kq with
          | zero => exact absurd HA.out (by simp [laws_FnListPrefix.j1])
          | succ kj12 =>
            have H := HA.out
            clear HA
            simp only [laws_FnListPrefix.j1] at H
            by_cases c23 : x28_12 = true
            · subst c23
              have H1 : (some true) = some r := by rw [if_pos rfl] at H; exact H
              clear H
              have H := H1
              clear H1
              obtain rfl := Option.some.inj H
              go_wp2
              go_ret
              exact ⟨by first | rfl | (simp [errW_none, errW_some] <;> rfl) | (simp [*, errW_none, errW_some] <;> rfl), by repeat (first | (with_reducible first | exact HB.out | apply below_alloc | apply pw_below_drewN | apply below_drew1 | refine below_set ?_ GE165.out) | exact HB.out)⟩
            · replace c23 := Bool.eq_false_iff.mpr c23
              subst c23
              have H1 : ((spec_LsSteps.f kj12 l0).bind fun t171 => ((impl_ListRender.f t171 a1_0 a1_1 a1_2 a1_3 a1_4 a1_5 a1_6 a1_7 (⟨#[]⟩ : ByteArray)).bind fun t174 => ((spec_TxLines.f kj12 t174).bind fun t175 => (laws_FnListPrefix.l0 kj12 l0 t175 (t175.length : Int) 0 a1_0 a1_1 a1_2 a1_3 a1_4 a1_5 a1_6 a1_7 a1_8)))) = some r := by rw [if_neg (show ¬ (false = true) by decide)] at H; exact H
              clear H
              have H := H1
              clear H1
              replace H := Option.bind_eq_some_iff.mp H
              obtain ⟨t171, A240, H⟩ := H
              replace H : ((impl_ListRender.f t171 a1_0 a1_1 a1_2 a1_3 a1_4 a1_5 a1_6 a1_7 (⟨#[]⟩ : ByteArray)).bind fun t174 => ((spec_TxLines.f kj12 t174).bind fun t175 => (laws_FnListPrefix.l0 kj12 l0 t175 (t175.length : Int) 0 a1_0 a1_1 a1_2 a1_3 a1_4 a1_5 a1_6 a1_7 a1_8))) = some r := H
              have A24 := Aside0.mk A240
              clear A240
              replace H := Option.bind_eq_some_iff.mp H
              obtain ⟨t174, A250, H⟩ := H
              replace H : ((spec_TxLines.f kj12 t174).bind fun t175 => (laws_FnListPrefix.l0 kj12 l0 t175 (t175.length : Int) 0 a1_0 a1_1 a1_2 a1_3 a1_4 a1_5 a1_6 a1_7 a1_8)) = some r := H
              have A25 := Aside0.mk A250
              clear A250
              replace H := Option.bind_eq_some_iff.mp H
              obtain ⟨t175, A260, H⟩ := H
              replace H : (laws_FnListPrefix.l0 kj12 l0 t175 (t175.length : Int) 0 a1_0 a1_1 a1_2 a1_3 a1_4 a1_5 a1_6 a1_7 a1_8) = some r := H
              have A26 := Aside0.mk A260
              clear A260
              have H' := Aside0.mk H
              clear H
              have hcz27_0 : wc.cell? ⟨gb165, 0, none⟩ = some (.int .i64 a1_0) := (blk_cell BK165.out 0).trans rfl
              have hcz27_1 : wc.cell? ⟨gb165, 1, none⟩ = some (.string a1_1) := (blk_cell BK165.out 1).trans rfl
              have hcz27_2 : wc.cell? ⟨gb165, 2, none⟩ = some (.string a1_2) := (blk_cell BK165.out 2).trans rfl
              have hcz27_3 : wc.cell? ⟨gb165, 3, none⟩ = some (.string a1_3) := (blk_cell BK165.out 3).trans rfl
              have hcz27_4 : wc.cell? ⟨gb165, 4, none⟩ = some (.string a1_4) := (blk_cell BK165.out 4).trans rfl
              have hcz27_5 : wc.cell? ⟨gb165, 5, none⟩ = some (.string a1_5) := (blk_cell BK165.out 5).trans rfl
              have hcz27_6 : wc.cell? ⟨gb165, 6, none⟩ = some (.string a1_6) := (blk_cell BK165.out 6).trans rfl
              have hcz27_7 : wc.cell? ⟨gb165, 7, none⟩ = some (.string a1_7) := (blk_cell BK165.out 7).trans rfl
              have hcz27_8 : wc.cell? ⟨gb165, 8, none⟩ = some (.string a1_8) := (blk_cell BK165.out 8).trans rfl
              have hfz27_0 := blk_frozen BK165.out 0
              have hfz27_1 := blk_frozen BK165.out 1
              have hfz27_2 := blk_frozen BK165.out 2
              have hfz27_3 := blk_frozen BK165.out 3
              have hfz27_4 := blk_frozen BK165.out 4
              have hfz27_5 := blk_frozen BK165.out 5
              have hfz27_6 := blk_frozen BK165.out 6
              have hfz27_7 := blk_frozen BK165.out 7
              have hfz27_8 := blk_frozen BK165.out 8
              try go_wp2_with (first | ((with_reducible refine gate_dst (N := 5) rfl ?_); (try (refine gate_guard (by rfl) ?_; dsimp only)); refine box_event ?hg (N := 5) ?hd (cs := #[.int .i64 0, .string (⟨#[]⟩ : ByteArray), .string (⟨#[]⟩ : ByteArray), .string (⟨#[]⟩ : ByteArray), .string (⟨#[]⟩ : ByteArray), .string (⟨#[]⟩ : ByteArray), .string (⟨#[]⟩ : ByteArray), .string (⟨#[]⟩ : ByteArray), .string (⟨#[]⟩ : ByteArray)]) (t := 24) ?hr ?_; (case hd => rfl); (case hg => rfl); (case hr => first | (go_simp; done) | (go_simp; rfl)); intro gb170 hg w28 hbox hb; have n0_ := Aside0.mk (blk_below (g := gb165) (o := .cells #[.int .i64 a1_0, .string a1_1, .string a1_2, .string a1_3, .string a1_4, .string a1_5, .string a1_6, .string a1_7, .string a1_8] 24 (0, 0)) (by (with_reducible repeat (first | refine blk_drewN ?_ _ | refine blk_drew ?_ | refine blk_alloc ?_ _)); exact BK165.out) hb); have n1_ := Aside0.mk (below_step (by repeat (first | (with_reducible first | exact HB.out | apply below_alloc | apply pw_below_drewN | apply below_drew1 | refine below_set ?_ GE165.out) | exact HB.out)) hb); have n2_ := Aside0.mk (hbox); have n3_ := Aside0.mk ((by rw [hg]; exact (below_size (by repeat (first | (with_reducible first | exact HB.out | apply below_alloc | apply pw_below_drewN | apply below_drew1 | refine below_set ?_ GE165.out) | exact HB.out))) : w.heap.size ≤ gb170)); have n4_ := Aside0.mk ((by rw [hg]; exact (below_size (by repeat (first | (with_reducible first | exact HB.out | apply below_alloc | apply pw_below_drewN | apply below_drew1 | refine below_set ?_ GE165.out) | exact HB.out))) : w.heap.size ≤ gb170)); have n5_ := Aside0.mk ((by rw [hg]; exact Nat.ne_of_lt (blk_lt (g := gb165) (o := .cells #[.int .i64 a1_0, .string a1_1, .string a1_2, .string a1_3, .string a1_4, .string a1_5, .string a1_6, .string a1_7, .string a1_8] 24 (0, 0)) (by (with_reducible repeat (first | refine blk_drewN ?_ _ | refine blk_drew ?_ | refine blk_alloc ?_ _)); exact BK165.out)) : gb165 ≠ gb170)); have n6_ := Aside0.mk ((by rw [hg]; exact Nat.ne_of_gt (blk_lt (g := gb165) (o := .cells #[.int .i64 a1_0, .string a1_1, .string a1_2, .string a1_3, .string a1_4, .string a1_5, .string a1_6, .string a1_7, .string a1_8] 24 (0, 0)) (by (with_reducible repeat (first | refine blk_drewN ?_ _ | refine blk_drew ?_ | refine blk_alloc ?_ _)); exact BK165.out)) : gb170 ≠ gb165)); clear BK165; clear HB; have BK165 := n0_; have HB := n1_; have BK170 := n2_; have GW170 := n3_; have GE170 := n4_; have NB165_170 := n5_; have NB170_165 := n6_; clear n0_ n1_ n2_ n3_ n4_ n5_ n6_; clear hb hbox hg; have hnb29 := NB170_165.out; have hnc29 := NB165_170.out; have hcz30_0 : w28.cell? ⟨gb170, 0, none⟩ = some (.int .i64 0) := (blk_cell BK170.out 0).trans rfl; have hcz30_1 : w28.cell? ⟨gb170, 1, none⟩ = some (.string (⟨#[]⟩ : ByteArray)) := (blk_cell BK170.out 1).trans rfl; have hcz30_2 : w28.cell? ⟨gb170, 2, none⟩ = some (.string (⟨#[]⟩ : ByteArray)) := (blk_cell BK170.out 2).trans rfl; have hcz30_3 : w28.cell? ⟨gb170, 3, none⟩ = some (.string (⟨#[]⟩ : ByteArray)) := (blk_cell BK170.out 3).trans rfl; have hcz30_4 : w28.cell? ⟨gb170, 4, none⟩ = some (.string (⟨#[]⟩ : ByteArray)) := (blk_cell BK170.out 4).trans rfl; have hcz30_5 : w28.cell? ⟨gb170, 5, none⟩ = some (.string (⟨#[]⟩ : ByteArray)) := (blk_cell BK170.out 5).trans rfl; have hcz30_6 : w28.cell? ⟨gb170, 6, none⟩ = some (.string (⟨#[]⟩ : ByteArray)) := (blk_cell BK170.out 6).trans rfl; have hcz30_7 : w28.cell? ⟨gb170, 7, none⟩ = some (.string (⟨#[]⟩ : ByteArray)) := (blk_cell BK170.out 7).trans rfl; have hcz30_8 : w28.cell? ⟨gb170, 8, none⟩ = some (.string (⟨#[]⟩ : ByteArray)) := (blk_cell BK170.out 8).trans rfl; have hfz30_0 := blk_frozen BK170.out 0; have hfz30_1 := blk_frozen BK170.out 1; have hfz30_2 := blk_frozen BK170.out 2; have hfz30_3 := blk_frozen BK170.out 3; have hfz30_4 := blk_frozen BK170.out 4; have hfz30_5 := blk_frozen BK170.out 5; have hfz30_6 := blk_frozen BK170.out 6; have hfz30_7 := blk_frozen BK170.out 7; have hfz30_8 := blk_frozen BK170.out 8))
              have n0_ : Aside0 (((((((((((w28.setCell ⟨gb170, 0, none⟩ (.int .i64 a1_0)).setCell ⟨gb170, 1, none⟩ (.string a1_1)).setCell ⟨gb170, 2, none⟩ (.string a1_2)).setCell ⟨gb170, 3, none⟩ (.string a1_3)).setCell ⟨gb170, 4, none⟩ (.string a1_4)).setCell ⟨gb170, 5, none⟩ (.string a1_5)).setCell ⟨gb170, 6, none⟩ (.string a1_6)).setCell ⟨gb170, 7, none⟩ (.string a1_7)).setCell ⟨gb170, 8, none⟩ (.string a1_8)).setCell ⟨gb170, 8, none⟩ (.string (⟨#[]⟩ : ByteArray))).heap[gb165]? = some (.cells #[.int .i64 a1_0, .string a1_1, .string a1_2, .string a1_3, .string a1_4, .string a1_5, .string a1_6, .string a1_7, .string a1_8] 24 (0, 0))) := ⟨by (with_reducible repeat (first | refine blk_drewN ?_ _ | refine blk_drew ?_ | refine blk_alloc ?_ _)); refine blk_far ?_ NB165_170.out _; (with_reducible repeat (first | refine blk_drewN ?_ _ | refine blk_drew ?_ | refine blk_alloc ?_ _)); refine blk_far ?_ NB165_170.out _; (with_reducible repeat (first | refine blk_drewN ?_ _ | refine blk_drew ?_ | refine blk_alloc ?_ _)); refine blk_far ?_ NB165_170.out _; (with_reducible repeat (first | refine blk_drewN ?_ _ | refine blk_drew ?_ | refine blk_alloc ?_ _)); refine blk_far ?_ NB165_170.out _; (with_reducible repeat (first | refine blk_drewN ?_ _ | refine blk_drew ?_ | refine blk_alloc ?_ _)); refine blk_far ?_ NB165_170.out _; (with_reducible repeat (first | refine blk_drewN ?_ _ | refine blk_drew ?_ | refine blk_alloc ?_ _)); refine blk_far ?_ NB165_170.out _; (with_reducible repeat (first | refine blk_drewN ?_ _ | refine blk_drew ?_ | refine blk_alloc ?_ _)); refine blk_far ?_ NB165_170.out _; (with_reducible repeat (first | refine blk_drewN ?_ _ | refine blk_drew ?_ | refine blk_alloc ?_ _)); refine blk_far ?_ NB165_170.out _; (with_reducible repeat (first | refine blk_drewN ?_ _ | refine blk_drew ?_ | refine blk_alloc ?_ _)); refine blk_far ?_ NB165_170.out _; (with_reducible repeat (first | refine blk_drewN ?_ _ | refine blk_drew ?_ | refine blk_alloc ?_ _)); refine blk_far ?_ NB165_170.out _; (with_reducible repeat (first | refine blk_drewN ?_ _ | refine blk_drew ?_ | refine blk_alloc ?_ _)); exact BK165.out⟩
              have n1_ : Aside0 (((((((((((w28.setCell ⟨gb170, 0, none⟩ (.int .i64 a1_0)).setCell ⟨gb170, 1, none⟩ (.string a1_1)).setCell ⟨gb170, 2, none⟩ (.string a1_2)).setCell ⟨gb170, 3, none⟩ (.string a1_3)).setCell ⟨gb170, 4, none⟩ (.string a1_4)).setCell ⟨gb170, 5, none⟩ (.string a1_5)).setCell ⟨gb170, 6, none⟩ (.string a1_6)).setCell ⟨gb170, 7, none⟩ (.string a1_7)).setCell ⟨gb170, 8, none⟩ (.string a1_8)).setCell ⟨gb170, 8, none⟩ (.string (⟨#[]⟩ : ByteArray))).heap[gb170]? = some (.cells #[.int .i64 a1_0, .string a1_1, .string a1_2, .string a1_3, .string a1_4, .string a1_5, .string a1_6, .string a1_7, .string (⟨#[]⟩ : ByteArray)] 24 (0, 0))) := ⟨by (with_reducible repeat (first | refine blk_drewN ?_ _ | refine blk_drew ?_ | refine blk_alloc ?_ _)); refine blk_put (cs := #[.int .i64 a1_0, .string a1_1, .string a1_2, .string a1_3, .string a1_4, .string a1_5, .string a1_6, .string a1_7, .string a1_8]) ?_ 8 _ rfl; (with_reducible repeat (first | refine blk_drewN ?_ _ | refine blk_drew ?_ | refine blk_alloc ?_ _)); refine blk_put (cs := #[.int .i64 a1_0, .string a1_1, .string a1_2, .string a1_3, .string a1_4, .string a1_5, .string a1_6, .string a1_7, .string (⟨#[]⟩ : ByteArray)]) ?_ 8 _ rfl; (with_reducible repeat (first | refine blk_drewN ?_ _ | refine blk_drew ?_ | refine blk_alloc ?_ _)); refine blk_put (cs := #[.int .i64 a1_0, .string a1_1, .string a1_2, .string a1_3, .string a1_4, .string a1_5, .string a1_6, .string (⟨#[]⟩ : ByteArray), .string (⟨#[]⟩ : ByteArray)]) ?_ 7 _ rfl; (with_reducible repeat (first | refine blk_drewN ?_ _ | refine blk_drew ?_ | refine blk_alloc ?_ _)); refine blk_put (cs := #[.int .i64 a1_0, .string a1_1, .string a1_2, .string a1_3, .string a1_4, .string a1_5, .string (⟨#[]⟩ : ByteArray), .string (⟨#[]⟩ : ByteArray), .string (⟨#[]⟩ : ByteArray)]) ?_ 6 _ rfl; (with_reducible repeat (first | refine blk_drewN ?_ _ | refine blk_drew ?_ | refine blk_alloc ?_ _)); refine blk_put (cs := #[.int .i64 a1_0, .string a1_1, .string a1_2, .string a1_3, .string a1_4, .string (⟨#[]⟩ : ByteArray), .string (⟨#[]⟩ : ByteArray), .string (⟨#[]⟩ : ByteArray), .string (⟨#[]⟩ : ByteArray)]) ?_ 5 _ rfl; (with_reducible repeat (first | refine blk_drewN ?_ _ | refine blk_drew ?_ | refine blk_alloc ?_ _)); refine blk_put (cs := #[.int .i64 a1_0, .string a1_1, .string a1_2, .string a1_3, .string (⟨#[]⟩ : ByteArray), .string (⟨#[]⟩ : ByteArray), .string (⟨#[]⟩ : ByteArray), .string (⟨#[]⟩ : ByteArray), .string (⟨#[]⟩ : ByteArray)]) ?_ 4 _ rfl; (with_reducible repeat (first | refine blk_drewN ?_ _ | refine blk_drew ?_ | refine blk_alloc ?_ _)); refine blk_put (cs := #[.int .i64 a1_0, .string a1_1, .string a1_2, .string (⟨#[]⟩ : ByteArray), .string (⟨#[]⟩ : ByteArray), .string (⟨#[]⟩ : ByteArray), .string (⟨#[]⟩ : ByteArray), .string (⟨#[]⟩ : ByteArray), .string (⟨#[]⟩ : ByteArray)]) ?_ 3 _ rfl; (with_reducible repeat (first | refine blk_drewN ?_ _ | refine blk_drew ?_ | refine blk_alloc ?_ _)); refine blk_put (cs := #[.int .i64 a1_0, .string a1_1, .string (⟨#[]⟩ : ByteArray), .string (⟨#[]⟩ : ByteArray), .string (⟨#[]⟩ : ByteArray), .string (⟨#[]⟩ : ByteArray), .string (⟨#[]⟩ : ByteArray), .string (⟨#[]⟩ : ByteArray), .string (⟨#[]⟩ : ByteArray)]) ?_ 2 _ rfl; (with_reducible repeat (first | refine blk_drewN ?_ _ | refine blk_drew ?_ | refine blk_alloc ?_ _)); refine blk_put (cs := #[.int .i64 a1_0, .string (⟨#[]⟩ : ByteArray), .string (⟨#[]⟩ : ByteArray), .string (⟨#[]⟩ : ByteArray), .string (⟨#[]⟩ : ByteArray), .string (⟨#[]⟩ : ByteArray), .string (⟨#[]⟩ : ByteArray), .string (⟨#[]⟩ : ByteArray), .string (⟨#[]⟩ : ByteArray)]) ?_ 1 _ rfl; (with_reducible repeat (first | refine blk_drewN ?_ _ | refine blk_drew ?_ | refine blk_alloc ?_ _)); refine blk_put (cs := #[.int .i64 0, .string (⟨#[]⟩ : ByteArray), .string (⟨#[]⟩ : ByteArray), .string (⟨#[]⟩ : ByteArray), .string (⟨#[]⟩ : ByteArray), .string (⟨#[]⟩ : ByteArray), .string (⟨#[]⟩ : ByteArray), .string (⟨#[]⟩ : ByteArray), .string (⟨#[]⟩ : ByteArray)]) ?_ 0 _ rfl; (with_reducible repeat (first | refine blk_drewN ?_ _ | refine blk_drew ?_ | refine blk_alloc ?_ _)); exact BK170.out⟩
              have n2_ : Aside0 (Below w.heap.size w ((((((((((w28.setCell ⟨gb170, 0, none⟩ (.int .i64 a1_0)).setCell ⟨gb170, 1, none⟩ (.string a1_1)).setCell ⟨gb170, 2, none⟩ (.string a1_2)).setCell ⟨gb170, 3, none⟩ (.string a1_3)).setCell ⟨gb170, 4, none⟩ (.string a1_4)).setCell ⟨gb170, 5, none⟩ (.string a1_5)).setCell ⟨gb170, 6, none⟩ (.string a1_6)).setCell ⟨gb170, 7, none⟩ (.string a1_7)).setCell ⟨gb170, 8, none⟩ (.string a1_8)).setCell ⟨gb170, 8, none⟩ (.string (⟨#[]⟩ : ByteArray)))) := ⟨by repeat (first | (with_reducible first | exact HB.out | apply below_alloc | apply pw_below_drewN | apply below_drew1 | refine below_set ?_ GE165.out | refine below_set ?_ GE170.out) | exact HB.out)⟩
              (try clear BK165)
              (try clear BK170)
              (try clear HB)
              generalize ((((((((((w28.setCell ⟨gb170, 0, none⟩ (.int .i64 a1_0)).setCell ⟨gb170, 1, none⟩ (.string a1_1)).setCell ⟨gb170, 2, none⟩ (.string a1_2)).setCell ⟨gb170, 3, none⟩ (.string a1_3)).setCell ⟨gb170, 4, none⟩ (.string a1_4)).setCell ⟨gb170, 5, none⟩ (.string a1_5)).setCell ⟨gb170, 6, none⟩ (.string a1_6)).setCell ⟨gb170, 7, none⟩ (.string a1_7)).setCell ⟨gb170, 8, none⟩ (.string a1_8)).setCell ⟨gb170, 8, none⟩ (.string (⟨#[]⟩ : ByteArray))) = w31 at n0_ n1_ n2_ ⊢
              have BK165 := n0_
              have BK170 := n1_
              have HB := n2_
              clear n0_ n1_ n2_
              have n0_ := Aside0.mk (blk_drew BK165.out)
              have n1_ := Aside0.mk (blk_drew BK170.out)
              have n2_ := Aside0.mk (below_drew1 HB.out)
              clear BK165
              clear BK170
              clear HB
              have BK165 := n0_
              have BK170 := n1_
              have HB := n2_
              clear n0_ n1_ n2_
              refine start_ (n := 6) (S := fun w' => w'.cell? ⟨gb170, 0, none⟩ = some (.int .i64 a1_0) ∧ w'.cell? ⟨gb170, 1, none⟩ = some (.string a1_1) ∧ w'.cell? ⟨gb170, 2, none⟩ = some (.string a1_2) ∧ w'.cell? ⟨gb170, 3, none⟩ = some (.string a1_3) ∧ w'.cell? ⟨gb170, 4, none⟩ = some (.string a1_4) ∧ w'.cell? ⟨gb170, 5, none⟩ = some (.string a1_5) ∧ w'.cell? ⟨gb170, 6, none⟩ = some (.string a1_6) ∧ w'.cell? ⟨gb170, 7, none⟩ = some (.string a1_7) ∧ w'.cell? ⟨gb170, 8, none⟩ = some (.string (⟨#[]⟩ : ByteArray))) (ds := []) #[false, false, false, false, false, false] (by kernel_rfl) rfl rfl ⟨(blk_cell BK170.out 0).trans rfl, (blk_cell BK170.out 1).trans rfl, (blk_cell BK170.out 2).trans rfl, (blk_cell BK170.out 3).trans rfl, (blk_cell BK170.out 4).trans rfl, (blk_cell BK170.out 5).trans rfl, (blk_cell BK170.out 6).trans rfl, (blk_cell BK170.out 7).trans rfl, (blk_cell BK170.out 8).trans rfl⟩ (fun hHeld => ?_)
              generalize w31.drew = w32 at BK165 BK170 HB hHeld ⊢
              refine pure_ (i := 0) (N := some 31) (v := ?_) (a' := ?_) #[true, false, false, false, false, false] rfl rfl (by kernel_rfl) (fun _ _ _ h => h) (Or.inl ⟨by rfl, ?_⟩) ?_ ?_
              rotate_left
              · intro w'
                go_simp
                with_reducible rfl
              rotate_left
              · simp only [Act.put, List.setIfInBounds_toArray, List.set_cons_zero, List.set_cons_succ, i64_w, i32_w]
                rfl
              refine take_ (i := 2) (N := some 33) (v := ?_) (a' := ?_) #[true, false, true, false, false, false] rfl rfl (by kernel_rfl) (fun _ _ _ h => h) (Or.inl ⟨by rfl, ?_⟩) hHeld ?_ ?_
              rotate_left
              · rintro w' ⟨s0, s1, s2, s3, s4, s5, s6, s7, s8⟩
                go_simp
                with_reducible rfl
              rotate_left
              · simp only [Act.put, List.setIfInBounds_toArray, List.set_cons_zero, List.set_cons_succ, i64_w, i32_w]
                rfl
              refine one_ (i := 1) (N := some 32) #[true, true, true, false, false, false] rfl rfl (by kernel_rfl) (by decide) (fun K hK => ?_)
              refine goes_ Tryd.func12 (by kernel_rfl) rfl #[.slice A0 l0.length c0] (by rfl) rfl rfl (by (try simp only [List.map_toArray, List.map_cons, List.map_nil]); first | done | rfl | (simp only [List.length_drop, List.length_take]; rfl)) ?_
              with_reducible refine (spec_LsSteps.calls kj12 _ _ l0 t171 _ ?side1 ?side2 A24.out).mono ?_
              (case side1 => repeat (first | exact (Kd.C_below HR0.out HB.out) | (with_reducible refine Kd.C_alloc ?_ _) | (with_reducible refine Kd.C_drewN ?_ _) | (with_reducible refine Kd.C_drew ?_)))
              (case side2 => exact HC0.out)
              rintro e w33 ⟨v172, rfl, ho0, hb⟩
              refine ⟨_, rfl, ?_⟩
              have n0_ := Aside0.mk (Kd.S_lower ho0 (below_size (by repeat (first | (with_reducible first | exact HB.out | apply below_alloc | apply pw_below_drewN | apply below_drew1 | refine below_set ?_ GE165.out | refine below_set ?_ GE170.out) | exact HB.out))))
              have n1_ := Aside0.mk (blk_below (g := gb165) (o := .cells #[.int .i64 a1_0, .string a1_1, .string a1_2, .string a1_3, .string a1_4, .string a1_5, .string a1_6, .string a1_7, .string a1_8] 24 (0, 0)) (by (with_reducible repeat (first | refine blk_drewN ?_ _ | refine blk_drew ?_ | refine blk_alloc ?_ _)); exact BK165.out) hb)
              have n2_ := Aside0.mk (blk_below (g := gb170) (o := .cells #[.int .i64 a1_0, .string a1_1, .string a1_2, .string a1_3, .string a1_4, .string a1_5, .string a1_6, .string a1_7, .string (⟨#[]⟩ : ByteArray)] 24 (0, 0)) (by (with_reducible repeat (first | refine blk_drewN ?_ _ | refine blk_drew ?_ | refine blk_alloc ?_ _)); exact BK170.out) hb)
              have n3_ := Aside0.mk (below_step (by repeat (first | (with_reducible first | exact HB.out | apply below_alloc | apply pw_below_drewN | apply below_drew1 | refine below_set ?_ GE165.out | refine below_set ?_ GE170.out) | exact HB.out)) hb)
              clear BK165
              clear BK170
              clear HB
              have HO173 := n0_
              have BK165 := n1_
              have BK170 := n2_
              have HB := n3_
              clear n0_ n1_ n2_ n3_
              (try clear hb)
              (try clear hb2)
              (try clear hk)
              (try clear hi)
              (try clear ho0)
              obtain ⟨Ao34, co34, eo34⟩ := Kd.S_slice HO173.out
              (first | subst eo34 | (injection eo34 with f1_ f2_ f3_; have f4_ := f1_.symm; have f5_ := f3_.symm; clear f1_ f2_ f3_; subst f4_; subst f5_))
              refine hK.out _ _ ⟨(blk_cell BK170.out 0).trans rfl, (blk_cell BK170.out 1).trans rfl, (blk_cell BK170.out 2).trans rfl, (blk_cell BK170.out 3).trans rfl, (blk_cell BK170.out 4).trans rfl, (blk_cell BK170.out 5).trans rfl, (blk_cell BK170.out 6).trans rfl, (blk_cell BK170.out 7).trans rfl, (blk_cell BK170.out 8).trans rfl⟩ (fun hHeld => ?_)
              clear hK K
              refine norm_ (a' := ?_) ?_ ?_
              rotate_left
              · show Act.put _ (some 32) _ = _
                simp only [Act.put, List.setIfInBounds_toArray, List.set_cons_zero, List.set_cons_succ, i64_w, i32_w]
                rfl
              refine one_ (i := 3) (N := some 34) #[true, true, true, true, false, false] rfl rfl (by kernel_rfl) (by decide) (fun K hK => ?_)
              refine goes_ Tryd.func11 (by kernel_rfl) rfl #[.slice Ao34 t171.length co34, .agg #[.int .i64 a1_0, .string a1_1, .string a1_2, .string a1_3, .string a1_4, .string a1_5, .string a1_6, .string a1_7, .string (⟨#[]⟩ : ByteArray)]] (by rfl) rfl rfl (by (try simp only [List.map_toArray, List.map_cons, List.map_nil]); first | done | rfl | (simp only [List.length_drop, List.length_take]; rfl)) ?_
              with_reducible refine (impl_ListRender.calls _ _ t171 a1_0 a1_1 a1_2 a1_3 a1_4 a1_5 a1_6 a1_7 (⟨#[]⟩ : ByteArray) t174 _ ?side1 ?side2 A25.out).mono ?_
              (case side1 => repeat (first | exact (Kd.S_reads' HO173.out).2.2 | (with_reducible refine Kd.C_alloc ?_ _) | (with_reducible refine Kd.C_drewN ?_ _) | (with_reducible refine Kd.C_drew ?_)))
              (case side2 => exact (Kd.S_reads' HO173.out).2.1)
              rintro e w35 ⟨rfl, hb⟩
              refine ⟨_, rfl, ?_⟩
              have n0_ := Aside0.mk (Kd.S_below (by (with_reducible repeat (first | apply Kd.S_alloc | apply Kd.S_drewN | apply Kd.S_drew)); exact HO173.out) hb)
              have n1_ := Aside0.mk (blk_below (g := gb165) (o := .cells #[.int .i64 a1_0, .string a1_1, .string a1_2, .string a1_3, .string a1_4, .string a1_5, .string a1_6, .string a1_7, .string a1_8] 24 (0, 0)) (by (with_reducible repeat (first | refine blk_drewN ?_ _ | refine blk_drew ?_ | refine blk_alloc ?_ _)); exact BK165.out) hb)
              have n2_ := Aside0.mk (blk_below (g := gb170) (o := .cells #[.int .i64 a1_0, .string a1_1, .string a1_2, .string a1_3, .string a1_4, .string a1_5, .string a1_6, .string a1_7, .string (⟨#[]⟩ : ByteArray)] 24 (0, 0)) (by (with_reducible repeat (first | refine blk_drewN ?_ _ | refine blk_drew ?_ | refine blk_alloc ?_ _)); exact BK170.out) hb)
              have n3_ := Aside0.mk (below_step (by repeat (first | (with_reducible first | exact HB.out | apply below_alloc | apply pw_below_drewN | apply below_drew1 | refine below_set ?_ GE165.out | refine below_set ?_ GE170.out) | exact HB.out)) hb)
              clear HO173
              clear BK165
              clear BK170
              clear HB
              have HO173 := n0_
              have BK165 := n1_
              have BK170 := n2_
              have HB := n3_
              clear n0_ n1_ n2_ n3_
              (try clear hb)
              (try clear hb2)
              (try clear hk)
              (try clear hi)
              refine hK.out _ _ ⟨(blk_cell BK170.out 0).trans rfl, (blk_cell BK170.out 1).trans rfl, (blk_cell BK170.out 2).trans rfl, (blk_cell BK170.out 3).trans rfl, (blk_cell BK170.out 4).trans rfl, (blk_cell BK170.out 5).trans rfl, (blk_cell BK170.out 6).trans rfl, (blk_cell BK170.out 7).trans rfl, (blk_cell BK170.out 8).trans rfl⟩ (fun hHeld => ?_)
              clear hK K
              refine norm_ (a' := ?_) ?_ ?_
              rotate_left
              · show Act.put _ (some 34) _ = _
                simp only [Act.put, List.setIfInBounds_toArray, List.set_cons_zero, List.set_cons_succ, i64_w, i32_w]
                rfl
              refine one_ (i := 4) (N := some 35) #[true, true, true, true, true, false] rfl rfl (by kernel_rfl) (by decide) (fun K hK => ?_)
              refine goes_ Tryd.func10 (by kernel_rfl) rfl #[.string t174] (by rfl) rfl rfl (by (try simp only [List.map_toArray, List.map_cons, List.map_nil]); first | done | rfl | (simp only [List.length_drop, List.length_take]; rfl)) ?_
              with_reducible refine (spec_TxLines.calls kj12 t174 t175 _ A26.out).mono ?_
              rintro e w36 ⟨v176, rfl, ho0, hb⟩
              refine ⟨_, rfl, ?_⟩
              have n0_ := Aside0.mk (Kd.S_elder' (by (with_reducible repeat (first | apply Kd.S_alloc | apply Kd.S_drewN | apply Kd.S_drew)); exact HO173.out) (Kd.R_base ho0) hb)
              have n1_ := Aside0.mk (Kd.R_lower ho0 (below_size (by repeat (first | (with_reducible first | exact HB.out | apply below_alloc | apply pw_below_drewN | apply below_drew1 | refine below_set ?_ GE165.out | refine below_set ?_ GE170.out) | exact HB.out))))
              have n2_ := Aside0.mk (blk_below (g := gb165) (o := .cells #[.int .i64 a1_0, .string a1_1, .string a1_2, .string a1_3, .string a1_4, .string a1_5, .string a1_6, .string a1_7, .string a1_8] 24 (0, 0)) (by (with_reducible repeat (first | refine blk_drewN ?_ _ | refine blk_drew ?_ | refine blk_alloc ?_ _)); exact BK165.out) hb)
              have n3_ := Aside0.mk (blk_below (g := gb170) (o := .cells #[.int .i64 a1_0, .string a1_1, .string a1_2, .string a1_3, .string a1_4, .string a1_5, .string a1_6, .string a1_7, .string (⟨#[]⟩ : ByteArray)] 24 (0, 0)) (by (with_reducible repeat (first | refine blk_drewN ?_ _ | refine blk_drew ?_ | refine blk_alloc ?_ _)); exact BK170.out) hb)
              have n4_ := Aside0.mk (below_step (by repeat (first | (with_reducible first | exact HB.out | apply below_alloc | apply pw_below_drewN | apply below_drew1 | refine below_set ?_ GE165.out | refine below_set ?_ GE170.out) | exact HB.out)) hb)
              clear HO173
              clear BK165
              clear BK170
              clear HB
              have HO173 := n0_
              have HO177 := n1_
              have BK165 := n2_
              have BK170 := n3_
              have HB := n4_
              clear n0_ n1_ n2_ n3_ n4_
              (try clear hb)
              (try clear hb2)
              (try clear hk)
              (try clear hi)
              (try clear ho0)
              refine hK.out _ _ ⟨(blk_cell BK170.out 0).trans rfl, (blk_cell BK170.out 1).trans rfl, (blk_cell BK170.out 2).trans rfl, (blk_cell BK170.out 3).trans rfl, (blk_cell BK170.out 4).trans rfl, (blk_cell BK170.out 5).trans rfl, (blk_cell BK170.out 6).trans rfl, (blk_cell BK170.out 7).trans rfl, (blk_cell BK170.out 8).trans rfl⟩ (fun hHeld => ?_)
              clear hK K
              refine norm_ (a' := ?_) ?_ ?_
              rotate_left
              · show Act.put _ (some 35) _ = _
                simp only [Act.put, List.setIfInBounds_toArray, List.set_cons_zero, List.set_cons_succ, i64_w, i32_w]
                rfl
              refine pure_ (i := 5) (N := some 6) (v := ?_) (a' := ?_) #[true, true, true, true, true, true] rfl rfl (by kernel_rfl) (fun _ _ _ h => h) (Or.inl ⟨by rfl, ?_⟩) ?_ ?_
              rotate_left
              · intro w'
                go_simp
                with_reducible rfl
              rotate_left
              · simp only [Act.put, List.setIfInBounds_toArray, List.set_cons_zero, List.set_cons_succ, i64_w, i32_w]
                rfl
              refine done_ (by kernel_rfl) ?_
              obtain ⟨Ao37, co37, eo37⟩ := Kd.R_slice HO177.out
              subst eo37
              try go_wp2
              (try simp only [Act.put, List.setIfInBounds_toArray, List.set_cons_zero, List.set_cons_succ])
              go_loopg [38] kj12 (fun kq v38 w' => ∃ (x6_3 : List ByteArray) (x38_3 : Int), v38 = .int .i64 x38_3 ∧ Aside0 (laws_FnListPrefix.l0 kq l0 x6_3 (t175.length : Int) x38_3 a1_0 a1_1 a1_2 a1_3 a1_4 a1_5 a1_6 a1_7 a1_8 = some r) ∧ Aside0 (kq ≤ kj12) ∧ Aside0 (Kd.R Kd.string 9 w' w.heap.size (fun _ => True) (.slice Ao37 t175.length co37) x6_3) ∧ Aside0 (w'.heap[gb165]? = some (.cells #[.int .i64 a1_0, .string a1_1, .string a1_2, .string a1_3, .string a1_4, .string a1_5, .string a1_6, .string a1_7, .string a1_8] 24 (0, 0))) ∧ Aside0 (w'.heap[gb170]? = some (.cells #[.int .i64 a1_0, .string a1_1, .string a1_2, .string a1_3, .string a1_4, .string a1_5, .string a1_6, .string a1_7, .string (⟨#[]⟩ : ByteArray)] 24 (0, 0))) ∧ Aside0 (Below w.heap.size w w'))
              case atStart => exact ⟨(t175), (0), (by first | rfl | (simp; done) | (simp [*]; done)), H', ⟨Nat.le_refl _⟩, ⟨by (with_reducible repeat (first | apply Kd.R_alloc | apply Kd.R_drewN | apply Kd.R_drew)); exact HO177.out⟩, ⟨by (with_reducible repeat (first | refine blk_drewN ?_ _ | refine blk_drew ?_ | refine blk_alloc ?_ _)); exact BK165.out⟩, ⟨by (with_reducible repeat (first | refine blk_drewN ?_ _ | refine blk_drew ?_ | refine blk_alloc ?_ _)); exact BK170.out⟩, ⟨by repeat (first | (with_reducible first | exact HB.out | apply below_alloc | apply pw_below_drewN | apply below_drew1 | refine below_set ?_ GE165.out | refine below_set ?_ GE170.out) | exact HB.out)⟩⟩
              case round =>
                clear H'
                try clear c1
                try clear c2
                try clear p2
                try clear c3
                try clear c6
                try clear c8
                try clear c10
                try clear c11
                try clear c12
                try clear c15
                try clear c16
                try clear c16b0
                try clear c16b1
                try clear c16b2
                try clear c23
                try clear c29
                try clear hcz20_0
                try clear hcz20_1
                try clear hcz20_2
                try clear hcz20_3
                try clear hcz20_4
                try clear hcz20_5
                try clear hcz20_6
                try clear hcz20_7
                try clear hcz20_8
                try clear hcz27_0
                try clear hcz27_1
                try clear hcz27_2
                try clear hcz27_3
                try clear hcz27_4
                try clear hcz27_5
                try clear hcz27_6
                try clear hcz27_7
                try clear hcz27_8
                try clear hcz30_0
                try clear hcz30_1
                try clear hcz30_2
                try clear hcz30_3
                try clear hcz30_4
                try clear hcz30_5
                try clear hcz30_6
                try clear hcz30_7
                try clear hcz30_8
                try clear hcz9_0
                try clear hcz9_1
                try clear hcz9_2
                try clear hcz9_3
                try clear hcz9_4
                try clear hcz9_5
                try clear hcz9_6
                try clear hcz9_7
                try clear hcz9_8
                try clear hfz20_0
                try clear hfz20_1
                try clear hfz20_2
                try clear hfz20_3
                try clear hfz20_4
                try clear hfz20_5
                try clear hfz20_6
                try clear hfz20_7
                try clear hfz20_8
                try clear hfz27_0
                try clear hfz27_1
                try clear hfz27_2
                try clear hfz27_3
                try clear hfz27_4
                try clear hfz27_5
                try clear hfz27_6
                try clear hfz27_7
                try clear hfz27_8
                try clear hfz30_0
                try clear hfz30_1
                try clear hfz30_2
                try clear hfz30_3
                try clear hfz30_4
                try clear hfz30_5
                try clear hfz30_6
                try clear hfz30_7
                try clear hfz30_8
                try clear hfz9_0
                try clear hfz9_1
                try clear hfz9_2
                try clear hfz9_3
                try clear hfz9_4
                try clear hfz9_5
                try clear hfz9_6
                try clear hfz9_7
                try clear hfz9_8
                try clear p2
                obtain ⟨x6_3, x38_3, rfl, HA, HK3, HO_6, BK165, BK170, HB⟩ := hrel
                have hl6_3 := (Kd.R_reads' HO_6.out).1
                rw [hl6_3] at HO_6
                (try simp only [hl6_3])
                (try simp only [hl6_3] at BK165)
                (try simp only [hl6_3] at BK170)
                cases gk with
                | zero => exact absurd HA.out (by simp [laws_FnListPrefix.l0])
                | succ k3 =>
                  have H := HA.out
                  clear HA
                  simp only [laws_FnListPrefix.l0] at H
                  by_cases c38 : x38_3 < (t175.length : Int)
                  · rw [if_pos c38] at H
                    have c38b0 : decide (x38_3 < (t175.length : Int)) = true := decide_eq_true c38
                    try (have c38x_hl6_3 := c38b0; rw [hl6_3] at c38x_hl6_3)
                    clear c38
                    by_cases c39 : 0 ≤ x38_3
                    · rw [if_pos c39] at H
                      have c39b0 : decide (0 ≤ x38_3) = true := decide_eq_true c39
                      clear c39
                      by_cases c40 : x38_3 < (x6_3.length : Int)
                      · rw [if_pos c40] at H
                        have c40b0 : decide (x38_3 < (x6_3.length : Int)) = true := decide_eq_true c40
                        try (have c40x_hl6_3 := c40b0; rw [hl6_3] at c40x_hl6_3)
                        clear c40
                        by_cases c41 : a1_8.size + (rdOf ByteArray.empty x6_3 x38_3).size ≤ 9223372036854775807
                        · rw [if_pos c41] at H
                          have c41b0 := eq_true c41
                          have c41b1 : decide (a1_8.size + (rdOf ByteArray.empty x6_3 x38_3).size ≤ 9223372036854775807) = true := decide_eq_true c41
                          try have c41b2 : (9223372036854775807 < a1_8.size + (rdOf ByteArray.empty x6_3 x38_3).size) = False := eq_false (Nat.not_lt.2 c41)
                          obtain ⟨y179, hy179⟩ : ∃ y_ : List ByteArray, y_ = (x6_3.set (x38_3 : Int).toNat (a1_8 ++ (rdOf ByteArray.empty x6_3 x38_3))) := ⟨_, rfl⟩
                          replace H : (laws_FnListPrefix.l0 k3 l0 y179 (t175.length : Int) (wrap64 (x38_3 + 1)) a1_0 a1_1 a1_2 a1_3 a1_4 a1_5 a1_6 a1_7 a1_8) = some r := by first | (rw [hy179]; with_reducible exact H) | (have H2_ := (Option.bind_some _ _).symm.trans H; rw [hy179]; with_reducible exact H2_) | (have H2_ := (Option.bind_some _ _).symm.trans H; with_reducible exact H2_) | with_reducible exact H | (rw [hy179]; exact H) | exact H
                          have Ny179 := Aside0.mk hy179
                          clear hy179
                          have H' := Aside0.mk H
                          clear H
                          try go_wp2
                          have n0_ := Aside0.mk (Kd.R_drew HO_6.out)
                          have n1_ := Aside0.mk (blk_drew BK165.out)
                          have n2_ := Aside0.mk (blk_drew BK170.out)
                          have n3_ := Aside0.mk (below_drew1 HB.out)
                          clear HO_6
                          clear BK165
                          clear BK170
                          clear HB
                          have HO_6 := n0_
                          have BK165 := n1_
                          have BK170 := n2_
                          have HB := n3_
                          clear n0_ n1_ n2_ n3_
                          have p178 : 0 ≤ (x38_3 : Int) := of_decide_eq_true (by first | (with_reducible assumption) | assumption)
                          have q178 : x38_3 < (x6_3.length : Int) := of_decide_eq_true (by first | (with_reducible assumption) | assumption)
                          obtain ⟨ad178, e178, hx178_0⟩ := Kd.at_string (Kd.R_reads' HO_6.out).2.2 x38_3 p178 q178
                          cases e178
                          replace p178 := eq_true p178
                          replace q178 := eq_true q178
                          have p42 : 0 ≤ (x38_3 : Int) := of_decide_eq_true (by first | (with_reducible assumption) | assumption)
                          have q42 : (x38_3 : Int) < ((x6_3.length : Int) : Int) := of_decide_eq_true (by first | (with_reducible assumption) | assumption)
                          obtain ⟨go42, co42, eo42, gb42, gl42, cl42, HG42⟩ := Kd.R_form HO_6.out (by omega)
                          (first | cases eo42 | (injection eo42 with ea_ en_ ec_; (first | subst ea_ | (injection ea_ with ea_; subst ea_)); subst ec_; clear en_))
                          have GB42 := Aside0.mk gb42
                          have GG42 := Aside0.mk HG42
                          clear gb42 gl42 HG42
                          (first | simp only [add_plain] at hx178_0 | skip)
                          obtain ⟨hx42_0, hf42_0⟩ := Kd.R_celln (⟨#[]⟩ : ByteArray) HO_6.out (x38_3 : Int) p42 q42
                          replace p42 := eq_true p42
                          replace q42 := eq_true q42
                          have HP44 := Kd.R_putn HO_6.out (x38_3 : Int) (a1_8 ++ (rdOf ByteArray.empty x6_3 x38_3))
                          rw [← Ny179.out] at HP44
                          have HQ44 := Aside0.mk HP44
                          clear HP44
                          refine start_ (n := 11) (S := fun w' => w'.cell? ⟨gb165, 0, none⟩ = some (.int .i64 a1_0) ∧ w'.cell? ⟨gb165, 1, none⟩ = some (.string a1_1) ∧ w'.cell? ⟨gb165, 2, none⟩ = some (.string a1_2) ∧ w'.cell? ⟨gb165, 3, none⟩ = some (.string a1_3) ∧ w'.cell? ⟨gb165, 4, none⟩ = some (.string a1_4) ∧ w'.cell? ⟨gb165, 5, none⟩ = some (.string a1_5) ∧ w'.cell? ⟨gb165, 6, none⟩ = some (.string a1_6) ∧ w'.cell? ⟨gb165, 7, none⟩ = some (.string a1_7) ∧ w'.cell? ⟨gb165, 8, none⟩ = some (.string a1_8) ∧ w'.cell? ⟨go42, (x38_3).toNat, none⟩ = some (.string (rdOf ByteArray.empty x6_3 x38_3))) (ds := [10]) #[false, false, false, false, false, false, false, false, false, false, false] (by kernel_rfl) rfl rfl ⟨(blk_cell BK165.out 0).trans rfl, (blk_cell BK165.out 1).trans rfl, (blk_cell BK165.out 2).trans rfl, (blk_cell BK165.out 3).trans rfl, (blk_cell BK165.out 4).trans rfl, (blk_cell BK165.out 5).trans rfl, (blk_cell BK165.out 6).trans rfl, (blk_cell BK165.out 7).trans rfl, (blk_cell BK165.out 8).trans rfl, hx178_0⟩ (fun hHeld => ?_); refine with_tabW laws_FnListPrefix.tab11 laws_FnListPrefix.bits11 (fun HT_ HW_ => ?_)
                          generalize wr.drew = w43 at HO_6 BK165 BK170 HB GG42 HQ44 hf42_0 hx178_0 hx42_0 hHeld ⊢
                          refine pure_ (i := 0) (N := some 41) (v := ?_) (a' := ?_) #[true, false, false, false, false, false, false, false, false, false, false] rfl rfl (any_of HT_.out (by kernel_rfl)) (fun _ _ _ h => h) (Or.inl ⟨by rfl, ?_⟩) ?_ ?_
                          rotate_left
                          · intro w'
                            go_simp
                            with_reducible rfl
                          rotate_left
                          · simp only [Act.put, List.setIfInBounds_toArray, List.set_cons_zero, List.set_cons_succ, i64_w, i32_w]
                            rfl
                          refine pure_ (i := 1) (N := some 42) (v := ?_) (a' := ?_) #[true, true, false, false, false, false, false, false, false, false, false] rfl rfl (any_of HT_.out (by kernel_rfl)) (fun _ _ _ h => h) (Or.inl ⟨by rfl, ?_⟩) ?_ ?_
                          rotate_left
                          · intro w'
                            go_simp
                            with_reducible rfl
                          rotate_left
                          · simp only [Act.put, List.setIfInBounds_toArray, List.set_cons_zero, List.set_cons_succ, i64_w, i32_w]
                            rfl
                          refine pure_ (i := 2) (N := some 43) (v := ?_) (a' := ?_) #[true, true, true, false, false, false, false, false, false, false, false] rfl rfl (any_of HT_.out (by kernel_rfl)) (fun _ _ _ h => h) (Or.inl ⟨by rfl, ?_⟩) ?_ ?_
                          rotate_left
                          · intro w'
                            go_simp
                            with_reducible rfl
                          rotate_left
                          · simp only [Act.put, List.setIfInBounds_toArray, List.set_cons_zero, List.set_cons_succ, i64_w, i32_w]
                            rfl
                          refine pure_ (i := 4) (N := some 45) (v := ?_) (a' := ?_) #[true, true, true, false, true, false, false, false, false, false, false] rfl rfl (any_of HT_.out (by kernel_rfl)) (fun _ _ _ h => h) (Or.inl ⟨by rfl, ?_⟩) ?_ ?_
                          rotate_left
                          · intro w'
                            go_simp
                            with_reducible rfl
                          rotate_left
                          · simp only [Act.put, List.setIfInBounds_toArray, List.set_cons_zero, List.set_cons_succ, i64_w, i32_w]
                            rfl
                          refine pure_ (i := 5) (N := some 46) (v := ?_) (a' := ?_) #[true, true, true, false, true, true, false, false, false, false, false] rfl rfl (any_of HT_.out (by kernel_rfl)) (fun _ _ _ h => h) (Or.inl ⟨by rfl, ?_⟩) ?_ ?_
                          rotate_left
                          · intro w'
                            go_simp
                            with_reducible rfl
                          rotate_left
                          · simp only [Act.put, List.setIfInBounds_toArray, List.set_cons_zero, List.set_cons_succ, i64_w, i32_w]
                            rfl
                          refine pure_ (i := 6) (N := some 47) (v := ?_) (a' := ?_) #[true, true, true, false, true, true, true, false, false, false, false] rfl rfl (any_of HT_.out (by kernel_rfl)) (fun _ _ _ h => h) (Or.inl ⟨by rfl, ?_⟩) ?_ ?_
                          rotate_left
                          · intro w'
                            go_simp
                            with_reducible rfl
                          rotate_left
                          · simp only [Act.put, List.setIfInBounds_toArray, List.set_cons_zero, List.set_cons_succ, i64_w, i32_w]
                            rfl
                          refine take_ (i := 3) (N := some 44) (v := ?_) (a' := ?_) #[true, true, true, true, true, true, true, false, false, false, false] rfl rfl (take_ofW HT_.out HW_.out (by kernel_rfl)) (fun _ _ _ h => h) (Or.inl ⟨by rfl, ?_⟩) hHeld ?_ ?_
                          rotate_left
                          · rintro w' ⟨s0, s1, s2, s3, s4, s5, s6, s7, s8, s9⟩
                            go_simp
                            with_reducible rfl
                          rotate_left
                          · simp only [Act.put, List.setIfInBounds_toArray, List.set_cons_zero, List.set_cons_succ, i64_w, i32_w]
                            rfl
                          refine take_ (i := 7) (N := some 48) (v := ?_) (a' := ?_) #[true, true, true, true, true, true, true, true, false, false, false] rfl rfl (take_ofW HT_.out HW_.out (by kernel_rfl)) (fun _ _ _ h => h) (Or.inl ⟨by rfl, ?_⟩) hHeld ?_ ?_
                          rotate_left
                          · rintro w' ⟨s0, s1, s2, s3, s4, s5, s6, s7, s8, s9⟩
                            go_simp
                            with_reducible rfl
                          rotate_left
                          · simp only [Act.put, List.setIfInBounds_toArray, List.set_cons_zero, List.set_cons_succ, i64_w, i32_w]
                            rfl
                          refine pure_ (i := 8) (N := some 49) (v := ?_) (a' := ?_) #[true, true, true, true, true, true, true, true, true, false, false] rfl rfl (any_of HT_.out (by kernel_rfl)) (fun _ _ _ h => h) (Or.inl ⟨by rfl, ?_⟩) ?_ ?_
                          rotate_left
                          · intro w'
                            go_simp
                            with_reducible rfl
                          rotate_left
                          · simp only [Act.put, List.setIfInBounds_toArray, List.set_cons_zero, List.set_cons_succ, i64_w, i32_w]
                            rfl
                          refine pure_ (i := 9) (N := some 50) (v := ?_) (a' := ?_) #[true, true, true, true, true, true, true, true, true, true, false] rfl rfl (any_of HT_.out (by kernel_rfl)) (fun _ _ _ h => h) (Or.inl ⟨by rfl, ?_⟩) ?_ ?_
                          rotate_left
                          · intro w'
                            go_simp
                            with_reducible rfl
                          rotate_left
                          · simp only [Act.put, List.setIfInBounds_toArray, List.set_cons_zero, List.set_cons_succ, i64_w, i32_w]
                            rfl
                          refine last_ (i := 10) (N := none) #[true, true, true, true, true, true, true, true, true, true, true] rfl rfl (one_of HT_.out (by kernel_rfl)) (by decide) (fun K hK => ?_)
                          refine skip_ (w1 := ?_) (by rfl) rfl ?_ ?_
                          rotate_left
                          · go_simp
                            rfl
                          refine hK.out _ _ ?_
                          clear hK K
                          refine done_ (done_of HT_.out (by kernel_rfl)) ?_
                          try go_wp2
                          (try simp only [← hl6_3])
                          go_roundg k3
                          case measure => have := HJ2.out; have := HJ12.out; have := HK3.out; omega
                          case rel => exact ⟨(y179), (wrap64 (x38_3 + 1)), (by first | rfl | (simp; done) | (simp [*]; done)), H', ⟨by have := HJ2.out; have := HJ12.out; have := HK3.out; omega⟩, ⟨by (try simp only [hl6_3]); (with_reducible repeat (first | apply Kd.R_alloc | apply Kd.R_drewN | apply Kd.R_drew)); exact HQ44.out⟩, ⟨by (try simp only [hl6_3]); (with_reducible repeat (first | refine blk_drewN ?_ _ | refine blk_drew ?_ | refine blk_alloc ?_ _)); refine blk_far ?_ (by have h_ := Kd.R_ne HO_6.out BK165.out (by decide); intro e_; exact h_ (by rw [e_]; rfl)) _; (with_reducible repeat (first | refine blk_drewN ?_ _ | refine blk_drew ?_ | refine blk_alloc ?_ _)); exact BK165.out⟩, ⟨by (try simp only [hl6_3]); (with_reducible repeat (first | refine blk_drewN ?_ _ | refine blk_drew ?_ | refine blk_alloc ?_ _)); refine blk_far ?_ (by have h_ := Kd.R_ne HO_6.out BK170.out (by decide); intro e_; exact h_ (by rw [e_]; rfl)) _; (with_reducible repeat (first | refine blk_drewN ?_ _ | refine blk_drew ?_ | refine blk_alloc ?_ _)); exact BK170.out⟩, ⟨by repeat (first | (with_reducible first | exact HB.out | apply below_alloc | apply pw_below_drewN | apply below_drew1 | refine below_set ?_ GB42.out | refine below_set ?_ GE165.out | refine below_set ?_ GE170.out) | exact HB.out)⟩⟩
                        · rw [if_neg c41] at H
                          exact absurd H (by simp)
                      · rw [if_neg c40] at H
                        exact absurd H (by simp)
                    · rw [if_neg c39] at H
                      exact absurd H (by simp)
                  · rw [if_neg c38] at H
                    have c38b0 : decide (x38_3 < (t175.length : Int)) = false := decide_eq_false c38
                    try (have c38x_hl6_3 := c38b0; rw [hl6_3] at c38x_hl6_3)
                    clear c38
                    replace H := Option.bind_eq_some_iff.mp H
                    obtain ⟨t180, A450, H⟩ := H
                    replace H : ((impl_ListRender.f t180 a1_0 a1_1 a1_2 a1_3 a1_4 a1_5 a1_6 a1_7 a1_8).bind fun t183 => ((spec_TxLines.f k3 t183).bind fun t184 => ((spec_TxSameTexts.f k3 t184 x6_3).bind fun t187 => (some t187)))) = some r := H
                    have A45 := Aside0.mk A450
                    clear A450
                    replace H := Option.bind_eq_some_iff.mp H
                    obtain ⟨t183, A460, H⟩ := H
                    replace H : ((spec_TxLines.f k3 t183).bind fun t184 => ((spec_TxSameTexts.f k3 t184 x6_3).bind fun t187 => (some t187))) = some r := H
                    have A46 := Aside0.mk A460
                    clear A460
                    replace H := Option.bind_eq_some_iff.mp H
                    obtain ⟨t184, A470, H⟩ := H
                    replace H : ((spec_TxSameTexts.f k3 t184 x6_3).bind fun t187 => (some t187)) = some r := H
                    have A47 := Aside0.mk A470
                    clear A470
                    replace H := Option.bind_eq_some_iff.mp H
                    obtain ⟨t187, A480, H⟩ := H
                    replace H : (some t187) = some r := H
                    have A48 := Aside0.mk A480
                    clear A480
                    obtain rfl := Option.some.inj H
                    try go_wp2
                    have n0_ := Aside0.mk (Kd.R_drew HO_6.out)
                    have n1_ := Aside0.mk (blk_drew BK165.out)
                    have n2_ := Aside0.mk (blk_drew BK170.out)
                    have n3_ := Aside0.mk (below_drew1 HB.out)
                    clear HO_6
                    clear BK165
                    clear BK170
                    clear HB
                    have HO_6 := n0_
                    have BK165 := n1_
                    have BK170 := n2_
                    have HB := n3_
                    clear n0_ n1_ n2_ n3_
                    refine start_ (n := 8) (S := fun w' => w'.cell? ⟨gb165, 0, none⟩ = some (.int .i64 a1_0) ∧ w'.cell? ⟨gb165, 1, none⟩ = some (.string a1_1) ∧ w'.cell? ⟨gb165, 2, none⟩ = some (.string a1_2) ∧ w'.cell? ⟨gb165, 3, none⟩ = some (.string a1_3) ∧ w'.cell? ⟨gb165, 4, none⟩ = some (.string a1_4) ∧ w'.cell? ⟨gb165, 5, none⟩ = some (.string a1_5) ∧ w'.cell? ⟨gb165, 6, none⟩ = some (.string a1_6) ∧ w'.cell? ⟨gb165, 7, none⟩ = some (.string a1_7) ∧ w'.cell? ⟨gb165, 8, none⟩ = some (.string a1_8)) (ds := []) #[false, false, false, false, false, false, false, false] (by kernel_rfl) rfl rfl ⟨(blk_cell BK165.out 0).trans rfl, (blk_cell BK165.out 1).trans rfl, (blk_cell BK165.out 2).trans rfl, (blk_cell BK165.out 3).trans rfl, (blk_cell BK165.out 4).trans rfl, (blk_cell BK165.out 5).trans rfl, (blk_cell BK165.out 6).trans rfl, (blk_cell BK165.out 7).trans rfl, (blk_cell BK165.out 8).trans rfl⟩ (fun hHeld => ?_); refine with_tabW laws_FnListPrefix.tab13 laws_FnListPrefix.bits13 (fun HT_ HW_ => ?_)
                    generalize wr.drew = w49 at HO_6 BK165 BK170 HB hHeld ⊢
                    refine pure_ (i := 0) (N := some 52) (v := ?_) (a' := ?_) #[true, false, false, false, false, false, false, false] rfl rfl (any_of HT_.out (by kernel_rfl)) (fun _ _ _ h => h) (Or.inl ⟨by rfl, ?_⟩) ?_ ?_
                    rotate_left
                    · intro w'
                      go_simp
                      with_reducible rfl
                    rotate_left
                    · simp only [Act.put, List.setIfInBounds_toArray, List.set_cons_zero, List.set_cons_succ, i64_w, i32_w]
                      rfl
                    refine pure_ (i := 5) (N := some 57) (v := ?_) (a' := ?_) #[true, false, false, false, false, true, false, false] rfl rfl (any_of HT_.out (by kernel_rfl)) (fun _ _ _ h => h) (Or.inl ⟨by rfl, ?_⟩) ?_ ?_
                    rotate_left
                    · intro w'
                      go_simp
                      with_reducible rfl
                    rotate_left
                    · simp only [Act.put, List.setIfInBounds_toArray, List.set_cons_zero, List.set_cons_succ, i64_w, i32_w]
                      rfl
                    refine take_ (i := 2) (N := some 54) (v := ?_) (a' := ?_) #[true, false, true, false, false, true, false, false] rfl rfl (take_ofW HT_.out HW_.out (by kernel_rfl)) (fun _ _ _ h => h) (Or.inl ⟨by rfl, ?_⟩) hHeld ?_ ?_
                    rotate_left
                    · rintro w' ⟨s0, s1, s2, s3, s4, s5, s6, s7, s8⟩
                      go_simp
                      with_reducible rfl
                    rotate_left
                    · simp only [Act.put, List.setIfInBounds_toArray, List.set_cons_zero, List.set_cons_succ, i64_w, i32_w]
                      rfl
                    refine one_ (i := 1) (N := some 53) #[true, true, true, false, false, true, false, false] rfl rfl (one_of HT_.out (by kernel_rfl)) (by decide) (fun K hK => ?_)
                    refine goes_ Tryd.func12 (by kernel_rfl) rfl #[.slice A0 l0.length c0] (by rfl) rfl rfl (by (try simp only [List.map_toArray, List.map_cons, List.map_nil]); first | done | rfl | (simp only [List.length_drop, List.length_take]; rfl)) ?_
                    with_reducible refine (spec_LsSteps.calls k3 _ _ l0 t180 _ ?side1 ?side2 A45.out).mono ?_
                    (case side1 => repeat (first | exact (Kd.C_below HR0.out HB.out) | (with_reducible refine Kd.C_alloc ?_ _) | (with_reducible refine Kd.C_drewN ?_ _) | (with_reducible refine Kd.C_drew ?_)))
                    (case side2 => exact HC0.out)
                    rintro e w50 ⟨v181, rfl, ho0, hb⟩
                    refine ⟨_, rfl, ?_⟩
                    have n0_ := Aside0.mk (Kd.R_below (by (with_reducible repeat (first | apply Kd.R_alloc | apply Kd.R_drewN | apply Kd.R_drew)); exact HO_6.out) hb)
                    have n1_ := Aside0.mk (Kd.S_lower (Kd.S_new' ho0 (Kd.R_lt (by (with_reducible repeat (first | apply Kd.R_alloc | apply Kd.R_drewN | apply Kd.R_drew)); exact HO_6.out))) (below_size (by repeat (first | (with_reducible first | exact HB.out | apply below_alloc | apply pw_below_drewN | apply below_drew1 | refine below_set ?_ GE165.out | refine below_set ?_ GE170.out) | exact HB.out))))
                    have n2_ := Aside0.mk (blk_below (g := gb165) (o := .cells #[.int .i64 a1_0, .string a1_1, .string a1_2, .string a1_3, .string a1_4, .string a1_5, .string a1_6, .string a1_7, .string a1_8] 24 (0, 0)) (by (with_reducible repeat (first | refine blk_drewN ?_ _ | refine blk_drew ?_ | refine blk_alloc ?_ _)); exact BK165.out) hb)
                    have n3_ := Aside0.mk (blk_below (g := gb170) (o := .cells #[.int .i64 a1_0, .string a1_1, .string a1_2, .string a1_3, .string a1_4, .string a1_5, .string a1_6, .string a1_7, .string (⟨#[]⟩ : ByteArray)] 24 (0, 0)) (by (with_reducible repeat (first | refine blk_drewN ?_ _ | refine blk_drew ?_ | refine blk_alloc ?_ _)); exact BK170.out) hb)
                    have n4_ := Aside0.mk (below_step (by repeat (first | (with_reducible first | exact HB.out | apply below_alloc | apply pw_below_drewN | apply below_drew1 | refine below_set ?_ GE165.out | refine below_set ?_ GE170.out) | exact HB.out)) hb)
                    clear HO_6
                    clear BK165
                    clear BK170
                    clear HB
                    have HO_6 := n0_
                    have HO182 := n1_
                    have BK165 := n2_
                    have BK170 := n3_
                    have HB := n4_
                    clear n0_ n1_ n2_ n3_ n4_
                    (try clear hb)
                    (try clear hb2)
                    (try clear hk)
                    (try clear hi)
                    (try clear ho0)
                    obtain ⟨Ao51, co51, eo51⟩ := Kd.S_slice HO182.out
                    (first | subst eo51 | (injection eo51 with f1_ f2_ f3_; have f4_ := f1_.symm; have f5_ := f3_.symm; clear f1_ f2_ f3_; subst f4_; subst f5_))
                    refine hK.out _ _ ⟨(blk_cell BK165.out 0).trans rfl, (blk_cell BK165.out 1).trans rfl, (blk_cell BK165.out 2).trans rfl, (blk_cell BK165.out 3).trans rfl, (blk_cell BK165.out 4).trans rfl, (blk_cell BK165.out 5).trans rfl, (blk_cell BK165.out 6).trans rfl, (blk_cell BK165.out 7).trans rfl, (blk_cell BK165.out 8).trans rfl⟩ (fun hHeld => ?_)
                    clear hK K
                    refine norm_ (a' := ?_) ?_ ?_
                    rotate_left
                    · show Act.put _ (some 53) _ = _
                      simp only [Act.put, List.setIfInBounds_toArray, List.set_cons_zero, List.set_cons_succ, i64_w, i32_w]
                      rfl
                    refine one_ (i := 3) (N := some 55) #[true, true, true, true, false, true, false, false] rfl rfl (one_of HT_.out (by kernel_rfl)) (by decide) (fun K hK => ?_)
                    refine goes_ Tryd.func11 (by kernel_rfl) rfl #[.slice Ao51 t180.length co51, .agg #[.int .i64 a1_0, .string a1_1, .string a1_2, .string a1_3, .string a1_4, .string a1_5, .string a1_6, .string a1_7, .string a1_8]] (by rfl) rfl rfl (by (try simp only [List.map_toArray, List.map_cons, List.map_nil]); first | done | rfl | (simp only [List.length_drop, List.length_take]; rfl)) ?_
                    with_reducible refine (impl_ListRender.calls _ _ t180 a1_0 a1_1 a1_2 a1_3 a1_4 a1_5 a1_6 a1_7 a1_8 t183 _ ?side1 ?side2 A46.out).mono ?_
                    (case side1 => repeat (first | exact (Kd.S_reads' HO182.out).2.2 | (with_reducible refine Kd.C_alloc ?_ _) | (with_reducible refine Kd.C_drewN ?_ _) | (with_reducible refine Kd.C_drew ?_)))
                    (case side2 => exact (Kd.S_reads' HO182.out).2.1)
                    rintro e w52 ⟨rfl, hb⟩
                    refine ⟨_, rfl, ?_⟩
                    have n0_ := Aside0.mk (Kd.R_below (by (with_reducible repeat (first | apply Kd.R_alloc | apply Kd.R_drewN | apply Kd.R_drew)); exact HO_6.out) hb)
                    have n1_ := Aside0.mk (Kd.S_below (by (with_reducible repeat (first | apply Kd.S_alloc | apply Kd.S_drewN | apply Kd.S_drew)); exact HO182.out) hb)
                    have n2_ := Aside0.mk (blk_below (g := gb165) (o := .cells #[.int .i64 a1_0, .string a1_1, .string a1_2, .string a1_3, .string a1_4, .string a1_5, .string a1_6, .string a1_7, .string a1_8] 24 (0, 0)) (by (with_reducible repeat (first | refine blk_drewN ?_ _ | refine blk_drew ?_ | refine blk_alloc ?_ _)); exact BK165.out) hb)
                    have n3_ := Aside0.mk (blk_below (g := gb170) (o := .cells #[.int .i64 a1_0, .string a1_1, .string a1_2, .string a1_3, .string a1_4, .string a1_5, .string a1_6, .string a1_7, .string (⟨#[]⟩ : ByteArray)] 24 (0, 0)) (by (with_reducible repeat (first | refine blk_drewN ?_ _ | refine blk_drew ?_ | refine blk_alloc ?_ _)); exact BK170.out) hb)
                    have n4_ := Aside0.mk (below_step (by repeat (first | (with_reducible first | exact HB.out | apply below_alloc | apply pw_below_drewN | apply below_drew1 | refine below_set ?_ GE165.out | refine below_set ?_ GE170.out) | exact HB.out)) hb)
                    clear HO_6
                    clear HO182
                    clear BK165
                    clear BK170
                    clear HB
                    have HO_6 := n0_
                    have HO182 := n1_
                    have BK165 := n2_
                    have BK170 := n3_
                    have HB := n4_
                    clear n0_ n1_ n2_ n3_ n4_
                    (try clear hb)
                    (try clear hb2)
                    (try clear hk)
                    (try clear hi)
                    refine hK.out _ _ ⟨(blk_cell BK165.out 0).trans rfl, (blk_cell BK165.out 1).trans rfl, (blk_cell BK165.out 2).trans rfl, (blk_cell BK165.out 3).trans rfl, (blk_cell BK165.out 4).trans rfl, (blk_cell BK165.out 5).trans rfl, (blk_cell BK165.out 6).trans rfl, (blk_cell BK165.out 7).trans rfl, (blk_cell BK165.out 8).trans rfl⟩ (fun hHeld => ?_)
                    clear hK K
                    refine norm_ (a' := ?_) ?_ ?_
                    rotate_left
                    · show Act.put _ (some 55) _ = _
                      simp only [Act.put, List.setIfInBounds_toArray, List.set_cons_zero, List.set_cons_succ, i64_w, i32_w]
                      rfl
                    refine one_ (i := 4) (N := some 56) #[true, true, true, true, true, true, false, false] rfl rfl (one_of HT_.out (by kernel_rfl)) (by decide) (fun K hK => ?_)
                    refine goes_ Tryd.func10 (by kernel_rfl) rfl #[.string t183] (by rfl) rfl rfl (by (try simp only [List.map_toArray, List.map_cons, List.map_nil]); first | done | rfl | (simp only [List.length_drop, List.length_take]; rfl)) ?_
                    with_reducible refine (spec_TxLines.calls k3 t183 t184 _ A47.out).mono ?_
                    rintro e w53 ⟨v185, rfl, ho0, hb⟩
                    refine ⟨_, rfl, ?_⟩
                    have n0_ := Aside0.mk (Kd.R_elder' (by (with_reducible repeat (first | apply Kd.R_alloc | apply Kd.R_drewN | apply Kd.R_drew)); exact HO_6.out) (Kd.R_base ho0) hb)
                    have n1_ := Aside0.mk (Kd.S_elder' (by (with_reducible repeat (first | apply Kd.S_alloc | apply Kd.S_drewN | apply Kd.S_drew)); exact HO182.out) (Kd.R_base ho0) hb)
                    have n2_ := Aside0.mk (Kd.R_lower (Kd.R_new' ho0 (Kd.R_lt (by (with_reducible repeat (first | apply Kd.R_alloc | apply Kd.R_drewN | apply Kd.R_drew)); exact HO_6.out))) (below_size (by repeat (first | (with_reducible first | exact HB.out | apply below_alloc | apply pw_below_drewN | apply below_drew1 | refine below_set ?_ GE165.out | refine below_set ?_ GE170.out) | exact HB.out))))
                    have n3_ := Aside0.mk (blk_below (g := gb165) (o := .cells #[.int .i64 a1_0, .string a1_1, .string a1_2, .string a1_3, .string a1_4, .string a1_5, .string a1_6, .string a1_7, .string a1_8] 24 (0, 0)) (by (with_reducible repeat (first | refine blk_drewN ?_ _ | refine blk_drew ?_ | refine blk_alloc ?_ _)); exact BK165.out) hb)
                    have n4_ := Aside0.mk (blk_below (g := gb170) (o := .cells #[.int .i64 a1_0, .string a1_1, .string a1_2, .string a1_3, .string a1_4, .string a1_5, .string a1_6, .string a1_7, .string (⟨#[]⟩ : ByteArray)] 24 (0, 0)) (by (with_reducible repeat (first | refine blk_drewN ?_ _ | refine blk_drew ?_ | refine blk_alloc ?_ _)); exact BK170.out) hb)
                    have n5_ := Aside0.mk (below_step (by repeat (first | (with_reducible first | exact HB.out | apply below_alloc | apply pw_below_drewN | apply below_drew1 | refine below_set ?_ GE165.out | refine below_set ?_ GE170.out) | exact HB.out)) hb)
                    clear HO_6
                    clear HO182
                    clear BK165
                    clear BK170
                    clear HB
                    have HO_6 := n0_
                    have HO182 := n1_
                    have HO186 := n2_
                    have BK165 := n3_
                    have BK170 := n4_
                    have HB := n5_
                    clear n0_ n1_ n2_ n3_ n4_ n5_
                    (try clear hb)
                    (try clear hb2)
                    (try clear hk)
                    (try clear hi)
                    (try clear ho0)
                    obtain ⟨Ao54, co54, eo54⟩ := Kd.R_slice HO186.out
                    (first | subst eo54 | (injection eo54 with f1_ f2_ f3_; have f4_ := f1_.symm; have f5_ := f3_.symm; clear f1_ f2_ f3_; subst f4_; subst f5_))
                    refine hK.out _ _ ⟨(blk_cell BK165.out 0).trans rfl, (blk_cell BK165.out 1).trans rfl, (blk_cell BK165.out 2).trans rfl, (blk_cell BK165.out 3).trans rfl, (blk_cell BK165.out 4).trans rfl, (blk_cell BK165.out 5).trans rfl, (blk_cell BK165.out 6).trans rfl, (blk_cell BK165.out 7).trans rfl, (blk_cell BK165.out 8).trans rfl⟩ (fun hHeld => ?_)
                    clear hK K
                    refine norm_ (a' := ?_) ?_ ?_
                    rotate_left
                    · show Act.put _ (some 56) _ = _
                      simp only [Act.put, List.setIfInBounds_toArray, List.set_cons_zero, List.set_cons_succ, i64_w, i32_w]
                      rfl
                    refine one_ (i := 6) (N := some 58) #[true, true, true, true, true, true, true, false] rfl rfl (one_of HT_.out (by kernel_rfl)) (by decide) (fun K hK => ?_)
                    refine goes_ Tryd.func13 (by kernel_rfl) rfl #[.slice Ao54 t184.length co54, .slice Ao37 x6_3.length co37] (by rfl) rfl rfl (by (try simp only [List.map_toArray, List.map_cons, List.map_nil]); first | done | rfl | (simp only [List.length_drop, List.length_take]; rfl)) ?_
                    with_reducible refine (spec_TxSameTexts.calls k3 _ _ t184 _ _ x6_3 t187 _ ?side1 ?side2 ?side3 ?side4 A48.out).mono ?_
                    (case side1 => repeat (first | exact (Kd.R_reads' HO186.out).2.2 | (with_reducible refine Kd.C_alloc ?_ _) | (with_reducible refine Kd.C_drewN ?_ _) | (with_reducible refine Kd.C_drew ?_)))
                    (case side2 => exact (Kd.R_reads' HO186.out).2.1)
                    (case side3 => repeat (first | exact (Kd.R_reads' HO_6.out).2.2 | (with_reducible refine Kd.C_alloc ?_ _) | (with_reducible refine Kd.C_drewN ?_ _) | (with_reducible refine Kd.C_drew ?_)))
                    (case side4 => exact (Kd.R_reads' HO_6.out).2.1)
                    rintro e w' ⟨rfl, ⟨nd, rfl⟩⟩
                    refine ⟨_, rfl, ?_⟩
                    refine hK.out _ _ ⟨(blk_cell BK165.out 0).trans rfl, (blk_cell BK165.out 1).trans rfl, (blk_cell BK165.out 2).trans rfl, (blk_cell BK165.out 3).trans rfl, (blk_cell BK165.out 4).trans rfl, (blk_cell BK165.out 5).trans rfl, (blk_cell BK165.out 6).trans rfl, (blk_cell BK165.out 7).trans rfl, (blk_cell BK165.out 8).trans rfl⟩ (fun hHeld => ?_)
                    clear hK K
                    refine norm_ (a' := ?_) ?_ ?_
                    rotate_left
                    · show Act.put _ (some 58) _ = _
                      simp only [Act.put, List.setIfInBounds_toArray, List.set_cons_zero, List.set_cons_succ, i64_w, i32_w]
                      rfl
                    refine pure_ (i := 7) (N := some 4) (v := ?_) (a' := ?_) #[true, true, true, true, true, true, true, true] rfl rfl (any_of HT_.out (by kernel_rfl)) (fun _ _ _ h => h) (Or.inl ⟨by rfl, ?_⟩) ?_ ?_
                    rotate_left
                    · intro w'
                      go_simp
                      with_reducible rfl
                    rotate_left
                    · simp only [Act.put, List.setIfInBounds_toArray, List.set_cons_zero, List.set_cons_succ, i64_w, i32_w]
                      rfl
                    refine done_ (done_of HT_.out (by kernel_rfl)) ?_
                    try go_wp2
                    go_ret
                    exact ⟨by first | rfl | (simp [errW_none, errW_some] <;> rfl) | (simp [*, errW_none, errW_some] <;> rfl), by repeat (first | (with_reducible first | exact HB.out | apply below_alloc | apply pw_below_drewN | apply below_drew1 | refine below_set ?_ GE165.out | refine below_set ?_ GE170.out) | exact HB.out)⟩

end
end Go.Proofs.YthjkmjimlhpbfaaDoor.GFnListPrefix
