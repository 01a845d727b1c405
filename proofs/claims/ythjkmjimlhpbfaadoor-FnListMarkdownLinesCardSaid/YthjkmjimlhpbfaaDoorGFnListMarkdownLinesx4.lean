-- Written by gprint.py, a program of this session over the kit's printer, with contracts of its own for what the printer does not take. Not trusted: Lean checks it.
import Derived.Test.YthjkmjimlhpbfaaDoorGFnListMarkdownLinesx0
import Derived.Test.YthjkmjimlhpbfaaDoorGFnListMarkdownLinesx1
import Derived.Test.YthjkmjimlhpbfaaDoorGFnListMarkdownLinesx2
import Derived.Test.YthjkmjimlhpbfaaDoorGFnListMarkdownLinesx3
namespace Go.Proofs.YthjkmjimlhpbfaaDoor.GFnListMarkdownLines
open Go.RowKit Go.Proofs.YthjkmjimlhpbfaaDoor.Itr Go.Proofs.YthjkmjimlhpbfaaDoorW.PrintWords Go.Proofs.YthjkmjimlhpbfaaDoorW.PrintLast Go.Proofs.YthjkmjimlhpbfaaDoorW.PrintMore
attribute [local go_sem] max2_int min2_int max_two min_two max_three min_three max_four min_four   -- for this text's walks alone
set_option linter.unusedVariables false
set_option linter.unusedSimpArgs false
noncomputable section

/-! ### laws_FnListMarkdownLines: function 5 -/
mutual
def laws_FnListMarkdownLines.j0 : Nat → List (S38) → Bool → Int → ByteArray → ByteArray → ByteArray → ByteArray → ByteArray → ByteArray → ByteArray → ByteArray → Option (Bool)
  | 0, _, _, _, _, _, _, _, _, _, _, _ => none
  | k + 1, x0, x15, x172000, x172001, x172002, x172003, x172004, x172005, x172006, x172007, x172008 => if x15 = true then (some true) else ((spec_LsRight.f k x0).bind fun t174 => (if t174 = true then (if (x0.length : Int) = 0 then (laws_FnListMarkdownLines.j1 k x0 true x172000 x172001 x172002 x172003 x172004 x172005 x172006 x172007 x172008) else ((spec_LsStyled.f k x172000 x172001 x172002 x172003 x172004 x172005 x172006 x172007 x172008).bind fun t175 => (laws_FnListMarkdownLines.j1 k x0 (!t175) x172000 x172001 x172002 x172003 x172004 x172005 x172006 x172007 x172008))) else (laws_FnListMarkdownLines.j1 k x0 true x172000 x172001 x172002 x172003 x172004 x172005 x172006 x172007 x172008)))
def laws_FnListMarkdownLines.j1 : Nat → List (S38) → Bool → Int → ByteArray → ByteArray → ByteArray → ByteArray → ByteArray → ByteArray → ByteArray → ByteArray → Option (Bool)
  | 0, _, _, _, _, _, _, _, _, _, _, _ => none
  | k + 1, x0, x28, x172000, x172001, x172002, x172003, x172004, x172005, x172006, x172007, x172008 => if x28 = true then (some true) else (laws_FnListMarkdownLines.l0 k x0 ([] : List ByteArray) x0 (x0.length : Int) 0 x172000 x172001 x172002 x172003 x172004 x172005 x172006 x172007 x172008)
def laws_FnListMarkdownLines.l0 : Nat → List (S38) → List ByteArray → List (S38) → Int → Int → Int → ByteArray → ByteArray → ByteArray → ByteArray → ByteArray → ByteArray → ByteArray → ByteArray → Option (Bool)
  | 0, _, _, _, _, _, _, _, _, _, _, _, _, _, _ => none
  | k + 1, x0, x5, x29, x30, x31, x172000, x172001, x172002, x172003, x172004, x172005, x172006, x172007, x172008 => if x31 < x30 then (if 0 ≤ x31 then (if x31 < (x29.length : Int) then ((spec_TxTimes.f k (⟨#[32, 32]⟩ : ByteArray) ((rd_T38 x29 x31).f1)).bind fun t178 => (if 2 + t178.size ≤ 9223372036854775807 then (if ((⟨#[32, 32]⟩ : ByteArray) ++ t178).size + 2 ≤ 9223372036854775807 then (if (((⟨#[32, 32]⟩ : ByteArray) ++ t178) ++ (⟨#[42, 32]⟩ : ByteArray)).size + ((rd_T38 x29 x31).f0).size ≤ 9223372036854775807 then (if x5.length < 8796093022208 then (laws_FnListMarkdownLines.l0 k x0 (x5 ++ [(((⟨#[32, 32]⟩ : ByteArray) ++ t178) ++ (⟨#[42, 32]⟩ : ByteArray)) ++ ((rd_T38 x29 x31).f0)]) x29 x30 (wrap64 (x31 + 1)) x172000 x172001 x172002 x172003 x172004 x172005 x172006 x172007 x172008) else (none)) else (none)) else (none)) else (none))) else (none)) else (none)) else ((spec_LsSteps.f k x0).bind fun t182 => ((impl_ListMarkdown.f t182 x172000 x172001 x172002 x172003 x172004 x172005 x172006 x172007 x172008).bind fun t185 => ((spec_TxLines.f k t185).bind fun t186 => ((spec_TxSameTexts.f k t186 x5).bind fun t189 => (some t189)))))
end
def laws_FnListMarkdownLines.f (k : Nat) (l0 : List (S38)) (a1_0 : Int) (a1_1 : ByteArray) (a1_2 : ByteArray) (a1_3 : ByteArray) (a1_4 : ByteArray) (a1_5 : ByteArray) (a1_6 : ByteArray) (a1_7 : ByteArray) (a1_8 : ByteArray) : Option (Bool) := (laws_zzFits1.f k l0).bind fun t172 => (if t172 = true then ((laws_zzFits3.f a1_0 a1_1 a1_2 a1_3 a1_4 a1_5 a1_6 a1_7 a1_8).bind fun t173 => (laws_FnListMarkdownLines.j0 k l0 (!t173) a1_0 a1_1 a1_2 a1_3 a1_4 a1_5 a1_6 a1_7 a1_8)) else (laws_FnListMarkdownLines.j0 k l0 true a1_0 a1_1 a1_2 a1_3 a1_4 a1_5 a1_6 a1_7 a1_8))
theorem laws_FnListMarkdownLines.mono_l : ∀ k, (∀ y0 y1 y2 y3 y4 y5 y6 y7 y8 y9 y10, LeO (laws_FnListMarkdownLines.j0 k y0 y1 y2 y3 y4 y5 y6 y7 y8 y9 y10) (laws_FnListMarkdownLines.j0 (k + 1) y0 y1 y2 y3 y4 y5 y6 y7 y8 y9 y10)) ∧ (∀ y0 y1 y2 y3 y4 y5 y6 y7 y8 y9 y10, LeO (laws_FnListMarkdownLines.j1 k y0 y1 y2 y3 y4 y5 y6 y7 y8 y9 y10) (laws_FnListMarkdownLines.j1 (k + 1) y0 y1 y2 y3 y4 y5 y6 y7 y8 y9 y10)) ∧ (∀ y0 y1 y2 y3 y4 y5 y6 y7 y8 y9 y10 y11 y12 y13, LeO (laws_FnListMarkdownLines.l0 k y0 y1 y2 y3 y4 y5 y6 y7 y8 y9 y10 y11 y12 y13) (laws_FnListMarkdownLines.l0 (k + 1) y0 y1 y2 y3 y4 y5 y6 y7 y8 y9 y10 y11 y12 y13))
  | 0 => ⟨fun _ _ _ _ _ _ _ _ _ _ _ r h => by simp [laws_FnListMarkdownLines.j0] at h, fun _ _ _ _ _ _ _ _ _ _ _ r h => by simp [laws_FnListMarkdownLines.j1] at h, fun _ _ _ _ _ _ _ _ _ _ _ _ _ _ r h => by simp [laws_FnListMarkdownLines.l0] at h⟩
  | k + 1 => by
    obtain ⟨ih0, ih1, ih2⟩ := laws_FnListMarkdownLines.mono_l k
    refine ⟨?_, ?_, ?_⟩
    · intro y0 y1 y2 y3 y4 y5 y6 y7 y8 y9 y10
      unfold laws_FnListMarkdownLines.j0
      repeat' first
      | (with_reducible exact ih0 _ _ _ _ _ _ _ _ _ _ _)
      | (with_reducible exact ih1 _ _ _ _ _ _ _ _ _ _ _)
      | (with_reducible exact ih2 _ _ _ _ _ _ _ _ _ _ _ _ _ _)
      | (with_reducible exact laws_zzFits1.mono _ _)
      | (with_reducible exact spec_LsRight.mono _ _)
      | (with_reducible exact spec_LsSteps.mono _ _)
      | (with_reducible exact spec_LsStyled.mono _ _ _ _ _ _ _ _ _ _)
      | (with_reducible exact spec_TxLines.mono _ _)
      | (with_reducible exact spec_TxSameTexts.mono _ _ _)
      | (with_reducible exact spec_TxTimes.mono _ _ _)
      | (with_reducible exact LeO.refl _)
      | (with_reducible exact LeO.none _)
      | (with_reducible refine LeO.ite ?_ ?_)
      | (with_reducible refine LeO.bind ?_ (fun _ => ?_))
      | exact ih0 _ _ _ _ _ _ _ _ _ _ _
      | exact ih1 _ _ _ _ _ _ _ _ _ _ _
      | exact ih2 _ _ _ _ _ _ _ _ _ _ _ _ _ _
      | exact laws_zzFits1.mono _ _
      | exact spec_LsRight.mono _ _
      | exact spec_LsSteps.mono _ _
      | exact spec_LsStyled.mono _ _ _ _ _ _ _ _ _ _
      | exact spec_TxLines.mono _ _
      | exact spec_TxSameTexts.mono _ _ _
      | exact spec_TxTimes.mono _ _ _
      | exact LeO.none _
      | refine LeO.ite ?_ ?_
      | refine LeO.bind ?_ (fun _ => ?_)
    · intro y0 y1 y2 y3 y4 y5 y6 y7 y8 y9 y10
      unfold laws_FnListMarkdownLines.j1
      repeat' first
      | (with_reducible exact ih0 _ _ _ _ _ _ _ _ _ _ _)
      | (with_reducible exact ih1 _ _ _ _ _ _ _ _ _ _ _)
      | (with_reducible exact ih2 _ _ _ _ _ _ _ _ _ _ _ _ _ _)
      | (with_reducible exact laws_zzFits1.mono _ _)
      | (with_reducible exact spec_LsRight.mono _ _)
      | (with_reducible exact spec_LsSteps.mono _ _)
      | (with_reducible exact spec_LsStyled.mono _ _ _ _ _ _ _ _ _ _)
      | (with_reducible exact spec_TxLines.mono _ _)
      | (with_reducible exact spec_TxSameTexts.mono _ _ _)
      | (with_reducible exact spec_TxTimes.mono _ _ _)
      | (with_reducible exact LeO.refl _)
      | (with_reducible exact LeO.none _)
      | (with_reducible refine LeO.ite ?_ ?_)
      | (with_reducible refine LeO.bind ?_ (fun _ => ?_))
      | exact ih0 _ _ _ _ _ _ _ _ _ _ _
      | exact ih1 _ _ _ _ _ _ _ _ _ _ _
      | exact ih2 _ _ _ _ _ _ _ _ _ _ _ _ _ _
      | exact laws_zzFits1.mono _ _
      | exact spec_LsRight.mono _ _
      | exact spec_LsSteps.mono _ _
      | exact spec_LsStyled.mono _ _ _ _ _ _ _ _ _ _
      | exact spec_TxLines.mono _ _
      | exact spec_TxSameTexts.mono _ _ _
      | exact spec_TxTimes.mono _ _ _
      | exact LeO.none _
      | refine LeO.ite ?_ ?_
      | refine LeO.bind ?_ (fun _ => ?_)
    · intro y0 y1 y2 y3 y4 y5 y6 y7 y8 y9 y10 y11 y12 y13
      unfold laws_FnListMarkdownLines.l0
      repeat' first
      | (with_reducible exact ih0 _ _ _ _ _ _ _ _ _ _ _)
      | (with_reducible exact ih1 _ _ _ _ _ _ _ _ _ _ _)
      | (with_reducible exact ih2 _ _ _ _ _ _ _ _ _ _ _ _ _ _)
      | (with_reducible exact laws_zzFits1.mono _ _)
      | (with_reducible exact spec_LsRight.mono _ _)
      | (with_reducible exact spec_LsSteps.mono _ _)
      | (with_reducible exact spec_LsStyled.mono _ _ _ _ _ _ _ _ _ _)
      | (with_reducible exact spec_TxLines.mono _ _)
      | (with_reducible exact spec_TxSameTexts.mono _ _ _)
      | (with_reducible exact spec_TxTimes.mono _ _ _)
      | (with_reducible exact LeO.refl _)
      | (with_reducible exact LeO.none _)
      | (with_reducible refine LeO.ite ?_ ?_)
      | (with_reducible refine LeO.bind ?_ (fun _ => ?_))
      | exact ih0 _ _ _ _ _ _ _ _ _ _ _
      | exact ih1 _ _ _ _ _ _ _ _ _ _ _
      | exact ih2 _ _ _ _ _ _ _ _ _ _ _ _ _ _
      | exact laws_zzFits1.mono _ _
      | exact spec_LsRight.mono _ _
      | exact spec_LsSteps.mono _ _
      | exact spec_LsStyled.mono _ _ _ _ _ _ _ _ _ _
      | exact spec_TxLines.mono _ _
      | exact spec_TxSameTexts.mono _ _ _
      | exact spec_TxTimes.mono _ _ _
      | exact LeO.none _
      | refine LeO.ite ?_ ?_
      | refine LeO.bind ?_ (fun _ => ?_)
theorem laws_FnListMarkdownLines.mono : ∀ a0 a1 a2 a3 a4 a5 a6 a7 a8 a9 k, LeO (laws_FnListMarkdownLines.f k a0 a1 a2 a3 a4 a5 a6 a7 a8 a9) (laws_FnListMarkdownLines.f (k + 1) a0 a1 a2 a3 a4 a5 a6 a7 a8 a9) := by
  intro a0 a1 a2 a3 a4 a5 a6 a7 a8 a9 k
  obtain ⟨ih0, ih1, ih2⟩ := laws_FnListMarkdownLines.mono_l k
  unfold laws_FnListMarkdownLines.f
  repeat' first
      | (with_reducible exact ih0 _ _ _ _ _ _ _ _ _ _ _)
      | (with_reducible exact ih1 _ _ _ _ _ _ _ _ _ _ _)
      | (with_reducible exact ih2 _ _ _ _ _ _ _ _ _ _ _ _ _ _)
      | (with_reducible exact laws_zzFits1.mono _ _)
      | (with_reducible exact spec_LsRight.mono _ _)
      | (with_reducible exact spec_LsSteps.mono _ _)
      | (with_reducible exact spec_LsStyled.mono _ _ _ _ _ _ _ _ _ _)
      | (with_reducible exact spec_TxLines.mono _ _)
      | (with_reducible exact spec_TxSameTexts.mono _ _ _)
      | (with_reducible exact spec_TxTimes.mono _ _ _)
      | (with_reducible exact LeO.refl _)
      | (with_reducible exact LeO.none _)
      | (with_reducible refine LeO.ite ?_ ?_)
      | (with_reducible refine LeO.bind ?_ (fun _ => ?_))
      | exact ih0 _ _ _ _ _ _ _ _ _ _ _
      | exact ih1 _ _ _ _ _ _ _ _ _ _ _
      | exact ih2 _ _ _ _ _ _ _ _ _ _ _ _ _ _
      | exact laws_zzFits1.mono _ _
      | exact spec_LsRight.mono _ _
      | exact spec_LsSteps.mono _ _
      | exact spec_LsStyled.mono _ _ _ _ _ _ _ _ _ _
      | exact spec_TxLines.mono _ _
      | exact spec_TxSameTexts.mono _ _ _
      | exact spec_TxTimes.mono _ _ _
      | exact LeO.none _
      | refine LeO.ite ?_ ?_
      | refine LeO.bind ?_ (fun _ => ?_)
def laws_FnListMarkdownLines.T9 : Bool × List (List Nat × List Nat) := (true, [([], []), ([], []), ([1], [1]), ([2], [2]), ([3], [3]), ([4], [4]), ([], []), ([6], [6]), ([5, 7], [5, 7]), ([8], [8]), ([0, 9, 3], [0, 9]), ([10, 10, 0, 1, 2, 3, 4, 5, 6, 7, 8, 9, 10], [0, 10])])
def laws_FnListMarkdownLines.B9 : List Nat := [0, 0, 2, 6, 14, 30, 0, 64, 254, 510, 1023, 2047]
theorem laws_FnListMarkdownLines.tab9 : rtab .any (opsOf Tryd.f5 9) = laws_FnListMarkdownLines.T9 := by kernel_rfl
theorem laws_FnListMarkdownLines.bits9 : waitsOk laws_FnListMarkdownLines.T9.2 laws_FnListMarkdownLines.B9 = true := by kernel_rfl
def laws_FnListMarkdownLines.T11 : Bool × List (List Nat × List Nat) := (true, [([], []), ([0], [0]), ([], []), ([1, 2, 1], [1, 2]), ([3, 3], [3]), ([], []), ([4, 5, 4], [4, 5]), ([6, 6, 0, 1, 2, 3, 4, 5, 6], [6])])
def laws_FnListMarkdownLines.B11 : List Nat := [0, 1, 0, 7, 15, 0, 63, 127]
theorem laws_FnListMarkdownLines.tab11 : rtab .any (opsOf Tryd.f5 11) = laws_FnListMarkdownLines.T11 := by kernel_rfl
theorem laws_FnListMarkdownLines.bits11 : waitsOk laws_FnListMarkdownLines.T11.2 laws_FnListMarkdownLines.B11 = true := by kernel_rfl
set_option maxHeartbeats 8000000 in
set_option maxRecDepth 100000 in
theorem laws_FnListMarkdownLines.calls (k : Nat) (A0 : Option Addr) (c0 : Nat) (l0 : List (S38)) (a1_0 : Int) (a1_1 : ByteArray) (a1_2 : ByteArray) (a1_3 : ByteArray) (a1_4 : ByteArray) (a1_5 : ByteArray) (a1_6 : ByteArray) (a1_7 : ByteArray) (a1_8 : ByteArray) (r : Bool) (w : World) (hr0 : Kd.C k38 w A0 l0.length l0) (hc0 : l0.length ≤ c0) (h : laws_FnListMarkdownLines.f k l0 a1_0 a1_1 a1_2 a1_3 a1_4 a1_5 a1_6 a1_7 a1_8 = some r) :
    Calls Tryd.prog 5 #[.slice A0 l0.length c0, .agg #[.int .i64 a1_0, .string a1_1, .string a1_2, .string a1_3, .string a1_4, .string a1_5, .string a1_6, .string a1_7, .string a1_8]] w fun e w' => e = .returned (.bool r) ∧ Below w.heap.size w w' := by
  have hu24 := Tryd.underlying24
  have hu38 := Tryd.underlying38
  have HR0 := Aside0.mk hr0
  have HC0 := Aside0.mk hc0
  clear hr0 hc0
  have HB := Aside0.mk (Below.refl w.heap.size w)
  have H : ((laws_zzFits1.f k l0).bind fun t172 => (if t172 = true then ((laws_zzFits3.f a1_0 a1_1 a1_2 a1_3 a1_4 a1_5 a1_6 a1_7 a1_8).bind fun t173 => (laws_FnListMarkdownLines.j0 k l0 (!t173) a1_0 a1_1 a1_2 a1_3 a1_4 a1_5 a1_6 a1_7 a1_8)) else (laws_FnListMarkdownLines.j0 k l0 true a1_0 a1_1 a1_2 a1_3 a1_4 a1_5 a1_6 a1_7 a1_8))) = some r := h
  clear h
  have HC3 := Aside0.mk H
  clear H
  go_enter Tryd.func5, Tryd.ntmps5
  go_upto_region 1 with (first | ((with_reducible refine gate_dst (N := 3) rfl ?_); (try (refine gate_guard (by rfl) ?_; dsimp only)); refine box_event ?hg (N := 3) ?hd (cs := #[.int .i64 a1_0, .string a1_1, .string a1_2, .string a1_3, .string a1_4, .string a1_5, .string a1_6, .string a1_7, .string a1_8]) (t := 24) ?hr ?_; (case hd => rfl); (case hg => rfl); (case hr => first | (go_simp; done) | (go_simp; rfl)); intro gb171 hg w4 hbox hb; have n0_ := Aside0.mk (below_step (by repeat (first | (with_reducible first | exact HB.out | apply below_alloc | apply pw_below_drewN | apply below_drew1) | exact HB.out)) hb); have n1_ := Aside0.mk (hbox); have n2_ := Aside0.mk ((by rw [hg]; exact (below_size (by repeat (first | (with_reducible first | exact HB.out | apply below_alloc | apply pw_below_drewN | apply below_drew1) | exact HB.out))) : w.heap.size ≤ gb171)); have n3_ := Aside0.mk ((by rw [hg]; exact (below_size (by repeat (first | (with_reducible first | exact HB.out | apply below_alloc | apply pw_below_drewN | apply below_drew1) | exact HB.out))) : w.heap.size ≤ gb171)); clear HB; have HB := n0_; have BK171 := n1_; have GW171 := n2_; have GE171 := n3_; clear n0_ n1_ n2_ n3_; clear hb hbox hg))
  (try simp only [Act.put, List.setIfInBounds_toArray, List.set_cons_zero, List.set_cons_succ])
  go_cut [15] (fun v15 wc => ∃ (kq : Nat) (x15_2 : Bool), v15 = .bool x15_2 ∧ Aside0 (laws_FnListMarkdownLines.j0 kq l0 x15_2 a1_0 a1_1 a1_2 a1_3 a1_4 a1_5 a1_6 a1_7 a1_8 = some r) ∧ Aside0 (kq ≤ k) ∧ Aside0 (wc.heap[gb171]? = some (.cells #[.int .i64 a1_0, .string a1_1, .string a1_2, .string a1_3, .string a1_4, .string a1_5, .string a1_6, .string a1_7, .string a1_8] 24 (0, 0))) ∧ Aside0 (Below w.heap.size w wc))
  case first =>
    have H := HC3.out
    clear HC3
    replace H := Option.bind_eq_some_iff.mp H
    obtain ⟨t172, A50, H⟩ := H
    replace H : (if t172 = true then ((laws_zzFits3.f a1_0 a1_1 a1_2 a1_3 a1_4 a1_5 a1_6 a1_7 a1_8).bind fun t173 => (laws_FnListMarkdownLines.j0 k l0 (!t173) a1_0 a1_1 a1_2 a1_3 a1_4 a1_5 a1_6 a1_7 a1_8)) else (laws_FnListMarkdownLines.j0 k l0 true a1_0 a1_1 a1_2 a1_3 a1_4 a1_5 a1_6 a1_7 a1_8)) = some r := H
    have A5 := Aside0.mk A50
    clear A50
    by_cases c6 : t172 = true
    · subst c6
      have H1 : ((laws_zzFits3.f a1_0 a1_1 a1_2 a1_3 a1_4 a1_5 a1_6 a1_7 a1_8).bind fun t173 => (laws_FnListMarkdownLines.j0 k l0 (!t173) a1_0 a1_1 a1_2 a1_3 a1_4 a1_5 a1_6 a1_7 a1_8)) = some r := by rw [if_pos rfl] at H; exact H
      clear H
      have H := H1
      clear H1
      replace H := Option.bind_eq_some_iff.mp H
      obtain ⟨t173, A70, H⟩ := H
      replace H : (laws_FnListMarkdownLines.j0 k l0 (!t173) a1_0 a1_1 a1_2 a1_3 a1_4 a1_5 a1_6 a1_7 a1_8) = some r := H
      have A7 := Aside0.mk A70
      clear A70
      have H' := Aside0.mk H
      clear H
      go_wp2_with (first | ((with_reducible refine gate_callee (f := 6) rfl ?_); refine goesL_ (some 9) rfl rfl Tryd.func6 (by kernel_rfl) rfl #[.slice A0 l0.length c0] rfl (by (try simp only [List.map_toArray, List.map_cons, List.map_nil]); first | done | rfl | (simp only [List.length_drop, List.length_take]; rfl)) ?_; (with_reducible refine (laws_zzFits1.calls k _ _ l0 true _ ?side1 ?side2 A5.out).mono ?_); (case side1 => repeat (first | exact (Kd.C_below HR0.out HB.out) | (with_reducible refine Kd.C_alloc ?_ _) | (with_reducible refine Kd.C_drewN ?_ _) | (with_reducible refine Kd.C_drew ?_))); (case side2 => exact HC0.out); rintro e w8 ⟨rfl, hb⟩; refine ⟨_, rfl, ?_⟩; have n0_ := Aside0.mk (blk_below (g := gb171) (o := .cells #[.int .i64 a1_0, .string a1_1, .string a1_2, .string a1_3, .string a1_4, .string a1_5, .string a1_6, .string a1_7, .string a1_8] 24 (0, 0)) (by (with_reducible repeat (first | refine blk_drewN ?_ _ | refine blk_drew ?_ | refine blk_alloc ?_ _)); exact BK171.out) hb); have n1_ := Aside0.mk (below_step (by repeat (first | (with_reducible first | exact HB.out | apply below_alloc | apply pw_below_drewN | apply below_drew1 | refine below_set ?_ GE171.out) | exact HB.out)) hb); clear BK171; clear HB; have BK171 := n0_; have HB := n1_; clear n0_ n1_; (try clear hb); (try clear hb2); (try clear hk); (try clear hi); have hcz9_0 : w8.cell? ⟨gb171, 0, none⟩ = some (.int .i64 a1_0) := (blk_cell BK171.out 0).trans rfl; have hcz9_1 : w8.cell? ⟨gb171, 1, none⟩ = some (.string a1_1) := (blk_cell BK171.out 1).trans rfl; have hcz9_2 : w8.cell? ⟨gb171, 2, none⟩ = some (.string a1_2) := (blk_cell BK171.out 2).trans rfl; have hcz9_3 : w8.cell? ⟨gb171, 3, none⟩ = some (.string a1_3) := (blk_cell BK171.out 3).trans rfl; have hcz9_4 : w8.cell? ⟨gb171, 4, none⟩ = some (.string a1_4) := (blk_cell BK171.out 4).trans rfl; have hcz9_5 : w8.cell? ⟨gb171, 5, none⟩ = some (.string a1_5) := (blk_cell BK171.out 5).trans rfl; have hcz9_6 : w8.cell? ⟨gb171, 6, none⟩ = some (.string a1_6) := (blk_cell BK171.out 6).trans rfl; have hcz9_7 : w8.cell? ⟨gb171, 7, none⟩ = some (.string a1_7) := (blk_cell BK171.out 7).trans rfl; have hcz9_8 : w8.cell? ⟨gb171, 8, none⟩ = some (.string a1_8) := (blk_cell BK171.out 8).trans rfl; have hfz9_0 := blk_frozen BK171.out 0; have hfz9_1 := blk_frozen BK171.out 1; have hfz9_2 := blk_frozen BK171.out 2; have hfz9_3 := blk_frozen BK171.out 3; have hfz9_4 := blk_frozen BK171.out 4; have hfz9_5 := blk_frozen BK171.out 5; have hfz9_6 := blk_frozen BK171.out 6; have hfz9_7 := blk_frozen BK171.out 7; have hfz9_8 := blk_frozen BK171.out 8) | (go_at_call 7; (with_reducible refine (laws_zzFits3.calls a1_0 a1_1 a1_2 a1_3 a1_4 a1_5 a1_6 a1_7 a1_8 t173 _ A7.out).mono ?_); rintro e w10 ⟨rfl, hb⟩; have n0_ := Aside0.mk (blk_below (g := gb171) (o := .cells #[.int .i64 a1_0, .string a1_1, .string a1_2, .string a1_3, .string a1_4, .string a1_5, .string a1_6, .string a1_7, .string a1_8] 24 (0, 0)) (by (with_reducible repeat (first | refine blk_drewN ?_ _ | refine blk_drew ?_ | refine blk_alloc ?_ _)); exact BK171.out) hb); have n1_ := Aside0.mk (below_step (by repeat (first | (with_reducible first | exact HB.out | apply below_alloc | apply pw_below_drewN | apply below_drew1 | refine below_set ?_ GE171.out) | exact HB.out)) hb); clear BK171; clear HB; have BK171 := n0_; have HB := n1_; clear n0_ n1_; (try clear hb); (try clear hb2); (try clear hk); (try clear hi)))
      go_meet
      case rel => exact ⟨_, (!t173), (by first | rfl | (simp; done) | (simp [*]; done)), H', ⟨by first | omega | exact Nat.le_refl _⟩, ⟨by (with_reducible repeat (first | refine blk_drewN ?_ _ | refine blk_drew ?_ | refine blk_alloc ?_ _)); exact BK171.out⟩, ⟨by repeat (first | (with_reducible first | exact HB.out | apply below_alloc | apply pw_below_drewN | apply below_drew1 | refine below_set ?_ GE171.out) | exact HB.out)⟩⟩
    · replace c6 := Bool.eq_false_iff.mpr c6
      subst c6
      have H1 : (laws_FnListMarkdownLines.j0 k l0 true a1_0 a1_1 a1_2 a1_3 a1_4 a1_5 a1_6 a1_7 a1_8) = some r := by rw [if_neg (show ¬ (false = true) by decide)] at H; exact H
      clear H
      have H := H1
      clear H1
      have H' := Aside0.mk H
      clear H
      go_wp2_with (first | ((with_reducible refine gate_callee (f := 6) rfl ?_); refine goesL_ (some 9) rfl rfl Tryd.func6 (by kernel_rfl) rfl #[.slice A0 l0.length c0] rfl (by (try simp only [List.map_toArray, List.map_cons, List.map_nil]); first | done | rfl | (simp only [List.length_drop, List.length_take]; rfl)) ?_; (with_reducible refine (laws_zzFits1.calls k _ _ l0 false _ ?side1 ?side2 A5.out).mono ?_); (case side1 => repeat (first | exact (Kd.C_below HR0.out HB.out) | (with_reducible refine Kd.C_alloc ?_ _) | (with_reducible refine Kd.C_drewN ?_ _) | (with_reducible refine Kd.C_drew ?_))); (case side2 => exact HC0.out); rintro e w11 ⟨rfl, hb⟩; refine ⟨_, rfl, ?_⟩; have n0_ := Aside0.mk (blk_below (g := gb171) (o := .cells #[.int .i64 a1_0, .string a1_1, .string a1_2, .string a1_3, .string a1_4, .string a1_5, .string a1_6, .string a1_7, .string a1_8] 24 (0, 0)) (by (with_reducible repeat (first | refine blk_drewN ?_ _ | refine blk_drew ?_ | refine blk_alloc ?_ _)); exact BK171.out) hb); have n1_ := Aside0.mk (below_step (by repeat (first | (with_reducible first | exact HB.out | apply below_alloc | apply pw_below_drewN | apply below_drew1 | refine below_set ?_ GE171.out) | exact HB.out)) hb); clear BK171; clear HB; have BK171 := n0_; have HB := n1_; clear n0_ n1_; (try clear hb); (try clear hb2); (try clear hk); (try clear hi)))
      go_meet
      case rel => exact ⟨_, (true), (by first | rfl | (simp; done) | (simp [*]; done)), H', ⟨by first | omega | exact Nat.le_refl _⟩, ⟨by (with_reducible repeat (first | refine blk_drewN ?_ _ | refine blk_drew ?_ | refine blk_alloc ?_ _)); exact BK171.out⟩, ⟨by repeat (first | (with_reducible first | exact HB.out | apply below_alloc | apply pw_below_drewN | apply below_drew1 | refine below_set ?_ GE171.out) | exact HB.out)⟩⟩
  case rest =>
    clear HC3
    try clear p2
    try clear c5
    try clear c6
    try clear hcz9_0
    try clear hcz9_1
    try clear hcz9_2
    try clear hcz9_3
    try clear hcz9_4
    try clear hcz9_5
    try clear hcz9_6
    try clear hcz9_7
    try clear hcz9_8
    try clear hfz9_0
    try clear hfz9_1
    try clear hfz9_2
    try clear hfz9_3
    try clear hfz9_4
    try clear hfz9_5
    try clear hfz9_6
    try clear hfz9_7
    try clear hfz9_8
    obtain ⟨kq, x15_2, rfl, HA, HJ2, BK171, HB⟩ := hcut
    cases kq with
    | zero => exact absurd HA.out (by simp [laws_FnListMarkdownLines.j0])
    | succ kj2 =>
      have H := HA.out
      clear HA
      simp only [laws_FnListMarkdownLines.j0] at H
      by_cases c12 : x15_2 = true
      · subst c12
        have H1 : (some true) = some r := by rw [if_pos rfl] at H; exact H
        clear H
        have H := H1
        clear H1
        obtain rfl := Option.some.inj H
        go_wp2
        go_ret
        exact ⟨by first | rfl | (simp [errW_none, errW_some] <;> rfl) | (simp [*, errW_none, errW_some] <;> rfl), by repeat (first | (with_reducible first | exact HB.out | apply below_alloc | apply pw_below_drewN | apply below_drew1 | refine below_set ?_ GE171.out) | exact HB.out)⟩
      · replace c12 := Bool.eq_false_iff.mpr c12
        subst c12
        have H1 : ((spec_LsRight.f kj2 l0).bind fun t174 => (if t174 = true then (if (l0.length : Int) = 0 then (laws_FnListMarkdownLines.j1 kj2 l0 true a1_0 a1_1 a1_2 a1_3 a1_4 a1_5 a1_6 a1_7 a1_8) else ((spec_LsStyled.f kj2 a1_0 a1_1 a1_2 a1_3 a1_4 a1_5 a1_6 a1_7 a1_8).bind fun t175 => (laws_FnListMarkdownLines.j1 kj2 l0 (!t175) a1_0 a1_1 a1_2 a1_3 a1_4 a1_5 a1_6 a1_7 a1_8))) else (laws_FnListMarkdownLines.j1 kj2 l0 true a1_0 a1_1 a1_2 a1_3 a1_4 a1_5 a1_6 a1_7 a1_8))) = some r := by rw [if_neg (show ¬ (false = true) by decide)] at H; exact H
        clear H
        have H := H1
        clear H1
        have HC13 := Aside0.mk H
        clear H
        go_upto_region 3 with (fail)
        go_cut [28] (fun v28 wc => ∃ (kq : Nat) (x28_12 : Bool), v28 = .bool x28_12 ∧ Aside0 (laws_FnListMarkdownLines.j1 kq l0 x28_12 a1_0 a1_1 a1_2 a1_3 a1_4 a1_5 a1_6 a1_7 a1_8 = some r) ∧ Aside0 (kq ≤ kj2) ∧ Aside0 (wc.heap[gb171]? = some (.cells #[.int .i64 a1_0, .string a1_1, .string a1_2, .string a1_3, .string a1_4, .string a1_5, .string a1_6, .string a1_7, .string a1_8] 24 (0, 0))) ∧ Aside0 (Below w.heap.size w wc))
        case first =>
          have H := HC13.out
          clear HC13
          replace H := Option.bind_eq_some_iff.mp H
          obtain ⟨t174, A140, H⟩ := H
          replace H : (if t174 = true then (if (l0.length : Int) = 0 then (laws_FnListMarkdownLines.j1 kj2 l0 true a1_0 a1_1 a1_2 a1_3 a1_4 a1_5 a1_6 a1_7 a1_8) else ((spec_LsStyled.f kj2 a1_0 a1_1 a1_2 a1_3 a1_4 a1_5 a1_6 a1_7 a1_8).bind fun t175 => (laws_FnListMarkdownLines.j1 kj2 l0 (!t175) a1_0 a1_1 a1_2 a1_3 a1_4 a1_5 a1_6 a1_7 a1_8))) else (laws_FnListMarkdownLines.j1 kj2 l0 true a1_0 a1_1 a1_2 a1_3 a1_4 a1_5 a1_6 a1_7 a1_8)) = some r := H
          have A14 := Aside0.mk A140
          clear A140
          by_cases c15 : t174 = true
          · subst c15
            have H1 : (if (l0.length : Int) = 0 then (laws_FnListMarkdownLines.j1 kj2 l0 true a1_0 a1_1 a1_2 a1_3 a1_4 a1_5 a1_6 a1_7 a1_8) else ((spec_LsStyled.f kj2 a1_0 a1_1 a1_2 a1_3 a1_4 a1_5 a1_6 a1_7 a1_8).bind fun t175 => (laws_FnListMarkdownLines.j1 kj2 l0 (!t175) a1_0 a1_1 a1_2 a1_3 a1_4 a1_5 a1_6 a1_7 a1_8))) = some r := by rw [if_pos rfl] at H; exact H
            clear H
            have H := H1
            clear H1
            by_cases c16 : (l0.length : Int) = 0
            · rw [if_pos c16] at H
              have c16b0 : ((l0.length : Int) == 0) = true := beq_iff_eq.mpr c16
              have c16b1 : ((l0.length : Int) != 0) = false := bne_eq_false_iff_eq.mpr c16
              clear c16
              (first | rw [c16b0] | (simp only [i64_w, i32_w]; rw [c16b0]) | skip)
              have H' := Aside0.mk H
              clear H
              go_wp2_with (first | ((with_reducible refine gate_callee (f := 8) rfl ?_); refine goesL_ (some 17) rfl rfl Tryd.func8 (by kernel_rfl) rfl #[.slice A0 l0.length c0] rfl (by (try simp only [List.map_toArray, List.map_cons, List.map_nil]); first | done | rfl | (simp only [List.length_drop, List.length_take]; rfl)) ?_; (with_reducible refine (spec_LsRight.calls kj2 _ _ l0 true _ ?side1 ?side2 A14.out).mono ?_); (case side1 => repeat (first | exact (Kd.C_below HR0.out HB.out) | (with_reducible refine Kd.C_alloc ?_ _) | (with_reducible refine Kd.C_drewN ?_ _) | (with_reducible refine Kd.C_drew ?_))); (case side2 => exact HC0.out); rintro e w17 ⟨rfl, hb⟩; refine ⟨_, rfl, ?_⟩; have n0_ := Aside0.mk (blk_below (g := gb171) (o := .cells #[.int .i64 a1_0, .string a1_1, .string a1_2, .string a1_3, .string a1_4, .string a1_5, .string a1_6, .string a1_7, .string a1_8] 24 (0, 0)) (by (with_reducible repeat (first | refine blk_drewN ?_ _ | refine blk_drew ?_ | refine blk_alloc ?_ _)); exact BK171.out) hb); have n1_ := Aside0.mk (below_step (by repeat (first | (with_reducible first | exact HB.out | apply below_alloc | apply pw_below_drewN | apply below_drew1 | refine below_set ?_ GE171.out) | exact HB.out)) hb); clear BK171; clear HB; have BK171 := n0_; have HB := n1_; clear n0_ n1_; (try clear hb); (try clear hb2); (try clear hk); (try clear hi)))
              go_meet
              case rel => exact ⟨_, (true), (by first | rfl | (simp; done) | (simp [*]; done)), H', ⟨by have := HJ2.out; first | omega | exact Nat.le_refl _⟩, ⟨by (with_reducible repeat (first | refine blk_drewN ?_ _ | refine blk_drew ?_ | refine blk_alloc ?_ _)); exact BK171.out⟩, ⟨by repeat (first | (with_reducible first | exact HB.out | apply below_alloc | apply pw_below_drewN | apply below_drew1 | refine below_set ?_ GE171.out) | exact HB.out)⟩⟩
            · rw [if_neg c16] at H
              have c16b0 : ((l0.length : Int) == 0) = false := beq_eq_false_iff_ne.mpr c16
              have c16b1 : ((l0.length : Int) != 0) = true := bne_iff_ne.mpr c16
              have c16b2 : ¬ (l0 = []) := fun h_ => c16 (by rw [h_]; rfl)
              (first | rw [c16b0] | (simp only [i64_w, i32_w]; rw [c16b0]) | skip)
              replace H := Option.bind_eq_some_iff.mp H
              obtain ⟨t175, A180, H⟩ := H
              replace H : (laws_FnListMarkdownLines.j1 kj2 l0 (!t175) a1_0 a1_1 a1_2 a1_3 a1_4 a1_5 a1_6 a1_7 a1_8) = some r := H
              have A18 := Aside0.mk A180
              clear A180
              have H' := Aside0.mk H
              clear H
              go_wp2_with (first | ((with_reducible refine gate_callee (f := 8) rfl ?_); refine goesL_ (some 17) rfl rfl Tryd.func8 (by kernel_rfl) rfl #[.slice A0 l0.length c0] rfl (by (try simp only [List.map_toArray, List.map_cons, List.map_nil]); first | done | rfl | (simp only [List.length_drop, List.length_take]; rfl)) ?_; (with_reducible refine (spec_LsRight.calls kj2 _ _ l0 true _ ?side1 ?side2 A14.out).mono ?_); (case side1 => repeat (first | exact (Kd.C_below HR0.out HB.out) | (with_reducible refine Kd.C_alloc ?_ _) | (with_reducible refine Kd.C_drewN ?_ _) | (with_reducible refine Kd.C_drew ?_))); (case side2 => exact HC0.out); rintro e w19 ⟨rfl, hb⟩; refine ⟨_, rfl, ?_⟩; have n0_ := Aside0.mk (blk_below (g := gb171) (o := .cells #[.int .i64 a1_0, .string a1_1, .string a1_2, .string a1_3, .string a1_4, .string a1_5, .string a1_6, .string a1_7, .string a1_8] 24 (0, 0)) (by (with_reducible repeat (first | refine blk_drewN ?_ _ | refine blk_drew ?_ | refine blk_alloc ?_ _)); exact BK171.out) hb); have n1_ := Aside0.mk (below_step (by repeat (first | (with_reducible first | exact HB.out | apply below_alloc | apply pw_below_drewN | apply below_drew1 | refine below_set ?_ GE171.out) | exact HB.out)) hb); clear BK171; clear HB; have BK171 := n0_; have HB := n1_; clear n0_ n1_; (try clear hb); (try clear hb2); (try clear hk); (try clear hi); have hcz20_0 : w19.cell? ⟨gb171, 0, none⟩ = some (.int .i64 a1_0) := (blk_cell BK171.out 0).trans rfl; have hcz20_1 : w19.cell? ⟨gb171, 1, none⟩ = some (.string a1_1) := (blk_cell BK171.out 1).trans rfl; have hcz20_2 : w19.cell? ⟨gb171, 2, none⟩ = some (.string a1_2) := (blk_cell BK171.out 2).trans rfl; have hcz20_3 : w19.cell? ⟨gb171, 3, none⟩ = some (.string a1_3) := (blk_cell BK171.out 3).trans rfl; have hcz20_4 : w19.cell? ⟨gb171, 4, none⟩ = some (.string a1_4) := (blk_cell BK171.out 4).trans rfl; have hcz20_5 : w19.cell? ⟨gb171, 5, none⟩ = some (.string a1_5) := (blk_cell BK171.out 5).trans rfl; have hcz20_6 : w19.cell? ⟨gb171, 6, none⟩ = some (.string a1_6) := (blk_cell BK171.out 6).trans rfl; have hcz20_7 : w19.cell? ⟨gb171, 7, none⟩ = some (.string a1_7) := (blk_cell BK171.out 7).trans rfl; have hcz20_8 : w19.cell? ⟨gb171, 8, none⟩ = some (.string a1_8) := (blk_cell BK171.out 8).trans rfl; have hfz20_0 := blk_frozen BK171.out 0; have hfz20_1 := blk_frozen BK171.out 1; have hfz20_2 := blk_frozen BK171.out 2; have hfz20_3 := blk_frozen BK171.out 3; have hfz20_4 := blk_frozen BK171.out 4; have hfz20_5 := blk_frozen BK171.out 5; have hfz20_6 := blk_frozen BK171.out 6; have hfz20_7 := blk_frozen BK171.out 7; have hfz20_8 := blk_frozen BK171.out 8) | (go_at_call 9; (with_reducible refine (spec_LsStyled.calls kj2 a1_0 a1_1 a1_2 a1_3 a1_4 a1_5 a1_6 a1_7 a1_8 t175 _ A18.out).mono ?_); rintro e w21 ⟨rfl, hb⟩; have n0_ := Aside0.mk (blk_below (g := gb171) (o := .cells #[.int .i64 a1_0, .string a1_1, .string a1_2, .string a1_3, .string a1_4, .string a1_5, .string a1_6, .string a1_7, .string a1_8] 24 (0, 0)) (by (with_reducible repeat (first | refine blk_drewN ?_ _ | refine blk_drew ?_ | refine blk_alloc ?_ _)); exact BK171.out) hb); have n1_ := Aside0.mk (below_step (by repeat (first | (with_reducible first | exact HB.out | apply below_alloc | apply pw_below_drewN | apply below_drew1 | refine below_set ?_ GE171.out) | exact HB.out)) hb); clear BK171; clear HB; have BK171 := n0_; have HB := n1_; clear n0_ n1_; (try clear hb); (try clear hb2); (try clear hk); (try clear hi)))
              go_meet
              case rel => exact ⟨_, (!t175), (by first | rfl | (simp; done) | (simp [*]; done)), H', ⟨by have := HJ2.out; first | omega | exact Nat.le_refl _⟩, ⟨by (with_reducible repeat (first | refine blk_drewN ?_ _ | refine blk_drew ?_ | refine blk_alloc ?_ _)); exact BK171.out⟩, ⟨by repeat (first | (with_reducible first | exact HB.out | apply below_alloc | apply pw_below_drewN | apply below_drew1 | refine below_set ?_ GE171.out) | exact HB.out)⟩⟩
          · replace c15 := Bool.eq_false_iff.mpr c15
            subst c15
            have H1 : (laws_FnListMarkdownLines.j1 kj2 l0 true a1_0 a1_1 a1_2 a1_3 a1_4 a1_5 a1_6 a1_7 a1_8) = some r := by rw [if_neg (show ¬ (false = true) by decide)] at H; exact H
            clear H
            have H := H1
            clear H1
            have H' := Aside0.mk H
            clear H
            go_wp2_with (first | ((with_reducible refine gate_callee (f := 8) rfl ?_); refine goesL_ (some 17) rfl rfl Tryd.func8 (by kernel_rfl) rfl #[.slice A0 l0.length c0] rfl (by (try simp only [List.map_toArray, List.map_cons, List.map_nil]); first | done | rfl | (simp only [List.length_drop, List.length_take]; rfl)) ?_; (with_reducible refine (spec_LsRight.calls kj2 _ _ l0 false _ ?side1 ?side2 A14.out).mono ?_); (case side1 => repeat (first | exact (Kd.C_below HR0.out HB.out) | (with_reducible refine Kd.C_alloc ?_ _) | (with_reducible refine Kd.C_drewN ?_ _) | (with_reducible refine Kd.C_drew ?_))); (case side2 => exact HC0.out); rintro e w22 ⟨rfl, hb⟩; refine ⟨_, rfl, ?_⟩; have n0_ := Aside0.mk (blk_below (g := gb171) (o := .cells #[.int .i64 a1_0, .string a1_1, .string a1_2, .string a1_3, .string a1_4, .string a1_5, .string a1_6, .string a1_7, .string a1_8] 24 (0, 0)) (by (with_reducible repeat (first | refine blk_drewN ?_ _ | refine blk_drew ?_ | refine blk_alloc ?_ _)); exact BK171.out) hb); have n1_ := Aside0.mk (below_step (by repeat (first | (with_reducible first | exact HB.out | apply below_alloc | apply pw_below_drewN | apply below_drew1 | refine below_set ?_ GE171.out) | exact HB.out)) hb); clear BK171; clear HB; have BK171 := n0_; have HB := n1_; clear n0_ n1_; (try clear hb); (try clear hb2); (try clear hk); (try clear hi)))
            go_meet
            case rel => exact ⟨_, (true), (by first | rfl | (simp; done) | (simp [*]; done)), H', ⟨by have := HJ2.out; first | omega | exact Nat.le_refl _⟩, ⟨by (with_reducible repeat (first | refine blk_drewN ?_ _ | refine blk_drew ?_ | refine blk_alloc ?_ _)); exact BK171.out⟩, ⟨by repeat (first | (with_reducible first | exact HB.out | apply below_alloc | apply pw_below_drewN | apply below_drew1 | refine below_set ?_ GE171.out) | exact HB.out)⟩⟩
        case rest =>
          clear HC13
          try clear c1
          try clear p2
          try clear c5
          try clear c6
          try clear c8
          try clear c12
          try clear c15
          try clear c16
          try clear c16b0
          try clear c16b1
          try clear c16b2
          try clear hcz20_0
          try clear hcz20_1
          try clear hcz20_2
          try clear hcz20_3
          try clear hcz20_4
          try clear hcz20_5
          try clear hcz20_6
          try clear hcz20_7
          try clear hcz20_8
          try clear hcz9_0
          try clear hcz9_1
          try clear hcz9_2
          try clear hcz9_3
          try clear hcz9_4
          try clear hcz9_5
          try clear hcz9_6
          try clear hcz9_7
          try clear hcz9_8
          try clear hfz20_0
          try clear hfz20_1
          try clear hfz20_2
          try clear hfz20_3
          try clear hfz20_4
          try clear hfz20_5
          try clear hfz20_6
          try clear hfz20_7
          try clear hfz20_8
          try clear hfz9_0
          try clear hfz9_1
          try clear hfz9_2
          try clear hfz9_3
          try clear hfz9_4
          try clear hfz9_5
          try clear hfz9_6
          try clear hfz9_7
          try clear hfz9_8
          try clear p2
          obtain ⟨kq, x28_12, rfl, HA, HJ12, BK171, HB⟩ := hcut
          cases kq with
          | zero => exact absurd HA.out (by simp [laws_FnListMarkdownLines.j1])
          | succ kj12 =>
            have H := HA.out
            clear HA
            simp only [laws_FnListMarkdownLines.j1] at H
            by_cases c23 : x28_12 = true
            · subst c23
              have H1 : (some true) = some r := by rw [if_pos rfl] at H; exact H
              clear H
              have H := H1
              clear H1
              obtain rfl := Option.some.inj H
              go_wp2
              go_ret
              exact ⟨by first | rfl | (simp [errW_none, errW_some] <;> rfl) | (simp [*, errW_none, errW_some] <;> rfl), by repeat (first | (with_reducible first | exact HB.out | apply below_alloc | apply pw_below_drewN | apply below_drew1 | refine below_set ?_ GE171.out) | exact HB.out)⟩
            · replace c23 := Bool.eq_false_iff.mpr c23
              subst c23
              have H1 : (laws_FnListMarkdownLines.l0 kj12 l0 ([] : List ByteArray) l0 (l0.length : Int) 0 a1_0 a1_1 a1_2 a1_3 a1_4 a1_5 a1_6 a1_7 a1_8) = some r := by rw [if_neg (show ¬ (false = true) by decide)] at H; exact H
              clear H
              have H := H1
              clear H1
              have H' := Aside0.mk H
              clear H
              go_wp2
              (try simp only [Act.put, List.setIfInBounds_toArray, List.set_cons_zero, List.set_cons_succ])
              go_loopg [5, 31] kj12 (fun kq v5 v31 w' => ∃ (x5_3 : List ByteArray) (x31_3 : Int), v31 = .int .i64 x31_3 ∧ Aside0 (laws_FnListMarkdownLines.l0 kq l0 x5_3 l0 (l0.length : Int) x31_3 a1_0 a1_1 a1_2 a1_3 a1_4 a1_5 a1_6 a1_7 a1_8 = some r) ∧ Aside0 (kq ≤ kj12) ∧ Aside0 (Kd.R Kd.string 9 w' w.heap.size (fun _ => True) v5 x5_3) ∧ Aside0 (w'.heap[gb171]? = some (.cells #[.int .i64 a1_0, .string a1_1, .string a1_2, .string a1_3, .string a1_4, .string a1_5, .string a1_6, .string a1_7, .string a1_8] 24 (0, 0))) ∧ Aside0 (Below w.heap.size w w'))
              case atStart => exact ⟨(([] : List ByteArray)), (0), (by first | rfl | (simp; done) | (simp [*]; done)), H', ⟨Nat.le_refl _⟩, ⟨by first | exact Kd.R_nil _ _ _ _ _ | exact Kd.N_nil _ _ _ _ _ | exact Kd.V_nil _ _ _ _ _ | exact Kd.Q_nil _ _ _ _ _ | exact Kd.S_nil _ _ _ _ _⟩, ⟨by (with_reducible repeat (first | refine blk_drewN ?_ _ | refine blk_drew ?_ | refine blk_alloc ?_ _)); exact BK171.out⟩, ⟨by repeat (first | (with_reducible first | exact HB.out | apply below_alloc | apply pw_below_drewN | apply below_drew1 | refine below_set ?_ GE171.out) | exact HB.out)⟩⟩
              case round =>
                clear H'
                try clear c1
                try clear c2
                try clear p2
                try clear c5
                try clear c6
                try clear c8
                try clear c12
                try clear c15
                try clear c16
                try clear c16b0
                try clear c16b1
                try clear c16b2
                try clear c23
                try clear hcz20_0
                try clear hcz20_1
                try clear hcz20_2
                try clear hcz20_3
                try clear hcz20_4
                try clear hcz20_5
                try clear hcz20_6
                try clear hcz20_7
                try clear hcz20_8
                try clear hcz9_0
                try clear hcz9_1
                try clear hcz9_2
                try clear hcz9_3
                try clear hcz9_4
                try clear hcz9_5
                try clear hcz9_6
                try clear hcz9_7
                try clear hcz9_8
                try clear hfz20_0
                try clear hfz20_1
                try clear hfz20_2
                try clear hfz20_3
                try clear hfz20_4
                try clear hfz20_5
                try clear hfz20_6
                try clear hfz20_7
                try clear hfz20_8
                try clear hfz9_0
                try clear hfz9_1
                try clear hfz9_2
                try clear hfz9_3
                try clear hfz9_4
                try clear hfz9_5
                try clear hfz9_6
                try clear hfz9_7
                try clear hfz9_8
                try clear p2
                obtain ⟨x5_3, x31_3, rfl, HA, HK3, HO_5, BK171, HB⟩ := hrel
                cases gk with
                | zero => exact absurd HA.out (by simp [laws_FnListMarkdownLines.l0])
                | succ k3 =>
                  have H := HA.out
                  clear HA
                  simp only [laws_FnListMarkdownLines.l0] at H
                  by_cases c24 : x31_3 < (l0.length : Int)
                  · rw [if_pos c24] at H
                    have c24b0 : decide (x31_3 < (l0.length : Int)) = true := decide_eq_true c24
                    clear c24
                    by_cases c25 : 0 ≤ x31_3
                    · rw [if_pos c25] at H
                      have c25b0 : decide (0 ≤ x31_3) = true := decide_eq_true c25
                      clear c25
                      by_cases c26 : x31_3 < (l0.length : Int)
                      · rw [if_pos c26] at H
                        have c26b0 : decide (x31_3 < (l0.length : Int)) = true := decide_eq_true c26
                        clear c26
                        replace H := Option.bind_eq_some_iff.mp H
                        obtain ⟨t178, A270, H⟩ := H
                        replace H : (if 2 + t178.size ≤ 9223372036854775807 then (if ((⟨#[32, 32]⟩ : ByteArray) ++ t178).size + 2 ≤ 9223372036854775807 then (if (((⟨#[32, 32]⟩ : ByteArray) ++ t178) ++ (⟨#[42, 32]⟩ : ByteArray)).size + ((rd_T38 l0 x31_3).f0).size ≤ 9223372036854775807 then (if x5_3.length < 8796093022208 then (laws_FnListMarkdownLines.l0 k3 l0 (x5_3 ++ [(((⟨#[32, 32]⟩ : ByteArray) ++ t178) ++ (⟨#[42, 32]⟩ : ByteArray)) ++ ((rd_T38 l0 x31_3).f0)]) l0 (l0.length : Int) (wrap64 (x31_3 + 1)) a1_0 a1_1 a1_2 a1_3 a1_4 a1_5 a1_6 a1_7 a1_8) else (none)) else (none)) else (none)) else (none)) = some r := H
                        have A27 := Aside0.mk A270
                        clear A270
                        by_cases c28 : 2 + t178.size ≤ 9223372036854775807
                        · rw [if_pos c28] at H
                          have c28b0 := eq_true c28
                          have c28b1 : decide (2 + t178.size ≤ 9223372036854775807) = true := decide_eq_true c28
                          try have c28b2 : (9223372036854775807 < 2 + t178.size) = False := eq_false (Nat.not_lt.2 c28)
                          by_cases c29 : ((⟨#[32, 32]⟩ : ByteArray) ++ t178).size + 2 ≤ 9223372036854775807
                          · rw [if_pos c29] at H
                            have c29b0 := eq_true c29
                            have c29b1 : decide (((⟨#[32, 32]⟩ : ByteArray) ++ t178).size + 2 ≤ 9223372036854775807) = true := decide_eq_true c29
                            have c29l : (9223372036854775807 < ((⟨#[32, 32]⟩ : ByteArray) ++ t178).size + 2) = False := eq_false (Nat.not_lt.2 c29)
                            try simp only [ByteArray.size_append, bytes_size_mk, List.size_toArray, List.length_cons, List.length_nil, Nat.zero_add, Nat.reduceAdd] at c29l
                            try have c29b2 : (9223372036854775807 < ((⟨#[32, 32]⟩ : ByteArray) ++ t178).size + 2) = False := eq_false (Nat.not_lt.2 c29)
                            by_cases c30 : (((⟨#[32, 32]⟩ : ByteArray) ++ t178) ++ (⟨#[42, 32]⟩ : ByteArray)).size + ((rd_T38 l0 x31_3).f0).size ≤ 9223372036854775807
                            · rw [if_pos c30] at H
                              have c30b0 := eq_true c30
                              have c30b1 : decide ((((⟨#[32, 32]⟩ : ByteArray) ++ t178) ++ (⟨#[42, 32]⟩ : ByteArray)).size + ((rd_T38 l0 x31_3).f0).size ≤ 9223372036854775807) = true := decide_eq_true c30
                              have c30l : (9223372036854775807 < (((⟨#[32, 32]⟩ : ByteArray) ++ t178) ++ (⟨#[42, 32]⟩ : ByteArray)).size + ((rd_T38 l0 x31_3).f0).size) = False := eq_false (Nat.not_lt.2 c30)
                              try simp only [ByteArray.size_append, bytes_size_mk, List.size_toArray, List.length_cons, List.length_nil, Nat.zero_add, Nat.reduceAdd] at c30l
                              try have c30b2 : (9223372036854775807 < (((⟨#[32, 32]⟩ : ByteArray) ++ t178) ++ (⟨#[42, 32]⟩ : ByteArray)).size + ((rd_T38 l0 x31_3).f0).size) = False := eq_false (Nat.not_lt.2 c30)
                              by_cases c31 : x5_3.length < 8796093022208
                              · rw [if_pos c31] at H
                                have LMc31 := Aside0.mk c31
                                clear c31
                                obtain ⟨y179, hy179⟩ : ∃ y_ : List ByteArray, y_ = (x5_3 ++ [(((⟨#[32, 32]⟩ : ByteArray) ++ t178) ++ (⟨#[42, 32]⟩ : ByteArray)) ++ ((rd_T38 l0 x31_3).f0)]) := ⟨_, rfl⟩
                                replace H : (laws_FnListMarkdownLines.l0 k3 l0 y179 l0 (l0.length : Int) (wrap64 (x31_3 + 1)) a1_0 a1_1 a1_2 a1_3 a1_4 a1_5 a1_6 a1_7 a1_8) = some r := by first | (rw [hy179]; with_reducible exact H) | (have H2_ := (Option.bind_some _ _).symm.trans H; rw [hy179]; with_reducible exact H2_) | (have H2_ := (Option.bind_some _ _).symm.trans H; with_reducible exact H2_) | with_reducible exact H | (rw [hy179]; exact H) | exact H
                                have Ny179 := Aside0.mk hy179
                                clear hy179
                                have H' := Aside0.mk H
                                clear H
                                have p176 : 0 ≤ (x31_3 : Int) := of_decide_eq_true (by first | (with_reducible assumption) | assumption)
                                have q176 : x31_3 < (l0.length : Int) := of_decide_eq_true (by first | (with_reducible assumption) | assumption)
                                obtain ⟨ad176, e176, hx176_0, hx176_1⟩ := at_T38 HR0.out x31_3 p176 q176
                                cases e176
                                replace hx176_0 := (HB.out.cell (World.block_lt_of_cell? w _ hx176_0)).trans hx176_0
                                replace hx176_1 := (HB.out.cell (World.block_lt_of_cell? w _ hx176_1)).trans hx176_1
                                replace p176 := eq_true p176
                                replace q176 := eq_true q176
                                try go_wp2_with (first | ((with_reducible refine gate_dst (N := 7) rfl ?_); (try (refine gate_guard (by rfl) ?_; dsimp only)); refine box_event ?hg (N := 7) ?hd (cs := #[.string (⟨#[]⟩ : ByteArray), .int .i64 0]) (t := 38) ?hr ?_; (case hd => rfl); (case hg => rfl); (case hr => first | (go_simp; done) | (go_simp; rfl)); intro gb177 hg w32 hbox hb; have n0_ := Aside0.mk (Kd.R_below (by (with_reducible repeat (first | apply Kd.R_alloc | apply Kd.R_drewN | apply Kd.R_drew)); exact HO_5.out) hb); have n1_ := Aside0.mk (blk_below (g := gb171) (o := .cells #[.int .i64 a1_0, .string a1_1, .string a1_2, .string a1_3, .string a1_4, .string a1_5, .string a1_6, .string a1_7, .string a1_8] 24 (0, 0)) (by (with_reducible repeat (first | refine blk_drewN ?_ _ | refine blk_drew ?_ | refine blk_alloc ?_ _)); exact BK171.out) hb); have n2_ := Aside0.mk (below_step (by repeat (first | (with_reducible first | exact HB.out | apply below_alloc | apply pw_below_drewN | apply below_drew1 | refine below_set ?_ GE171.out) | exact HB.out)) hb); have n3_ := Aside0.mk (hbox); have n4_ := Aside0.mk ((by rw [hg]; exact (below_size (by repeat (first | (with_reducible first | exact HB.out | apply below_alloc | apply pw_below_drewN | apply below_drew1 | refine below_set ?_ GE171.out) | exact HB.out))) : w.heap.size ≤ gb177)); have n5_ := Aside0.mk ((by rw [hg]; exact (below_size (by repeat (first | (with_reducible first | exact HB.out | apply below_alloc | apply pw_below_drewN | apply below_drew1 | refine below_set ?_ GE171.out) | exact HB.out))) : w.heap.size ≤ gb177)); have n6_ := Aside0.mk ((by rw [hg]; exact Nat.ne_of_lt (blk_lt (g := gb171) (o := .cells #[.int .i64 a1_0, .string a1_1, .string a1_2, .string a1_3, .string a1_4, .string a1_5, .string a1_6, .string a1_7, .string a1_8] 24 (0, 0)) (by (with_reducible repeat (first | refine blk_drewN ?_ _ | refine blk_drew ?_ | refine blk_alloc ?_ _)); exact BK171.out)) : gb171 ≠ gb177)); have n7_ := Aside0.mk ((by rw [hg]; exact Nat.ne_of_gt (blk_lt (g := gb171) (o := .cells #[.int .i64 a1_0, .string a1_1, .string a1_2, .string a1_3, .string a1_4, .string a1_5, .string a1_6, .string a1_7, .string a1_8] 24 (0, 0)) (by (with_reducible repeat (first | refine blk_drewN ?_ _ | refine blk_drew ?_ | refine blk_alloc ?_ _)); exact BK171.out)) : gb177 ≠ gb171)); clear HO_5; clear BK171; clear HB; have HO_5 := n0_; have BK171 := n1_; have HB := n2_; have BK177 := n3_; have GW177 := n4_; have GE177 := n5_; have NB171_177 := n6_; have NB177_171 := n7_; clear n0_ n1_ n2_ n3_ n4_ n5_ n6_ n7_; clear hb hbox hg; have hnb33 := NB177_171.out; have hnc33 := NB171_177.out; have hcz34_0 : w32.cell? ⟨gb177, 0, none⟩ = some (.string (⟨#[]⟩ : ByteArray)) := (blk_cell BK177.out 0).trans rfl; have hcz34_1 : w32.cell? ⟨gb177, 1, none⟩ = some (.int .i64 0) := (blk_cell BK177.out 1).trans rfl; have hfz34_0 := blk_frozen BK177.out 0; have hfz34_1 := blk_frozen BK177.out 1))
                                have n0_ : Aside0 (Kd.R Kd.string 9 ((w32.setCell ⟨gb177, 0, none⟩ (.string ((rd_T38 l0 x31_3).f0))).setCell ⟨gb177, 1, none⟩ (.int .i64 ((rd_T38 l0 x31_3).f1))) w.heap.size (fun _ => True) u5 x5_3) := ⟨by (with_reducible repeat (first | apply Kd.R_alloc | apply Kd.R_drewN | apply Kd.R_drew)); exact Kd.R_mono (Kd.R_far (p := ⟨gb177, 1, none⟩) (Kd.R_far (p := ⟨gb177, 0, none⟩) (Kd.R_types HO_5.out BK177.out (by decide)) (fun _ hk => hk.2) (.string ((rd_T38 l0 x31_3).f0))) (fun _ hk => hk.2) (.int .i64 ((rd_T38 l0 x31_3).f1))) (fun _ hk => trivial)⟩
                                have n1_ : Aside0 (((w32.setCell ⟨gb177, 0, none⟩ (.string ((rd_T38 l0 x31_3).f0))).setCell ⟨gb177, 1, none⟩ (.int .i64 ((rd_T38 l0 x31_3).f1))).heap[gb171]? = some (.cells #[.int .i64 a1_0, .string a1_1, .string a1_2, .string a1_3, .string a1_4, .string a1_5, .string a1_6, .string a1_7, .string a1_8] 24 (0, 0))) := ⟨by (with_reducible repeat (first | refine blk_drewN ?_ _ | refine blk_drew ?_ | refine blk_alloc ?_ _)); refine blk_far ?_ NB171_177.out _; (with_reducible repeat (first | refine blk_drewN ?_ _ | refine blk_drew ?_ | refine blk_alloc ?_ _)); refine blk_far ?_ NB171_177.out _; (with_reducible repeat (first | refine blk_drewN ?_ _ | refine blk_drew ?_ | refine blk_alloc ?_ _)); exact BK171.out⟩
                                have n2_ : Aside0 (((w32.setCell ⟨gb177, 0, none⟩ (.string ((rd_T38 l0 x31_3).f0))).setCell ⟨gb177, 1, none⟩ (.int .i64 ((rd_T38 l0 x31_3).f1))).heap[gb177]? = some (.cells #[.string ((rd_T38 l0 x31_3).f0), .int .i64 ((rd_T38 l0 x31_3).f1)] 38 (0, 0))) := ⟨by (with_reducible repeat (first | refine blk_drewN ?_ _ | refine blk_drew ?_ | refine blk_alloc ?_ _)); refine blk_put (cs := #[.string ((rd_T38 l0 x31_3).f0), .int .i64 0]) ?_ 1 _ rfl; (with_reducible repeat (first | refine blk_drewN ?_ _ | refine blk_drew ?_ | refine blk_alloc ?_ _)); refine blk_put (cs := #[.string (⟨#[]⟩ : ByteArray), .int .i64 0]) ?_ 0 _ rfl; (with_reducible repeat (first | refine blk_drewN ?_ _ | refine blk_drew ?_ | refine blk_alloc ?_ _)); exact BK177.out⟩
                                have n3_ : Aside0 (Below w.heap.size w ((w32.setCell ⟨gb177, 0, none⟩ (.string ((rd_T38 l0 x31_3).f0))).setCell ⟨gb177, 1, none⟩ (.int .i64 ((rd_T38 l0 x31_3).f1)))) := ⟨by repeat (first | (with_reducible first | exact HB.out | apply below_alloc | apply pw_below_drewN | apply below_drew1 | refine below_set ?_ GE171.out | refine below_set ?_ GE177.out) | exact HB.out)⟩
                                (try clear HO_5)
                                (try clear BK171)
                                (try clear BK177)
                                (try clear HB)
                                generalize ((w32.setCell ⟨gb177, 0, none⟩ (.string ((rd_T38 l0 x31_3).f0))).setCell ⟨gb177, 1, none⟩ (.int .i64 ((rd_T38 l0 x31_3).f1))) = w35 at n0_ n1_ n2_ n3_ ⊢
                                have HO_5 := n0_
                                have BK171 := n1_
                                have BK177 := n2_
                                have HB := n3_
                                clear n0_ n1_ n2_ n3_
                                have n0_ := Aside0.mk (Kd.R_drew HO_5.out)
                                have n1_ := Aside0.mk (blk_drew BK171.out)
                                have n2_ := Aside0.mk (blk_drew BK177.out)
                                have n3_ := Aside0.mk (below_drew1 HB.out)
                                clear HO_5
                                clear BK171
                                clear BK177
                                clear HB
                                have HO_5 := n0_
                                have BK171 := n1_
                                have BK177 := n2_
                                have HB := n3_
                                clear n0_ n1_ n2_ n3_
                                refine start_ (n := 12) (S := fun w' => w'.cell? ⟨gb177, 0, none⟩ = some (.string ((rd_T38 l0 x31_3).f0)) ∧ w'.cell? ⟨gb177, 1, none⟩ = some (.int .i64 ((rd_T38 l0 x31_3).f1))) (ds := []) #[false, false, false, false, false, false, false, false, false, false, false, false] (by kernel_rfl) rfl rfl ⟨(blk_cell BK177.out 0).trans rfl, (blk_cell BK177.out 1).trans rfl⟩ (fun hHeld => ?_); refine with_tabW laws_FnListMarkdownLines.tab9 laws_FnListMarkdownLines.bits9 (fun HT_ HW_ => ?_)
                                generalize w35.drew = w36 at HO_5 BK171 BK177 HB hHeld ⊢
                                refine pure_ (i := 0) (N := some 35) (v := ?_) (a' := ?_) #[true, false, false, false, false, false, false, false, false, false, false, false] rfl rfl (any_of HT_.out (by kernel_rfl)) (fun _ _ _ h => h) (Or.inl ⟨by rfl, ?_⟩) ?_ ?_
                                rotate_left
                                · intro w'
                                  go_simp
                                  with_reducible rfl
                                rotate_left
                                · simp only [Act.put, List.setIfInBounds_toArray, List.set_cons_zero, List.set_cons_succ, i64_w, i32_w]
                                  rfl
                                refine pure_ (i := 1) (N := some 36) (v := ?_) (a' := ?_) #[true, true, false, false, false, false, false, false, false, false, false, false] rfl rfl (any_of HT_.out (by kernel_rfl)) (fun _ _ _ h => h) (Or.inl ⟨by rfl, ?_⟩) ?_ ?_
                                rotate_left
                                · intro w'
                                  go_simp
                                  with_reducible rfl
                                rotate_left
                                · simp only [Act.put, List.setIfInBounds_toArray, List.set_cons_zero, List.set_cons_succ, i64_w, i32_w]
                                  rfl
                                refine pure_ (i := 6) (N := some 41) (v := ?_) (a' := ?_) #[true, true, false, false, false, false, true, false, false, false, false, false] rfl rfl (any_of HT_.out (by kernel_rfl)) (fun _ _ _ h => h) (Or.inl ⟨by rfl, ?_⟩) ?_ ?_
                                rotate_left
                                · intro w'
                                  go_simp
                                  with_reducible rfl
                                rotate_left
                                · simp only [Act.put, List.setIfInBounds_toArray, List.set_cons_zero, List.set_cons_succ, i64_w, i32_w]
                                  rfl
                                refine take_ (i := 2) (N := some 37) (v := ?_) (a' := ?_) #[true, true, true, false, false, false, true, false, false, false, false, false] rfl rfl (take_ofW HT_.out HW_.out (by kernel_rfl)) (fun _ _ _ h => h) (Or.inl ⟨by rfl, ?_⟩) hHeld ?_ ?_
                                rotate_left
                                · rintro w' ⟨s0, s1⟩
                                  go_simp
                                  with_reducible rfl
                                rotate_left
                                · simp only [Act.put, List.setIfInBounds_toArray, List.set_cons_zero, List.set_cons_succ, i64_w, i32_w]
                                  rfl
                                refine take_ (i := 7) (N := some 42) (v := ?_) (a' := ?_) #[true, true, true, false, false, false, true, true, false, false, false, false] rfl rfl (take_ofW HT_.out HW_.out (by kernel_rfl)) (fun _ _ _ h => h) (Or.inl ⟨by rfl, ?_⟩) hHeld ?_ ?_
                                rotate_left
                                · rintro w' ⟨s0, s1⟩
                                  go_simp
                                  with_reducible rfl
                                rotate_left
                                · simp only [Act.put, List.setIfInBounds_toArray, List.set_cons_zero, List.set_cons_succ, i64_w, i32_w]
                                  rfl
                                refine one_ (i := 3) (N := some 38) #[true, true, true, true, false, false, true, true, false, false, false, false] rfl rfl (one_of HT_.out (by kernel_rfl)) (by decide) (fun K hK => ?_)
                                refine goes_ Tryd.func16 (by kernel_rfl) rfl #[.string (⟨#[32, 32]⟩ : ByteArray), .int .i64 ((rd_T38 l0 x31_3).f1)] (by rfl) rfl rfl (by (try simp only [List.map_toArray, List.map_cons, List.map_nil]); first | done | rfl | (simp only [List.length_drop, List.length_take]; rfl)) ?_
                                with_reducible refine (spec_TxTimes.calls k3 (⟨#[32, 32]⟩ : ByteArray) ((rd_T38 l0 x31_3).f1) t178 _ A27.out).mono ?_
                                rintro e w37 ⟨rfl, hb⟩
                                refine ⟨_, rfl, ?_⟩
                                have n0_ := Aside0.mk (Kd.R_below (by (with_reducible repeat (first | apply Kd.R_alloc | apply Kd.R_drewN | apply Kd.R_drew)); exact HO_5.out) hb)
                                have n1_ := Aside0.mk (blk_below (g := gb171) (o := .cells #[.int .i64 a1_0, .string a1_1, .string a1_2, .string a1_3, .string a1_4, .string a1_5, .string a1_6, .string a1_7, .string a1_8] 24 (0, 0)) (by (with_reducible repeat (first | refine blk_drewN ?_ _ | refine blk_drew ?_ | refine blk_alloc ?_ _)); exact BK171.out) hb)
                                have n2_ := Aside0.mk (blk_below (g := gb177) (o := .cells #[.string ((rd_T38 l0 x31_3).f0), .int .i64 ((rd_T38 l0 x31_3).f1)] 38 (0, 0)) (by (with_reducible repeat (first | refine blk_drewN ?_ _ | refine blk_drew ?_ | refine blk_alloc ?_ _)); exact BK177.out) hb)
                                have n3_ := Aside0.mk (below_step (by repeat (first | (with_reducible first | exact HB.out | apply below_alloc | apply pw_below_drewN | apply below_drew1 | refine below_set ?_ GE171.out | refine below_set ?_ GE177.out) | exact HB.out)) hb)
                                clear HO_5
                                clear BK171
                                clear BK177
                                clear HB
                                have HO_5 := n0_
                                have BK171 := n1_
                                have BK177 := n2_
                                have HB := n3_
                                clear n0_ n1_ n2_ n3_
                                (try clear hb)
                                (try clear hb2)
                                (try clear hk)
                                (try clear hi)
                                refine hK.out _ _ ⟨(blk_cell BK177.out 0).trans rfl, (blk_cell BK177.out 1).trans rfl⟩ (fun hHeld => ?_)
                                clear hK K
                                refine norm_ (a' := ?_) ?_ ?_
                                rotate_left
                                · show Act.put _ (some 38) _ = _
                                  simp only [Act.put, List.setIfInBounds_toArray, List.set_cons_zero, List.set_cons_succ, i64_w, i32_w]
                                  rfl
                                refine pure_ (i := 4) (N := some 39) (v := ?_) (a' := ?_) #[true, true, true, true, true, false, true, true, false, false, false, false] rfl rfl (any_of HT_.out (by kernel_rfl)) (fun _ _ _ h => h) (Or.inl ⟨by rfl, ?_⟩) ?_ ?_
                                rotate_left
                                · intro w'
                                  go_simp
                                  with_reducible rfl
                                rotate_left
                                · simp only [Act.put, List.setIfInBounds_toArray, List.set_cons_zero, List.set_cons_succ, i64_w, i32_w]
                                  rfl
                                refine pure_ (i := 5) (N := some 40) (v := ?_) (a' := ?_) #[true, true, true, true, true, true, true, true, false, false, false, false] rfl rfl (any_of HT_.out (by kernel_rfl)) (fun _ _ _ h => h) (Or.inl ⟨by rfl, ?_⟩) ?_ ?_
                                rotate_left
                                · intro w'
                                  go_simp
                                  with_reducible rfl
                                rotate_left
                                · simp only [Act.put, List.setIfInBounds_toArray, List.set_cons_zero, List.set_cons_succ, i64_w, i32_w]
                                  rfl
                                refine pure_ (i := 8) (N := some 43) (v := ?_) (a' := ?_) #[true, true, true, true, true, true, true, true, true, false, false, false] rfl rfl (any_of HT_.out (by kernel_rfl)) (fun _ _ _ h => h) (Or.inl ⟨by rfl, ?_⟩) ?_ ?_
                                rotate_left
                                · intro w'
                                  go_simp
                                  with_reducible rfl
                                rotate_left
                                · simp only [Act.put, List.setIfInBounds_toArray, List.set_cons_zero, List.set_cons_succ, i64_w, i32_w]
                                  rfl
                                refine one_ (i := 9) (N := some 44) #[true, true, true, true, true, true, true, true, true, true, false, false] rfl rfl (one_of HT_.out (by kernel_rfl)) (by decide) (fun K hK => ?_)
                                refine value_ (w1 := ?_) (v := ?_) (by rfl) rfl ?_ ?_
                                rotate_left 2
                                · go_simp
                                  constructor
                                  · rfl
                                  · rfl
                                refine hK.out _ _ ⟨(blk_cell (blk_alloc BK177.out _) 0).trans rfl, (blk_cell (blk_alloc BK177.out _) 1).trans rfl⟩ (fun hHeld => ?_)
                                clear hK K
                                refine norm_ (a' := ?_) ?_ ?_
                                rotate_left
                                · show Act.put _ (some 44) _ = _
                                  simp only [Act.put, List.setIfInBounds_toArray, List.set_cons_zero, List.set_cons_succ, i64_w, i32_w]
                                  rfl
                                refine one_ (i := 10) (N := some 45) #[true, true, true, true, true, true, true, true, true, true, true, false] rfl rfl (one_of HT_.out (by kernel_rfl)) (by decide) (fun K hK => ?_)
                                refine Kd.R_append_step Kd.string (w0 := w) w.heap.size (by rfl) (.tmp 35) (.tmp 44) 27 9 (.string ⟨#[]⟩) 16 rfl Tryd.underlying27 info9 rfl (by decide) (by omega) u5 x5_3 ((((⟨#[32, 32]⟩ : ByteArray) ++ t178) ++ (⟨#[42, 32]⟩ : ByteArray)) ++ ((rd_T38 l0 x31_3).f0)) [.string ((((⟨#[32, 32]⟩ : ByteArray) ++ t178) ++ (⟨#[42, 32]⟩ : ByteArray)) ++ ((rd_T38 l0 x31_3).f0))] (fun _ => True) (fun _ => False) rfl rfl ?aP (fun _ hk => hk.elim) ?aF ?aO ?aB ?aS ?aL ?_
                                (case aP => exact rfl)
                                (case aB => exact (by repeat (first | (with_reducible first | exact HB.out | apply below_alloc | apply pw_below_drewN | apply below_drew1 | refine below_set ?_ GE171.out | refine below_set ?_ GE177.out) | exact HB.out)))
                                (case aF => exact (fun _ _ => trivial))
                                (case aO => exact (by (with_reducible repeat (first | apply Kd.R_alloc | apply Kd.R_drewN | apply Kd.R_drew)); exact HO_5.out))
                                (case aS => exact (below_size (by repeat (first | (with_reducible first | exact HB.out | apply below_alloc | apply pw_below_drewN | apply below_drew1 | refine below_set ?_ GE171.out | refine below_set ?_ GE177.out) | exact HB.out))))
                                (case aL => have := LMc31.out; first | omega | exact this | exact Nat.le_of_lt this)
                                intro v180 w38 ho hb hg hat
                                rw [← Ny179.out] at ho
                                have n0_ := Aside0.mk (blk_grown (g := gb171) (o := .cells #[.int .i64 a1_0, .string a1_1, .string a1_2, .string a1_3, .string a1_4, .string a1_5, .string a1_6, .string a1_7, .string a1_8] 24 (0, 0)) (by (with_reducible repeat (first | refine blk_drewN ?_ _ | refine blk_drew ?_ | refine blk_alloc ?_ _)); exact BK171.out) hg (Kd.R_ne HO_5.out BK171.out (by decide)))
                                have n1_ := Aside0.mk (blk_grown (g := gb177) (o := .cells #[.string ((rd_T38 l0 x31_3).f0), .int .i64 ((rd_T38 l0 x31_3).f1)] 38 (0, 0)) (by (with_reducible repeat (first | refine blk_drewN ?_ _ | refine blk_drew ?_ | refine blk_alloc ?_ _)); exact BK177.out) hg (Kd.R_ne HO_5.out BK177.out (by decide)))
                                have n2_ := Aside0.mk (hb)
                                have n3_ := Aside0.mk (ho)
                                clear BK171
                                clear BK177
                                clear HB
                                clear HO_5
                                have BK171 := n0_
                                have BK177 := n1_
                                have HB := n2_
                                have HO181 := n3_
                                clear n0_ n1_ n2_ n3_
                                clear ho hb hg hat
                                refine hK.out _ _ ⟨(blk_cell BK177.out 0).trans rfl, (blk_cell BK177.out 1).trans rfl⟩ (fun hHeld => ?_)
                                clear hK K
                                refine norm_ (a' := ?_) ?_ ?_
                                rotate_left
                                · show Act.put _ (some 45) _ = _
                                  simp only [Act.put, List.setIfInBounds_toArray, List.set_cons_zero, List.set_cons_succ, i64_w, i32_w]
                                  rfl
                                refine pure_ (i := 11) (N := some 5) (v := ?_) (a' := ?_) #[true, true, true, true, true, true, true, true, true, true, true, true] rfl rfl (any_of HT_.out (by kernel_rfl)) (fun _ _ _ h => h) (Or.inl ⟨by rfl, ?_⟩) ?_ ?_
                                rotate_left
                                · intro w'
                                  go_simp
                                  with_reducible rfl
                                rotate_left
                                · simp only [Act.put, List.setIfInBounds_toArray, List.set_cons_zero, List.set_cons_succ, i64_w, i32_w]
                                  rfl
                                refine done_ (done_of HT_.out (by kernel_rfl)) ?_
                                try go_wp2
                                go_roundg k3
                                case measure => have := HJ2.out; have := HJ12.out; have := HK3.out; omega
                                case rel => exact ⟨(y179), (wrap64 (x31_3 + 1)), (by first | rfl | (simp; done) | (simp [*]; done)), H', ⟨by have := HJ2.out; have := HJ12.out; have := HK3.out; omega⟩, ⟨by (with_reducible repeat (first | apply Kd.R_alloc | apply Kd.R_drewN | apply Kd.R_drew)); exact HO181.out⟩, ⟨by (with_reducible repeat (first | refine blk_drewN ?_ _ | refine blk_drew ?_ | refine blk_alloc ?_ _)); exact BK171.out⟩, ⟨by repeat (first | (with_reducible first | exact HB.out | apply below_alloc | apply pw_below_drewN | apply below_drew1 | refine below_set ?_ GE171.out | refine below_set ?_ GE177.out) | exact HB.out)⟩⟩
                              · rw [if_neg c31] at H
                                exact absurd H (by simp)
                            · rw [if_neg c30] at H
                              exact absurd H (by simp)
                          · rw [if_neg c29] at H
                            exact absurd H (by simp)
                        · rw [if_neg c28] at H
                          exact absurd H (by simp)
                      · rw [if_neg c26] at H
                        exact absurd H (by simp)
                    · rw [if_neg c25] at H
                      exact absurd H (by simp)
                  · rw [if_neg c24] at H
                    have c24b0 : decide (x31_3 < (l0.length : Int)) = false := decide_eq_false c24
                    clear c24
                    replace H := Option.bind_eq_some_iff.mp H
                    obtain ⟨t182, A390, H⟩ := H
                    replace H : ((impl_ListMarkdown.f t182 a1_0 a1_1 a1_2 a1_3 a1_4 a1_5 a1_6 a1_7 a1_8).bind fun t185 => ((spec_TxLines.f k3 t185).bind fun t186 => ((spec_TxSameTexts.f k3 t186 x5_3).bind fun t189 => (some t189)))) = some r := H
                    have A39 := Aside0.mk A390
                    clear A390
                    replace H := Option.bind_eq_some_iff.mp H
                    obtain ⟨t185, A400, H⟩ := H
                    replace H : ((spec_TxLines.f k3 t185).bind fun t186 => ((spec_TxSameTexts.f k3 t186 x5_3).bind fun t189 => (some t189))) = some r := H
                    have A40 := Aside0.mk A400
                    clear A400
                    replace H := Option.bind_eq_some_iff.mp H
                    obtain ⟨t186, A410, H⟩ := H
                    replace H : ((spec_TxSameTexts.f k3 t186 x5_3).bind fun t189 => (some t189)) = some r := H
                    have A41 := Aside0.mk A410
                    clear A410
                    replace H := Option.bind_eq_some_iff.mp H
                    obtain ⟨t189, A420, H⟩ := H
                    replace H : (some t189) = some r := H
                    have A42 := Aside0.mk A420
                    clear A420
                    obtain rfl := Option.some.inj H
                    try go_wp2
                    have n0_ := Aside0.mk (Kd.R_drew HO_5.out)
                    have n1_ := Aside0.mk (blk_drew BK171.out)
                    have n2_ := Aside0.mk (below_drew1 HB.out)
                    clear HO_5
                    clear BK171
                    clear HB
                    have HO_5 := n0_
                    have BK171 := n1_
                    have HB := n2_
                    clear n0_ n1_ n2_
                    refine start_ (n := 8) (S := fun w' => w'.cell? ⟨gb171, 0, none⟩ = some (.int .i64 a1_0) ∧ w'.cell? ⟨gb171, 1, none⟩ = some (.string a1_1) ∧ w'.cell? ⟨gb171, 2, none⟩ = some (.string a1_2) ∧ w'.cell? ⟨gb171, 3, none⟩ = some (.string a1_3) ∧ w'.cell? ⟨gb171, 4, none⟩ = some (.string a1_4) ∧ w'.cell? ⟨gb171, 5, none⟩ = some (.string a1_5) ∧ w'.cell? ⟨gb171, 6, none⟩ = some (.string a1_6) ∧ w'.cell? ⟨gb171, 7, none⟩ = some (.string a1_7) ∧ w'.cell? ⟨gb171, 8, none⟩ = some (.string a1_8)) (ds := []) #[false, false, false, false, false, false, false, false] (by kernel_rfl) rfl rfl ⟨(blk_cell BK171.out 0).trans rfl, (blk_cell BK171.out 1).trans rfl, (blk_cell BK171.out 2).trans rfl, (blk_cell BK171.out 3).trans rfl, (blk_cell BK171.out 4).trans rfl, (blk_cell BK171.out 5).trans rfl, (blk_cell BK171.out 6).trans rfl, (blk_cell BK171.out 7).trans rfl, (blk_cell BK171.out 8).trans rfl⟩ (fun hHeld => ?_); refine with_tabW laws_FnListMarkdownLines.tab11 laws_FnListMarkdownLines.bits11 (fun HT_ HW_ => ?_)
                    generalize wr.drew = w43 at HO_5 BK171 HB hHeld ⊢
                    refine pure_ (i := 0) (N := some 47) (v := ?_) (a' := ?_) #[true, false, false, false, false, false, false, false] rfl rfl (any_of HT_.out (by kernel_rfl)) (fun _ _ _ h => h) (Or.inl ⟨by rfl, ?_⟩) ?_ ?_
                    rotate_left
                    · intro w'
                      go_simp
                      with_reducible rfl
                    rotate_left
                    · simp only [Act.put, List.setIfInBounds_toArray, List.set_cons_zero, List.set_cons_succ, i64_w, i32_w]
                      rfl
                    refine pure_ (i := 5) (N := some 52) (v := ?_) (a' := ?_) #[true, false, false, false, false, true, false, false] rfl rfl (any_of HT_.out (by kernel_rfl)) (fun _ _ _ h => h) (Or.inl ⟨by rfl, ?_⟩) ?_ ?_
                    rotate_left
                    · intro w'
                      go_simp
                      with_reducible rfl
                    rotate_left
                    · simp only [Act.put, List.setIfInBounds_toArray, List.set_cons_zero, List.set_cons_succ, i64_w, i32_w]
                      rfl
                    refine take_ (i := 2) (N := some 49) (v := ?_) (a' := ?_) #[true, false, true, false, false, true, false, false] rfl rfl (take_ofW HT_.out HW_.out (by kernel_rfl)) (fun _ _ _ h => h) (Or.inl ⟨by rfl, ?_⟩) hHeld ?_ ?_
                    rotate_left
                    · rintro w' ⟨s0, s1, s2, s3, s4, s5, s6, s7, s8⟩
                      go_simp
                      with_reducible rfl
                    rotate_left
                    · simp only [Act.put, List.setIfInBounds_toArray, List.set_cons_zero, List.set_cons_succ, i64_w, i32_w]
                      rfl
                    refine one_ (i := 1) (N := some 48) #[true, true, true, false, false, true, false, false] rfl rfl (one_of HT_.out (by kernel_rfl)) (by decide) (fun K hK => ?_)
                    refine goes_ Tryd.func12 (by kernel_rfl) rfl #[.slice A0 l0.length c0] (by rfl) rfl rfl (by (try simp only [List.map_toArray, List.map_cons, List.map_nil]); first | done | rfl | (simp only [List.length_drop, List.length_take]; rfl)) ?_
                    with_reducible refine (spec_LsSteps.calls k3 _ _ l0 t182 _ ?side1 ?side2 A39.out).mono ?_
                    (case side1 => repeat (first | exact (Kd.C_below HR0.out HB.out) | (with_reducible refine Kd.C_alloc ?_ _) | (with_reducible refine Kd.C_drewN ?_ _) | (with_reducible refine Kd.C_drew ?_)))
                    (case side2 => exact HC0.out)
                    rintro e w44 ⟨v183, rfl, ho0, hb⟩
                    refine ⟨_, rfl, ?_⟩
                    have n0_ := Aside0.mk (Kd.R_below (by (with_reducible repeat (first | apply Kd.R_alloc | apply Kd.R_drewN | apply Kd.R_drew)); exact HO_5.out) hb)
                    have n1_ := Aside0.mk (Kd.S_lower (Kd.S_new' ho0 (Kd.R_lt (by (with_reducible repeat (first | apply Kd.R_alloc | apply Kd.R_drewN | apply Kd.R_drew)); exact HO_5.out))) (below_size (by repeat (first | (with_reducible first | exact HB.out | apply below_alloc | apply pw_below_drewN | apply below_drew1 | refine below_set ?_ GE171.out) | exact HB.out))))
                    have n2_ := Aside0.mk (blk_below (g := gb171) (o := .cells #[.int .i64 a1_0, .string a1_1, .string a1_2, .string a1_3, .string a1_4, .string a1_5, .string a1_6, .string a1_7, .string a1_8] 24 (0, 0)) (by (with_reducible repeat (first | refine blk_drewN ?_ _ | refine blk_drew ?_ | refine blk_alloc ?_ _)); exact BK171.out) hb)
                    have n3_ := Aside0.mk (below_step (by repeat (first | (with_reducible first | exact HB.out | apply below_alloc | apply pw_below_drewN | apply below_drew1 | refine below_set ?_ GE171.out) | exact HB.out)) hb)
                    clear HO_5
                    clear BK171
                    clear HB
                    have HO_5 := n0_
                    have HO184 := n1_
                    have BK171 := n2_
                    have HB := n3_
                    clear n0_ n1_ n2_ n3_
                    (try clear hb)
                    (try clear hb2)
                    (try clear hk)
                    (try clear hi)
                    (try clear ho0)
                    obtain ⟨Ao45, co45, eo45⟩ := Kd.S_slice HO184.out
                    (first | subst eo45 | (injection eo45 with f1_ f2_ f3_; have f4_ := f1_.symm; have f5_ := f3_.symm; clear f1_ f2_ f3_; subst f4_; subst f5_))
                    refine hK.out _ _ ⟨(blk_cell BK171.out 0).trans rfl, (blk_cell BK171.out 1).trans rfl, (blk_cell BK171.out 2).trans rfl, (blk_cell BK171.out 3).trans rfl, (blk_cell BK171.out 4).trans rfl, (blk_cell BK171.out 5).trans rfl, (blk_cell BK171.out 6).trans rfl, (blk_cell BK171.out 7).trans rfl, (blk_cell BK171.out 8).trans rfl⟩ (fun hHeld => ?_)
                    clear hK K
                    refine norm_ (a' := ?_) ?_ ?_
                    rotate_left
                    · show Act.put _ (some 48) _ = _
                      simp only [Act.put, List.setIfInBounds_toArray, List.set_cons_zero, List.set_cons_succ, i64_w, i32_w]
                      rfl
                    refine one_ (i := 3) (N := some 50) #[true, true, true, true, false, true, false, false] rfl rfl (one_of HT_.out (by kernel_rfl)) (by decide) (fun K hK => ?_)
                    refine goes_ Tryd.func17 (by kernel_rfl) rfl #[.slice Ao45 t182.length co45, .agg #[.int .i64 a1_0, .string a1_1, .string a1_2, .string a1_3, .string a1_4, .string a1_5, .string a1_6, .string a1_7, .string a1_8]] (by rfl) rfl rfl (by (try simp only [List.map_toArray, List.map_cons, List.map_nil]); first | done | rfl | (simp only [List.length_drop, List.length_take]; rfl)) ?_
                    with_reducible refine (impl_ListMarkdown.calls _ _ t182 a1_0 a1_1 a1_2 a1_3 a1_4 a1_5 a1_6 a1_7 a1_8 t185 _ ?side1 ?side2 A40.out).mono ?_
                    (case side1 => repeat (first | exact (Kd.S_reads' HO184.out).2.2 | (with_reducible refine Kd.C_alloc ?_ _) | (with_reducible refine Kd.C_drewN ?_ _) | (with_reducible refine Kd.C_drew ?_)))
                    (case side2 => exact (Kd.S_reads' HO184.out).2.1)
                    rintro e w46 ⟨rfl, hb⟩
                    refine ⟨_, rfl, ?_⟩
                    have n0_ := Aside0.mk (Kd.R_below (by (with_reducible repeat (first | apply Kd.R_alloc | apply Kd.R_drewN | apply Kd.R_drew)); exact HO_5.out) hb)
                    have n1_ := Aside0.mk (Kd.S_below (by (with_reducible repeat (first | apply Kd.S_alloc | apply Kd.S_drewN | apply Kd.S_drew)); exact HO184.out) hb)
                    have n2_ := Aside0.mk (blk_below (g := gb171) (o := .cells #[.int .i64 a1_0, .string a1_1, .string a1_2, .string a1_3, .string a1_4, .string a1_5, .string a1_6, .string a1_7, .string a1_8] 24 (0, 0)) (by (with_reducible repeat (first | refine blk_drewN ?_ _ | refine blk_drew ?_ | refine blk_alloc ?_ _)); exact BK171.out) hb)
                    have n3_ := Aside0.mk (below_step (by repeat (first | (with_reducible first | exact HB.out | apply below_alloc | apply pw_below_drewN | apply below_drew1 | refine below_set ?_ GE171.out) | exact HB.out)) hb)
                    clear HO_5
                    clear HO184
                    clear BK171
                    clear HB
                    have HO_5 := n0_
                    have HO184 := n1_
                    have BK171 := n2_
                    have HB := n3_
                    clear n0_ n1_ n2_ n3_
                    (try clear hb)
                    (try clear hb2)
                    (try clear hk)
                    (try clear hi)
                    refine hK.out _ _ ⟨(blk_cell BK171.out 0).trans rfl, (blk_cell BK171.out 1).trans rfl, (blk_cell BK171.out 2).trans rfl, (blk_cell BK171.out 3).trans rfl, (blk_cell BK171.out 4).trans rfl, (blk_cell BK171.out 5).trans rfl, (blk_cell BK171.out 6).trans rfl, (blk_cell BK171.out 7).trans rfl, (blk_cell BK171.out 8).trans rfl⟩ (fun hHeld => ?_)
                    clear hK K
                    refine norm_ (a' := ?_) ?_ ?_
                    rotate_left
                    · show Act.put _ (some 50) _ = _
                      simp only [Act.put, List.setIfInBounds_toArray, List.set_cons_zero, List.set_cons_succ, i64_w, i32_w]
                      rfl
                    refine one_ (i := 4) (N := some 51) #[true, true, true, true, true, true, false, false] rfl rfl (one_of HT_.out (by kernel_rfl)) (by decide) (fun K hK => ?_)
                    refine goes_ Tryd.func10 (by kernel_rfl) rfl #[.string t185] (by rfl) rfl rfl (by (try simp only [List.map_toArray, List.map_cons, List.map_nil]); first | done | rfl | (simp only [List.length_drop, List.length_take]; rfl)) ?_
                    with_reducible refine (spec_TxLines.calls k3 t185 t186 _ A41.out).mono ?_
                    rintro e w47 ⟨v187, rfl, ho0, hb⟩
                    refine ⟨_, rfl, ?_⟩
                    have n0_ := Aside0.mk (Kd.R_elder' (by (with_reducible repeat (first | apply Kd.R_alloc | apply Kd.R_drewN | apply Kd.R_drew)); exact HO_5.out) (Kd.R_base ho0) hb)
                    have n1_ := Aside0.mk (Kd.S_elder' (by (with_reducible repeat (first | apply Kd.S_alloc | apply Kd.S_drewN | apply Kd.S_drew)); exact HO184.out) (Kd.R_base ho0) hb)
                    have n2_ := Aside0.mk (Kd.R_lower (Kd.R_new' ho0 (Kd.R_lt (by (with_reducible repeat (first | apply Kd.R_alloc | apply Kd.R_drewN | apply Kd.R_drew)); exact HO_5.out))) (below_size (by repeat (first | (with_reducible first | exact HB.out | apply below_alloc | apply pw_below_drewN | apply below_drew1 | refine below_set ?_ GE171.out) | exact HB.out))))
                    have n3_ := Aside0.mk (blk_below (g := gb171) (o := .cells #[.int .i64 a1_0, .string a1_1, .string a1_2, .string a1_3, .string a1_4, .string a1_5, .string a1_6, .string a1_7, .string a1_8] 24 (0, 0)) (by (with_reducible repeat (first | refine blk_drewN ?_ _ | refine blk_drew ?_ | refine blk_alloc ?_ _)); exact BK171.out) hb)
                    have n4_ := Aside0.mk (below_step (by repeat (first | (with_reducible first | exact HB.out | apply below_alloc | apply pw_below_drewN | apply below_drew1 | refine below_set ?_ GE171.out) | exact HB.out)) hb)
                    clear HO_5
                    clear HO184
                    clear BK171
                    clear HB
                    have HO_5 := n0_
                    have HO184 := n1_
                    have HO188 := n2_
                    have BK171 := n3_
                    have HB := n4_
                    clear n0_ n1_ n2_ n3_ n4_
                    (try clear hb)
                    (try clear hb2)
                    (try clear hk)
                    (try clear hi)
                    (try clear ho0)
                    obtain ⟨Ao48, co48, eo48⟩ := Kd.R_slice HO188.out
                    (first | subst eo48 | (injection eo48 with f1_ f2_ f3_; have f4_ := f1_.symm; have f5_ := f3_.symm; clear f1_ f2_ f3_; subst f4_; subst f5_))
                    obtain ⟨Ao49, co49, eo49⟩ := Kd.R_slice HO_5.out
                    (first | subst eo49 | (injection eo49 with f1_ f2_ f3_; have f4_ := f1_.symm; have f5_ := f3_.symm; clear f1_ f2_ f3_; subst f4_; subst f5_))
                    refine hK.out _ _ ⟨(blk_cell BK171.out 0).trans rfl, (blk_cell BK171.out 1).trans rfl, (blk_cell BK171.out 2).trans rfl, (blk_cell BK171.out 3).trans rfl, (blk_cell BK171.out 4).trans rfl, (blk_cell BK171.out 5).trans rfl, (blk_cell BK171.out 6).trans rfl, (blk_cell BK171.out 7).trans rfl, (blk_cell BK171.out 8).trans rfl⟩ (fun hHeld => ?_)
                    clear hK K
                    refine norm_ (a' := ?_) ?_ ?_
                    rotate_left
                    · show Act.put _ (some 51) _ = _
                      simp only [Act.put, List.setIfInBounds_toArray, List.set_cons_zero, List.set_cons_succ, i64_w, i32_w]
                      rfl
                    refine one_ (i := 6) (N := some 53) #[true, true, true, true, true, true, true, false] rfl rfl (one_of HT_.out (by kernel_rfl)) (by decide) (fun K hK => ?_)
                    refine goes_ Tryd.func13 (by kernel_rfl) rfl #[.slice Ao48 t186.length co48, .slice Ao49 x5_3.length co49] (by rfl) rfl rfl (by (try simp only [List.map_toArray, List.map_cons, List.map_nil]); first | done | rfl | (simp only [List.length_drop, List.length_take]; rfl)) ?_
                    with_reducible refine (spec_TxSameTexts.calls k3 _ _ t186 _ _ x5_3 t189 _ ?side1 ?side2 ?side3 ?side4 A42.out).mono ?_
                    (case side1 => repeat (first | exact (Kd.R_reads' HO188.out).2.2 | (with_reducible refine Kd.C_alloc ?_ _) | (with_reducible refine Kd.C_drewN ?_ _) | (with_reducible refine Kd.C_drew ?_)))
                    (case side2 => exact (Kd.R_reads' HO188.out).2.1)
                    (case side3 => repeat (first | exact (Kd.R_reads' HO_5.out).2.2 | (with_reducible refine Kd.C_alloc ?_ _) | (with_reducible refine Kd.C_drewN ?_ _) | (with_reducible refine Kd.C_drew ?_)))
                    (case side4 => exact (Kd.R_reads' HO_5.out).2.1)
                    rintro e w' ⟨rfl, ⟨nd, rfl⟩⟩
                    refine ⟨_, rfl, ?_⟩
                    refine hK.out _ _ ⟨(blk_cell BK171.out 0).trans rfl, (blk_cell BK171.out 1).trans rfl, (blk_cell BK171.out 2).trans rfl, (blk_cell BK171.out 3).trans rfl, (blk_cell BK171.out 4).trans rfl, (blk_cell BK171.out 5).trans rfl, (blk_cell BK171.out 6).trans rfl, (blk_cell BK171.out 7).trans rfl, (blk_cell BK171.out 8).trans rfl⟩ (fun hHeld => ?_)
                    clear hK K
                    refine norm_ (a' := ?_) ?_ ?_
                    rotate_left
                    · show Act.put _ (some 53) _ = _
                      simp only [Act.put, List.setIfInBounds_toArray, List.set_cons_zero, List.set_cons_succ, i64_w, i32_w]
                      rfl
                    refine pure_ (i := 7) (N := some 4) (v := ?_) (a' := ?_) #[true, true, true, true, true, true, true, true] rfl rfl (any_of HT_.out (by kernel_rfl)) (fun _ _ _ h => h) (Or.inl ⟨by rfl, ?_⟩) ?_ ?_
                    rotate_left
                    · intro w'
                      go_simp
                      with_reducible rfl
                    rotate_left
                    · simp only [Act.put, List.setIfInBounds_toArray, List.set_cons_zero, List.set_cons_succ, i64_w, i32_w]
                      rfl
                    refine done_ (done_of HT_.out (by kernel_rfl)) ?_
                    try go_wp2
                    go_ret
                    exact ⟨by first | rfl | (simp [errW_none, errW_some] <;> rfl) | (simp [*, errW_none, errW_some] <;> rfl), by repeat (first | (with_reducible first | exact HB.out | apply below_alloc | apply pw_below_drewN | apply below_drew1 | refine below_set ?_ GE171.out) | exact HB.out)⟩

end
end Go.Proofs.YthjkmjimlhpbfaaDoor.GFnListMarkdownLines
