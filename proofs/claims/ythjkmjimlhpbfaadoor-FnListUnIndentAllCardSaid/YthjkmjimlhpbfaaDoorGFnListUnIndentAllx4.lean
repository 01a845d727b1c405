-- Written by gprint.py, a program of this session over the kit's printer, with contracts of its own for what the printer does not take. Not trusted: Lean checks it.
import Derived.Test.YthjkmjimlhpbfaaDoorGFnListUnIndentAllx0
import Derived.Test.YthjkmjimlhpbfaaDoorGFnListUnIndentAllx1
import Derived.Test.YthjkmjimlhpbfaaDoorGFnListUnIndentAllx2
import Derived.Test.YthjkmjimlhpbfaaDoorGFnListUnIndentAllx3
namespace Go.Proofs.YthjkmjimlhpbfaaDoor.GFnListUnIndentAll
open Go.RowKit Go.Proofs.YthjkmjimlhpbfaaDoor.Itr Go.Proofs.YthjkmjimlhpbfaaDoorW.PrintWords Go.Proofs.YthjkmjimlhpbfaaDoorW.PrintLast Go.Proofs.YthjkmjimlhpbfaaDoorW.PrintMore
attribute [local go_sem] max2_int min2_int max_two min_two max_three min_three max_four min_four   -- for this text's walks alone
set_option linter.unusedVariables false
set_option linter.unusedSimpArgs false
noncomputable section

/-! ### laws_FnListUnIndentAll: function 4 -/
mutual
def laws_FnListUnIndentAll.j0 : Nat → List (S38) → ByteArray → Int → Bool → Int → ByteArray → ByteArray → ByteArray → ByteArray → ByteArray → ByteArray → ByteArray → ByteArray → Option (Bool)
  | 0, _, _, _, _, _, _, _, _, _, _, _, _, _ => none
  | k + 1, x0, x1, x2, x25, x153000, x153001, x153002, x153003, x153004, x153005, x153006, x153007, x153008 => if x25 = true then (some true) else ((spec_LsRight.f k x0).bind fun t155 => (if t155 = true then (if (x0.length : Int) = 0 then (laws_FnListUnIndentAll.j1 k x0 x1 x2 true x153000 x153001 x153002 x153003 x153004 x153005 x153006 x153007 x153008) else (if (x1.size : Int) > 200 then (laws_FnListUnIndentAll.j1 k x0 x1 x2 true x153000 x153001 x153002 x153003 x153004 x153005 x153006 x153007 x153008) else ((spec_TxSimple.f k x1 false).bind fun t156 => (if t156 = true then ((spec_LsStyled.f k x153000 x153001 x153002 x153003 x153004 x153005 x153006 x153007 x153008).bind fun t157 => (laws_FnListUnIndentAll.j1 k x0 x1 x2 (!t157) x153000 x153001 x153002 x153003 x153004 x153005 x153006 x153007 x153008)) else (laws_FnListUnIndentAll.j1 k x0 x1 x2 true x153000 x153001 x153002 x153003 x153004 x153005 x153006 x153007 x153008))))) else (laws_FnListUnIndentAll.j1 k x0 x1 x2 true x153000 x153001 x153002 x153003 x153004 x153005 x153006 x153007 x153008)))
def laws_FnListUnIndentAll.j1 : Nat → List (S38) → ByteArray → Int → Bool → Int → ByteArray → ByteArray → ByteArray → ByteArray → ByteArray → ByteArray → ByteArray → ByteArray → Option (Bool)
  | 0, _, _, _, _, _, _, _, _, _, _, _, _, _ => none
  | k + 1, x0, x1, x2, x48, x153000, x153001, x153002, x153003, x153004, x153005, x153006, x153007, x153008 => if x48 = true then (some true) else ((spec_LsSteps.f k x0).bind fun t158 => ((spec_LsSteps.f k x0).bind fun t161 => ((some (([(⟨4, (⟨#[]⟩ : ByteArray), ([] : List ByteArray)⟩ : S36), (⟨0, x1, ([] : List ByteArray)⟩ : S36)] : List (S36)) : List (S36))).bind fun y164 => (if t158.length + y164.length < 2932031007402 then (if 0 ≤ (wrap64 ((x0.length : Int) - 1)) then (if (wrap64 ((x0.length : Int) - 1)) < (x0.length : Int) then (laws_FnListUnIndentAll.l0 k x0 x1 (t158 ++ y164) t161 (wrap64 (((rd_T38 x0 (wrap64 ((x0.length : Int) - 1))).f1) + (wrap64 (Int.tmod x2 4)))) 0 x153000 x153001 x153002 x153003 x153004 x153005 x153006 x153007 x153008) else (none)) else (none)) else (none)))))
def laws_FnListUnIndentAll.l0 : Nat → List (S38) → ByteArray → List (S36) → List (S36) → Int → Int → Int → ByteArray → ByteArray → ByteArray → ByteArray → ByteArray → ByteArray → ByteArray → ByteArray → Option (Bool)
  | 0, _, _, _, _, _, _, _, _, _, _, _, _, _, _, _ => none
  | k + 1, x0, x1, x9, x10, x69, x70, x153000, x153001, x153002, x153003, x153004, x153005, x153006, x153007, x153008 => if x70 < x69 then (if x10.length < 2932031007402 then (laws_FnListUnIndentAll.l0 k x0 x1 x9 (x10 ++ [(⟨3, (⟨#[]⟩ : ByteArray), ([] : List ByteArray)⟩ : S36)]) x69 (wrap64 (x70 + 1)) x153000 x153001 x153002 x153003 x153004 x153005 x153006 x153007 x153008) else (none)) else (if x10.length < 2932031007402 then ((some (([] : List (S38)) : List (S38))).bind fun y177 => (if y177.length + x0.length < 5864062014805 then ((some (y177 ++ x0 : List (S38))).bind fun y180 => (if y180.length < 5864062014805 then ((spec_LsSteps.f k (y180 ++ [(⟨x1, 0⟩ : S38)])).bind fun t186 => ((impl_ListRender.f t186 x153000 x153001 x153002 x153003 x153004 x153005 x153006 x153007 x153008).bind fun t189 => ((impl_ListRender.f x9 x153000 x153001 x153002 x153003 x153004 x153005 x153006 x153007 x153008).bind fun t190 => (if t190.toList = t189.toList then ((impl_ListRender.f (x10 ++ [(⟨0, x1, ([] : List ByteArray)⟩ : S36)]) x153000 x153001 x153002 x153003 x153004 x153005 x153006 x153007 x153008).bind fun t191 => (if t191.toList = t189.toList then ((laws_lsAlive.f).bind fun t192 => (some t192)) else (some false))) else (some false))))) else (none))) else (none))) else (none))
end
def laws_FnListUnIndentAll.f (k : Nat) (l0 : List (S38)) (a1 : ByteArray) (a2 : Int) (a3_0 : Int) (a3_1 : ByteArray) (a3_2 : ByteArray) (a3_3 : ByteArray) (a3_4 : ByteArray) (a3_5 : ByteArray) (a3_6 : ByteArray) (a3_7 : ByteArray) (a3_8 : ByteArray) : Option (Bool) := (laws_zzFits1.f k l0).bind fun t153 => (if t153 = true then (if (a1.size : Int) > 2147483647 then (laws_FnListUnIndentAll.j0 k l0 a1 a2 true a3_0 a3_1 a3_2 a3_3 a3_4 a3_5 a3_6 a3_7 a3_8) else ((laws_zzFits3.f a3_0 a3_1 a3_2 a3_3 a3_4 a3_5 a3_6 a3_7 a3_8).bind fun t154 => (laws_FnListUnIndentAll.j0 k l0 a1 a2 (!t154) a3_0 a3_1 a3_2 a3_3 a3_4 a3_5 a3_6 a3_7 a3_8))) else (laws_FnListUnIndentAll.j0 k l0 a1 a2 true a3_0 a3_1 a3_2 a3_3 a3_4 a3_5 a3_6 a3_7 a3_8))
theorem laws_FnListUnIndentAll.mono_l : ∀ k, (∀ y0 y1 y2 y3 y4 y5 y6 y7 y8 y9 y10 y11 y12, LeO (laws_FnListUnIndentAll.j0 k y0 y1 y2 y3 y4 y5 y6 y7 y8 y9 y10 y11 y12) (laws_FnListUnIndentAll.j0 (k + 1) y0 y1 y2 y3 y4 y5 y6 y7 y8 y9 y10 y11 y12)) ∧ (∀ y0 y1 y2 y3 y4 y5 y6 y7 y8 y9 y10 y11 y12, LeO (laws_FnListUnIndentAll.j1 k y0 y1 y2 y3 y4 y5 y6 y7 y8 y9 y10 y11 y12) (laws_FnListUnIndentAll.j1 (k + 1) y0 y1 y2 y3 y4 y5 y6 y7 y8 y9 y10 y11 y12)) ∧ (∀ y0 y1 y2 y3 y4 y5 y6 y7 y8 y9 y10 y11 y12 y13 y14, LeO (laws_FnListUnIndentAll.l0 k y0 y1 y2 y3 y4 y5 y6 y7 y8 y9 y10 y11 y12 y13 y14) (laws_FnListUnIndentAll.l0 (k + 1) y0 y1 y2 y3 y4 y5 y6 y7 y8 y9 y10 y11 y12 y13 y14))
  | 0 => ⟨fun _ _ _ _ _ _ _ _ _ _ _ _ _ r h => by simp [laws_FnListUnIndentAll.j0] at h, fun _ _ _ _ _ _ _ _ _ _ _ _ _ r h => by simp [laws_FnListUnIndentAll.j1] at h, fun _ _ _ _ _ _ _ _ _ _ _ _ _ _ _ r h => by simp [laws_FnListUnIndentAll.l0] at h⟩
  | k + 1 => by
    obtain ⟨ih0, ih1, ih2⟩ := laws_FnListUnIndentAll.mono_l k
    refine ⟨?_, ?_, ?_⟩
    · intro y0 y1 y2 y3 y4 y5 y6 y7 y8 y9 y10 y11 y12
      unfold laws_FnListUnIndentAll.j0
      repeat' first
      | (with_reducible exact ih0 _ _ _ _ _ _ _ _ _ _ _ _ _)
      | (with_reducible exact ih1 _ _ _ _ _ _ _ _ _ _ _ _ _)
      | (with_reducible exact ih2 _ _ _ _ _ _ _ _ _ _ _ _ _ _ _)
      | (with_reducible exact laws_zzFits1.mono _ _)
      | (with_reducible exact spec_LsRight.mono _ _)
      | (with_reducible exact spec_LsSteps.mono _ _)
      | (with_reducible exact spec_LsStyled.mono _ _ _ _ _ _ _ _ _ _)
      | (with_reducible exact spec_TxSimple.mono _ _ _)
      | (with_reducible exact LeO.refl _)
      | (with_reducible exact LeO.none _)
      | (with_reducible refine LeO.ite ?_ ?_)
      | (with_reducible refine LeO.bind ?_ (fun _ => ?_))
      | exact ih0 _ _ _ _ _ _ _ _ _ _ _ _ _
      | exact ih1 _ _ _ _ _ _ _ _ _ _ _ _ _
      | exact ih2 _ _ _ _ _ _ _ _ _ _ _ _ _ _ _
      | exact laws_zzFits1.mono _ _
      | exact spec_LsRight.mono _ _
      | exact spec_LsSteps.mono _ _
      | exact spec_LsStyled.mono _ _ _ _ _ _ _ _ _ _
      | exact spec_TxSimple.mono _ _ _
      | exact LeO.none _
      | refine LeO.ite ?_ ?_
      | refine LeO.bind ?_ (fun _ => ?_)
    · intro y0 y1 y2 y3 y4 y5 y6 y7 y8 y9 y10 y11 y12
      unfold laws_FnListUnIndentAll.j1
      repeat' first
      | (with_reducible exact ih0 _ _ _ _ _ _ _ _ _ _ _ _ _)
      | (with_reducible exact ih1 _ _ _ _ _ _ _ _ _ _ _ _ _)
      | (with_reducible exact ih2 _ _ _ _ _ _ _ _ _ _ _ _ _ _ _)
      | (with_reducible exact laws_zzFits1.mono _ _)
      | (with_reducible exact spec_LsRight.mono _ _)
      | (with_reducible exact spec_LsSteps.mono _ _)
      | (with_reducible exact spec_LsStyled.mono _ _ _ _ _ _ _ _ _ _)
      | (with_reducible exact spec_TxSimple.mono _ _ _)
      | (with_reducible exact LeO.refl _)
      | (with_reducible exact LeO.none _)
      | (with_reducible refine LeO.ite ?_ ?_)
      | (with_reducible refine LeO.bind ?_ (fun _ => ?_))
      | exact ih0 _ _ _ _ _ _ _ _ _ _ _ _ _
      | exact ih1 _ _ _ _ _ _ _ _ _ _ _ _ _
      | exact ih2 _ _ _ _ _ _ _ _ _ _ _ _ _ _ _
      | exact laws_zzFits1.mono _ _
      | exact spec_LsRight.mono _ _
      | exact spec_LsSteps.mono _ _
      | exact spec_LsStyled.mono _ _ _ _ _ _ _ _ _ _
      | exact spec_TxSimple.mono _ _ _
      | exact LeO.none _
      | refine LeO.ite ?_ ?_
      | refine LeO.bind ?_ (fun _ => ?_)
    · intro y0 y1 y2 y3 y4 y5 y6 y7 y8 y9 y10 y11 y12 y13 y14
      unfold laws_FnListUnIndentAll.l0
      repeat' first
      | (with_reducible exact ih0 _ _ _ _ _ _ _ _ _ _ _ _ _)
      | (with_reducible exact ih1 _ _ _ _ _ _ _ _ _ _ _ _ _)
      | (with_reducible exact ih2 _ _ _ _ _ _ _ _ _ _ _ _ _ _ _)
      | (with_reducible exact laws_zzFits1.mono _ _)
      | (with_reducible exact spec_LsRight.mono _ _)
      | (with_reducible exact spec_LsSteps.mono _ _)
      | (with_reducible exact spec_LsStyled.mono _ _ _ _ _ _ _ _ _ _)
      | (with_reducible exact spec_TxSimple.mono _ _ _)
      | (with_reducible exact LeO.refl _)
      | (with_reducible exact LeO.none _)
      | (with_reducible refine LeO.ite ?_ ?_)
      | (with_reducible refine LeO.bind ?_ (fun _ => ?_))
      | exact ih0 _ _ _ _ _ _ _ _ _ _ _ _ _
      | exact ih1 _ _ _ _ _ _ _ _ _ _ _ _ _
      | exact ih2 _ _ _ _ _ _ _ _ _ _ _ _ _ _ _
      | exact laws_zzFits1.mono _ _
      | exact spec_LsRight.mono _ _
      | exact spec_LsSteps.mono _ _
      | exact spec_LsStyled.mono _ _ _ _ _ _ _ _ _ _
      | exact spec_TxSimple.mono _ _ _
      | exact LeO.none _
      | refine LeO.ite ?_ ?_
      | refine LeO.bind ?_ (fun _ => ?_)
theorem laws_FnListUnIndentAll.mono : ∀ a0 a1 a2 a3 a4 a5 a6 a7 a8 a9 a10 a11 k, LeO (laws_FnListUnIndentAll.f k a0 a1 a2 a3 a4 a5 a6 a7 a8 a9 a10 a11) (laws_FnListUnIndentAll.f (k + 1) a0 a1 a2 a3 a4 a5 a6 a7 a8 a9 a10 a11) := by
  intro a0 a1 a2 a3 a4 a5 a6 a7 a8 a9 a10 a11 k
  obtain ⟨ih0, ih1, ih2⟩ := laws_FnListUnIndentAll.mono_l k
  unfold laws_FnListUnIndentAll.f
  repeat' first
      | (with_reducible exact ih0 _ _ _ _ _ _ _ _ _ _ _ _ _)
      | (with_reducible exact ih1 _ _ _ _ _ _ _ _ _ _ _ _ _)
      | (with_reducible exact ih2 _ _ _ _ _ _ _ _ _ _ _ _ _ _ _)
      | (with_reducible exact laws_zzFits1.mono _ _)
      | (with_reducible exact spec_LsRight.mono _ _)
      | (with_reducible exact spec_LsSteps.mono _ _)
      | (with_reducible exact spec_LsStyled.mono _ _ _ _ _ _ _ _ _ _)
      | (with_reducible exact spec_TxSimple.mono _ _ _)
      | (with_reducible exact LeO.refl _)
      | (with_reducible exact LeO.none _)
      | (with_reducible refine LeO.ite ?_ ?_)
      | (with_reducible refine LeO.bind ?_ (fun _ => ?_))
      | exact ih0 _ _ _ _ _ _ _ _ _ _ _ _ _
      | exact ih1 _ _ _ _ _ _ _ _ _ _ _ _ _
      | exact ih2 _ _ _ _ _ _ _ _ _ _ _ _ _ _ _
      | exact laws_zzFits1.mono _ _
      | exact spec_LsRight.mono _ _
      | exact spec_LsSteps.mono _ _
      | exact spec_LsStyled.mono _ _ _ _ _ _ _ _ _ _
      | exact spec_TxSimple.mono _ _ _
      | exact LeO.none _
      | refine LeO.ite ?_ ?_
      | refine LeO.bind ?_ (fun _ => ?_)
set_option maxHeartbeats 8000000 in
set_option maxRecDepth 100000 in
theorem laws_FnListUnIndentAll.calls (k : Nat) (A0 : Option Addr) (c0 : Nat) (l0 : List (S38)) (a1 : ByteArray) (a2 : Int) (a3_0 : Int) (a3_1 : ByteArray) (a3_2 : ByteArray) (a3_3 : ByteArray) (a3_4 : ByteArray) (a3_5 : ByteArray) (a3_6 : ByteArray) (a3_7 : ByteArray) (a3_8 : ByteArray) (r : Bool) (w : World) (hr0 : Kd.C k38 w A0 l0.length l0) (hc0 : l0.length ≤ c0) (h : laws_FnListUnIndentAll.f k l0 a1 a2 a3_0 a3_1 a3_2 a3_3 a3_4 a3_5 a3_6 a3_7 a3_8 = some r) :
    Calls Tryd.prog 4 #[.slice A0 l0.length c0, .string a1, .int .u8 a2, .agg #[.int .i64 a3_0, .string a3_1, .string a3_2, .string a3_3, .string a3_4, .string a3_5, .string a3_6, .string a3_7, .string a3_8]] w fun e w' => e = .returned (.bool r) ∧ Below w.heap.size w w' := by
  have hu24 := Tryd.underlying24
  have hu36 := Tryd.underlying36
  have hu38 := Tryd.underlying38
  have HR0 := Aside0.mk hr0
  have HC0 := Aside0.mk hc0
  clear hr0 hc0
  have HB := Aside0.mk (Below.refl w.heap.size w)
  have H : ((laws_zzFits1.f k l0).bind fun t153 => (if t153 = true then (if (a1.size : Int) > 2147483647 then (laws_FnListUnIndentAll.j0 k l0 a1 a2 true a3_0 a3_1 a3_2 a3_3 a3_4 a3_5 a3_6 a3_7 a3_8) else ((laws_zzFits3.f a3_0 a3_1 a3_2 a3_3 a3_4 a3_5 a3_6 a3_7 a3_8).bind fun t154 => (laws_FnListUnIndentAll.j0 k l0 a1 a2 (!t154) a3_0 a3_1 a3_2 a3_3 a3_4 a3_5 a3_6 a3_7 a3_8))) else (laws_FnListUnIndentAll.j0 k l0 a1 a2 true a3_0 a3_1 a3_2 a3_3 a3_4 a3_5 a3_6 a3_7 a3_8))) = some r := h
  clear h
  have HC5 := Aside0.mk H
  clear H
  go_enter Tryd.func4, Tryd.ntmps4
  go_upto_region 1 with (first | ((with_reducible refine gate_dst (N := 7) rfl ?_); (try (refine gate_guard (by rfl) ?_; dsimp only)); refine box_event ?hg (N := 7) ?hd (cs := #[.int .i64 a3_0, .string a3_1, .string a3_2, .string a3_3, .string a3_4, .string a3_5, .string a3_6, .string a3_7, .string a3_8]) (t := 24) ?hr ?_; (case hd => rfl); (case hg => rfl); (case hr => first | (go_simp; done) | (go_simp; rfl)); intro gb152 hg w6 hbox hb; have n0_ := Aside0.mk (below_step (by repeat (first | (with_reducible first | exact HB.out | apply below_alloc | apply pw_below_drewN | apply below_drew1) | exact HB.out)) hb); have n1_ := Aside0.mk (hbox); have n2_ := Aside0.mk ((by rw [hg]; exact (below_size (by repeat (first | (with_reducible first | exact HB.out | apply below_alloc | apply pw_below_drewN | apply below_drew1) | exact HB.out))) : w.heap.size ≤ gb152)); have n3_ := Aside0.mk ((by rw [hg]; exact (below_size (by repeat (first | (with_reducible first | exact HB.out | apply below_alloc | apply pw_below_drewN | apply below_drew1) | exact HB.out))) : w.heap.size ≤ gb152)); clear HB; have HB := n0_; have BK152 := n1_; have GW152 := n2_; have GE152 := n3_; clear n0_ n1_ n2_ n3_; clear hb hbox hg))
  (try simp only [Act.put, List.setIfInBounds_toArray, List.set_cons_zero, List.set_cons_succ])
  go_cut [25] (fun v25 wc => ∃ (kq : Nat) (x25_4 : Bool), v25 = .bool x25_4 ∧ Aside0 (laws_FnListUnIndentAll.j0 kq l0 a1 a2 x25_4 a3_0 a3_1 a3_2 a3_3 a3_4 a3_5 a3_6 a3_7 a3_8 = some r) ∧ Aside0 (kq ≤ k) ∧ Aside0 (wc.heap[gb152]? = some (.cells #[.int .i64 a3_0, .string a3_1, .string a3_2, .string a3_3, .string a3_4, .string a3_5, .string a3_6, .string a3_7, .string a3_8] 24 (0, 0))) ∧ Aside0 (Below w.heap.size w wc))
  case first =>
    have H := HC5.out
    clear HC5
    replace H := Option.bind_eq_some_iff.mp H
    obtain ⟨t153, A70, H⟩ := H
    replace H : (if t153 = true then (if (a1.size : Int) > 2147483647 then (laws_FnListUnIndentAll.j0 k l0 a1 a2 true a3_0 a3_1 a3_2 a3_3 a3_4 a3_5 a3_6 a3_7 a3_8) else ((laws_zzFits3.f a3_0 a3_1 a3_2 a3_3 a3_4 a3_5 a3_6 a3_7 a3_8).bind fun t154 => (laws_FnListUnIndentAll.j0 k l0 a1 a2 (!t154) a3_0 a3_1 a3_2 a3_3 a3_4 a3_5 a3_6 a3_7 a3_8))) else (laws_FnListUnIndentAll.j0 k l0 a1 a2 true a3_0 a3_1 a3_2 a3_3 a3_4 a3_5 a3_6 a3_7 a3_8)) = some r := H
    have A7 := Aside0.mk A70
    clear A70
    by_cases c8 : t153 = true
    · subst c8
      have H1 : (if (a1.size : Int) > 2147483647 then (laws_FnListUnIndentAll.j0 k l0 a1 a2 true a3_0 a3_1 a3_2 a3_3 a3_4 a3_5 a3_6 a3_7 a3_8) else ((laws_zzFits3.f a3_0 a3_1 a3_2 a3_3 a3_4 a3_5 a3_6 a3_7 a3_8).bind fun t154 => (laws_FnListUnIndentAll.j0 k l0 a1 a2 (!t154) a3_0 a3_1 a3_2 a3_3 a3_4 a3_5 a3_6 a3_7 a3_8))) = some r := by rw [if_pos rfl] at H; exact H
      clear H
      have H := H1
      clear H1
      by_cases c9 : (a1.size : Int) > 2147483647
      · rw [if_pos c9] at H
        have c9b0 : decide (2147483647 < (a1.size : Int)) = true := decide_eq_true c9
        have c9b1 : decide (2147483647 < a1.size) = true := decide_eq_true (by omega)
        clear c9
        (first | rw [c9b0] | (simp only [i64_w, i32_w]; rw [c9b0]) | skip)
        have H' := Aside0.mk H
        clear H
        go_wp2_with (first | ((with_reducible refine gate_callee (f := 6) rfl ?_); refine goesL_ (some 14) rfl rfl Tryd.func6 (by kernel_rfl) rfl #[.slice A0 l0.length c0] rfl (by (try simp only [List.map_toArray, List.map_cons, List.map_nil]); first | done | rfl | (simp only [List.length_drop, List.length_take]; rfl)) ?_; (with_reducible refine (laws_zzFits1.calls k _ _ l0 true _ ?side1 ?side2 A7.out).mono ?_); (case side1 => repeat (first | exact (Kd.C_below HR0.out HB.out) | (with_reducible refine Kd.C_alloc ?_ _) | (with_reducible refine Kd.C_drewN ?_ _) | (with_reducible refine Kd.C_drew ?_))); (case side2 => exact HC0.out); rintro e w10 ⟨rfl, hb⟩; refine ⟨_, rfl, ?_⟩; have n0_ := Aside0.mk (blk_below (g := gb152) (o := .cells #[.int .i64 a3_0, .string a3_1, .string a3_2, .string a3_3, .string a3_4, .string a3_5, .string a3_6, .string a3_7, .string a3_8] 24 (0, 0)) (by (with_reducible repeat (first | refine blk_drewN ?_ _ | refine blk_drew ?_ | refine blk_alloc ?_ _)); exact BK152.out) hb); have n1_ := Aside0.mk (below_step (by repeat (first | (with_reducible first | exact HB.out | apply below_alloc | apply pw_below_drewN | apply below_drew1 | refine below_set ?_ GE152.out) | exact HB.out)) hb); clear BK152; clear HB; have BK152 := n0_; have HB := n1_; clear n0_ n1_; (try clear hb); (try clear hb2); (try clear hk); (try clear hi)))
        go_meet
        case rel => exact ⟨_, (true), (by first | rfl | (simp; done) | (simp [*]; done)), H', ⟨by first | omega | exact Nat.le_refl _⟩, ⟨by (with_reducible repeat (first | refine blk_drewN ?_ _ | refine blk_drew ?_ | refine blk_alloc ?_ _)); exact BK152.out⟩, ⟨by repeat (first | (with_reducible first | exact HB.out | apply below_alloc | apply pw_below_drewN | apply below_drew1 | refine below_set ?_ GE152.out) | exact HB.out)⟩⟩
      · rw [if_neg c9] at H
        have c9b0 : decide (2147483647 < (a1.size : Int)) = false := decide_eq_false c9
        have c9b1 : decide (2147483647 < a1.size) = false := decide_eq_false (by omega)
        clear c9
        (first | rw [c9b0] | (simp only [i64_w, i32_w]; rw [c9b0]) | skip)
        replace H := Option.bind_eq_some_iff.mp H
        obtain ⟨t154, A110, H⟩ := H
        replace H : (laws_FnListUnIndentAll.j0 k l0 a1 a2 (!t154) a3_0 a3_1 a3_2 a3_3 a3_4 a3_5 a3_6 a3_7 a3_8) = some r := H
        have A11 := Aside0.mk A110
        clear A110
        have H' := Aside0.mk H
        clear H
        go_wp2_with (first | ((with_reducible refine gate_callee (f := 6) rfl ?_); refine goesL_ (some 14) rfl rfl Tryd.func6 (by kernel_rfl) rfl #[.slice A0 l0.length c0] rfl (by (try simp only [List.map_toArray, List.map_cons, List.map_nil]); first | done | rfl | (simp only [List.length_drop, List.length_take]; rfl)) ?_; (with_reducible refine (laws_zzFits1.calls k _ _ l0 true _ ?side1 ?side2 A7.out).mono ?_); (case side1 => repeat (first | exact (Kd.C_below HR0.out HB.out) | (with_reducible refine Kd.C_alloc ?_ _) | (with_reducible refine Kd.C_drewN ?_ _) | (with_reducible refine Kd.C_drew ?_))); (case side2 => exact HC0.out); rintro e w12 ⟨rfl, hb⟩; refine ⟨_, rfl, ?_⟩; have n0_ := Aside0.mk (blk_below (g := gb152) (o := .cells #[.int .i64 a3_0, .string a3_1, .string a3_2, .string a3_3, .string a3_4, .string a3_5, .string a3_6, .string a3_7, .string a3_8] 24 (0, 0)) (by (with_reducible repeat (first | refine blk_drewN ?_ _ | refine blk_drew ?_ | refine blk_alloc ?_ _)); exact BK152.out) hb); have n1_ := Aside0.mk (below_step (by repeat (first | (with_reducible first | exact HB.out | apply below_alloc | apply pw_below_drewN | apply below_drew1 | refine below_set ?_ GE152.out) | exact HB.out)) hb); clear BK152; clear HB; have BK152 := n0_; have HB := n1_; clear n0_ n1_; (try clear hb); (try clear hb2); (try clear hk); (try clear hi); have hcz13_0 : w12.cell? ⟨gb152, 0, none⟩ = some (.int .i64 a3_0) := (blk_cell BK152.out 0).trans rfl; have hcz13_1 : w12.cell? ⟨gb152, 1, none⟩ = some (.string a3_1) := (blk_cell BK152.out 1).trans rfl; have hcz13_2 : w12.cell? ⟨gb152, 2, none⟩ = some (.string a3_2) := (blk_cell BK152.out 2).trans rfl; have hcz13_3 : w12.cell? ⟨gb152, 3, none⟩ = some (.string a3_3) := (blk_cell BK152.out 3).trans rfl; have hcz13_4 : w12.cell? ⟨gb152, 4, none⟩ = some (.string a3_4) := (blk_cell BK152.out 4).trans rfl; have hcz13_5 : w12.cell? ⟨gb152, 5, none⟩ = some (.string a3_5) := (blk_cell BK152.out 5).trans rfl; have hcz13_6 : w12.cell? ⟨gb152, 6, none⟩ = some (.string a3_6) := (blk_cell BK152.out 6).trans rfl; have hcz13_7 : w12.cell? ⟨gb152, 7, none⟩ = some (.string a3_7) := (blk_cell BK152.out 7).trans rfl; have hcz13_8 : w12.cell? ⟨gb152, 8, none⟩ = some (.string a3_8) := (blk_cell BK152.out 8).trans rfl; have hfz13_0 := blk_frozen BK152.out 0; have hfz13_1 := blk_frozen BK152.out 1; have hfz13_2 := blk_frozen BK152.out 2; have hfz13_3 := blk_frozen BK152.out 3; have hfz13_4 := blk_frozen BK152.out 4; have hfz13_5 := blk_frozen BK152.out 5; have hfz13_6 := blk_frozen BK152.out 6; have hfz13_7 := blk_frozen BK152.out 7; have hfz13_8 := blk_frozen BK152.out 8) | (go_at_call 7; (with_reducible refine (laws_zzFits3.calls a3_0 a3_1 a3_2 a3_3 a3_4 a3_5 a3_6 a3_7 a3_8 t154 _ A11.out).mono ?_); rintro e w14 ⟨rfl, hb⟩; have n0_ := Aside0.mk (blk_below (g := gb152) (o := .cells #[.int .i64 a3_0, .string a3_1, .string a3_2, .string a3_3, .string a3_4, .string a3_5, .string a3_6, .string a3_7, .string a3_8] 24 (0, 0)) (by (with_reducible repeat (first | refine blk_drewN ?_ _ | refine blk_drew ?_ | refine blk_alloc ?_ _)); exact BK152.out) hb); have n1_ := Aside0.mk (below_step (by repeat (first | (with_reducible first | exact HB.out | apply below_alloc | apply pw_below_drewN | apply below_drew1 | refine below_set ?_ GE152.out) | exact HB.out)) hb); clear BK152; clear HB; have BK152 := n0_; have HB := n1_; clear n0_ n1_; (try clear hb); (try clear hb2); (try clear hk); (try clear hi)))
        go_meet
        case rel => exact ⟨_, (!t154), (by first | rfl | (simp; done) | (simp [*]; done)), H', ⟨by first | omega | exact Nat.le_refl _⟩, ⟨by (with_reducible repeat (first | refine blk_drewN ?_ _ | refine blk_drew ?_ | refine blk_alloc ?_ _)); exact BK152.out⟩, ⟨by repeat (first | (with_reducible first | exact HB.out | apply below_alloc | apply pw_below_drewN | apply below_drew1 | refine below_set ?_ GE152.out) | exact HB.out)⟩⟩
    · replace c8 := Bool.eq_false_iff.mpr c8
      subst c8
      have H1 : (laws_FnListUnIndentAll.j0 k l0 a1 a2 true a3_0 a3_1 a3_2 a3_3 a3_4 a3_5 a3_6 a3_7 a3_8) = some r := by rw [if_neg (show ¬ (false = true) by decide)] at H; exact H
      clear H
      have H := H1
      clear H1
      have H' := Aside0.mk H
      clear H
      go_wp2_with (first | ((with_reducible refine gate_callee (f := 6) rfl ?_); refine goesL_ (some 14) rfl rfl Tryd.func6 (by kernel_rfl) rfl #[.slice A0 l0.length c0] rfl (by (try simp only [List.map_toArray, List.map_cons, List.map_nil]); first | done | rfl | (simp only [List.length_drop, List.length_take]; rfl)) ?_; (with_reducible refine (laws_zzFits1.calls k _ _ l0 false _ ?side1 ?side2 A7.out).mono ?_); (case side1 => repeat (first | exact (Kd.C_below HR0.out HB.out) | (with_reducible refine Kd.C_alloc ?_ _) | (with_reducible refine Kd.C_drewN ?_ _) | (with_reducible refine Kd.C_drew ?_))); (case side2 => exact HC0.out); rintro e w15 ⟨rfl, hb⟩; refine ⟨_, rfl, ?_⟩; have n0_ := Aside0.mk (blk_below (g := gb152) (o := .cells #[.int .i64 a3_0, .string a3_1, .string a3_2, .string a3_3, .string a3_4, .string a3_5, .string a3_6, .string a3_7, .string a3_8] 24 (0, 0)) (by (with_reducible repeat (first | refine blk_drewN ?_ _ | refine blk_drew ?_ | refine blk_alloc ?_ _)); exact BK152.out) hb); have n1_ := Aside0.mk (below_step (by repeat (first | (with_reducible first | exact HB.out | apply below_alloc | apply pw_below_drewN | apply below_drew1 | refine below_set ?_ GE152.out) | exact HB.out)) hb); clear BK152; clear HB; have BK152 := n0_; have HB := n1_; clear n0_ n1_; (try clear hb); (try clear hb2); (try clear hk); (try clear hi)))
      go_meet
      case rel => exact ⟨_, (true), (by first | rfl | (simp; done) | (simp [*]; done)), H', ⟨by first | omega | exact Nat.le_refl _⟩, ⟨by (with_reducible repeat (first | refine blk_drewN ?_ _ | refine blk_drew ?_ | refine blk_alloc ?_ _)); exact BK152.out⟩, ⟨by repeat (first | (with_reducible first | exact HB.out | apply below_alloc | apply pw_below_drewN | apply below_drew1 | refine below_set ?_ GE152.out) | exact HB.out)⟩⟩
  case rest =>
    clear HC5
    try clear p2
    try clear c4
    try clear c6
    try clear c8
    try clear c9
    try clear c9b0
    try clear c9b1
    try clear hcz13_0
    try clear hcz13_1
    try clear hcz13_2
    try clear hcz13_3
    try clear hcz13_4
    try clear hcz13_5
    try clear hcz13_6
    try clear hcz13_7
    try clear hcz13_8
    try clear hfz13_0
    try clear hfz13_1
    try clear hfz13_2
    try clear hfz13_3
    try clear hfz13_4
    try clear hfz13_5
    try clear hfz13_6
    try clear hfz13_7
    try clear hfz13_8
    obtain ⟨kq, x25_4, rfl, HA, HJ4, BK152, HB⟩ := hcut
    cases kq with
    | zero => exact absurd HA.out (by simp [laws_FnListUnIndentAll.j0])
    | succ kj4 =>
      have H := HA.out
      clear HA
      simp only [laws_FnListUnIndentAll.j0] at H
      by_cases c16 : x25_4 = true
      · subst c16
        have H1 : (some true) = some r := by rw [if_pos rfl] at H; exact H
        clear H
        have H := H1
        clear H1
        obtain rfl := Option.some.inj H
        go_wp2
        go_ret
        exact ⟨by first | rfl | (simp [errW_none, errW_some] <;> rfl) | (simp [*, errW_none, errW_some] <;> rfl), by repeat (first | (with_reducible first | exact HB.out | apply below_alloc | apply pw_below_drewN | apply below_drew1 | refine below_set ?_ GE152.out) | exact HB.out)⟩
      · replace c16 := Bool.eq_false_iff.mpr c16
        subst c16
        have H1 : ((spec_LsRight.f kj4 l0).bind fun t155 => (if t155 = true then (if (l0.length : Int) = 0 then (laws_FnListUnIndentAll.j1 kj4 l0 a1 a2 true a3_0 a3_1 a3_2 a3_3 a3_4 a3_5 a3_6 a3_7 a3_8) else (if (a1.size : Int) > 200 then (laws_FnListUnIndentAll.j1 kj4 l0 a1 a2 true a3_0 a3_1 a3_2 a3_3 a3_4 a3_5 a3_6 a3_7 a3_8) else ((spec_TxSimple.f kj4 a1 false).bind fun t156 => (if t156 = true then ((spec_LsStyled.f kj4 a3_0 a3_1 a3_2 a3_3 a3_4 a3_5 a3_6 a3_7 a3_8).bind fun t157 => (laws_FnListUnIndentAll.j1 kj4 l0 a1 a2 (!t157) a3_0 a3_1 a3_2 a3_3 a3_4 a3_5 a3_6 a3_7 a3_8)) else (laws_FnListUnIndentAll.j1 kj4 l0 a1 a2 true a3_0 a3_1 a3_2 a3_3 a3_4 a3_5 a3_6 a3_7 a3_8))))) else (laws_FnListUnIndentAll.j1 kj4 l0 a1 a2 true a3_0 a3_1 a3_2 a3_3 a3_4 a3_5 a3_6 a3_7 a3_8))) = some r := by rw [if_neg (show ¬ (false = true) by decide)] at H; exact H
        clear H
        have H := H1
        clear H1
        have HC17 := Aside0.mk H
        clear H
        go_upto_region 3 with (fail)
        go_cut [48] (fun v48 wc => ∃ (kq : Nat) (x48_16 : Bool), v48 = .bool x48_16 ∧ Aside0 (laws_FnListUnIndentAll.j1 kq l0 a1 a2 x48_16 a3_0 a3_1 a3_2 a3_3 a3_4 a3_5 a3_6 a3_7 a3_8 = some r) ∧ Aside0 (kq ≤ kj4) ∧ Aside0 (wc.heap[gb152]? = some (.cells #[.int .i64 a3_0, .string a3_1, .string a3_2, .string a3_3, .string a3_4, .string a3_5, .string a3_6, .string a3_7, .string a3_8] 24 (0, 0))) ∧ Aside0 (Below w.heap.size w wc))
        case first =>
          have H := HC17.out
          clear HC17
          replace H := Option.bind_eq_some_iff.mp H
          obtain ⟨t155, A180, H⟩ := H
          replace H : (if t155 = true then (if (l0.length : Int) = 0 then (laws_FnListUnIndentAll.j1 kj4 l0 a1 a2 true a3_0 a3_1 a3_2 a3_3 a3_4 a3_5 a3_6 a3_7 a3_8) else (if (a1.size : Int) > 200 then (laws_FnListUnIndentAll.j1 kj4 l0 a1 a2 true a3_0 a3_1 a3_2 a3_3 a3_4 a3_5 a3_6 a3_7 a3_8) else ((spec_TxSimple.f kj4 a1 false).bind fun t156 => (if t156 = true then ((spec_LsStyled.f kj4 a3_0 a3_1 a3_2 a3_3 a3_4 a3_5 a3_6 a3_7 a3_8).bind fun t157 => (laws_FnListUnIndentAll.j1 kj4 l0 a1 a2 (!t157) a3_0 a3_1 a3_2 a3_3 a3_4 a3_5 a3_6 a3_7 a3_8)) else (laws_FnListUnIndentAll.j1 kj4 l0 a1 a2 true a3_0 a3_1 a3_2 a3_3 a3_4 a3_5 a3_6 a3_7 a3_8))))) else (laws_FnListUnIndentAll.j1 kj4 l0 a1 a2 true a3_0 a3_1 a3_2 a3_3 a3_4 a3_5 a3_6 a3_7 a3_8)) = some r := H
          have A18 := Aside0.mk A180
          clear A180
          by_cases c19 : t155 = true
          · subst c19
            have H1 : (if (l0.length : Int) = 0 then (laws_FnListUnIndentAll.j1 kj4 l0 a1 a2 true a3_0 a3_1 a3_2 a3_3 a3_4 a3_5 a3_6 a3_7 a3_8) else (if (a1.size : Int) > 200 then (laws_FnListUnIndentAll.j1 kj4 l0 a1 a2 true a3_0 a3_1 a3_2 a3_3 a3_4 a3_5 a3_6 a3_7 a3_8) else ((spec_TxSimple.f kj4 a1 false).bind fun t156 => (if t156 = true then ((spec_LsStyled.f kj4 a3_0 a3_1 a3_2 a3_3 a3_4 a3_5 a3_6 a3_7 a3_8).bind fun t157 => (laws_FnListUnIndentAll.j1 kj4 l0 a1 a2 (!t157) a3_0 a3_1 a3_2 a3_3 a3_4 a3_5 a3_6 a3_7 a3_8)) else (laws_FnListUnIndentAll.j1 kj4 l0 a1 a2 true a3_0 a3_1 a3_2 a3_3 a3_4 a3_5 a3_6 a3_7 a3_8))))) = some r := by rw [if_pos rfl] at H; exact H
            clear H
            have H := H1
            clear H1
            by_cases c20 : (l0.length : Int) = 0
            · rw [if_pos c20] at H
              have c20b0 : ((l0.length : Int) == 0) = true := beq_iff_eq.mpr c20
              have c20b1 : ((l0.length : Int) != 0) = false := bne_eq_false_iff_eq.mpr c20
              clear c20
              (first | rw [c20b0] | (simp only [i64_w, i32_w]; rw [c20b0]) | skip)
              have H' := Aside0.mk H
              clear H
              go_wp2_with (first | ((with_reducible refine gate_callee (f := 8) rfl ?_); refine goesL_ (some 27) rfl rfl Tryd.func8 (by kernel_rfl) rfl #[.slice A0 l0.length c0] rfl (by (try simp only [List.map_toArray, List.map_cons, List.map_nil]); first | done | rfl | (simp only [List.length_drop, List.length_take]; rfl)) ?_; (with_reducible refine (spec_LsRight.calls kj4 _ _ l0 true _ ?side1 ?side2 A18.out).mono ?_); (case side1 => repeat (first | exact (Kd.C_below HR0.out HB.out) | (with_reducible refine Kd.C_alloc ?_ _) | (with_reducible refine Kd.C_drewN ?_ _) | (with_reducible refine Kd.C_drew ?_))); (case side2 => exact HC0.out); rintro e w21 ⟨rfl, hb⟩; refine ⟨_, rfl, ?_⟩; have n0_ := Aside0.mk (blk_below (g := gb152) (o := .cells #[.int .i64 a3_0, .string a3_1, .string a3_2, .string a3_3, .string a3_4, .string a3_5, .string a3_6, .string a3_7, .string a3_8] 24 (0, 0)) (by (with_reducible repeat (first | refine blk_drewN ?_ _ | refine blk_drew ?_ | refine blk_alloc ?_ _)); exact BK152.out) hb); have n1_ := Aside0.mk (below_step (by repeat (first | (with_reducible first | exact HB.out | apply below_alloc | apply pw_below_drewN | apply below_drew1 | refine below_set ?_ GE152.out) | exact HB.out)) hb); clear BK152; clear HB; have BK152 := n0_; have HB := n1_; clear n0_ n1_; (try clear hb); (try clear hb2); (try clear hk); (try clear hi)))
              go_meet
              case rel => exact ⟨_, (true), (by first | rfl | (simp; done) | (simp [*]; done)), H', ⟨by have := HJ4.out; first | omega | exact Nat.le_refl _⟩, ⟨by (with_reducible repeat (first | refine blk_drewN ?_ _ | refine blk_drew ?_ | refine blk_alloc ?_ _)); exact BK152.out⟩, ⟨by repeat (first | (with_reducible first | exact HB.out | apply below_alloc | apply pw_below_drewN | apply below_drew1 | refine below_set ?_ GE152.out) | exact HB.out)⟩⟩
            · rw [if_neg c20] at H
              have c20b0 : ((l0.length : Int) == 0) = false := beq_eq_false_iff_ne.mpr c20
              have c20b1 : ((l0.length : Int) != 0) = true := bne_iff_ne.mpr c20
              have c20b2 : ¬ (l0 = []) := fun h_ => c20 (by rw [h_]; rfl)
              (first | rw [c20b0] | (simp only [i64_w, i32_w]; rw [c20b0]) | skip)
              by_cases c22 : (a1.size : Int) > 200
              · rw [if_pos c22] at H
                have c22b0 : decide (200 < (a1.size : Int)) = true := decide_eq_true c22
                have c22b1 : decide (200 < a1.size) = true := decide_eq_true (by omega)
                clear c22
                have H' := Aside0.mk H
                clear H
                go_wp2_with (first | ((with_reducible refine gate_callee (f := 8) rfl ?_); refine goesL_ (some 27) rfl rfl Tryd.func8 (by kernel_rfl) rfl #[.slice A0 l0.length c0] rfl (by (try simp only [List.map_toArray, List.map_cons, List.map_nil]); first | done | rfl | (simp only [List.length_drop, List.length_take]; rfl)) ?_; (with_reducible refine (spec_LsRight.calls kj4 _ _ l0 true _ ?side1 ?side2 A18.out).mono ?_); (case side1 => repeat (first | exact (Kd.C_below HR0.out HB.out) | (with_reducible refine Kd.C_alloc ?_ _) | (with_reducible refine Kd.C_drewN ?_ _) | (with_reducible refine Kd.C_drew ?_))); (case side2 => exact HC0.out); rintro e w23 ⟨rfl, hb⟩; refine ⟨_, rfl, ?_⟩; have n0_ := Aside0.mk (blk_below (g := gb152) (o := .cells #[.int .i64 a3_0, .string a3_1, .string a3_2, .string a3_3, .string a3_4, .string a3_5, .string a3_6, .string a3_7, .string a3_8] 24 (0, 0)) (by (with_reducible repeat (first | refine blk_drewN ?_ _ | refine blk_drew ?_ | refine blk_alloc ?_ _)); exact BK152.out) hb); have n1_ := Aside0.mk (below_step (by repeat (first | (with_reducible first | exact HB.out | apply below_alloc | apply pw_below_drewN | apply below_drew1 | refine below_set ?_ GE152.out) | exact HB.out)) hb); clear BK152; clear HB; have BK152 := n0_; have HB := n1_; clear n0_ n1_; (try clear hb); (try clear hb2); (try clear hk); (try clear hi)))
                go_meet
                case rel => exact ⟨_, (true), (by first | rfl | (simp; done) | (simp [*]; done)), H', ⟨by have := HJ4.out; first | omega | exact Nat.le_refl _⟩, ⟨by (with_reducible repeat (first | refine blk_drewN ?_ _ | refine blk_drew ?_ | refine blk_alloc ?_ _)); exact BK152.out⟩, ⟨by repeat (first | (with_reducible first | exact HB.out | apply below_alloc | apply pw_below_drewN | apply below_drew1 | refine below_set ?_ GE152.out) | exact HB.out)⟩⟩
              · rw [if_neg c22] at H
                have c22b0 : decide (200 < (a1.size : Int)) = false := decide_eq_false c22
                have c22b1 : decide (200 < a1.size) = false := decide_eq_false (by omega)
                clear c22
                replace H := Option.bind_eq_some_iff.mp H
                obtain ⟨t156, A240, H⟩ := H
                replace H : (if t156 = true then ((spec_LsStyled.f kj4 a3_0 a3_1 a3_2 a3_3 a3_4 a3_5 a3_6 a3_7 a3_8).bind fun t157 => (laws_FnListUnIndentAll.j1 kj4 l0 a1 a2 (!t157) a3_0 a3_1 a3_2 a3_3 a3_4 a3_5 a3_6 a3_7 a3_8)) else (laws_FnListUnIndentAll.j1 kj4 l0 a1 a2 true a3_0 a3_1 a3_2 a3_3 a3_4 a3_5 a3_6 a3_7 a3_8)) = some r := H
                have A24 := Aside0.mk A240
                clear A240
                by_cases c25 : t156 = true
                · subst c25
                  have H1 : ((spec_LsStyled.f kj4 a3_0 a3_1 a3_2 a3_3 a3_4 a3_5 a3_6 a3_7 a3_8).bind fun t157 => (laws_FnListUnIndentAll.j1 kj4 l0 a1 a2 (!t157) a3_0 a3_1 a3_2 a3_3 a3_4 a3_5 a3_6 a3_7 a3_8)) = some r := by rw [if_pos rfl] at H; exact H
                  clear H
                  have H := H1
                  clear H1
                  replace H := Option.bind_eq_some_iff.mp H
                  obtain ⟨t157, A260, H⟩ := H
                  replace H : (laws_FnListUnIndentAll.j1 kj4 l0 a1 a2 (!t157) a3_0 a3_1 a3_2 a3_3 a3_4 a3_5 a3_6 a3_7 a3_8) = some r := H
                  have A26 := Aside0.mk A260
                  clear A260
                  have H' := Aside0.mk H
                  clear H
                  go_wp2_with (first | ((with_reducible refine gate_callee (f := 8) rfl ?_); refine goesL_ (some 27) rfl rfl Tryd.func8 (by kernel_rfl) rfl #[.slice A0 l0.length c0] rfl (by (try simp only [List.map_toArray, List.map_cons, List.map_nil]); first | done | rfl | (simp only [List.length_drop, List.length_take]; rfl)) ?_; (with_reducible refine (spec_LsRight.calls kj4 _ _ l0 true _ ?side1 ?side2 A18.out).mono ?_); (case side1 => repeat (first | exact (Kd.C_below HR0.out HB.out) | (with_reducible refine Kd.C_alloc ?_ _) | (with_reducible refine Kd.C_drewN ?_ _) | (with_reducible refine Kd.C_drew ?_))); (case side2 => exact HC0.out); rintro e w27 ⟨rfl, hb⟩; refine ⟨_, rfl, ?_⟩; have n0_ := Aside0.mk (blk_below (g := gb152) (o := .cells #[.int .i64 a3_0, .string a3_1, .string a3_2, .string a3_3, .string a3_4, .string a3_5, .string a3_6, .string a3_7, .string a3_8] 24 (0, 0)) (by (with_reducible repeat (first | refine blk_drewN ?_ _ | refine blk_drew ?_ | refine blk_alloc ?_ _)); exact BK152.out) hb); have n1_ := Aside0.mk (below_step (by repeat (first | (with_reducible first | exact HB.out | apply below_alloc | apply pw_below_drewN | apply below_drew1 | refine below_set ?_ GE152.out) | exact HB.out)) hb); clear BK152; clear HB; have BK152 := n0_; have HB := n1_; clear n0_ n1_; (try clear hb); (try clear hb2); (try clear hk); (try clear hi)) | (go_at_call 14; (with_reducible refine (spec_TxSimple.calls kj4 a1 false true _ A24.out).mono ?_); rintro e w28 ⟨rfl, hb⟩; have n0_ := Aside0.mk (blk_below (g := gb152) (o := .cells #[.int .i64 a3_0, .string a3_1, .string a3_2, .string a3_3, .string a3_4, .string a3_5, .string a3_6, .string a3_7, .string a3_8] 24 (0, 0)) (by (with_reducible repeat (first | refine blk_drewN ?_ _ | refine blk_drew ?_ | refine blk_alloc ?_ _)); exact BK152.out) hb); have n1_ := Aside0.mk (below_step (by repeat (first | (with_reducible first | exact HB.out | apply below_alloc | apply pw_below_drewN | apply below_drew1 | refine below_set ?_ GE152.out) | exact HB.out)) hb); clear BK152; clear HB; have BK152 := n0_; have HB := n1_; clear n0_ n1_; (try clear hb); (try clear hb2); (try clear hk); (try clear hi); have hcz29_0 : w28.cell? ⟨gb152, 0, none⟩ = some (.int .i64 a3_0) := (blk_cell BK152.out 0).trans rfl; have hcz29_1 : w28.cell? ⟨gb152, 1, none⟩ = some (.string a3_1) := (blk_cell BK152.out 1).trans rfl; have hcz29_2 : w28.cell? ⟨gb152, 2, none⟩ = some (.string a3_2) := (blk_cell BK152.out 2).trans rfl; have hcz29_3 : w28.cell? ⟨gb152, 3, none⟩ = some (.string a3_3) := (blk_cell BK152.out 3).trans rfl; have hcz29_4 : w28.cell? ⟨gb152, 4, none⟩ = some (.string a3_4) := (blk_cell BK152.out 4).trans rfl; have hcz29_5 : w28.cell? ⟨gb152, 5, none⟩ = some (.string a3_5) := (blk_cell BK152.out 5).trans rfl; have hcz29_6 : w28.cell? ⟨gb152, 6, none⟩ = some (.string a3_6) := (blk_cell BK152.out 6).trans rfl; have hcz29_7 : w28.cell? ⟨gb152, 7, none⟩ = some (.string a3_7) := (blk_cell BK152.out 7).trans rfl; have hcz29_8 : w28.cell? ⟨gb152, 8, none⟩ = some (.string a3_8) := (blk_cell BK152.out 8).trans rfl; have hfz29_0 := blk_frozen BK152.out 0; have hfz29_1 := blk_frozen BK152.out 1; have hfz29_2 := blk_frozen BK152.out 2; have hfz29_3 := blk_frozen BK152.out 3; have hfz29_4 := blk_frozen BK152.out 4; have hfz29_5 := blk_frozen BK152.out 5; have hfz29_6 := blk_frozen BK152.out 6; have hfz29_7 := blk_frozen BK152.out 7; have hfz29_8 := blk_frozen BK152.out 8) | (go_at_call 9; (with_reducible refine (spec_LsStyled.calls kj4 a3_0 a3_1 a3_2 a3_3 a3_4 a3_5 a3_6 a3_7 a3_8 t157 _ A26.out).mono ?_); rintro e w30 ⟨rfl, hb⟩; have n0_ := Aside0.mk (blk_below (g := gb152) (o := .cells #[.int .i64 a3_0, .string a3_1, .string a3_2, .string a3_3, .string a3_4, .string a3_5, .string a3_6, .string a3_7, .string a3_8] 24 (0, 0)) (by (with_reducible repeat (first | refine blk_drewN ?_ _ | refine blk_drew ?_ | refine blk_alloc ?_ _)); exact BK152.out) hb); have n1_ := Aside0.mk (below_step (by repeat (first | (with_reducible first | exact HB.out | apply below_alloc | apply pw_below_drewN | apply below_drew1 | refine below_set ?_ GE152.out) | exact HB.out)) hb); clear BK152; clear HB; have BK152 := n0_; have HB := n1_; clear n0_ n1_; (try clear hb); (try clear hb2); (try clear hk); (try clear hi)))
                  go_meet
                  case rel => exact ⟨_, (!t157), (by first | rfl | (simp; done) | (simp [*]; done)), H', ⟨by have := HJ4.out; first | omega | exact Nat.le_refl _⟩, ⟨by (with_reducible repeat (first | refine blk_drewN ?_ _ | refine blk_drew ?_ | refine blk_alloc ?_ _)); exact BK152.out⟩, ⟨by repeat (first | (with_reducible first | exact HB.out | apply below_alloc | apply pw_below_drewN | apply below_drew1 | refine below_set ?_ GE152.out) | exact HB.out)⟩⟩
                · replace c25 := Bool.eq_false_iff.mpr c25
                  subst c25
                  have H1 : (laws_FnListUnIndentAll.j1 kj4 l0 a1 a2 true a3_0 a3_1 a3_2 a3_3 a3_4 a3_5 a3_6 a3_7 a3_8) = some r := by rw [if_neg (show ¬ (false = true) by decide)] at H; exact H
                  clear H
                  have H := H1
                  clear H1
                  have H' := Aside0.mk H
                  clear H
                  go_wp2_with (first | ((with_reducible refine gate_callee (f := 8) rfl ?_); refine goesL_ (some 27) rfl rfl Tryd.func8 (by kernel_rfl) rfl #[.slice A0 l0.length c0] rfl (by (try simp only [List.map_toArray, List.map_cons, List.map_nil]); first | done | rfl | (simp only [List.length_drop, List.length_take]; rfl)) ?_; (with_reducible refine (spec_LsRight.calls kj4 _ _ l0 true _ ?side1 ?side2 A18.out).mono ?_); (case side1 => repeat (first | exact (Kd.C_below HR0.out HB.out) | (with_reducible refine Kd.C_alloc ?_ _) | (with_reducible refine Kd.C_drewN ?_ _) | (with_reducible refine Kd.C_drew ?_))); (case side2 => exact HC0.out); rintro e w31 ⟨rfl, hb⟩; refine ⟨_, rfl, ?_⟩; have n0_ := Aside0.mk (blk_below (g := gb152) (o := .cells #[.int .i64 a3_0, .string a3_1, .string a3_2, .string a3_3, .string a3_4, .string a3_5, .string a3_6, .string a3_7, .string a3_8] 24 (0, 0)) (by (with_reducible repeat (first | refine blk_drewN ?_ _ | refine blk_drew ?_ | refine blk_alloc ?_ _)); exact BK152.out) hb); have n1_ := Aside0.mk (below_step (by repeat (first | (with_reducible first | exact HB.out | apply below_alloc | apply pw_below_drewN | apply below_drew1 | refine below_set ?_ GE152.out) | exact HB.out)) hb); clear BK152; clear HB; have BK152 := n0_; have HB := n1_; clear n0_ n1_; (try clear hb); (try clear hb2); (try clear hk); (try clear hi)) | (go_at_call 14; (with_reducible refine (spec_TxSimple.calls kj4 a1 false false _ A24.out).mono ?_); rintro e w32 ⟨rfl, hb⟩; have n0_ := Aside0.mk (blk_below (g := gb152) (o := .cells #[.int .i64 a3_0, .string a3_1, .string a3_2, .string a3_3, .string a3_4, .string a3_5, .string a3_6, .string a3_7, .string a3_8] 24 (0, 0)) (by (with_reducible repeat (first | refine blk_drewN ?_ _ | refine blk_drew ?_ | refine blk_alloc ?_ _)); exact BK152.out) hb); have n1_ := Aside0.mk (below_step (by repeat (first | (with_reducible first | exact HB.out | apply below_alloc | apply pw_below_drewN | apply below_drew1 | refine below_set ?_ GE152.out) | exact HB.out)) hb); clear BK152; clear HB; have BK152 := n0_; have HB := n1_; clear n0_ n1_; (try clear hb); (try clear hb2); (try clear hk); (try clear hi)))
                  go_meet
                  case rel => exact ⟨_, (true), (by first | rfl | (simp; done) | (simp [*]; done)), H', ⟨by have := HJ4.out; first | omega | exact Nat.le_refl _⟩, ⟨by (with_reducible repeat (first | refine blk_drewN ?_ _ | refine blk_drew ?_ | refine blk_alloc ?_ _)); exact BK152.out⟩, ⟨by repeat (first | (with_reducible first | exact HB.out | apply below_alloc | apply pw_below_drewN | apply below_drew1 | refine below_set ?_ GE152.out) | exact HB.out)⟩⟩
          · replace c19 := Bool.eq_false_iff.mpr c19
            subst c19
            have H1 : (laws_FnListUnIndentAll.j1 kj4 l0 a1 a2 true a3_0 a3_1 a3_2 a3_3 a3_4 a3_5 a3_6 a3_7 a3_8) = some r := by rw [if_neg (show ¬ (false = true) by decide)] at H; exact H
            clear H
            have H := H1
            clear H1
            have H' := Aside0.mk H
            clear H
            go_wp2_with (first | ((with_reducible refine gate_callee (f := 8) rfl ?_); refine goesL_ (some 27) rfl rfl Tryd.func8 (by kernel_rfl) rfl #[.slice A0 l0.length c0] rfl (by (try simp only [List.map_toArray, List.map_cons, List.map_nil]); first | done | rfl | (simp only [List.length_drop, List.length_take]; rfl)) ?_; (with_reducible refine (spec_LsRight.calls kj4 _ _ l0 false _ ?side1 ?side2 A18.out).mono ?_); (case side1 => repeat (first | exact (Kd.C_below HR0.out HB.out) | (with_reducible refine Kd.C_alloc ?_ _) | (with_reducible refine Kd.C_drewN ?_ _) | (with_reducible refine Kd.C_drew ?_))); (case side2 => exact HC0.out); rintro e w33 ⟨rfl, hb⟩; refine ⟨_, rfl, ?_⟩; have n0_ := Aside0.mk (blk_below (g := gb152) (o := .cells #[.int .i64 a3_0, .string a3_1, .string a3_2, .string a3_3, .string a3_4, .string a3_5, .string a3_6, .string a3_7, .string a3_8] 24 (0, 0)) (by (with_reducible repeat (first | refine blk_drewN ?_ _ | refine blk_drew ?_ | refine blk_alloc ?_ _)); exact BK152.out) hb); have n1_ := Aside0.mk (below_step (by repeat (first | (with_reducible first | exact HB.out | apply below_alloc | apply pw_below_drewN | apply below_drew1 | refine below_set ?_ GE152.out) | exact HB.out)) hb); clear BK152; clear HB; have BK152 := n0_; have HB := n1_; clear n0_ n1_; (try clear hb); (try clear hb2); (try clear hk); (try clear hi)))
            go_meet
            case rel => exact ⟨_, (true), (by first | rfl | (simp; done) | (simp [*]; done)), H', ⟨by have := HJ4.out; first | omega | exact Nat.le_refl _⟩, ⟨by (with_reducible repeat (first | refine blk_drewN ?_ _ | refine blk_drew ?_ | refine blk_alloc ?_ _)); exact BK152.out⟩, ⟨by repeat (first | (with_reducible first | exact HB.out | apply below_alloc | apply pw_below_drewN | apply below_drew1 | refine below_set ?_ GE152.out) | exact HB.out)⟩⟩
        case rest =>
          clear HC17
          try clear c1
          try clear c2
          try clear p2
          try clear c4
          try clear c6
          try clear c8
          try clear c9
          try clear c9b0
          try clear c9b1
          try clear c16
          try clear c19
          try clear c20
          try clear c20b0
          try clear c20b1
          try clear c20b2
          try clear c22
          try clear c22b0
          try clear c22b1
          try clear c25
          try clear hcz13_0
          try clear hcz13_1
          try clear hcz13_2
          try clear hcz13_3
          try clear hcz13_4
          try clear hcz13_5
          try clear hcz13_6
          try clear hcz13_7
          try clear hcz13_8
          try clear hcz29_0
          try clear hcz29_1
          try clear hcz29_2
          try clear hcz29_3
          try clear hcz29_4
          try clear hcz29_5
          try clear hcz29_6
          try clear hcz29_7
          try clear hcz29_8
          try clear hfz13_0
          try clear hfz13_1
          try clear hfz13_2
          try clear hfz13_3
          try clear hfz13_4
          try clear hfz13_5
          try clear hfz13_6
          try clear hfz13_7
          try clear hfz13_8
          try clear hfz29_0
          try clear hfz29_1
          try clear hfz29_2
          try clear hfz29_3
          try clear hfz29_4
          try clear hfz29_5
          try clear hfz29_6
          try clear hfz29_7
          try clear hfz29_8
          try clear p2
          obtain ⟨kq, x48_16, rfl, HA, HJ16, BK152, HB⟩ := hcut
          cases kq with
          | zero => exact absurd HA.out (by simp [laws_FnListUnIndentAll.j1])
          | succ kj16 =>
            have H := HA.out
            clear HA
            simp only [laws_FnListUnIndentAll.j1] at H
            by_cases c34 : x48_16 = true
            · subst c34
              have H1 : (some true) = some r := by rw [if_pos rfl] at H; exact H
              clear H
              have H := H1
              clear H1
              obtain rfl := Option.some.inj H
              go_wp2
              go_ret
              exact ⟨by first | rfl | (simp [errW_none, errW_some] <;> rfl) | (simp [*, errW_none, errW_some] <;> rfl), by repeat (first | (with_reducible first | exact HB.out | apply below_alloc | apply pw_below_drewN | apply below_drew1 | refine below_set ?_ GE152.out) | exact HB.out)⟩
            · replace c34 := Bool.eq_false_iff.mpr c34
              subst c34
              have H1 : ((spec_LsSteps.f kj16 l0).bind fun t158 => ((spec_LsSteps.f kj16 l0).bind fun t161 => ((some (([(⟨4, (⟨#[]⟩ : ByteArray), ([] : List ByteArray)⟩ : S36), (⟨0, a1, ([] : List ByteArray)⟩ : S36)] : List (S36)) : List (S36))).bind fun y164 => (if t158.length + y164.length < 2932031007402 then (if 0 ≤ (wrap64 ((l0.length : Int) - 1)) then (if (wrap64 ((l0.length : Int) - 1)) < (l0.length : Int) then (laws_FnListUnIndentAll.l0 kj16 l0 a1 (t158 ++ y164) t161 (wrap64 (((rd_T38 l0 (wrap64 ((l0.length : Int) - 1))).f1) + (wrap64 (Int.tmod a2 4)))) 0 a3_0 a3_1 a3_2 a3_3 a3_4 a3_5 a3_6 a3_7 a3_8) else (none)) else (none)) else (none))))) = some r := by rw [if_neg (show ¬ (false = true) by decide)] at H; exact H
              clear H
              have H := H1
              clear H1
              replace H := Option.bind_eq_some_iff.mp H
              obtain ⟨t158, A350, H⟩ := H
              replace H : ((spec_LsSteps.f kj16 l0).bind fun t161 => ((some (([(⟨4, (⟨#[]⟩ : ByteArray), ([] : List ByteArray)⟩ : S36), (⟨0, a1, ([] : List ByteArray)⟩ : S36)] : List (S36)) : List (S36))).bind fun y164 => (if t158.length + y164.length < 2932031007402 then (if 0 ≤ (wrap64 ((l0.length : Int) - 1)) then (if (wrap64 ((l0.length : Int) - 1)) < (l0.length : Int) then (laws_FnListUnIndentAll.l0 kj16 l0 a1 (t158 ++ y164) t161 (wrap64 (((rd_T38 l0 (wrap64 ((l0.length : Int) - 1))).f1) + (wrap64 (Int.tmod a2 4)))) 0 a3_0 a3_1 a3_2 a3_3 a3_4 a3_5 a3_6 a3_7 a3_8) else (none)) else (none)) else (none)))) = some r := H
              have A35 := Aside0.mk A350
              clear A350
              replace H := Option.bind_eq_some_iff.mp H
              obtain ⟨t161, A360, H⟩ := H
              replace H : ((some (([(⟨4, (⟨#[]⟩ : ByteArray), ([] : List ByteArray)⟩ : S36), (⟨0, a1, ([] : List ByteArray)⟩ : S36)] : List (S36)) : List (S36))).bind fun y164 => (if t158.length + y164.length < 2932031007402 then (if 0 ≤ (wrap64 ((l0.length : Int) - 1)) then (if (wrap64 ((l0.length : Int) - 1)) < (l0.length : Int) then (laws_FnListUnIndentAll.l0 kj16 l0 a1 (t158 ++ y164) t161 (wrap64 (((rd_T38 l0 (wrap64 ((l0.length : Int) - 1))).f1) + (wrap64 (Int.tmod a2 4)))) 0 a3_0 a3_1 a3_2 a3_3 a3_4 a3_5 a3_6 a3_7 a3_8) else (none)) else (none)) else (none))) = some r := H
              have A36 := Aside0.mk A360
              clear A360
              obtain ⟨y164, hy164⟩ : ∃ y_ : List (S36), y_ = (([(⟨4, (⟨#[]⟩ : ByteArray), ([] : List ByteArray)⟩ : S36), (⟨0, a1, ([] : List ByteArray)⟩ : S36)] : List (S36))) := ⟨_, rfl⟩
              replace H : (if t158.length + y164.length < 2932031007402 then (if 0 ≤ (wrap64 ((l0.length : Int) - 1)) then (if (wrap64 ((l0.length : Int) - 1)) < (l0.length : Int) then (laws_FnListUnIndentAll.l0 kj16 l0 a1 (t158 ++ y164) t161 (wrap64 (((rd_T38 l0 (wrap64 ((l0.length : Int) - 1))).f1) + (wrap64 (Int.tmod a2 4)))) 0 a3_0 a3_1 a3_2 a3_3 a3_4 a3_5 a3_6 a3_7 a3_8) else (none)) else (none)) else (none)) = some r := by first | (rw [hy164]; with_reducible exact H) | (have H2_ := (Option.bind_some _ _).symm.trans H; rw [hy164]; with_reducible exact H2_) | (have H2_ := (Option.bind_some _ _).symm.trans H; with_reducible exact H2_) | with_reducible exact H | (rw [hy164]; exact H) | exact H
              have Ny164 := Aside0.mk hy164
              clear hy164
              by_cases c37 : t158.length + y164.length < 2932031007402
              · rw [if_pos c37] at H
                have LMc37 := Aside0.mk c37
                clear c37
                obtain ⟨y167, hy167⟩ : ∃ y_ : List (S36), y_ = (t158 ++ y164) := ⟨_, rfl⟩
                replace H : (if 0 ≤ (wrap64 ((l0.length : Int) - 1)) then (if (wrap64 ((l0.length : Int) - 1)) < (l0.length : Int) then (laws_FnListUnIndentAll.l0 kj16 l0 a1 y167 t161 (wrap64 (((rd_T38 l0 (wrap64 ((l0.length : Int) - 1))).f1) + (wrap64 (Int.tmod a2 4)))) 0 a3_0 a3_1 a3_2 a3_3 a3_4 a3_5 a3_6 a3_7 a3_8) else (none)) else (none)) = some r := by first | (rw [hy167]; with_reducible exact H) | (have H2_ := (Option.bind_some _ _).symm.trans H; rw [hy167]; with_reducible exact H2_) | (have H2_ := (Option.bind_some _ _).symm.trans H; with_reducible exact H2_) | with_reducible exact H | (rw [hy167]; exact H) | exact H
                have Ny167 := Aside0.mk hy167
                clear hy167
                obtain ⟨ji38, hji38⟩ : ∃ j_ : Int, (wrap64 ((l0.length : Int) - 1)) = j_ := ⟨_, rfl⟩
                replace H : (if 0 ≤ (ji38) then (if (ji38) < (l0.length : Int) then (laws_FnListUnIndentAll.l0 kj16 l0 a1 y167 t161 (wrap64 (((rd_T38 l0 (ji38)).f1) + (wrap64 (Int.tmod a2 4)))) 0 a3_0 a3_1 a3_2 a3_3 a3_4 a3_5 a3_6 a3_7 a3_8) else (none)) else (none)) = some r := by first | (rw [hji38] at H; exact H) | (simp only [hji38] at H ⊢; exact H)
                (try rw [hji38] at A35)
                (try rw [hji38] at A36)
                have hji38w : (IntKind.i64.wrap ((l0.length : Int) - 1)) = ji38 := (i64_w _).trans hji38
                by_cases c39 : 0 ≤ (ji38)
                · rw [if_pos c39] at H
                  have c39b0 : decide (0 ≤ (ji38)) = true := decide_eq_true c39
                  clear c39
                  by_cases c40 : (ji38) < (l0.length : Int)
                  · rw [if_pos c40] at H
                    have c40b0 : decide ((ji38) < (l0.length : Int)) = true := decide_eq_true c40
                    clear c40
                    have H' := Aside0.mk H
                    clear H
                    go_wp2_with (first | ((with_reducible refine gate_callee (f := 12) rfl ?_); refine goesL_ (some 50) rfl rfl Tryd.func12 (by kernel_rfl) rfl #[.slice A0 l0.length c0] rfl (by (try simp only [List.map_toArray, List.map_cons, List.map_nil]); first | done | rfl | (simp only [List.length_drop, List.length_take]; rfl)) ?_; (with_reducible refine (spec_LsSteps.calls kj16 _ _ l0 t158 _ ?side1 ?side2 A35.out).mono ?_); (case side1 => repeat (first | exact (Kd.C_below HR0.out HB.out) | (with_reducible refine Kd.C_alloc ?_ _) | (with_reducible refine Kd.C_drewN ?_ _) | (with_reducible refine Kd.C_drew ?_))); (case side2 => exact HC0.out); rintro e w41 ⟨v159, rfl, ho0, hb⟩; refine ⟨_, rfl, ?_⟩; have n0_ := Aside0.mk (Kd.N_lower (Kd.N_mono (ok' := fun k_ => k_ ≠ gb152) (Kd.S_N (Kd.S_bound ho0)) (fun k_ hk_ => (Kd.freshB (g := gb152) (o := .cells #[.int .i64 a3_0, .string a3_1, .string a3_2, .string a3_3, .string a3_4, .string a3_5, .string a3_6, .string a3_7, .string a3_8] 24 (0, 0)) (by (with_reducible repeat (first | refine blk_drewN ?_ _ | refine blk_drew ?_ | refine blk_alloc ?_ _)); exact BK152.out) k_ hk_.2.1))) (below_size (by repeat (first | (with_reducible first | exact HB.out | apply below_alloc | apply pw_below_drewN | apply below_drew1 | refine below_set ?_ GE152.out) | exact HB.out)))); have n1_ := Aside0.mk (blk_below (g := gb152) (o := .cells #[.int .i64 a3_0, .string a3_1, .string a3_2, .string a3_3, .string a3_4, .string a3_5, .string a3_6, .string a3_7, .string a3_8] 24 (0, 0)) (by (with_reducible repeat (first | refine blk_drewN ?_ _ | refine blk_drew ?_ | refine blk_alloc ?_ _)); exact BK152.out) hb); have n2_ := Aside0.mk (below_step (by repeat (first | (with_reducible first | exact HB.out | apply below_alloc | apply pw_below_drewN | apply below_drew1 | refine below_set ?_ GE152.out) | exact HB.out)) hb); clear BK152; clear HB; have HO160 := n0_; have BK152 := n1_; have HB := n2_; clear n0_ n1_ n2_; (try clear hb); (try clear hb2); (try clear hk); (try clear hi); (try clear ho0)) | ((with_reducible refine gate_callee (f := 12) rfl ?_); refine goesL_ (some 52) rfl rfl Tryd.func12 (by kernel_rfl) rfl #[.slice A0 l0.length c0] rfl (by (try simp only [List.map_toArray, List.map_cons, List.map_nil]); first | done | rfl | (simp only [List.length_drop, List.length_take]; rfl)) ?_; (with_reducible refine (spec_LsSteps.calls kj16 _ _ l0 t161 _ ?side1 ?side2 A36.out).mono ?_); (case side1 => repeat (first | exact (Kd.C_below HR0.out HB.out) | (with_reducible refine Kd.C_alloc ?_ _) | (with_reducible refine Kd.C_drewN ?_ _) | (with_reducible refine Kd.C_drew ?_))); (case side2 => exact HC0.out); rintro e w42 ⟨v162, rfl, ho0, hb⟩; refine ⟨_, rfl, ?_⟩; have n0_ := Aside0.mk (Kd.N_elder' (by (with_reducible repeat (first | apply Kd.N_alloc | apply Kd.N_drewN | apply Kd.N_drew)); exact HO160.out) (Kd.N_base (Kd.S_N ho0)) hb); have n1_ := Aside0.mk (Kd.N_lower (Kd.N_mono (ok' := fun k_ => some k_ ≠ (v159 : Value).ownBlock ∧ k_ ≠ gb152) (Kd.S_N (Kd.S_bound ho0)) (fun k_ hk_ => ⟨(Kd.fresh' (Kd.N_lt (by (with_reducible repeat (first | apply Kd.N_alloc | apply Kd.N_drewN | apply Kd.N_drew)); exact HO160.out)) k_ hk_.2.1), (Kd.freshB (g := gb152) (o := .cells #[.int .i64 a3_0, .string a3_1, .string a3_2, .string a3_3, .string a3_4, .string a3_5, .string a3_6, .string a3_7, .string a3_8] 24 (0, 0)) (by (with_reducible repeat (first | refine blk_drewN ?_ _ | refine blk_drew ?_ | refine blk_alloc ?_ _)); exact BK152.out) k_ hk_.2.1)⟩)) (below_size (by repeat (first | (with_reducible first | exact HB.out | apply below_alloc | apply pw_below_drewN | apply below_drew1 | refine below_set ?_ GE152.out) | exact HB.out)))); have n2_ := Aside0.mk (blk_below (g := gb152) (o := .cells #[.int .i64 a3_0, .string a3_1, .string a3_2, .string a3_3, .string a3_4, .string a3_5, .string a3_6, .string a3_7, .string a3_8] 24 (0, 0)) (by (with_reducible repeat (first | refine blk_drewN ?_ _ | refine blk_drew ?_ | refine blk_alloc ?_ _)); exact BK152.out) hb); have n3_ := Aside0.mk (below_step (by repeat (first | (with_reducible first | exact HB.out | apply below_alloc | apply pw_below_drewN | apply below_drew1 | refine below_set ?_ GE152.out) | exact HB.out)) hb); clear HO160; clear BK152; clear HB; have HO160 := n0_; have HO163 := n1_; have BK152 := n2_; have HB := n3_; clear n0_ n1_ n2_ n3_; (try clear hb); (try clear hb2); (try clear hk); (try clear hi); (try clear ho0)) | ((with_reducible refine gate_dst (N := 57) rfl ?_); (try (refine gate_guard (by rfl) ?_; dsimp only)); refine Kd.N_lit k36 _ 36 ?hg (N' := 57) ?hd (xs := ([(⟨4, (⟨#[]⟩ : ByteArray), ([] : List ByteArray)⟩ : S36), (⟨0, a1, ([] : List ByteArray)⟩ : S36)] : List (S36))) (inner := [.int .i64 4, .string (⟨#[]⟩ : ByteArray), .slice none 0 0, .int .i64 0, .string a1, .slice none 0 0]) (ok := (fun k_ => some k_ ≠ (v159 : Value).ownBlock ∧ some k_ ≠ (v162 : Value).ownBlock ∧ k_ ≠ gb152)) (okp := (fun k_ => some k_ ≠ (v159 : Value).ownBlock ∧ some k_ ≠ (v162 : Value).ownBlock ∧ k_ ≠ gb152)) ?hr ?hp (fun _ hk => hk) ((show ∀ k_, w42.heap.size ≤ k_ → (fun k_ => some k_ ≠ (v159 : Value).ownBlock ∧ some k_ ≠ (v162 : Value).ownBlock ∧ k_ ≠ gb152) k_ from fun k_ hk => ⟨Kd.fresh' (Kd.N_lt (by (with_reducible repeat (first | apply Kd.N_alloc | apply Kd.N_drewN | apply Kd.N_drew)); exact HO160.out)) k_ hk, Kd.fresh' (Kd.N_lt (by (with_reducible repeat (first | apply Kd.N_alloc | apply Kd.N_drewN | apply Kd.N_drew)); exact HO163.out)) k_ hk, Kd.freshB (g := gb152) (o := .cells #[.int .i64 a3_0, .string a3_1, .string a3_2, .string a3_3, .string a3_4, .string a3_5, .string a3_6, .string a3_7, .string a3_8] 24 (0, 0)) (by (with_reducible repeat (first | refine blk_drewN ?_ _ | refine blk_drew ?_ | refine blk_alloc ?_ _)); exact BK152.out) k_ hk⟩) _ (Nat.le_refl _)) (Below.refl _ _) (Nat.le_refl _) (by simp) ?_; (case hd => rfl); (case hg => rfl); (case hr => first | (go_simp; done) | (go_simp; rfl)); (case hp => exact (Reps.c3 (show Kd.FK k36 _ _ (⟨4, (⟨#[]⟩ : ByteArray), ([] : List ByteArray)⟩ : S36) [.int .i64 4, .string (⟨#[]⟩ : ByteArray), .slice none 0 0] from (k36_mkF _ _ (⟨4, (⟨#[]⟩ : ByteArray), ([] : List ByteArray)⟩ : S36) (Nat.le_refl _) (Kd.F_nil _ _ _))) (Reps.c3 (show Kd.FK k36 _ _ (⟨0, a1, ([] : List ByteArray)⟩ : S36) [.int .i64 0, .string a1, .slice none 0 0] from (k36_mkF _ _ (⟨0, a1, ([] : List ByteArray)⟩ : S36) (Nat.le_refl _) (Kd.F_nil _ _ _))) (Reps.none _ _)))); intro v165 w43 ho44 hb hg_ hnew_; clear hg_ hnew_; (first | rw [← Ny164.out] at ho44 | (simp only [Int.reduceToNat] at ho44; rw [← Ny164.out] at ho44)); have n0_ := Aside0.mk (Kd.N_elder' (by (with_reducible repeat (first | apply Kd.N_alloc | apply Kd.N_drewN | apply Kd.N_drew)); exact HO160.out) (Kd.N_base ho44) hb); have n1_ := Aside0.mk (Kd.N_elder' (by (with_reducible repeat (first | apply Kd.N_alloc | apply Kd.N_drewN | apply Kd.N_drew)); exact HO163.out) (Kd.N_base ho44) hb); have n2_ := Aside0.mk (Kd.N_lower ho44 (below_size (by repeat (first | (with_reducible first | exact HB.out | apply below_alloc | apply pw_below_drewN | apply below_drew1 | refine below_set ?_ GE152.out) | exact HB.out)))); have n3_ := Aside0.mk (blk_below (g := gb152) (o := .cells #[.int .i64 a3_0, .string a3_1, .string a3_2, .string a3_3, .string a3_4, .string a3_5, .string a3_6, .string a3_7, .string a3_8] 24 (0, 0)) (by (with_reducible repeat (first | refine blk_drewN ?_ _ | refine blk_drew ?_ | refine blk_alloc ?_ _)); exact BK152.out) hb); have n4_ := Aside0.mk (below_step (by repeat (first | (with_reducible first | exact HB.out | apply below_alloc | apply pw_below_drewN | apply below_drew1 | refine below_set ?_ GE152.out) | exact HB.out)) hb); clear HO160; clear HO163; clear BK152; clear HB; have HO160 := n0_; have HO163 := n1_; have HO166 := n2_; have BK152 := n3_; have HB := n4_; clear n0_ n1_ n2_ n3_ n4_; clear hb ho44; obtain ⟨Ao46, co46, eo46⟩ := Kd.N_slice HO166.out; subst eo46) | ((with_reducible refine gate_builtin (b := .append) (xs := #[.tmp 53, .tmp 57]) rfl ?_); (try (refine gate_guard (by rfl) ?_; dsimp only)); at_builtin; refine Kd.N_append_rows k36 (w0 := w) w.heap.size rfl (.tmp 53) (.tmp 57) 30 36 (.agg #[(.int .i64 0), (.string ⟨#[]⟩), (.slice none 0 0)]) 48 rfl Tryd.underlying30 info36 rfl (by decide) (by omega) v159 t158 y164 _ _ _ (fun k_ => some k_ ≠ (v162 : Value).ownBlock ∧ k_ ≠ gb152) (fun k_ => ((fun k_ => some k_ ≠ (v162 : Value).ownBlock ∧ k_ ≠ gb152)) k_ ∧ some k_ ≠ (v159 : Value).ownBlock) rfl rfl ?aO ?aR (fun _ hk => hk) ?aF ?aB ?aS ?aL ?_; (case aR => exact (by skip; exact Kd.N_F (Kd.N_mono (ok' := (fun k_ => ((fun k_ => some k_ ≠ (v162 : Value).ownBlock ∧ k_ ≠ gb152)) k_ ∧ some k_ ≠ (v159 : Value).ownBlock)) (HO166.out) (fun k_ hk => ⟨⟨hk.2.1, hk.2.2⟩, hk.1⟩)))); (case aB => exact (by repeat (first | (with_reducible first | exact HB.out | apply below_alloc | apply pw_below_drewN | apply below_drew1 | refine below_set ?_ GE152.out) | exact HB.out))); (case aF => exact (fun k_ hk => ⟨Kd.fresh' (Kd.N_lt (by (with_reducible repeat (first | apply Kd.N_alloc | apply Kd.N_drewN | apply Kd.N_drew)); exact HO163.out)) k_ hk, Kd.freshB (g := gb152) (o := .cells #[.int .i64 a3_0, .string a3_1, .string a3_2, .string a3_3, .string a3_4, .string a3_5, .string a3_6, .string a3_7, .string a3_8] 24 (0, 0)) (by (with_reducible repeat (first | refine blk_drewN ?_ _ | refine blk_drew ?_ | refine blk_alloc ?_ _)); exact BK152.out) k_ hk⟩)); (case aO => exact (by (with_reducible repeat (first | apply Kd.N_alloc | apply Kd.N_drewN | apply Kd.N_drew)); exact Kd.N_mono HO160.out (fun _ hk => ⟨hk.1.2, hk.1.1⟩))); (case aS => exact (below_size (by repeat (first | (with_reducible first | exact HB.out | apply below_alloc | apply pw_below_drewN | apply below_drew1 | refine below_set ?_ GE152.out) | exact HB.out)))); (case aL => have := LMc37.out; first | omega | exact this | exact Nat.le_of_lt this); intro v168 w45 ho hb hg hat; rw [← Ny167.out] at ho; have n0_ := Aside0.mk (blk_grown (g := gb152) (o := .cells #[.int .i64 a3_0, .string a3_1, .string a3_2, .string a3_3, .string a3_4, .string a3_5, .string a3_6, .string a3_7, .string a3_8] 24 (0, 0)) (by (with_reducible repeat (first | refine blk_drewN ?_ _ | refine blk_drew ?_ | refine blk_alloc ?_ _)); exact BK152.out) hg (Kd.N_ne HO160.out BK152.out (by decide))); have n1_ := Aside0.mk (Kd.N_afterv (ok := (fun k_ => some k_ ≠ (.slice Ao46 y164.length co46 : Value).ownBlock ∧ k_ ≠ gb152)) (by (with_reducible repeat (first | apply Kd.N_alloc | apply Kd.N_drewN | apply Kd.N_drew)); exact Kd.N_mono HO163.out (fun _ hk => ⟨⟨hk.2, hk.1.2⟩, hk.1.1⟩)) hg hat); have n2_ := Aside0.mk (Kd.N_afterv (ok := (fun k_ => some k_ ≠ (v162 : Value).ownBlock ∧ k_ ≠ gb152)) (by (with_reducible repeat (first | apply Kd.N_alloc | apply Kd.N_drewN | apply Kd.N_drew)); exact Kd.N_mono HO166.out (fun _ hk => ⟨⟨hk.2.1, hk.2.2⟩, hk.1⟩)) hg hat); have n3_ := Aside0.mk (hb); have n4_ := Aside0.mk (ho); clear BK152; clear HO163; clear HO166; clear HB; clear HO160; have BK152 := n0_; have HO163 := n1_; have HO166 := n2_; have HB := n3_; have HO169 := n4_; clear n0_ n1_ n2_ n3_ n4_; clear ho hb hg hat; have p170 : 0 ≤ ((ji38) : Int) := of_decide_eq_true (by first | (with_reducible assumption) | assumption); have q170 : (ji38) < (l0.length : Int) := of_decide_eq_true (by first | (with_reducible assumption) | assumption); obtain ⟨ad170, e170, hx170_0, hx170_1⟩ := at_T38 HR0.out (ji38) p170 q170; cases e170; replace hx170_0 := (HB.out.cell (World.block_lt_of_cell? w _ hx170_0)).trans hx170_0; replace hx170_1 := (HB.out.cell (World.block_lt_of_cell? w _ hx170_1)).trans hx170_1; replace p170 := eq_true p170; replace q170 := eq_true q170))
                    (try simp only [Act.put, List.setIfInBounds_toArray, List.set_cons_zero, List.set_cons_succ])
                    go_loopg [10, 70] kj16 (fun kq v10 v70 w' => ∃ (x10_3 : List (S36)) (x70_3 : Int), v70 = .int .i64 x70_3 ∧ Aside0 (laws_FnListUnIndentAll.l0 kq l0 a1 y167 x10_3 (wrap64 (((rd_T38 l0 (ji38)).f1) + (wrap64 (Int.tmod a2 4)))) x70_3 a3_0 a3_1 a3_2 a3_3 a3_4 a3_5 a3_6 a3_7 a3_8 = some r) ∧ Aside0 (kq ≤ kj16) ∧ Aside0 (Kd.N k36 36 w' w.heap.size (fun k_ => some k_ ≠ (v10 : Value).ownBlock ∧ k_ ≠ gb152) v168 y167) ∧ Aside0 (Kd.N k36 36 w' w.heap.size (fun k_ => some k_ ≠ (v168 : Value).ownBlock ∧ k_ ≠ gb152) v10 x10_3) ∧ Aside0 (w'.heap[gb152]? = some (.cells #[.int .i64 a3_0, .string a3_1, .string a3_2, .string a3_3, .string a3_4, .string a3_5, .string a3_6, .string a3_7, .string a3_8] 24 (0, 0))) ∧ Aside0 (Below w.heap.size w w'))
                    case atStart => exact ⟨(t161), (0), (by first | rfl | (simp; done) | (simp [*]; done)), H', ⟨Nat.le_refl _⟩, ⟨by (with_reducible repeat (first | apply Kd.N_alloc | apply Kd.N_drewN | apply Kd.N_drew)); exact HO169.out⟩, ⟨by (with_reducible repeat (first | apply Kd.N_alloc | apply Kd.N_drewN | apply Kd.N_drew)); exact Kd.N_mono HO163.out (fun _ hk => ⟨hk.2, hk.1.2⟩)⟩, ⟨by (with_reducible repeat (first | refine blk_drewN ?_ _ | refine blk_drew ?_ | refine blk_alloc ?_ _)); exact BK152.out⟩, ⟨by repeat (first | (with_reducible first | exact HB.out | apply below_alloc | apply pw_below_drewN | apply below_drew1 | refine below_set ?_ GE152.out) | exact HB.out)⟩⟩
                    case round =>
                      clear H'
                      try clear c1
                      try clear p1
                      try clear q1
                      try clear hx1
                      try clear c2
                      try clear p2
                      try clear c3
                      try clear c4
                      try clear c6
                      try clear p6
                      try clear c8
                      try clear c9
                      try clear c9b0
                      try clear c9b1
                      try clear c12
                      try clear c16
                      try clear p17
                      try clear q17
                      try clear hx17
                      try clear c19
                      try clear c20
                      try clear c20b0
                      try clear c20b1
                      try clear c20b2
                      try clear c22
                      try clear c22b0
                      try clear c22b1
                      try clear c25
                      try clear c34
                      try clear c37
                      try clear c39
                      try clear c39b0
                      try clear c40
                      try clear c40b0
                      try clear hcz13_0
                      try clear hcz13_1
                      try clear hcz13_2
                      try clear hcz13_3
                      try clear hcz13_4
                      try clear hcz13_5
                      try clear hcz13_6
                      try clear hcz13_7
                      try clear hcz13_8
                      try clear hcz29_0
                      try clear hcz29_1
                      try clear hcz29_2
                      try clear hcz29_3
                      try clear hcz29_4
                      try clear hcz29_5
                      try clear hcz29_6
                      try clear hcz29_7
                      try clear hcz29_8
                      try clear hfz13_0
                      try clear hfz13_1
                      try clear hfz13_2
                      try clear hfz13_3
                      try clear hfz13_4
                      try clear hfz13_5
                      try clear hfz13_6
                      try clear hfz13_7
                      try clear hfz13_8
                      try clear hfz29_0
                      try clear hfz29_1
                      try clear hfz29_2
                      try clear hfz29_3
                      try clear hfz29_4
                      try clear hfz29_5
                      try clear hfz29_6
                      try clear hfz29_7
                      try clear hfz29_8
                      try clear hx170_0
                      try clear hx170_1
                      try clear p170
                      try clear p2
                      try clear q170
                      obtain ⟨x10_3, x70_3, rfl, HA, HK3, HO_9, HO_10, BK152, HB⟩ := hrel
                      cases gk with
                      | zero => exact absurd HA.out (by simp [laws_FnListUnIndentAll.l0])
                      | succ k3 =>
                        have H := HA.out
                        clear HA
                        simp only [laws_FnListUnIndentAll.l0] at H
                        by_cases c47 : x70_3 < (wrap64 (((rd_T38 l0 (ji38)).f1) + (wrap64 (Int.tmod a2 4))))
                        · rw [if_pos c47] at H
                          have c47b0 : decide (x70_3 < (wrap64 (((rd_T38 l0 (ji38)).f1) + (wrap64 (Int.tmod a2 4))))) = true := decide_eq_true c47
                          clear c47
                          by_cases c48 : x10_3.length < 2932031007402
                          · rw [if_pos c48] at H
                            have LMc48 := Aside0.mk c48
                            clear c48
                            obtain ⟨y171, hy171⟩ : ∃ y_ : List (S36), y_ = (x10_3 ++ [(⟨3, (⟨#[]⟩ : ByteArray), ([] : List ByteArray)⟩ : S36)]) := ⟨_, rfl⟩
                            replace H : (laws_FnListUnIndentAll.l0 k3 l0 a1 y167 y171 (wrap64 (((rd_T38 l0 (ji38)).f1) + (wrap64 (Int.tmod a2 4)))) (wrap64 (x70_3 + 1)) a3_0 a3_1 a3_2 a3_3 a3_4 a3_5 a3_6 a3_7 a3_8) = some r := by first | (rw [hy171]; with_reducible exact H) | (have H2_ := (Option.bind_some _ _).symm.trans H; rw [hy171]; with_reducible exact H2_) | (have H2_ := (Option.bind_some _ _).symm.trans H; with_reducible exact H2_) | with_reducible exact H | (rw [hy171]; exact H) | exact H
                            have Ny171 := Aside0.mk hy171
                            clear hy171
                            have H' := Aside0.mk H
                            clear H
                            go_wp2_with (first | ((with_reducible refine gate_builtin (b := .append) (xs := #[.tmp 72, .tmp 74]) rfl ?_); (try (refine gate_guard (by rfl) ?_; dsimp only)); at_builtin; refine Kd.N_append k36 (w0 := w) w.heap.size rfl (.tmp 72) (.tmp 74) 30 36 (.agg #[(.int .i64 0), (.string ⟨#[]⟩), (.slice none 0 0)]) 48 rfl Tryd.underlying30 info36 rfl (by decide) (by omega) u10 x10_3 (⟨3, (⟨#[]⟩ : ByteArray), ([] : List ByteArray)⟩ : S36) [.int .i64 3, .string (⟨#[]⟩ : ByteArray), .slice none 0 0] (fun k_ => some k_ ≠ (v168 : Value).ownBlock ∧ k_ ≠ gb152) (fun k_ => ((fun k_ => some k_ ≠ (v168 : Value).ownBlock ∧ k_ ≠ gb152)) k_ ∧ some k_ ≠ (u10 : Value).ownBlock) rfl rfl ?aP (fun _ hk => hk) ?aF ?aO ?aB ?aS ?aL ?_; (case aP => exact (k36_mkF _ _ (⟨3, (⟨#[]⟩ : ByteArray), ([] : List ByteArray)⟩ : S36) (Nat.le_refl _) (Kd.F_nil _ _ _))); (case aB => exact (by repeat (first | (with_reducible first | exact HB.out | apply below_alloc | apply pw_below_drewN | apply below_drew1 | refine below_set ?_ GE152.out) | exact HB.out))); (case aF => exact (fun k_ hk => ⟨Kd.fresh' (Kd.N_lt (by (with_reducible repeat (first | apply Kd.N_alloc | apply Kd.N_drewN | apply Kd.N_drew)); exact HO_9.out)) k_ hk, Kd.freshB (g := gb152) (o := .cells #[.int .i64 a3_0, .string a3_1, .string a3_2, .string a3_3, .string a3_4, .string a3_5, .string a3_6, .string a3_7, .string a3_8] 24 (0, 0)) (by (with_reducible repeat (first | refine blk_drewN ?_ _ | refine blk_drew ?_ | refine blk_alloc ?_ _)); exact BK152.out) k_ hk⟩)); (case aO => exact (by (with_reducible repeat (first | apply Kd.N_alloc | apply Kd.N_drewN | apply Kd.N_drew)); exact HO_10.out)); (case aS => exact (below_size (by repeat (first | (with_reducible first | exact HB.out | apply below_alloc | apply pw_below_drewN | apply below_drew1 | refine below_set ?_ GE152.out) | exact HB.out)))); (case aL => have := LMc48.out; first | omega | exact this | exact Nat.le_of_lt this); intro v172 w49 ho hb hg hat; rw [← Ny171.out] at ho; have n0_ := Aside0.mk (Kd.N_afterv (ok := (fun k_ => k_ ≠ gb152)) (by (with_reducible repeat (first | apply Kd.N_alloc | apply Kd.N_drewN | apply Kd.N_drew)); exact Kd.N_mono HO_9.out (fun _ hk => ⟨hk.2, hk.1⟩)) hg hat); have n1_ := Aside0.mk (blk_grown (g := gb152) (o := .cells #[.int .i64 a3_0, .string a3_1, .string a3_2, .string a3_3, .string a3_4, .string a3_5, .string a3_6, .string a3_7, .string a3_8] 24 (0, 0)) (by (with_reducible repeat (first | refine blk_drewN ?_ _ | refine blk_drew ?_ | refine blk_alloc ?_ _)); exact BK152.out) hg (Kd.N_ne HO_10.out BK152.out (by decide))); have n2_ := Aside0.mk (hb); have n3_ := Aside0.mk (ho); clear HO_9; clear BK152; clear HB; clear HO_10; have HO_9 := n0_; have BK152 := n1_; have HB := n2_; have HO173 := n3_; clear n0_ n1_ n2_ n3_; clear ho hb hg hat))
                            go_roundg k3
                            case measure => have := HJ4.out; have := HJ16.out; have := HK3.out; omega
                            case rel => exact ⟨(y171), (wrap64 (x70_3 + 1)), (by first | rfl | (simp; done) | (simp [*]; done)), H', ⟨by have := HJ4.out; have := HJ16.out; have := HK3.out; omega⟩, ⟨by (with_reducible repeat (first | apply Kd.N_alloc | apply Kd.N_drewN | apply Kd.N_drew)); exact Kd.N_mono HO_9.out (fun _ hk => ⟨hk.2, hk.1⟩)⟩, ⟨by (with_reducible repeat (first | apply Kd.N_alloc | apply Kd.N_drewN | apply Kd.N_drew)); exact HO173.out⟩, ⟨by (with_reducible repeat (first | refine blk_drewN ?_ _ | refine blk_drew ?_ | refine blk_alloc ?_ _)); exact BK152.out⟩, ⟨by repeat (first | (with_reducible first | exact HB.out | apply below_alloc | apply pw_below_drewN | apply below_drew1 | refine below_set ?_ GE152.out) | exact HB.out)⟩⟩
                          · rw [if_neg c48] at H
                            exact absurd H (by simp)
                        · rw [if_neg c47] at H
                          have c47b0 : decide (x70_3 < (wrap64 (((rd_T38 l0 (ji38)).f1) + (wrap64 (Int.tmod a2 4))))) = false := decide_eq_false c47
                          clear c47
                          by_cases c50 : x10_3.length < 2932031007402
                          · rw [if_pos c50] at H
                            have LMc50 := Aside0.mk c50
                            clear c50
                            obtain ⟨y174, hy174⟩ : ∃ y_ : List (S36), y_ = (x10_3 ++ [(⟨0, a1, ([] : List ByteArray)⟩ : S36)]) := ⟨_, rfl⟩
                            replace H : ((some (([] : List (S38)) : List (S38))).bind fun y177 => (if y177.length + l0.length < 5864062014805 then ((some (y177 ++ l0 : List (S38))).bind fun y180 => (if y180.length < 5864062014805 then ((spec_LsSteps.f k3 (y180 ++ [(⟨a1, 0⟩ : S38)])).bind fun t186 => ((impl_ListRender.f t186 a3_0 a3_1 a3_2 a3_3 a3_4 a3_5 a3_6 a3_7 a3_8).bind fun t189 => ((impl_ListRender.f y167 a3_0 a3_1 a3_2 a3_3 a3_4 a3_5 a3_6 a3_7 a3_8).bind fun t190 => (if t190.toList = t189.toList then ((impl_ListRender.f y174 a3_0 a3_1 a3_2 a3_3 a3_4 a3_5 a3_6 a3_7 a3_8).bind fun t191 => (if t191.toList = t189.toList then ((laws_lsAlive.f).bind fun t192 => (some t192)) else (some false))) else (some false))))) else (none))) else (none))) = some r := by first | (rw [hy174]; with_reducible exact H) | (have H2_ := (Option.bind_some _ _).symm.trans H; rw [hy174]; with_reducible exact H2_) | (have H2_ := (Option.bind_some _ _).symm.trans H; with_reducible exact H2_) | with_reducible exact H | (rw [hy174]; exact H) | exact H
                            have Ny174 := Aside0.mk hy174
                            clear hy174
                            obtain ⟨y177, hy177⟩ : ∃ y_ : List (S38), y_ = (([] : List (S38))) := ⟨_, rfl⟩
                            replace H : (if y177.length + l0.length < 5864062014805 then ((some (y177 ++ l0 : List (S38))).bind fun y180 => (if y180.length < 5864062014805 then ((spec_LsSteps.f k3 (y180 ++ [(⟨a1, 0⟩ : S38)])).bind fun t186 => ((impl_ListRender.f t186 a3_0 a3_1 a3_2 a3_3 a3_4 a3_5 a3_6 a3_7 a3_8).bind fun t189 => ((impl_ListRender.f y167 a3_0 a3_1 a3_2 a3_3 a3_4 a3_5 a3_6 a3_7 a3_8).bind fun t190 => (if t190.toList = t189.toList then ((impl_ListRender.f y174 a3_0 a3_1 a3_2 a3_3 a3_4 a3_5 a3_6 a3_7 a3_8).bind fun t191 => (if t191.toList = t189.toList then ((laws_lsAlive.f).bind fun t192 => (some t192)) else (some false))) else (some false))))) else (none))) else (none)) = some r := by first | (rw [hy177]; with_reducible exact H) | (have H2_ := (Option.bind_some _ _).symm.trans H; rw [hy177]; with_reducible exact H2_) | (have H2_ := (Option.bind_some _ _).symm.trans H; with_reducible exact H2_) | with_reducible exact H | (rw [hy177]; exact H) | exact H
                            have Ny177 := Aside0.mk hy177
                            clear hy177
                            by_cases c51 : y177.length + l0.length < 5864062014805
                            · rw [if_pos c51] at H
                              have LMc51 := Aside0.mk c51
                              clear c51
                              obtain ⟨y180, hy180⟩ : ∃ y_ : List (S38), y_ = (y177 ++ l0) := ⟨_, rfl⟩
                              replace H : (if y180.length < 5864062014805 then ((spec_LsSteps.f k3 (y180 ++ [(⟨a1, 0⟩ : S38)])).bind fun t186 => ((impl_ListRender.f t186 a3_0 a3_1 a3_2 a3_3 a3_4 a3_5 a3_6 a3_7 a3_8).bind fun t189 => ((impl_ListRender.f y167 a3_0 a3_1 a3_2 a3_3 a3_4 a3_5 a3_6 a3_7 a3_8).bind fun t190 => (if t190.toList = t189.toList then ((impl_ListRender.f y174 a3_0 a3_1 a3_2 a3_3 a3_4 a3_5 a3_6 a3_7 a3_8).bind fun t191 => (if t191.toList = t189.toList then ((laws_lsAlive.f).bind fun t192 => (some t192)) else (some false))) else (some false))))) else (none)) = some r := by first | (rw [hy180]; with_reducible exact H) | (have H2_ := (Option.bind_some _ _).symm.trans H; rw [hy180]; with_reducible exact H2_) | (have H2_ := (Option.bind_some _ _).symm.trans H; with_reducible exact H2_) | with_reducible exact H | (rw [hy180]; exact H) | exact H
                              have Ny180 := Aside0.mk hy180
                              clear hy180
                              by_cases c52 : y180.length < 5864062014805
                              · rw [if_pos c52] at H
                                have LMc52 := Aside0.mk c52
                                clear c52
                                obtain ⟨y183, hy183⟩ : ∃ y_ : List (S38), y_ = (y180 ++ [(⟨a1, 0⟩ : S38)]) := ⟨_, rfl⟩
                                replace H : ((spec_LsSteps.f k3 y183).bind fun t186 => ((impl_ListRender.f t186 a3_0 a3_1 a3_2 a3_3 a3_4 a3_5 a3_6 a3_7 a3_8).bind fun t189 => ((impl_ListRender.f y167 a3_0 a3_1 a3_2 a3_3 a3_4 a3_5 a3_6 a3_7 a3_8).bind fun t190 => (if t190.toList = t189.toList then ((impl_ListRender.f y174 a3_0 a3_1 a3_2 a3_3 a3_4 a3_5 a3_6 a3_7 a3_8).bind fun t191 => (if t191.toList = t189.toList then ((laws_lsAlive.f).bind fun t192 => (some t192)) else (some false))) else (some false))))) = some r := by first | (rw [hy183]; with_reducible exact H) | (have H2_ := (Option.bind_some _ _).symm.trans H; rw [hy183]; with_reducible exact H2_) | (have H2_ := (Option.bind_some _ _).symm.trans H; with_reducible exact H2_) | with_reducible exact H | (rw [hy183]; exact H) | exact H
                                have Ny183 := Aside0.mk hy183
                                clear hy183
                                replace H := Option.bind_eq_some_iff.mp H
                                obtain ⟨t186, A530, H⟩ := H
                                replace H : ((impl_ListRender.f t186 a3_0 a3_1 a3_2 a3_3 a3_4 a3_5 a3_6 a3_7 a3_8).bind fun t189 => ((impl_ListRender.f y167 a3_0 a3_1 a3_2 a3_3 a3_4 a3_5 a3_6 a3_7 a3_8).bind fun t190 => (if t190.toList = t189.toList then ((impl_ListRender.f y174 a3_0 a3_1 a3_2 a3_3 a3_4 a3_5 a3_6 a3_7 a3_8).bind fun t191 => (if t191.toList = t189.toList then ((laws_lsAlive.f).bind fun t192 => (some t192)) else (some false))) else (some false)))) = some r := H
                                have A53 := Aside0.mk A530
                                clear A530
                                replace H := Option.bind_eq_some_iff.mp H
                                obtain ⟨t189, A540, H⟩ := H
                                replace H : ((impl_ListRender.f y167 a3_0 a3_1 a3_2 a3_3 a3_4 a3_5 a3_6 a3_7 a3_8).bind fun t190 => (if t190.toList = t189.toList then ((impl_ListRender.f y174 a3_0 a3_1 a3_2 a3_3 a3_4 a3_5 a3_6 a3_7 a3_8).bind fun t191 => (if t191.toList = t189.toList then ((laws_lsAlive.f).bind fun t192 => (some t192)) else (some false))) else (some false))) = some r := H
                                have A54 := Aside0.mk A540
                                clear A540
                                replace H := Option.bind_eq_some_iff.mp H
                                obtain ⟨t190, A550, H⟩ := H
                                replace H : (if t190.toList = t189.toList then ((impl_ListRender.f y174 a3_0 a3_1 a3_2 a3_3 a3_4 a3_5 a3_6 a3_7 a3_8).bind fun t191 => (if t191.toList = t189.toList then ((laws_lsAlive.f).bind fun t192 => (some t192)) else (some false))) else (some false)) = some r := H
                                have A55 := Aside0.mk A550
                                clear A550
                                by_cases c56 : t190.toList = t189.toList
                                · rw [if_pos c56] at H
                                  have c56b0 : (t190.toList == t189.toList) = true := beq_iff_eq.mpr c56
                                  have c56b1 : (t190.toList != t189.toList) = false := bne_eq_false_iff_eq.mpr c56
                                  clear c56
                                  replace H := Option.bind_eq_some_iff.mp H
                                  obtain ⟨t191, A570, H⟩ := H
                                  replace H : (if t191.toList = t189.toList then ((laws_lsAlive.f).bind fun t192 => (some t192)) else (some false)) = some r := H
                                  have A57 := Aside0.mk A570
                                  clear A570
                                  by_cases c58 : t191.toList = t189.toList
                                  · rw [if_pos c58] at H
                                    have c58b0 : (t191.toList == t189.toList) = true := beq_iff_eq.mpr c58
                                    have c58b1 : (t191.toList != t189.toList) = false := bne_eq_false_iff_eq.mpr c58
                                    clear c58
                                    replace H := Option.bind_eq_some_iff.mp H
                                    obtain ⟨t192, A590, H⟩ := H
                                    replace H : (some t192) = some r := H
                                    have A59 := Aside0.mk A590
                                    clear A590
                                    obtain rfl := Option.some.inj H
                                    try go_wp2_with (first | ((with_reducible refine gate_builtin (b := .append) (xs := #[.tmp 77, .tmp 80]) rfl ?_); (try (refine gate_guard (by rfl) ?_; dsimp only)); at_builtin; refine Kd.N_append k36 (w0 := w) w.heap.size rfl (.tmp 77) (.tmp 80) 30 36 (.agg #[(.int .i64 0), (.string ⟨#[]⟩), (.slice none 0 0)]) 48 rfl Tryd.underlying30 info36 rfl (by decide) (by omega) u10 x10_3 (⟨0, a1, ([] : List ByteArray)⟩ : S36) [.int .i64 0, .string a1, .slice none 0 0] (fun k_ => some k_ ≠ (v168 : Value).ownBlock ∧ k_ ≠ gb152) (fun k_ => ((fun k_ => some k_ ≠ (v168 : Value).ownBlock ∧ k_ ≠ gb152)) k_ ∧ some k_ ≠ (u10 : Value).ownBlock) rfl rfl ?aP (fun _ hk => hk) ?aF ?aO ?aB ?aS ?aL ?_; (case aP => exact (k36_mkF _ _ (⟨0, a1, ([] : List ByteArray)⟩ : S36) (Nat.le_refl _) (Kd.F_nil _ _ _))); (case aB => exact (by repeat (first | (with_reducible first | exact HB.out | apply below_alloc | apply pw_below_drewN | apply below_drew1 | refine below_set ?_ GE152.out) | exact HB.out))); (case aF => exact (fun k_ hk => ⟨Kd.fresh' (Kd.N_lt (by (with_reducible repeat (first | apply Kd.N_alloc | apply Kd.N_drewN | apply Kd.N_drew)); exact HO_9.out)) k_ hk, Kd.freshB (g := gb152) (o := .cells #[.int .i64 a3_0, .string a3_1, .string a3_2, .string a3_3, .string a3_4, .string a3_5, .string a3_6, .string a3_7, .string a3_8] 24 (0, 0)) (by (with_reducible repeat (first | refine blk_drewN ?_ _ | refine blk_drew ?_ | refine blk_alloc ?_ _)); exact BK152.out) k_ hk⟩)); (case aO => exact (by (with_reducible repeat (first | apply Kd.N_alloc | apply Kd.N_drewN | apply Kd.N_drew)); exact HO_10.out)); (case aS => exact (below_size (by repeat (first | (with_reducible first | exact HB.out | apply below_alloc | apply pw_below_drewN | apply below_drew1 | refine below_set ?_ GE152.out) | exact HB.out)))); (case aL => have := LMc50.out; first | omega | exact this | exact Nat.le_of_lt this); intro v175 w60 ho hb hg hat; rw [← Ny174.out] at ho; have n0_ := Aside0.mk (Kd.N_afterv (ok := (fun k_ => k_ ≠ gb152)) (by (with_reducible repeat (first | apply Kd.N_alloc | apply Kd.N_drewN | apply Kd.N_drew)); exact Kd.N_mono HO_9.out (fun _ hk => ⟨hk.2, hk.1⟩)) hg hat); have n1_ := Aside0.mk (blk_grown (g := gb152) (o := .cells #[.int .i64 a3_0, .string a3_1, .string a3_2, .string a3_3, .string a3_4, .string a3_5, .string a3_6, .string a3_7, .string a3_8] 24 (0, 0)) (by (with_reducible repeat (first | refine blk_drewN ?_ _ | refine blk_drew ?_ | refine blk_alloc ?_ _)); exact BK152.out) hg (Kd.N_ne HO_10.out BK152.out (by decide))); have n2_ := Aside0.mk (hb); have n3_ := Aside0.mk (ho); clear HO_9; clear BK152; clear HB; clear HO_10; have HO_9 := n0_; have BK152 := n1_; have HB := n2_; have HO176 := n3_; clear n0_ n1_ n2_ n3_; clear ho hb hg hat) | ((with_reducible refine gate_dst (N := 82) rfl ?_); (try (refine gate_guard (by rfl) ?_; dsimp only)); refine Kd.R_lit k38 _ 38 ?hg (N := 82) ?hd (xs := ([] : List (S38))) (inner := []) (ok := fun _ => True) (okp := fun _ => True) ?hr ?hp (fun _ hk => hk) trivial (Below.refl _ _) (Nat.le_refl _) (by simp) ?_; (case hd => rfl); (case hg => rfl); (case hr => first | (go_simp; done) | (go_simp; rfl)); (case hp => exact (Reps.none _ _)); intro v178 w61 ho62 hb hg_ hnew_; clear hg_ hnew_; (first | rw [← Ny177.out] at ho62 | (simp only [Int.reduceToNat] at ho62; rw [← Ny177.out] at ho62)); have n0_ := Aside0.mk (Kd.N_elder' (by (with_reducible repeat (first | apply Kd.N_alloc | apply Kd.N_drewN | apply Kd.N_drew)); exact HO_9.out) (Kd.R_base ho62) hb); have n1_ := Aside0.mk (Kd.N_elder' (by (with_reducible repeat (first | apply Kd.N_alloc | apply Kd.N_drewN | apply Kd.N_drew)); exact HO176.out) (Kd.R_base ho62) hb); have n2_ := Aside0.mk (Kd.R_lower ho62 (below_size (by repeat (first | (with_reducible first | exact HB.out | apply below_alloc | apply pw_below_drewN | apply below_drew1 | refine below_set ?_ GE152.out) | exact HB.out)))); have n3_ := Aside0.mk (blk_below (g := gb152) (o := .cells #[.int .i64 a3_0, .string a3_1, .string a3_2, .string a3_3, .string a3_4, .string a3_5, .string a3_6, .string a3_7, .string a3_8] 24 (0, 0)) (by (with_reducible repeat (first | refine blk_drewN ?_ _ | refine blk_drew ?_ | refine blk_alloc ?_ _)); exact BK152.out) hb); have n4_ := Aside0.mk (below_step (by repeat (first | (with_reducible first | exact HB.out | apply below_alloc | apply pw_below_drewN | apply below_drew1 | refine below_set ?_ GE152.out) | exact HB.out)) hb); clear HO_9; clear HO176; clear BK152; clear HB; have HO_9 := n0_; have HO176 := n1_; have HO179 := n2_; have BK152 := n3_; have HB := n4_; clear n0_ n1_ n2_ n3_ n4_; clear hb ho62) | ((with_reducible refine gate_builtin (b := .append) (xs := #[.tmp 82, .tmp 83]) rfl ?_); (try (refine gate_guard (by rfl) ?_; dsimp only)); at_builtin; refine Kd.R_append_rows k38 (w0 := w) w.heap.size rfl (.tmp 82) (.tmp 83) 22 38 (.agg #[(.string ⟨#[]⟩), (.int .i64 0)]) 24 rfl Tryd.underlying22 info38 rfl (by decide) (by omega) v178 y177 l0 _ _ _ (fun _ => True) (fun _ => False) rfl rfl ?aO ?aR (fun _ _ h => h) (fun _ h => h.elim) ?aF ?aB ?aS ?aL ?_; (case aR => repeat (first | exact (Kd.C_below HR0.out HB.out) | (with_reducible refine Kd.C_alloc ?_ _) | (with_reducible refine Kd.C_drewN ?_ _) | (with_reducible refine Kd.C_drew ?_))); (case aB => exact (by repeat (first | (with_reducible first | exact HB.out | apply below_alloc | apply pw_below_drewN | apply below_drew1 | refine below_set ?_ GE152.out) | exact HB.out))); (case aF => exact (fun _ _ => trivial)); (case aO => exact (by (with_reducible repeat (first | apply Kd.R_alloc | apply Kd.R_drewN | apply Kd.R_drew)); exact HO179.out)); (case aS => exact (below_size (by repeat (first | (with_reducible first | exact HB.out | apply below_alloc | apply pw_below_drewN | apply below_drew1 | refine below_set ?_ GE152.out) | exact HB.out)))); (case aL => have := LMc51.out; first | omega | exact this | exact Nat.le_of_lt this); intro v181 w63 ho hb hg hat; rw [← Ny180.out] at ho; have n0_ := Aside0.mk (Kd.N_afterv (ok := (fun k_ => some k_ ≠ (v175 : Value).ownBlock ∧ k_ ≠ gb152)) (by (with_reducible repeat (first | apply Kd.N_alloc | apply Kd.N_drewN | apply Kd.N_drew)); exact Kd.N_mono HO_9.out (fun _ hk => ⟨⟨hk.1.2, hk.1.1⟩, hk.2⟩)) hg hat); have n1_ := Aside0.mk (blk_grown (g := gb152) (o := .cells #[.int .i64 a3_0, .string a3_1, .string a3_2, .string a3_3, .string a3_4, .string a3_5, .string a3_6, .string a3_7, .string a3_8] 24 (0, 0)) (by (with_reducible repeat (first | refine blk_drewN ?_ _ | refine blk_drew ?_ | refine blk_alloc ?_ _)); exact BK152.out) hg (Kd.R_ne HO179.out BK152.out (by decide))); have n2_ := Aside0.mk (Kd.N_afterv (ok := (fun k_ => some k_ ≠ (v168 : Value).ownBlock ∧ k_ ≠ gb152)) (by (with_reducible repeat (first | apply Kd.N_alloc | apply Kd.N_drewN | apply Kd.N_drew)); exact HO176.out) hg hat); have n3_ := Aside0.mk (hb); have n4_ := Aside0.mk (ho); clear HO_9; clear BK152; clear HO176; clear HB; clear HO179; have HO_9 := n0_; have BK152 := n1_; have HO176 := n2_; have HB := n3_; have HO182 := n4_; clear n0_ n1_ n2_ n3_ n4_; clear ho hb hg hat) | ((with_reducible refine gate_builtin (b := .append) (xs := #[.tmp 84, .tmp 87]) rfl ?_); (try (refine gate_guard (by rfl) ?_; dsimp only)); at_builtin; refine Kd.R_append k38 (w0 := w) w.heap.size rfl (.tmp 84) (.tmp 87) 22 38 (.agg #[(.string ⟨#[]⟩), (.int .i64 0)]) 24 rfl Tryd.underlying22 info38 rfl (by decide) (by omega) v181 y180 (⟨a1, 0⟩ : S38) [.string a1, .int .i64 0] (fun _ => True) (fun _ => False) rfl rfl ?aP (fun _ hk => hk.elim) ?aF ?aO ?aB ?aS ?aL ?_; (case aP => exact k38_mkM _ _ _ (⟨a1, 0⟩ : S38)); (case aB => exact (by repeat (first | (with_reducible first | exact HB.out | apply below_alloc | apply pw_below_drewN | apply below_drew1 | refine below_set ?_ GE152.out) | exact HB.out))); (case aF => exact (fun _ _ => trivial)); (case aO => exact (by (with_reducible repeat (first | apply Kd.R_alloc | apply Kd.R_drewN | apply Kd.R_drew)); exact HO182.out)); (case aS => exact (below_size (by repeat (first | (with_reducible first | exact HB.out | apply below_alloc | apply pw_below_drewN | apply below_drew1 | refine below_set ?_ GE152.out) | exact HB.out)))); (case aL => have := LMc52.out; first | omega | exact this | exact Nat.le_of_lt this); intro v184 w64 ho hb hg hat; rw [← Ny183.out] at ho; have n0_ := Aside0.mk (Kd.N_afterv (ok := (fun k_ => some k_ ≠ (v175 : Value).ownBlock ∧ k_ ≠ gb152)) (by (with_reducible repeat (first | apply Kd.N_alloc | apply Kd.N_drewN | apply Kd.N_drew)); exact HO_9.out) hg hat); have n1_ := Aside0.mk (blk_grown (g := gb152) (o := .cells #[.int .i64 a3_0, .string a3_1, .string a3_2, .string a3_3, .string a3_4, .string a3_5, .string a3_6, .string a3_7, .string a3_8] 24 (0, 0)) (by (with_reducible repeat (first | refine blk_drewN ?_ _ | refine blk_drew ?_ | refine blk_alloc ?_ _)); exact BK152.out) hg (Kd.R_ne HO182.out BK152.out (by decide))); have n2_ := Aside0.mk (Kd.N_afterv (ok := (fun k_ => some k_ ≠ (v168 : Value).ownBlock ∧ k_ ≠ gb152)) (by (with_reducible repeat (first | apply Kd.N_alloc | apply Kd.N_drewN | apply Kd.N_drew)); exact HO176.out) hg hat); have n3_ := Aside0.mk (hb); have n4_ := Aside0.mk (ho); clear HO_9; clear BK152; clear HO176; clear HB; clear HO182; have HO_9 := n0_; have BK152 := n1_; have HO176 := n2_; have HB := n3_; have HO185 := n4_; clear n0_ n1_ n2_ n3_ n4_; clear ho hb hg hat))
                                    have n0_ := Aside0.mk (Kd.N_drew HO_9.out)
                                    have n1_ := Aside0.mk (Kd.N_drew HO176.out)
                                    have n2_ := Aside0.mk (Kd.R_drew HO185.out)
                                    have n3_ := Aside0.mk (blk_drew BK152.out)
                                    have n4_ := Aside0.mk (below_drew1 HB.out)
                                    clear HO_9
                                    clear HO176
                                    clear HO185
                                    clear BK152
                                    clear HB
                                    have HO_9 := n0_
                                    have HO176 := n1_
                                    have HO185 := n2_
                                    have BK152 := n3_
                                    have HB := n4_
                                    clear n0_ n1_ n2_ n3_ n4_
                                    obtain ⟨Ao66, co66, eo66⟩ := Kd.R_slice HO185.out
                                    (first | subst eo66 | (injection eo66 with f1_ f2_ f3_; have f4_ := f1_.symm; have f5_ := f3_.symm; clear f1_ f2_ f3_; subst f4_; subst f5_))
                                    refine start_ (n := 5) (S := fun w' => w'.cell? ⟨gb152, 0, none⟩ = some (.int .i64 a3_0) ∧ w'.cell? ⟨gb152, 1, none⟩ = some (.string a3_1) ∧ w'.cell? ⟨gb152, 2, none⟩ = some (.string a3_2) ∧ w'.cell? ⟨gb152, 3, none⟩ = some (.string a3_3) ∧ w'.cell? ⟨gb152, 4, none⟩ = some (.string a3_4) ∧ w'.cell? ⟨gb152, 5, none⟩ = some (.string a3_5) ∧ w'.cell? ⟨gb152, 6, none⟩ = some (.string a3_6) ∧ w'.cell? ⟨gb152, 7, none⟩ = some (.string a3_7) ∧ w'.cell? ⟨gb152, 8, none⟩ = some (.string a3_8)) (ds := []) #[false, false, false, false, false] (by kernel_rfl) rfl rfl ⟨(blk_cell BK152.out 0).trans rfl, (blk_cell BK152.out 1).trans rfl, (blk_cell BK152.out 2).trans rfl, (blk_cell BK152.out 3).trans rfl, (blk_cell BK152.out 4).trans rfl, (blk_cell BK152.out 5).trans rfl, (blk_cell BK152.out 6).trans rfl, (blk_cell BK152.out 7).trans rfl, (blk_cell BK152.out 8).trans rfl⟩ (fun hHeld => ?_)
                                    generalize w64.drew = w65 at HO_9 HO176 HO185 BK152 HB hHeld ⊢
                                    refine pure_ (i := 0) (N := some 89) (v := ?_) (a' := ?_) #[true, false, false, false, false] rfl rfl (by kernel_rfl) (fun _ _ _ h => h) (Or.inl ⟨by rfl, ?_⟩) ?_ ?_
                                    rotate_left
                                    · intro w'
                                      go_simp
                                      with_reducible rfl
                                    rotate_left
                                    · simp only [Act.put, List.setIfInBounds_toArray, List.set_cons_zero, List.set_cons_succ, i64_w, i32_w]
                                      rfl
                                    refine take_ (i := 2) (N := some 91) (v := ?_) (a' := ?_) #[true, false, true, false, false] rfl rfl (by kernel_rfl) (fun _ _ _ h => h) (Or.inl ⟨by rfl, ?_⟩) hHeld ?_ ?_
                                    rotate_left
                                    · rintro w' ⟨s0, s1, s2, s3, s4, s5, s6, s7, s8⟩
                                      go_simp
                                      with_reducible rfl
                                    rotate_left
                                    · simp only [Act.put, List.setIfInBounds_toArray, List.set_cons_zero, List.set_cons_succ, i64_w, i32_w]
                                      rfl
                                    refine one_ (i := 1) (N := some 90) #[true, true, true, false, false] rfl rfl (by kernel_rfl) (by decide) (fun K hK => ?_)
                                    refine goes_ Tryd.func12 (by kernel_rfl) rfl #[.slice Ao66 y183.length co66] (by rfl) rfl rfl (by (try simp only [List.map_toArray, List.map_cons, List.map_nil]); first | done | rfl | (simp only [List.length_drop, List.length_take]; rfl)) ?_
                                    with_reducible refine (spec_LsSteps.calls k3 _ _ y183 t186 _ ?side1 ?side2 A53.out).mono ?_
                                    (case side1 => repeat (first | exact (Kd.R_reads' HO185.out).2.2 | (with_reducible refine Kd.C_alloc ?_ _) | (with_reducible refine Kd.C_drewN ?_ _) | (with_reducible refine Kd.C_drew ?_)))
                                    (case side2 => exact (Kd.R_reads' HO185.out).2.1)
                                    rintro e w67 ⟨v187, rfl, ho0, hb⟩
                                    refine ⟨_, rfl, ?_⟩
                                    have n0_ := Aside0.mk (Kd.N_elder' (by (with_reducible repeat (first | apply Kd.N_alloc | apply Kd.N_drewN | apply Kd.N_drew)); exact HO_9.out) (Kd.N_base (Kd.S_N ho0)) hb)
                                    have n1_ := Aside0.mk (Kd.N_elder' (by (with_reducible repeat (first | apply Kd.N_alloc | apply Kd.N_drewN | apply Kd.N_drew)); exact HO176.out) (Kd.N_base (Kd.S_N ho0)) hb)
                                    have n2_ := Aside0.mk (Kd.R_below (by (with_reducible repeat (first | apply Kd.R_alloc | apply Kd.R_drewN | apply Kd.R_drew)); exact HO185.out) hb)
                                    have n3_ := Aside0.mk (Kd.N_lower (Kd.N_mono (ok' := fun k_ => some k_ ≠ (v168 : Value).ownBlock ∧ some k_ ≠ (v175 : Value).ownBlock ∧ some k_ ≠ (.slice Ao66 y183.length co66 : Value).ownBlock ∧ k_ ≠ gb152) (Kd.S_N (Kd.S_bound ho0)) (fun k_ hk_ => ⟨(Kd.fresh' (Kd.N_lt (by (with_reducible repeat (first | apply Kd.N_alloc | apply Kd.N_drewN | apply Kd.N_drew)); exact HO_9.out)) k_ hk_.2.1), (Kd.fresh' (Kd.N_lt (by (with_reducible repeat (first | apply Kd.N_alloc | apply Kd.N_drewN | apply Kd.N_drew)); exact HO176.out)) k_ hk_.2.1), (Kd.fresh' (Kd.R_lt (by (with_reducible repeat (first | apply Kd.R_alloc | apply Kd.R_drewN | apply Kd.R_drew)); exact HO185.out)) k_ hk_.2.1), (Kd.freshB (g := gb152) (o := .cells #[.int .i64 a3_0, .string a3_1, .string a3_2, .string a3_3, .string a3_4, .string a3_5, .string a3_6, .string a3_7, .string a3_8] 24 (0, 0)) (by (with_reducible repeat (first | refine blk_drewN ?_ _ | refine blk_drew ?_ | refine blk_alloc ?_ _)); exact BK152.out) k_ hk_.2.1)⟩)) (below_size (by repeat (first | (with_reducible first | exact HB.out | apply below_alloc | apply pw_below_drewN | apply below_drew1 | refine below_set ?_ GE152.out) | exact HB.out))))
                                    have n4_ := Aside0.mk (blk_below (g := gb152) (o := .cells #[.int .i64 a3_0, .string a3_1, .string a3_2, .string a3_3, .string a3_4, .string a3_5, .string a3_6, .string a3_7, .string a3_8] 24 (0, 0)) (by (with_reducible repeat (first | refine blk_drewN ?_ _ | refine blk_drew ?_ | refine blk_alloc ?_ _)); exact BK152.out) hb)
                                    have n5_ := Aside0.mk (below_step (by repeat (first | (with_reducible first | exact HB.out | apply below_alloc | apply pw_below_drewN | apply below_drew1 | refine below_set ?_ GE152.out) | exact HB.out)) hb)
                                    clear HO_9
                                    clear HO176
                                    clear HO185
                                    clear BK152
                                    clear HB
                                    have HO_9 := n0_
                                    have HO176 := n1_
                                    have HO185 := n2_
                                    have HO188 := n3_
                                    have BK152 := n4_
                                    have HB := n5_
                                    clear n0_ n1_ n2_ n3_ n4_ n5_
                                    (try clear hb)
                                    (try clear hb2)
                                    (try clear hk)
                                    (try clear hi)
                                    (try clear ho0)
                                    obtain ⟨Ao68, co68, eo68⟩ := Kd.N_slice HO188.out
                                    (first | subst eo68 | (injection eo68 with f1_ f2_ f3_; have f4_ := f1_.symm; have f5_ := f3_.symm; clear f1_ f2_ f3_; subst f4_; subst f5_))
                                    refine hK.out _ _ ⟨(blk_cell BK152.out 0).trans rfl, (blk_cell BK152.out 1).trans rfl, (blk_cell BK152.out 2).trans rfl, (blk_cell BK152.out 3).trans rfl, (blk_cell BK152.out 4).trans rfl, (blk_cell BK152.out 5).trans rfl, (blk_cell BK152.out 6).trans rfl, (blk_cell BK152.out 7).trans rfl, (blk_cell BK152.out 8).trans rfl⟩ (fun hHeld => ?_)
                                    clear hK K
                                    refine norm_ (a' := ?_) ?_ ?_
                                    rotate_left
                                    · show Act.put _ (some 90) _ = _
                                      simp only [Act.put, List.setIfInBounds_toArray, List.set_cons_zero, List.set_cons_succ, i64_w, i32_w]
                                      rfl
                                    refine one_ (i := 3) (N := some 92) #[true, true, true, true, false] rfl rfl (by kernel_rfl) (by decide) (fun K hK => ?_)
                                    refine goes_ Tryd.func11 (by kernel_rfl) rfl #[.slice Ao68 t186.length co68, .agg #[.int .i64 a3_0, .string a3_1, .string a3_2, .string a3_3, .string a3_4, .string a3_5, .string a3_6, .string a3_7, .string a3_8]] (by rfl) rfl rfl (by (try simp only [List.map_toArray, List.map_cons, List.map_nil]); first | done | rfl | (simp only [List.length_drop, List.length_take]; rfl)) ?_
                                    with_reducible refine (impl_ListRender.calls _ _ t186 a3_0 a3_1 a3_2 a3_3 a3_4 a3_5 a3_6 a3_7 a3_8 t189 _ ?side1 ?side2 A54.out).mono ?_
                                    (case side1 => repeat (first | exact (Kd.N_reads' HO188.out).2.2 | (with_reducible refine Kd.C_alloc ?_ _) | (with_reducible refine Kd.C_drewN ?_ _) | (with_reducible refine Kd.C_drew ?_)))
                                    (case side2 => exact (Kd.N_reads' HO188.out).2.1)
                                    rintro e w69 ⟨rfl, hb⟩
                                    refine ⟨_, rfl, ?_⟩
                                    have n0_ := Aside0.mk (Kd.N_below (by (with_reducible repeat (first | apply Kd.N_alloc | apply Kd.N_drewN | apply Kd.N_drew)); exact HO_9.out) hb)
                                    have n1_ := Aside0.mk (Kd.N_below (by (with_reducible repeat (first | apply Kd.N_alloc | apply Kd.N_drewN | apply Kd.N_drew)); exact HO176.out) hb)
                                    have n2_ := Aside0.mk (Kd.R_below (by (with_reducible repeat (first | apply Kd.R_alloc | apply Kd.R_drewN | apply Kd.R_drew)); exact HO185.out) hb)
                                    have n3_ := Aside0.mk (Kd.N_below (by (with_reducible repeat (first | apply Kd.N_alloc | apply Kd.N_drewN | apply Kd.N_drew)); exact HO188.out) hb)
                                    have n4_ := Aside0.mk (blk_below (g := gb152) (o := .cells #[.int .i64 a3_0, .string a3_1, .string a3_2, .string a3_3, .string a3_4, .string a3_5, .string a3_6, .string a3_7, .string a3_8] 24 (0, 0)) (by (with_reducible repeat (first | refine blk_drewN ?_ _ | refine blk_drew ?_ | refine blk_alloc ?_ _)); exact BK152.out) hb)
                                    have n5_ := Aside0.mk (below_step (by repeat (first | (with_reducible first | exact HB.out | apply below_alloc | apply pw_below_drewN | apply below_drew1 | refine below_set ?_ GE152.out) | exact HB.out)) hb)
                                    clear HO_9
                                    clear HO176
                                    clear HO185
                                    clear HO188
                                    clear BK152
                                    clear HB
                                    have HO_9 := n0_
                                    have HO176 := n1_
                                    have HO185 := n2_
                                    have HO188 := n3_
                                    have BK152 := n4_
                                    have HB := n5_
                                    clear n0_ n1_ n2_ n3_ n4_ n5_
                                    (try clear hb)
                                    (try clear hb2)
                                    (try clear hk)
                                    (try clear hi)
                                    refine hK.out _ _ ⟨(blk_cell BK152.out 0).trans rfl, (blk_cell BK152.out 1).trans rfl, (blk_cell BK152.out 2).trans rfl, (blk_cell BK152.out 3).trans rfl, (blk_cell BK152.out 4).trans rfl, (blk_cell BK152.out 5).trans rfl, (blk_cell BK152.out 6).trans rfl, (blk_cell BK152.out 7).trans rfl, (blk_cell BK152.out 8).trans rfl⟩ (fun hHeld => ?_)
                                    clear hK K
                                    refine norm_ (a' := ?_) ?_ ?_
                                    rotate_left
                                    · show Act.put _ (some 92) _ = _
                                      simp only [Act.put, List.setIfInBounds_toArray, List.set_cons_zero, List.set_cons_succ, i64_w, i32_w]
                                      rfl
                                    refine pure_ (i := 4) (N := some 12) (v := ?_) (a' := ?_) #[true, true, true, true, true] rfl rfl (by kernel_rfl) (fun _ _ _ h => h) (Or.inl ⟨by rfl, ?_⟩) ?_ ?_
                                    rotate_left
                                    · intro w'
                                      go_simp
                                      with_reducible rfl
                                    rotate_left
                                    · simp only [Act.put, List.setIfInBounds_toArray, List.set_cons_zero, List.set_cons_succ, i64_w, i32_w]
                                      rfl
                                    refine done_ (by kernel_rfl) ?_
                                    have hcz70_0 : w69.cell? ⟨gb152, 0, none⟩ = some (.int .i64 a3_0) := (blk_cell BK152.out 0).trans rfl
                                    have hcz70_1 : w69.cell? ⟨gb152, 1, none⟩ = some (.string a3_1) := (blk_cell BK152.out 1).trans rfl
                                    have hcz70_2 : w69.cell? ⟨gb152, 2, none⟩ = some (.string a3_2) := (blk_cell BK152.out 2).trans rfl
                                    have hcz70_3 : w69.cell? ⟨gb152, 3, none⟩ = some (.string a3_3) := (blk_cell BK152.out 3).trans rfl
                                    have hcz70_4 : w69.cell? ⟨gb152, 4, none⟩ = some (.string a3_4) := (blk_cell BK152.out 4).trans rfl
                                    have hcz70_5 : w69.cell? ⟨gb152, 5, none⟩ = some (.string a3_5) := (blk_cell BK152.out 5).trans rfl
                                    have hcz70_6 : w69.cell? ⟨gb152, 6, none⟩ = some (.string a3_6) := (blk_cell BK152.out 6).trans rfl
                                    have hcz70_7 : w69.cell? ⟨gb152, 7, none⟩ = some (.string a3_7) := (blk_cell BK152.out 7).trans rfl
                                    have hcz70_8 : w69.cell? ⟨gb152, 8, none⟩ = some (.string a3_8) := (blk_cell BK152.out 8).trans rfl
                                    have hfz70_0 := blk_frozen BK152.out 0
                                    have hfz70_1 := blk_frozen BK152.out 1
                                    have hfz70_2 := blk_frozen BK152.out 2
                                    have hfz70_3 := blk_frozen BK152.out 3
                                    have hfz70_4 := blk_frozen BK152.out 4
                                    have hfz70_5 := blk_frozen BK152.out 5
                                    have hfz70_6 := blk_frozen BK152.out 6
                                    have hfz70_7 := blk_frozen BK152.out 7
                                    have hfz70_8 := blk_frozen BK152.out 8
                                    obtain ⟨Ao71, co71, eo71⟩ := Kd.N_slice HO_9.out
                                    subst eo71
                                    try go_wp2_with (first | ((with_reducible refine gate_callee (f := 11) rfl ?_); refine goesL_ (some 95) rfl rfl Tryd.func11 (by kernel_rfl) rfl #[.slice Ao71 y167.length co71, .agg #[.int .i64 a3_0, .string a3_1, .string a3_2, .string a3_3, .string a3_4, .string a3_5, .string a3_6, .string a3_7, .string a3_8]] rfl (by (try simp only [List.map_toArray, List.map_cons, List.map_nil]); first | done | rfl | (simp only [List.length_drop, List.length_take]; rfl)) ?_; (with_reducible refine (impl_ListRender.calls _ _ y167 a3_0 a3_1 a3_2 a3_3 a3_4 a3_5 a3_6 a3_7 a3_8 t190 _ ?side1 ?side2 A55.out).mono ?_); (case side1 => repeat (first | exact (Kd.N_reads' HO_9.out).2.2 | (with_reducible refine Kd.C_alloc ?_ _) | (with_reducible refine Kd.C_drewN ?_ _) | (with_reducible refine Kd.C_drew ?_))); (case side2 => exact (Kd.N_reads' HO_9.out).2.1); rintro e w72 ⟨rfl, hb⟩; refine ⟨_, rfl, ?_⟩; have n0_ := Aside0.mk (Kd.N_below (by (with_reducible repeat (first | apply Kd.N_alloc | apply Kd.N_drewN | apply Kd.N_drew)); exact HO_9.out) hb); have n1_ := Aside0.mk (Kd.N_below (by (with_reducible repeat (first | apply Kd.N_alloc | apply Kd.N_drewN | apply Kd.N_drew)); exact HO176.out) hb); have n2_ := Aside0.mk (Kd.R_below (by (with_reducible repeat (first | apply Kd.R_alloc | apply Kd.R_drewN | apply Kd.R_drew)); exact HO185.out) hb); have n3_ := Aside0.mk (Kd.N_below (by (with_reducible repeat (first | apply Kd.N_alloc | apply Kd.N_drewN | apply Kd.N_drew)); exact HO188.out) hb); have n4_ := Aside0.mk (blk_below (g := gb152) (o := .cells #[.int .i64 a3_0, .string a3_1, .string a3_2, .string a3_3, .string a3_4, .string a3_5, .string a3_6, .string a3_7, .string a3_8] 24 (0, 0)) (by (with_reducible repeat (first | refine blk_drewN ?_ _ | refine blk_drew ?_ | refine blk_alloc ?_ _)); exact BK152.out) hb); have n5_ := Aside0.mk (below_step (by repeat (first | (with_reducible first | exact HB.out | apply below_alloc | apply pw_below_drewN | apply below_drew1 | refine below_set ?_ GE152.out) | exact HB.out)) hb); clear HO_9; clear HO176; clear HO185; clear HO188; clear BK152; clear HB; have HO_9 := n0_; have HO176 := n1_; have HO185 := n2_; have HO188 := n3_; have BK152 := n4_; have HB := n5_; clear n0_ n1_ n2_ n3_ n4_ n5_; (try clear hb); (try clear hb2); (try clear hk); (try clear hi); have hcz73_0 : w72.cell? ⟨gb152, 0, none⟩ = some (.int .i64 a3_0) := (blk_cell BK152.out 0).trans rfl; have hcz73_1 : w72.cell? ⟨gb152, 1, none⟩ = some (.string a3_1) := (blk_cell BK152.out 1).trans rfl; have hcz73_2 : w72.cell? ⟨gb152, 2, none⟩ = some (.string a3_2) := (blk_cell BK152.out 2).trans rfl; have hcz73_3 : w72.cell? ⟨gb152, 3, none⟩ = some (.string a3_3) := (blk_cell BK152.out 3).trans rfl; have hcz73_4 : w72.cell? ⟨gb152, 4, none⟩ = some (.string a3_4) := (blk_cell BK152.out 4).trans rfl; have hcz73_5 : w72.cell? ⟨gb152, 5, none⟩ = some (.string a3_5) := (blk_cell BK152.out 5).trans rfl; have hcz73_6 : w72.cell? ⟨gb152, 6, none⟩ = some (.string a3_6) := (blk_cell BK152.out 6).trans rfl; have hcz73_7 : w72.cell? ⟨gb152, 7, none⟩ = some (.string a3_7) := (blk_cell BK152.out 7).trans rfl; have hcz73_8 : w72.cell? ⟨gb152, 8, none⟩ = some (.string a3_8) := (blk_cell BK152.out 8).trans rfl; have hfz73_0 := blk_frozen BK152.out 0; have hfz73_1 := blk_frozen BK152.out 1; have hfz73_2 := blk_frozen BK152.out 2; have hfz73_3 := blk_frozen BK152.out 3; have hfz73_4 := blk_frozen BK152.out 4; have hfz73_5 := blk_frozen BK152.out 5; have hfz73_6 := blk_frozen BK152.out 6; have hfz73_7 := blk_frozen BK152.out 7; have hfz73_8 := blk_frozen BK152.out 8; obtain ⟨Ao74, co74, eo74⟩ := Kd.N_slice HO176.out; subst eo74) | (go_at_call 11; (with_reducible refine (impl_ListRender.calls _ _ y174 a3_0 a3_1 a3_2 a3_3 a3_4 a3_5 a3_6 a3_7 a3_8 t191 _ ?side1 ?side2 A57.out).mono ?_); (case side1 => repeat (first | exact (Kd.N_reads' HO176.out).2.2 | (with_reducible refine Kd.C_alloc ?_ _) | (with_reducible refine Kd.C_drewN ?_ _) | (with_reducible refine Kd.C_drew ?_))); (case side2 => exact (Kd.N_reads' HO176.out).2.1); rintro e w75 ⟨rfl, hb⟩; have n0_ := Aside0.mk (Kd.N_below (by (with_reducible repeat (first | apply Kd.N_alloc | apply Kd.N_drewN | apply Kd.N_drew)); exact HO_9.out) hb); have n1_ := Aside0.mk (Kd.N_below (by (with_reducible repeat (first | apply Kd.N_alloc | apply Kd.N_drewN | apply Kd.N_drew)); exact HO176.out) hb); have n2_ := Aside0.mk (Kd.R_below (by (with_reducible repeat (first | apply Kd.R_alloc | apply Kd.R_drewN | apply Kd.R_drew)); exact HO185.out) hb); have n3_ := Aside0.mk (Kd.N_below (by (with_reducible repeat (first | apply Kd.N_alloc | apply Kd.N_drewN | apply Kd.N_drew)); exact HO188.out) hb); have n4_ := Aside0.mk (blk_below (g := gb152) (o := .cells #[.int .i64 a3_0, .string a3_1, .string a3_2, .string a3_3, .string a3_4, .string a3_5, .string a3_6, .string a3_7, .string a3_8] 24 (0, 0)) (by (with_reducible repeat (first | refine blk_drewN ?_ _ | refine blk_drew ?_ | refine blk_alloc ?_ _)); exact BK152.out) hb); have n5_ := Aside0.mk (below_step (by repeat (first | (with_reducible first | exact HB.out | apply below_alloc | apply pw_below_drewN | apply below_drew1 | refine below_set ?_ GE152.out) | exact HB.out)) hb); clear HO_9; clear HO176; clear HO185; clear HO188; clear BK152; clear HB; have HO_9 := n0_; have HO176 := n1_; have HO185 := n2_; have HO188 := n3_; have BK152 := n4_; have HB := n5_; clear n0_ n1_ n2_ n3_ n4_ n5_; (try clear hb); (try clear hb2); (try clear hk); (try clear hi)) | (go_at_call 15; (with_reducible refine (laws_lsAlive.calls  t192 _ A59.out).mono ?_); rintro e w76 ⟨rfl, hb⟩; have n0_ := Aside0.mk (Kd.N_below (by (with_reducible repeat (first | apply Kd.N_alloc | apply Kd.N_drewN | apply Kd.N_drew)); exact HO_9.out) hb); have n1_ := Aside0.mk (Kd.N_below (by (with_reducible repeat (first | apply Kd.N_alloc | apply Kd.N_drewN | apply Kd.N_drew)); exact HO176.out) hb); have n2_ := Aside0.mk (Kd.R_below (by (with_reducible repeat (first | apply Kd.R_alloc | apply Kd.R_drewN | apply Kd.R_drew)); exact HO185.out) hb); have n3_ := Aside0.mk (Kd.N_below (by (with_reducible repeat (first | apply Kd.N_alloc | apply Kd.N_drewN | apply Kd.N_drew)); exact HO188.out) hb); have n4_ := Aside0.mk (blk_below (g := gb152) (o := .cells #[.int .i64 a3_0, .string a3_1, .string a3_2, .string a3_3, .string a3_4, .string a3_5, .string a3_6, .string a3_7, .string a3_8] 24 (0, 0)) (by (with_reducible repeat (first | refine blk_drewN ?_ _ | refine blk_drew ?_ | refine blk_alloc ?_ _)); exact BK152.out) hb); have n5_ := Aside0.mk (below_step (by repeat (first | (with_reducible first | exact HB.out | apply below_alloc | apply pw_below_drewN | apply below_drew1 | refine below_set ?_ GE152.out) | exact HB.out)) hb); clear HO_9; clear HO176; clear HO185; clear HO188; clear BK152; clear HB; have HO_9 := n0_; have HO176 := n1_; have HO185 := n2_; have HO188 := n3_; have BK152 := n4_; have HB := n5_; clear n0_ n1_ n2_ n3_ n4_ n5_; (try clear hb); (try clear hb2); (try clear hk); (try clear hi)))
                                    go_ret
                                    exact ⟨by first | rfl | (simp [errW_none, errW_some] <;> rfl) | (simp only [← hji38]; first | rfl | (simp [errW_none, errW_some] <;> rfl)) | (simp [*, errW_none, errW_some] <;> rfl), by repeat (first | (with_reducible first | exact HB.out | apply below_alloc | apply pw_below_drewN | apply below_drew1 | refine below_set ?_ GE152.out) | exact HB.out)⟩
                                  · rw [if_neg c58] at H
                                    have c58b0 : (t191.toList == t189.toList) = false := beq_eq_false_iff_ne.mpr c58
                                    have c58b1 : (t191.toList != t189.toList) = true := bne_iff_ne.mpr c58
                                    obtain rfl := Option.some.inj H
                                    try go_wp2_with (first | ((with_reducible refine gate_builtin (b := .append) (xs := #[.tmp 77, .tmp 80]) rfl ?_); (try (refine gate_guard (by rfl) ?_; dsimp only)); at_builtin; refine Kd.N_append k36 (w0 := w) w.heap.size rfl (.tmp 77) (.tmp 80) 30 36 (.agg #[(.int .i64 0), (.string ⟨#[]⟩), (.slice none 0 0)]) 48 rfl Tryd.underlying30 info36 rfl (by decide) (by omega) u10 x10_3 (⟨0, a1, ([] : List ByteArray)⟩ : S36) [.int .i64 0, .string a1, .slice none 0 0] (fun k_ => some k_ ≠ (v168 : Value).ownBlock ∧ k_ ≠ gb152) (fun k_ => ((fun k_ => some k_ ≠ (v168 : Value).ownBlock ∧ k_ ≠ gb152)) k_ ∧ some k_ ≠ (u10 : Value).ownBlock) rfl rfl ?aP (fun _ hk => hk) ?aF ?aO ?aB ?aS ?aL ?_; (case aP => exact (k36_mkF _ _ (⟨0, a1, ([] : List ByteArray)⟩ : S36) (Nat.le_refl _) (Kd.F_nil _ _ _))); (case aB => exact (by repeat (first | (with_reducible first | exact HB.out | apply below_alloc | apply pw_below_drewN | apply below_drew1 | refine below_set ?_ GE152.out) | exact HB.out))); (case aF => exact (fun k_ hk => ⟨Kd.fresh' (Kd.N_lt (by (with_reducible repeat (first | apply Kd.N_alloc | apply Kd.N_drewN | apply Kd.N_drew)); exact HO_9.out)) k_ hk, Kd.freshB (g := gb152) (o := .cells #[.int .i64 a3_0, .string a3_1, .string a3_2, .string a3_3, .string a3_4, .string a3_5, .string a3_6, .string a3_7, .string a3_8] 24 (0, 0)) (by (with_reducible repeat (first | refine blk_drewN ?_ _ | refine blk_drew ?_ | refine blk_alloc ?_ _)); exact BK152.out) k_ hk⟩)); (case aO => exact (by (with_reducible repeat (first | apply Kd.N_alloc | apply Kd.N_drewN | apply Kd.N_drew)); exact HO_10.out)); (case aS => exact (below_size (by repeat (first | (with_reducible first | exact HB.out | apply below_alloc | apply pw_below_drewN | apply below_drew1 | refine below_set ?_ GE152.out) | exact HB.out)))); (case aL => have := LMc50.out; first | omega | exact this | exact Nat.le_of_lt this); intro v175 w77 ho hb hg hat; rw [← Ny174.out] at ho; have n0_ := Aside0.mk (Kd.N_afterv (ok := (fun k_ => k_ ≠ gb152)) (by (with_reducible repeat (first | apply Kd.N_alloc | apply Kd.N_drewN | apply Kd.N_drew)); exact Kd.N_mono HO_9.out (fun _ hk => ⟨hk.2, hk.1⟩)) hg hat); have n1_ := Aside0.mk (blk_grown (g := gb152) (o := .cells #[.int .i64 a3_0, .string a3_1, .string a3_2, .string a3_3, .string a3_4, .string a3_5, .string a3_6, .string a3_7, .string a3_8] 24 (0, 0)) (by (with_reducible repeat (first | refine blk_drewN ?_ _ | refine blk_drew ?_ | refine blk_alloc ?_ _)); exact BK152.out) hg (Kd.N_ne HO_10.out BK152.out (by decide))); have n2_ := Aside0.mk (hb); have n3_ := Aside0.mk (ho); clear HO_9; clear BK152; clear HB; clear HO_10; have HO_9 := n0_; have BK152 := n1_; have HB := n2_; have HO176 := n3_; clear n0_ n1_ n2_ n3_; clear ho hb hg hat) | ((with_reducible refine gate_dst (N := 82) rfl ?_); (try (refine gate_guard (by rfl) ?_; dsimp only)); refine Kd.R_lit k38 _ 38 ?hg (N := 82) ?hd (xs := ([] : List (S38))) (inner := []) (ok := fun _ => True) (okp := fun _ => True) ?hr ?hp (fun _ hk => hk) trivial (Below.refl _ _) (Nat.le_refl _) (by simp) ?_; (case hd => rfl); (case hg => rfl); (case hr => first | (go_simp; done) | (go_simp; rfl)); (case hp => exact (Reps.none _ _)); intro v178 w78 ho79 hb hg_ hnew_; clear hg_ hnew_; (first | rw [← Ny177.out] at ho79 | (simp only [Int.reduceToNat] at ho79; rw [← Ny177.out] at ho79)); have n0_ := Aside0.mk (Kd.N_elder' (by (with_reducible repeat (first | apply Kd.N_alloc | apply Kd.N_drewN | apply Kd.N_drew)); exact HO_9.out) (Kd.R_base ho79) hb); have n1_ := Aside0.mk (Kd.N_elder' (by (with_reducible repeat (first | apply Kd.N_alloc | apply Kd.N_drewN | apply Kd.N_drew)); exact HO176.out) (Kd.R_base ho79) hb); have n2_ := Aside0.mk (Kd.R_lower ho79 (below_size (by repeat (first | (with_reducible first | exact HB.out | apply below_alloc | apply pw_below_drewN | apply below_drew1 | refine below_set ?_ GE152.out) | exact HB.out)))); have n3_ := Aside0.mk (blk_below (g := gb152) (o := .cells #[.int .i64 a3_0, .string a3_1, .string a3_2, .string a3_3, .string a3_4, .string a3_5, .string a3_6, .string a3_7, .string a3_8] 24 (0, 0)) (by (with_reducible repeat (first | refine blk_drewN ?_ _ | refine blk_drew ?_ | refine blk_alloc ?_ _)); exact BK152.out) hb); have n4_ := Aside0.mk (below_step (by repeat (first | (with_reducible first | exact HB.out | apply below_alloc | apply pw_below_drewN | apply below_drew1 | refine below_set ?_ GE152.out) | exact HB.out)) hb); clear HO_9; clear HO176; clear BK152; clear HB; have HO_9 := n0_; have HO176 := n1_; have HO179 := n2_; have BK152 := n3_; have HB := n4_; clear n0_ n1_ n2_ n3_ n4_; clear hb ho79) | ((with_reducible refine gate_builtin (b := .append) (xs := #[.tmp 82, .tmp 83]) rfl ?_); (try (refine gate_guard (by rfl) ?_; dsimp only)); at_builtin; refine Kd.R_append_rows k38 (w0 := w) w.heap.size rfl (.tmp 82) (.tmp 83) 22 38 (.agg #[(.string ⟨#[]⟩), (.int .i64 0)]) 24 rfl Tryd.underlying22 info38 rfl (by decide) (by omega) v178 y177 l0 _ _ _ (fun _ => True) (fun _ => False) rfl rfl ?aO ?aR (fun _ _ h => h) (fun _ h => h.elim) ?aF ?aB ?aS ?aL ?_; (case aR => repeat (first | exact (Kd.C_below HR0.out HB.out) | (with_reducible refine Kd.C_alloc ?_ _) | (with_reducible refine Kd.C_drewN ?_ _) | (with_reducible refine Kd.C_drew ?_))); (case aB => exact (by repeat (first | (with_reducible first | exact HB.out | apply below_alloc | apply pw_below_drewN | apply below_drew1 | refine below_set ?_ GE152.out) | exact HB.out))); (case aF => exact (fun _ _ => trivial)); (case aO => exact (by (with_reducible repeat (first | apply Kd.R_alloc | apply Kd.R_drewN | apply Kd.R_drew)); exact HO179.out)); (case aS => exact (below_size (by repeat (first | (with_reducible first | exact HB.out | apply below_alloc | apply pw_below_drewN | apply below_drew1 | refine below_set ?_ GE152.out) | exact HB.out)))); (case aL => have := LMc51.out; first | omega | exact this | exact Nat.le_of_lt this); intro v181 w80 ho hb hg hat; rw [← Ny180.out] at ho; have n0_ := Aside0.mk (Kd.N_afterv (ok := (fun k_ => some k_ ≠ (v175 : Value).ownBlock ∧ k_ ≠ gb152)) (by (with_reducible repeat (first | apply Kd.N_alloc | apply Kd.N_drewN | apply Kd.N_drew)); exact Kd.N_mono HO_9.out (fun _ hk => ⟨⟨hk.1.2, hk.1.1⟩, hk.2⟩)) hg hat); have n1_ := Aside0.mk (blk_grown (g := gb152) (o := .cells #[.int .i64 a3_0, .string a3_1, .string a3_2, .string a3_3, .string a3_4, .string a3_5, .string a3_6, .string a3_7, .string a3_8] 24 (0, 0)) (by (with_reducible repeat (first | refine blk_drewN ?_ _ | refine blk_drew ?_ | refine blk_alloc ?_ _)); exact BK152.out) hg (Kd.R_ne HO179.out BK152.out (by decide))); have n2_ := Aside0.mk (Kd.N_afterv (ok := (fun k_ => some k_ ≠ (v168 : Value).ownBlock ∧ k_ ≠ gb152)) (by (with_reducible repeat (first | apply Kd.N_alloc | apply Kd.N_drewN | apply Kd.N_drew)); exact HO176.out) hg hat); have n3_ := Aside0.mk (hb); have n4_ := Aside0.mk (ho); clear HO_9; clear BK152; clear HO176; clear HB; clear HO179; have HO_9 := n0_; have BK152 := n1_; have HO176 := n2_; have HB := n3_; have HO182 := n4_; clear n0_ n1_ n2_ n3_ n4_; clear ho hb hg hat) | ((with_reducible refine gate_builtin (b := .append) (xs := #[.tmp 84, .tmp 87]) rfl ?_); (try (refine gate_guard (by rfl) ?_; dsimp only)); at_builtin; refine Kd.R_append k38 (w0 := w) w.heap.size rfl (.tmp 84) (.tmp 87) 22 38 (.agg #[(.string ⟨#[]⟩), (.int .i64 0)]) 24 rfl Tryd.underlying22 info38 rfl (by decide) (by omega) v181 y180 (⟨a1, 0⟩ : S38) [.string a1, .int .i64 0] (fun _ => True) (fun _ => False) rfl rfl ?aP (fun _ hk => hk.elim) ?aF ?aO ?aB ?aS ?aL ?_; (case aP => exact k38_mkM _ _ _ (⟨a1, 0⟩ : S38)); (case aB => exact (by repeat (first | (with_reducible first | exact HB.out | apply below_alloc | apply pw_below_drewN | apply below_drew1 | refine below_set ?_ GE152.out) | exact HB.out))); (case aF => exact (fun _ _ => trivial)); (case aO => exact (by (with_reducible repeat (first | apply Kd.R_alloc | apply Kd.R_drewN | apply Kd.R_drew)); exact HO182.out)); (case aS => exact (below_size (by repeat (first | (with_reducible first | exact HB.out | apply below_alloc | apply pw_below_drewN | apply below_drew1 | refine below_set ?_ GE152.out) | exact HB.out)))); (case aL => have := LMc52.out; first | omega | exact this | exact Nat.le_of_lt this); intro v184 w81 ho hb hg hat; rw [← Ny183.out] at ho; have n0_ := Aside0.mk (Kd.N_afterv (ok := (fun k_ => some k_ ≠ (v175 : Value).ownBlock ∧ k_ ≠ gb152)) (by (with_reducible repeat (first | apply Kd.N_alloc | apply Kd.N_drewN | apply Kd.N_drew)); exact HO_9.out) hg hat); have n1_ := Aside0.mk (blk_grown (g := gb152) (o := .cells #[.int .i64 a3_0, .string a3_1, .string a3_2, .string a3_3, .string a3_4, .string a3_5, .string a3_6, .string a3_7, .string a3_8] 24 (0, 0)) (by (with_reducible repeat (first | refine blk_drewN ?_ _ | refine blk_drew ?_ | refine blk_alloc ?_ _)); exact BK152.out) hg (Kd.R_ne HO182.out BK152.out (by decide))); have n2_ := Aside0.mk (Kd.N_afterv (ok := (fun k_ => some k_ ≠ (v168 : Value).ownBlock ∧ k_ ≠ gb152)) (by (with_reducible repeat (first | apply Kd.N_alloc | apply Kd.N_drewN | apply Kd.N_drew)); exact HO176.out) hg hat); have n3_ := Aside0.mk (hb); have n4_ := Aside0.mk (ho); clear HO_9; clear BK152; clear HO176; clear HB; clear HO182; have HO_9 := n0_; have BK152 := n1_; have HO176 := n2_; have HB := n3_; have HO185 := n4_; clear n0_ n1_ n2_ n3_ n4_; clear ho hb hg hat))
                                    have n0_ := Aside0.mk (Kd.N_drew HO_9.out)
                                    have n1_ := Aside0.mk (Kd.N_drew HO176.out)
                                    have n2_ := Aside0.mk (Kd.R_drew HO185.out)
                                    have n3_ := Aside0.mk (blk_drew BK152.out)
                                    have n4_ := Aside0.mk (below_drew1 HB.out)
                                    clear HO_9
                                    clear HO176
                                    clear HO185
                                    clear BK152
                                    clear HB
                                    have HO_9 := n0_
                                    have HO176 := n1_
                                    have HO185 := n2_
                                    have BK152 := n3_
                                    have HB := n4_
                                    clear n0_ n1_ n2_ n3_ n4_
                                    obtain ⟨Ao83, co83, eo83⟩ := Kd.R_slice HO185.out
                                    (first | subst eo83 | (injection eo83 with f1_ f2_ f3_; have f4_ := f1_.symm; have f5_ := f3_.symm; clear f1_ f2_ f3_; subst f4_; subst f5_))
                                    refine start_ (n := 5) (S := fun w' => w'.cell? ⟨gb152, 0, none⟩ = some (.int .i64 a3_0) ∧ w'.cell? ⟨gb152, 1, none⟩ = some (.string a3_1) ∧ w'.cell? ⟨gb152, 2, none⟩ = some (.string a3_2) ∧ w'.cell? ⟨gb152, 3, none⟩ = some (.string a3_3) ∧ w'.cell? ⟨gb152, 4, none⟩ = some (.string a3_4) ∧ w'.cell? ⟨gb152, 5, none⟩ = some (.string a3_5) ∧ w'.cell? ⟨gb152, 6, none⟩ = some (.string a3_6) ∧ w'.cell? ⟨gb152, 7, none⟩ = some (.string a3_7) ∧ w'.cell? ⟨gb152, 8, none⟩ = some (.string a3_8)) (ds := []) #[false, false, false, false, false] (by kernel_rfl) rfl rfl ⟨(blk_cell BK152.out 0).trans rfl, (blk_cell BK152.out 1).trans rfl, (blk_cell BK152.out 2).trans rfl, (blk_cell BK152.out 3).trans rfl, (blk_cell BK152.out 4).trans rfl, (blk_cell BK152.out 5).trans rfl, (blk_cell BK152.out 6).trans rfl, (blk_cell BK152.out 7).trans rfl, (blk_cell BK152.out 8).trans rfl⟩ (fun hHeld => ?_)
                                    generalize w81.drew = w82 at HO_9 HO176 HO185 BK152 HB hHeld ⊢
                                    refine pure_ (i := 0) (N := some 89) (v := ?_) (a' := ?_) #[true, false, false, false, false] rfl rfl (by kernel_rfl) (fun _ _ _ h => h) (Or.inl ⟨by rfl, ?_⟩) ?_ ?_
                                    rotate_left
                                    · intro w'
                                      go_simp
                                      with_reducible rfl
                                    rotate_left
                                    · simp only [Act.put, List.setIfInBounds_toArray, List.set_cons_zero, List.set_cons_succ, i64_w, i32_w]
                                      rfl
                                    refine take_ (i := 2) (N := some 91) (v := ?_) (a' := ?_) #[true, false, true, false, false] rfl rfl (by kernel_rfl) (fun _ _ _ h => h) (Or.inl ⟨by rfl, ?_⟩) hHeld ?_ ?_
                                    rotate_left
                                    · rintro w' ⟨s0, s1, s2, s3, s4, s5, s6, s7, s8⟩
                                      go_simp
                                      with_reducible rfl
                                    rotate_left
                                    · simp only [Act.put, List.setIfInBounds_toArray, List.set_cons_zero, List.set_cons_succ, i64_w, i32_w]
                                      rfl
                                    refine one_ (i := 1) (N := some 90) #[true, true, true, false, false] rfl rfl (by kernel_rfl) (by decide) (fun K hK => ?_)
                                    refine goes_ Tryd.func12 (by kernel_rfl) rfl #[.slice Ao83 y183.length co83] (by rfl) rfl rfl (by (try simp only [List.map_toArray, List.map_cons, List.map_nil]); first | done | rfl | (simp only [List.length_drop, List.length_take]; rfl)) ?_
                                    with_reducible refine (spec_LsSteps.calls k3 _ _ y183 t186 _ ?side1 ?side2 A53.out).mono ?_
                                    (case side1 => repeat (first | exact (Kd.R_reads' HO185.out).2.2 | (with_reducible refine Kd.C_alloc ?_ _) | (with_reducible refine Kd.C_drewN ?_ _) | (with_reducible refine Kd.C_drew ?_)))
                                    (case side2 => exact (Kd.R_reads' HO185.out).2.1)
                                    rintro e w84 ⟨v187, rfl, ho0, hb⟩
                                    refine ⟨_, rfl, ?_⟩
                                    have n0_ := Aside0.mk (Kd.N_elder' (by (with_reducible repeat (first | apply Kd.N_alloc | apply Kd.N_drewN | apply Kd.N_drew)); exact HO_9.out) (Kd.N_base (Kd.S_N ho0)) hb)
                                    have n1_ := Aside0.mk (Kd.N_elder' (by (with_reducible repeat (first | apply Kd.N_alloc | apply Kd.N_drewN | apply Kd.N_drew)); exact HO176.out) (Kd.N_base (Kd.S_N ho0)) hb)
                                    have n2_ := Aside0.mk (Kd.R_below (by (with_reducible repeat (first | apply Kd.R_alloc | apply Kd.R_drewN | apply Kd.R_drew)); exact HO185.out) hb)
                                    have n3_ := Aside0.mk (Kd.N_lower (Kd.N_mono (ok' := fun k_ => some k_ ≠ (v168 : Value).ownBlock ∧ some k_ ≠ (v175 : Value).ownBlock ∧ some k_ ≠ (.slice Ao83 y183.length co83 : Value).ownBlock ∧ k_ ≠ gb152) (Kd.S_N (Kd.S_bound ho0)) (fun k_ hk_ => ⟨(Kd.fresh' (Kd.N_lt (by (with_reducible repeat (first | apply Kd.N_alloc | apply Kd.N_drewN | apply Kd.N_drew)); exact HO_9.out)) k_ hk_.2.1), (Kd.fresh' (Kd.N_lt (by (with_reducible repeat (first | apply Kd.N_alloc | apply Kd.N_drewN | apply Kd.N_drew)); exact HO176.out)) k_ hk_.2.1), (Kd.fresh' (Kd.R_lt (by (with_reducible repeat (first | apply Kd.R_alloc | apply Kd.R_drewN | apply Kd.R_drew)); exact HO185.out)) k_ hk_.2.1), (Kd.freshB (g := gb152) (o := .cells #[.int .i64 a3_0, .string a3_1, .string a3_2, .string a3_3, .string a3_4, .string a3_5, .string a3_6, .string a3_7, .string a3_8] 24 (0, 0)) (by (with_reducible repeat (first | refine blk_drewN ?_ _ | refine blk_drew ?_ | refine blk_alloc ?_ _)); exact BK152.out) k_ hk_.2.1)⟩)) (below_size (by repeat (first | (with_reducible first | exact HB.out | apply below_alloc | apply pw_below_drewN | apply below_drew1 | refine below_set ?_ GE152.out) | exact HB.out))))
                                    have n4_ := Aside0.mk (blk_below (g := gb152) (o := .cells #[.int .i64 a3_0, .string a3_1, .string a3_2, .string a3_3, .string a3_4, .string a3_5, .string a3_6, .string a3_7, .string a3_8] 24 (0, 0)) (by (with_reducible repeat (first | refine blk_drewN ?_ _ | refine blk_drew ?_ | refine blk_alloc ?_ _)); exact BK152.out) hb)
                                    have n5_ := Aside0.mk (below_step (by repeat (first | (with_reducible first | exact HB.out | apply below_alloc | apply pw_below_drewN | apply below_drew1 | refine below_set ?_ GE152.out) | exact HB.out)) hb)
                                    clear HO_9
                                    clear HO176
                                    clear HO185
                                    clear BK152
                                    clear HB
                                    have HO_9 := n0_
                                    have HO176 := n1_
                                    have HO185 := n2_
                                    have HO188 := n3_
                                    have BK152 := n4_
                                    have HB := n5_
                                    clear n0_ n1_ n2_ n3_ n4_ n5_
                                    (try clear hb)
                                    (try clear hb2)
                                    (try clear hk)
                                    (try clear hi)
                                    (try clear ho0)
                                    obtain ⟨Ao85, co85, eo85⟩ := Kd.N_slice HO188.out
                                    (first | subst eo85 | (injection eo85 with f1_ f2_ f3_; have f4_ := f1_.symm; have f5_ := f3_.symm; clear f1_ f2_ f3_; subst f4_; subst f5_))
                                    refine hK.out _ _ ⟨(blk_cell BK152.out 0).trans rfl, (blk_cell BK152.out 1).trans rfl, (blk_cell BK152.out 2).trans rfl, (blk_cell BK152.out 3).trans rfl, (blk_cell BK152.out 4).trans rfl, (blk_cell BK152.out 5).trans rfl, (blk_cell BK152.out 6).trans rfl, (blk_cell BK152.out 7).trans rfl, (blk_cell BK152.out 8).trans rfl⟩ (fun hHeld => ?_)
                                    clear hK K
                                    refine norm_ (a' := ?_) ?_ ?_
                                    rotate_left
                                    · show Act.put _ (some 90) _ = _
                                      simp only [Act.put, List.setIfInBounds_toArray, List.set_cons_zero, List.set_cons_succ, i64_w, i32_w]
                                      rfl
                                    refine one_ (i := 3) (N := some 92) #[true, true, true, true, false] rfl rfl (by kernel_rfl) (by decide) (fun K hK => ?_)
                                    refine goes_ Tryd.func11 (by kernel_rfl) rfl #[.slice Ao85 t186.length co85, .agg #[.int .i64 a3_0, .string a3_1, .string a3_2, .string a3_3, .string a3_4, .string a3_5, .string a3_6, .string a3_7, .string a3_8]] (by rfl) rfl rfl (by (try simp only [List.map_toArray, List.map_cons, List.map_nil]); first | done | rfl | (simp only [List.length_drop, List.length_take]; rfl)) ?_
                                    with_reducible refine (impl_ListRender.calls _ _ t186 a3_0 a3_1 a3_2 a3_3 a3_4 a3_5 a3_6 a3_7 a3_8 t189 _ ?side1 ?side2 A54.out).mono ?_
                                    (case side1 => repeat (first | exact (Kd.N_reads' HO188.out).2.2 | (with_reducible refine Kd.C_alloc ?_ _) | (with_reducible refine Kd.C_drewN ?_ _) | (with_reducible refine Kd.C_drew ?_)))
                                    (case side2 => exact (Kd.N_reads' HO188.out).2.1)
                                    rintro e w86 ⟨rfl, hb⟩
                                    refine ⟨_, rfl, ?_⟩
                                    have n0_ := Aside0.mk (Kd.N_below (by (with_reducible repeat (first | apply Kd.N_alloc | apply Kd.N_drewN | apply Kd.N_drew)); exact HO_9.out) hb)
                                    have n1_ := Aside0.mk (Kd.N_below (by (with_reducible repeat (first | apply Kd.N_alloc | apply Kd.N_drewN | apply Kd.N_drew)); exact HO176.out) hb)
                                    have n2_ := Aside0.mk (Kd.R_below (by (with_reducible repeat (first | apply Kd.R_alloc | apply Kd.R_drewN | apply Kd.R_drew)); exact HO185.out) hb)
                                    have n3_ := Aside0.mk (Kd.N_below (by (with_reducible repeat (first | apply Kd.N_alloc | apply Kd.N_drewN | apply Kd.N_drew)); exact HO188.out) hb)
                                    have n4_ := Aside0.mk (blk_below (g := gb152) (o := .cells #[.int .i64 a3_0, .string a3_1, .string a3_2, .string a3_3, .string a3_4, .string a3_5, .string a3_6, .string a3_7, .string a3_8] 24 (0, 0)) (by (with_reducible repeat (first | refine blk_drewN ?_ _ | refine blk_drew ?_ | refine blk_alloc ?_ _)); exact BK152.out) hb)
                                    have n5_ := Aside0.mk (below_step (by repeat (first | (with_reducible first | exact HB.out | apply below_alloc | apply pw_below_drewN | apply below_drew1 | refine below_set ?_ GE152.out) | exact HB.out)) hb)
                                    clear HO_9
                                    clear HO176
                                    clear HO185
                                    clear HO188
                                    clear BK152
                                    clear HB
                                    have HO_9 := n0_
                                    have HO176 := n1_
                                    have HO185 := n2_
                                    have HO188 := n3_
                                    have BK152 := n4_
                                    have HB := n5_
                                    clear n0_ n1_ n2_ n3_ n4_ n5_
                                    (try clear hb)
                                    (try clear hb2)
                                    (try clear hk)
                                    (try clear hi)
                                    refine hK.out _ _ ⟨(blk_cell BK152.out 0).trans rfl, (blk_cell BK152.out 1).trans rfl, (blk_cell BK152.out 2).trans rfl, (blk_cell BK152.out 3).trans rfl, (blk_cell BK152.out 4).trans rfl, (blk_cell BK152.out 5).trans rfl, (blk_cell BK152.out 6).trans rfl, (blk_cell BK152.out 7).trans rfl, (blk_cell BK152.out 8).trans rfl⟩ (fun hHeld => ?_)
                                    clear hK K
                                    refine norm_ (a' := ?_) ?_ ?_
                                    rotate_left
                                    · show Act.put _ (some 92) _ = _
                                      simp only [Act.put, List.setIfInBounds_toArray, List.set_cons_zero, List.set_cons_succ, i64_w, i32_w]
                                      rfl
                                    refine pure_ (i := 4) (N := some 12) (v := ?_) (a' := ?_) #[true, true, true, true, true] rfl rfl (by kernel_rfl) (fun _ _ _ h => h) (Or.inl ⟨by rfl, ?_⟩) ?_ ?_
                                    rotate_left
                                    · intro w'
                                      go_simp
                                      with_reducible rfl
                                    rotate_left
                                    · simp only [Act.put, List.setIfInBounds_toArray, List.set_cons_zero, List.set_cons_succ, i64_w, i32_w]
                                      rfl
                                    refine done_ (by kernel_rfl) ?_
                                    have hcz87_0 : w86.cell? ⟨gb152, 0, none⟩ = some (.int .i64 a3_0) := (blk_cell BK152.out 0).trans rfl
                                    have hcz87_1 : w86.cell? ⟨gb152, 1, none⟩ = some (.string a3_1) := (blk_cell BK152.out 1).trans rfl
                                    have hcz87_2 : w86.cell? ⟨gb152, 2, none⟩ = some (.string a3_2) := (blk_cell BK152.out 2).trans rfl
                                    have hcz87_3 : w86.cell? ⟨gb152, 3, none⟩ = some (.string a3_3) := (blk_cell BK152.out 3).trans rfl
                                    have hcz87_4 : w86.cell? ⟨gb152, 4, none⟩ = some (.string a3_4) := (blk_cell BK152.out 4).trans rfl
                                    have hcz87_5 : w86.cell? ⟨gb152, 5, none⟩ = some (.string a3_5) := (blk_cell BK152.out 5).trans rfl
                                    have hcz87_6 : w86.cell? ⟨gb152, 6, none⟩ = some (.string a3_6) := (blk_cell BK152.out 6).trans rfl
                                    have hcz87_7 : w86.cell? ⟨gb152, 7, none⟩ = some (.string a3_7) := (blk_cell BK152.out 7).trans rfl
                                    have hcz87_8 : w86.cell? ⟨gb152, 8, none⟩ = some (.string a3_8) := (blk_cell BK152.out 8).trans rfl
                                    have hfz87_0 := blk_frozen BK152.out 0
                                    have hfz87_1 := blk_frozen BK152.out 1
                                    have hfz87_2 := blk_frozen BK152.out 2
                                    have hfz87_3 := blk_frozen BK152.out 3
                                    have hfz87_4 := blk_frozen BK152.out 4
                                    have hfz87_5 := blk_frozen BK152.out 5
                                    have hfz87_6 := blk_frozen BK152.out 6
                                    have hfz87_7 := blk_frozen BK152.out 7
                                    have hfz87_8 := blk_frozen BK152.out 8
                                    obtain ⟨Ao88, co88, eo88⟩ := Kd.N_slice HO_9.out
                                    subst eo88
                                    try go_wp2_with (first | ((with_reducible refine gate_callee (f := 11) rfl ?_); refine goesL_ (some 95) rfl rfl Tryd.func11 (by kernel_rfl) rfl #[.slice Ao88 y167.length co88, .agg #[.int .i64 a3_0, .string a3_1, .string a3_2, .string a3_3, .string a3_4, .string a3_5, .string a3_6, .string a3_7, .string a3_8]] rfl (by (try simp only [List.map_toArray, List.map_cons, List.map_nil]); first | done | rfl | (simp only [List.length_drop, List.length_take]; rfl)) ?_; (with_reducible refine (impl_ListRender.calls _ _ y167 a3_0 a3_1 a3_2 a3_3 a3_4 a3_5 a3_6 a3_7 a3_8 t190 _ ?side1 ?side2 A55.out).mono ?_); (case side1 => repeat (first | exact (Kd.N_reads' HO_9.out).2.2 | (with_reducible refine Kd.C_alloc ?_ _) | (with_reducible refine Kd.C_drewN ?_ _) | (with_reducible refine Kd.C_drew ?_))); (case side2 => exact (Kd.N_reads' HO_9.out).2.1); rintro e w89 ⟨rfl, hb⟩; refine ⟨_, rfl, ?_⟩; have n0_ := Aside0.mk (Kd.N_below (by (with_reducible repeat (first | apply Kd.N_alloc | apply Kd.N_drewN | apply Kd.N_drew)); exact HO_9.out) hb); have n1_ := Aside0.mk (Kd.N_below (by (with_reducible repeat (first | apply Kd.N_alloc | apply Kd.N_drewN | apply Kd.N_drew)); exact HO176.out) hb); have n2_ := Aside0.mk (Kd.R_below (by (with_reducible repeat (first | apply Kd.R_alloc | apply Kd.R_drewN | apply Kd.R_drew)); exact HO185.out) hb); have n3_ := Aside0.mk (Kd.N_below (by (with_reducible repeat (first | apply Kd.N_alloc | apply Kd.N_drewN | apply Kd.N_drew)); exact HO188.out) hb); have n4_ := Aside0.mk (blk_below (g := gb152) (o := .cells #[.int .i64 a3_0, .string a3_1, .string a3_2, .string a3_3, .string a3_4, .string a3_5, .string a3_6, .string a3_7, .string a3_8] 24 (0, 0)) (by (with_reducible repeat (first | refine blk_drewN ?_ _ | refine blk_drew ?_ | refine blk_alloc ?_ _)); exact BK152.out) hb); have n5_ := Aside0.mk (below_step (by repeat (first | (with_reducible first | exact HB.out | apply below_alloc | apply pw_below_drewN | apply below_drew1 | refine below_set ?_ GE152.out) | exact HB.out)) hb); clear HO_9; clear HO176; clear HO185; clear HO188; clear BK152; clear HB; have HO_9 := n0_; have HO176 := n1_; have HO185 := n2_; have HO188 := n3_; have BK152 := n4_; have HB := n5_; clear n0_ n1_ n2_ n3_ n4_ n5_; (try clear hb); (try clear hb2); (try clear hk); (try clear hi); have hcz90_0 : w89.cell? ⟨gb152, 0, none⟩ = some (.int .i64 a3_0) := (blk_cell BK152.out 0).trans rfl; have hcz90_1 : w89.cell? ⟨gb152, 1, none⟩ = some (.string a3_1) := (blk_cell BK152.out 1).trans rfl; have hcz90_2 : w89.cell? ⟨gb152, 2, none⟩ = some (.string a3_2) := (blk_cell BK152.out 2).trans rfl; have hcz90_3 : w89.cell? ⟨gb152, 3, none⟩ = some (.string a3_3) := (blk_cell BK152.out 3).trans rfl; have hcz90_4 : w89.cell? ⟨gb152, 4, none⟩ = some (.string a3_4) := (blk_cell BK152.out 4).trans rfl; have hcz90_5 : w89.cell? ⟨gb152, 5, none⟩ = some (.string a3_5) := (blk_cell BK152.out 5).trans rfl; have hcz90_6 : w89.cell? ⟨gb152, 6, none⟩ = some (.string a3_6) := (blk_cell BK152.out 6).trans rfl; have hcz90_7 : w89.cell? ⟨gb152, 7, none⟩ = some (.string a3_7) := (blk_cell BK152.out 7).trans rfl; have hcz90_8 : w89.cell? ⟨gb152, 8, none⟩ = some (.string a3_8) := (blk_cell BK152.out 8).trans rfl; have hfz90_0 := blk_frozen BK152.out 0; have hfz90_1 := blk_frozen BK152.out 1; have hfz90_2 := blk_frozen BK152.out 2; have hfz90_3 := blk_frozen BK152.out 3; have hfz90_4 := blk_frozen BK152.out 4; have hfz90_5 := blk_frozen BK152.out 5; have hfz90_6 := blk_frozen BK152.out 6; have hfz90_7 := blk_frozen BK152.out 7; have hfz90_8 := blk_frozen BK152.out 8; obtain ⟨Ao91, co91, eo91⟩ := Kd.N_slice HO176.out; subst eo91) | (go_at_call 11; (with_reducible refine (impl_ListRender.calls _ _ y174 a3_0 a3_1 a3_2 a3_3 a3_4 a3_5 a3_6 a3_7 a3_8 t191 _ ?side1 ?side2 A57.out).mono ?_); (case side1 => repeat (first | exact (Kd.N_reads' HO176.out).2.2 | (with_reducible refine Kd.C_alloc ?_ _) | (with_reducible refine Kd.C_drewN ?_ _) | (with_reducible refine Kd.C_drew ?_))); (case side2 => exact (Kd.N_reads' HO176.out).2.1); rintro e w92 ⟨rfl, hb⟩; have n0_ := Aside0.mk (Kd.N_below (by (with_reducible repeat (first | apply Kd.N_alloc | apply Kd.N_drewN | apply Kd.N_drew)); exact HO_9.out) hb); have n1_ := Aside0.mk (Kd.N_below (by (with_reducible repeat (first | apply Kd.N_alloc | apply Kd.N_drewN | apply Kd.N_drew)); exact HO176.out) hb); have n2_ := Aside0.mk (Kd.R_below (by (with_reducible repeat (first | apply Kd.R_alloc | apply Kd.R_drewN | apply Kd.R_drew)); exact HO185.out) hb); have n3_ := Aside0.mk (Kd.N_below (by (with_reducible repeat (first | apply Kd.N_alloc | apply Kd.N_drewN | apply Kd.N_drew)); exact HO188.out) hb); have n4_ := Aside0.mk (blk_below (g := gb152) (o := .cells #[.int .i64 a3_0, .string a3_1, .string a3_2, .string a3_3, .string a3_4, .string a3_5, .string a3_6, .string a3_7, .string a3_8] 24 (0, 0)) (by (with_reducible repeat (first | refine blk_drewN ?_ _ | refine blk_drew ?_ | refine blk_alloc ?_ _)); exact BK152.out) hb); have n5_ := Aside0.mk (below_step (by repeat (first | (with_reducible first | exact HB.out | apply below_alloc | apply pw_below_drewN | apply below_drew1 | refine below_set ?_ GE152.out) | exact HB.out)) hb); clear HO_9; clear HO176; clear HO185; clear HO188; clear BK152; clear HB; have HO_9 := n0_; have HO176 := n1_; have HO185 := n2_; have HO188 := n3_; have BK152 := n4_; have HB := n5_; clear n0_ n1_ n2_ n3_ n4_ n5_; (try clear hb); (try clear hb2); (try clear hk); (try clear hi)))
                                    go_ret
                                    exact ⟨by first | rfl | (simp [errW_none, errW_some] <;> rfl) | (simp only [← hji38]; first | rfl | (simp [errW_none, errW_some] <;> rfl)) | (simp [*, errW_none, errW_some] <;> rfl), by repeat (first | (with_reducible first | exact HB.out | apply below_alloc | apply pw_below_drewN | apply below_drew1 | refine below_set ?_ GE152.out) | exact HB.out)⟩
                                · rw [if_neg c56] at H
                                  have c56b0 : (t190.toList == t189.toList) = false := beq_eq_false_iff_ne.mpr c56
                                  have c56b1 : (t190.toList != t189.toList) = true := bne_iff_ne.mpr c56
                                  obtain rfl := Option.some.inj H
                                  try go_wp2_with (first | ((with_reducible refine gate_builtin (b := .append) (xs := #[.tmp 77, .tmp 80]) rfl ?_); (try (refine gate_guard (by rfl) ?_; dsimp only)); at_builtin; refine Kd.N_append k36 (w0 := w) w.heap.size rfl (.tmp 77) (.tmp 80) 30 36 (.agg #[(.int .i64 0), (.string ⟨#[]⟩), (.slice none 0 0)]) 48 rfl Tryd.underlying30 info36 rfl (by decide) (by omega) u10 x10_3 (⟨0, a1, ([] : List ByteArray)⟩ : S36) [.int .i64 0, .string a1, .slice none 0 0] (fun k_ => some k_ ≠ (v168 : Value).ownBlock ∧ k_ ≠ gb152) (fun k_ => ((fun k_ => some k_ ≠ (v168 : Value).ownBlock ∧ k_ ≠ gb152)) k_ ∧ some k_ ≠ (u10 : Value).ownBlock) rfl rfl ?aP (fun _ hk => hk) ?aF ?aO ?aB ?aS ?aL ?_; (case aP => exact (k36_mkF _ _ (⟨0, a1, ([] : List ByteArray)⟩ : S36) (Nat.le_refl _) (Kd.F_nil _ _ _))); (case aB => exact (by repeat (first | (with_reducible first | exact HB.out | apply below_alloc | apply pw_below_drewN | apply below_drew1 | refine below_set ?_ GE152.out) | exact HB.out))); (case aF => exact (fun k_ hk => ⟨Kd.fresh' (Kd.N_lt (by (with_reducible repeat (first | apply Kd.N_alloc | apply Kd.N_drewN | apply Kd.N_drew)); exact HO_9.out)) k_ hk, Kd.freshB (g := gb152) (o := .cells #[.int .i64 a3_0, .string a3_1, .string a3_2, .string a3_3, .string a3_4, .string a3_5, .string a3_6, .string a3_7, .string a3_8] 24 (0, 0)) (by (with_reducible repeat (first | refine blk_drewN ?_ _ | refine blk_drew ?_ | refine blk_alloc ?_ _)); exact BK152.out) k_ hk⟩)); (case aO => exact (by (with_reducible repeat (first | apply Kd.N_alloc | apply Kd.N_drewN | apply Kd.N_drew)); exact HO_10.out)); (case aS => exact (below_size (by repeat (first | (with_reducible first | exact HB.out | apply below_alloc | apply pw_below_drewN | apply below_drew1 | refine below_set ?_ GE152.out) | exact HB.out)))); (case aL => have := LMc50.out; first | omega | exact this | exact Nat.le_of_lt this); intro v175 w93 ho hb hg hat; rw [← Ny174.out] at ho; have n0_ := Aside0.mk (Kd.N_afterv (ok := (fun k_ => k_ ≠ gb152)) (by (with_reducible repeat (first | apply Kd.N_alloc | apply Kd.N_drewN | apply Kd.N_drew)); exact Kd.N_mono HO_9.out (fun _ hk => ⟨hk.2, hk.1⟩)) hg hat); have n1_ := Aside0.mk (blk_grown (g := gb152) (o := .cells #[.int .i64 a3_0, .string a3_1, .string a3_2, .string a3_3, .string a3_4, .string a3_5, .string a3_6, .string a3_7, .string a3_8] 24 (0, 0)) (by (with_reducible repeat (first | refine blk_drewN ?_ _ | refine blk_drew ?_ | refine blk_alloc ?_ _)); exact BK152.out) hg (Kd.N_ne HO_10.out BK152.out (by decide))); have n2_ := Aside0.mk (hb); have n3_ := Aside0.mk (ho); clear HO_9; clear BK152; clear HB; clear HO_10; have HO_9 := n0_; have BK152 := n1_; have HB := n2_; have HO176 := n3_; clear n0_ n1_ n2_ n3_; clear ho hb hg hat) | ((with_reducible refine gate_dst (N := 82) rfl ?_); (try (refine gate_guard (by rfl) ?_; dsimp only)); refine Kd.R_lit k38 _ 38 ?hg (N := 82) ?hd (xs := ([] : List (S38))) (inner := []) (ok := fun _ => True) (okp := fun _ => True) ?hr ?hp (fun _ hk => hk) trivial (Below.refl _ _) (Nat.le_refl _) (by simp) ?_; (case hd => rfl); (case hg => rfl); (case hr => first | (go_simp; done) | (go_simp; rfl)); (case hp => exact (Reps.none _ _)); intro v178 w94 ho95 hb hg_ hnew_; clear hg_ hnew_; (first | rw [← Ny177.out] at ho95 | (simp only [Int.reduceToNat] at ho95; rw [← Ny177.out] at ho95)); have n0_ := Aside0.mk (Kd.N_elder' (by (with_reducible repeat (first | apply Kd.N_alloc | apply Kd.N_drewN | apply Kd.N_drew)); exact HO_9.out) (Kd.R_base ho95) hb); have n1_ := Aside0.mk (Kd.N_elder' (by (with_reducible repeat (first | apply Kd.N_alloc | apply Kd.N_drewN | apply Kd.N_drew)); exact HO176.out) (Kd.R_base ho95) hb); have n2_ := Aside0.mk (Kd.R_lower ho95 (below_size (by repeat (first | (with_reducible first | exact HB.out | apply below_alloc | apply pw_below_drewN | apply below_drew1 | refine below_set ?_ GE152.out) | exact HB.out)))); have n3_ := Aside0.mk (blk_below (g := gb152) (o := .cells #[.int .i64 a3_0, .string a3_1, .string a3_2, .string a3_3, .string a3_4, .string a3_5, .string a3_6, .string a3_7, .string a3_8] 24 (0, 0)) (by (with_reducible repeat (first | refine blk_drewN ?_ _ | refine blk_drew ?_ | refine blk_alloc ?_ _)); exact BK152.out) hb); have n4_ := Aside0.mk (below_step (by repeat (first | (with_reducible first | exact HB.out | apply below_alloc | apply pw_below_drewN | apply below_drew1 | refine below_set ?_ GE152.out) | exact HB.out)) hb); clear HO_9; clear HO176; clear BK152; clear HB; have HO_9 := n0_; have HO176 := n1_; have HO179 := n2_; have BK152 := n3_; have HB := n4_; clear n0_ n1_ n2_ n3_ n4_; clear hb ho95) | ((with_reducible refine gate_builtin (b := .append) (xs := #[.tmp 82, .tmp 83]) rfl ?_); (try (refine gate_guard (by rfl) ?_; dsimp only)); at_builtin; refine Kd.R_append_rows k38 (w0 := w) w.heap.size rfl (.tmp 82) (.tmp 83) 22 38 (.agg #[(.string ⟨#[]⟩), (.int .i64 0)]) 24 rfl Tryd.underlying22 info38 rfl (by decide) (by omega) v178 y177 l0 _ _ _ (fun _ => True) (fun _ => False) rfl rfl ?aO ?aR (fun _ _ h => h) (fun _ h => h.elim) ?aF ?aB ?aS ?aL ?_; (case aR => repeat (first | exact (Kd.C_below HR0.out HB.out) | (with_reducible refine Kd.C_alloc ?_ _) | (with_reducible refine Kd.C_drewN ?_ _) | (with_reducible refine Kd.C_drew ?_))); (case aB => exact (by repeat (first | (with_reducible first | exact HB.out | apply below_alloc | apply pw_below_drewN | apply below_drew1 | refine below_set ?_ GE152.out) | exact HB.out))); (case aF => exact (fun _ _ => trivial)); (case aO => exact (by (with_reducible repeat (first | apply Kd.R_alloc | apply Kd.R_drewN | apply Kd.R_drew)); exact HO179.out)); (case aS => exact (below_size (by repeat (first | (with_reducible first | exact HB.out | apply below_alloc | apply pw_below_drewN | apply below_drew1 | refine below_set ?_ GE152.out) | exact HB.out)))); (case aL => have := LMc51.out; first | omega | exact this | exact Nat.le_of_lt this); intro v181 w96 ho hb hg hat; rw [← Ny180.out] at ho; have n0_ := Aside0.mk (Kd.N_afterv (ok := (fun k_ => some k_ ≠ (v175 : Value).ownBlock ∧ k_ ≠ gb152)) (by (with_reducible repeat (first | apply Kd.N_alloc | apply Kd.N_drewN | apply Kd.N_drew)); exact Kd.N_mono HO_9.out (fun _ hk => ⟨⟨hk.1.2, hk.1.1⟩, hk.2⟩)) hg hat); have n1_ := Aside0.mk (blk_grown (g := gb152) (o := .cells #[.int .i64 a3_0, .string a3_1, .string a3_2, .string a3_3, .string a3_4, .string a3_5, .string a3_6, .string a3_7, .string a3_8] 24 (0, 0)) (by (with_reducible repeat (first | refine blk_drewN ?_ _ | refine blk_drew ?_ | refine blk_alloc ?_ _)); exact BK152.out) hg (Kd.R_ne HO179.out BK152.out (by decide))); have n2_ := Aside0.mk (Kd.N_afterv (ok := (fun k_ => some k_ ≠ (v168 : Value).ownBlock ∧ k_ ≠ gb152)) (by (with_reducible repeat (first | apply Kd.N_alloc | apply Kd.N_drewN | apply Kd.N_drew)); exact HO176.out) hg hat); have n3_ := Aside0.mk (hb); have n4_ := Aside0.mk (ho); clear HO_9; clear BK152; clear HO176; clear HB; clear HO179; have HO_9 := n0_; have BK152 := n1_; have HO176 := n2_; have HB := n3_; have HO182 := n4_; clear n0_ n1_ n2_ n3_ n4_; clear ho hb hg hat) | ((with_reducible refine gate_builtin (b := .append) (xs := #[.tmp 84, .tmp 87]) rfl ?_); (try (refine gate_guard (by rfl) ?_; dsimp only)); at_builtin; refine Kd.R_append k38 (w0 := w) w.heap.size rfl (.tmp 84) (.tmp 87) 22 38 (.agg #[(.string ⟨#[]⟩), (.int .i64 0)]) 24 rfl Tryd.underlying22 info38 rfl (by decide) (by omega) v181 y180 (⟨a1, 0⟩ : S38) [.string a1, .int .i64 0] (fun _ => True) (fun _ => False) rfl rfl ?aP (fun _ hk => hk.elim) ?aF ?aO ?aB ?aS ?aL ?_; (case aP => exact k38_mkM _ _ _ (⟨a1, 0⟩ : S38)); (case aB => exact (by repeat (first | (with_reducible first | exact HB.out | apply below_alloc | apply pw_below_drewN | apply below_drew1 | refine below_set ?_ GE152.out) | exact HB.out))); (case aF => exact (fun _ _ => trivial)); (case aO => exact (by (with_reducible repeat (first | apply Kd.R_alloc | apply Kd.R_drewN | apply Kd.R_drew)); exact HO182.out)); (case aS => exact (below_size (by repeat (first | (with_reducible first | exact HB.out | apply below_alloc | apply pw_below_drewN | apply below_drew1 | refine below_set ?_ GE152.out) | exact HB.out)))); (case aL => have := LMc52.out; first | omega | exact this | exact Nat.le_of_lt this); intro v184 w97 ho hb hg hat; rw [← Ny183.out] at ho; have n0_ := Aside0.mk (Kd.N_afterv (ok := (fun k_ => some k_ ≠ (v175 : Value).ownBlock ∧ k_ ≠ gb152)) (by (with_reducible repeat (first | apply Kd.N_alloc | apply Kd.N_drewN | apply Kd.N_drew)); exact HO_9.out) hg hat); have n1_ := Aside0.mk (blk_grown (g := gb152) (o := .cells #[.int .i64 a3_0, .string a3_1, .string a3_2, .string a3_3, .string a3_4, .string a3_5, .string a3_6, .string a3_7, .string a3_8] 24 (0, 0)) (by (with_reducible repeat (first | refine blk_drewN ?_ _ | refine blk_drew ?_ | refine blk_alloc ?_ _)); exact BK152.out) hg (Kd.R_ne HO182.out BK152.out (by decide))); have n2_ := Aside0.mk (Kd.N_afterv (ok := (fun k_ => some k_ ≠ (v168 : Value).ownBlock ∧ k_ ≠ gb152)) (by (with_reducible repeat (first | apply Kd.N_alloc | apply Kd.N_drewN | apply Kd.N_drew)); exact HO176.out) hg hat); have n3_ := Aside0.mk (hb); have n4_ := Aside0.mk (ho); clear HO_9; clear BK152; clear HO176; clear HB; clear HO182; have HO_9 := n0_; have BK152 := n1_; have HO176 := n2_; have HB := n3_; have HO185 := n4_; clear n0_ n1_ n2_ n3_ n4_; clear ho hb hg hat))
                                  have n0_ := Aside0.mk (Kd.N_drew HO_9.out)
                                  have n1_ := Aside0.mk (Kd.N_drew HO176.out)
                                  have n2_ := Aside0.mk (Kd.R_drew HO185.out)
                                  have n3_ := Aside0.mk (blk_drew BK152.out)
                                  have n4_ := Aside0.mk (below_drew1 HB.out)
                                  clear HO_9
                                  clear HO176
                                  clear HO185
                                  clear BK152
                                  clear HB
                                  have HO_9 := n0_
                                  have HO176 := n1_
                                  have HO185 := n2_
                                  have BK152 := n3_
                                  have HB := n4_
                                  clear n0_ n1_ n2_ n3_ n4_
                                  obtain ⟨Ao99, co99, eo99⟩ := Kd.R_slice HO185.out
                                  (first | subst eo99 | (injection eo99 with f1_ f2_ f3_; have f4_ := f1_.symm; have f5_ := f3_.symm; clear f1_ f2_ f3_; subst f4_; subst f5_))
                                  refine start_ (n := 5) (S := fun w' => w'.cell? ⟨gb152, 0, none⟩ = some (.int .i64 a3_0) ∧ w'.cell? ⟨gb152, 1, none⟩ = some (.string a3_1) ∧ w'.cell? ⟨gb152, 2, none⟩ = some (.string a3_2) ∧ w'.cell? ⟨gb152, 3, none⟩ = some (.string a3_3) ∧ w'.cell? ⟨gb152, 4, none⟩ = some (.string a3_4) ∧ w'.cell? ⟨gb152, 5, none⟩ = some (.string a3_5) ∧ w'.cell? ⟨gb152, 6, none⟩ = some (.string a3_6) ∧ w'.cell? ⟨gb152, 7, none⟩ = some (.string a3_7) ∧ w'.cell? ⟨gb152, 8, none⟩ = some (.string a3_8)) (ds := []) #[false, false, false, false, false] (by kernel_rfl) rfl rfl ⟨(blk_cell BK152.out 0).trans rfl, (blk_cell BK152.out 1).trans rfl, (blk_cell BK152.out 2).trans rfl, (blk_cell BK152.out 3).trans rfl, (blk_cell BK152.out 4).trans rfl, (blk_cell BK152.out 5).trans rfl, (blk_cell BK152.out 6).trans rfl, (blk_cell BK152.out 7).trans rfl, (blk_cell BK152.out 8).trans rfl⟩ (fun hHeld => ?_)
                                  generalize w97.drew = w98 at HO_9 HO176 HO185 BK152 HB hHeld ⊢
                                  refine pure_ (i := 0) (N := some 89) (v := ?_) (a' := ?_) #[true, false, false, false, false] rfl rfl (by kernel_rfl) (fun _ _ _ h => h) (Or.inl ⟨by rfl, ?_⟩) ?_ ?_
                                  rotate_left
                                  · intro w'
                                    go_simp
                                    with_reducible rfl
                                  rotate_left
                                  · simp only [Act.put, List.setIfInBounds_toArray, List.set_cons_zero, List.set_cons_succ, i64_w, i32_w]
                                    rfl
                                  refine take_ (i := 2) (N := some 91) (v := ?_) (a' := ?_) #[true, false, true, false, false] rfl rfl (by kernel_rfl) (fun _ _ _ h => h) (Or.inl ⟨by rfl, ?_⟩) hHeld ?_ ?_
                                  rotate_left
                                  · rintro w' ⟨s0, s1, s2, s3, s4, s5, s6, s7, s8⟩
                                    go_simp
                                    with_reducible rfl
                                  rotate_left
                                  · simp only [Act.put, List.setIfInBounds_toArray, List.set_cons_zero, List.set_cons_succ, i64_w, i32_w]
                                    rfl
                                  refine one_ (i := 1) (N := some 90) #[true, true, true, false, false] rfl rfl (by kernel_rfl) (by decide) (fun K hK => ?_)
                                  refine goes_ Tryd.func12 (by kernel_rfl) rfl #[.slice Ao99 y183.length co99] (by rfl) rfl rfl (by (try simp only [List.map_toArray, List.map_cons, List.map_nil]); first | done | rfl | (simp only [List.length_drop, List.length_take]; rfl)) ?_
                                  with_reducible refine (spec_LsSteps.calls k3 _ _ y183 t186 _ ?side1 ?side2 A53.out).mono ?_
                                  (case side1 => repeat (first | exact (Kd.R_reads' HO185.out).2.2 | (with_reducible refine Kd.C_alloc ?_ _) | (with_reducible refine Kd.C_drewN ?_ _) | (with_reducible refine Kd.C_drew ?_)))
                                  (case side2 => exact (Kd.R_reads' HO185.out).2.1)
                                  rintro e w100 ⟨v187, rfl, ho0, hb⟩
                                  refine ⟨_, rfl, ?_⟩
                                  have n0_ := Aside0.mk (Kd.N_elder' (by (with_reducible repeat (first | apply Kd.N_alloc | apply Kd.N_drewN | apply Kd.N_drew)); exact HO_9.out) (Kd.N_base (Kd.S_N ho0)) hb)
                                  have n1_ := Aside0.mk (Kd.N_elder' (by (with_reducible repeat (first | apply Kd.N_alloc | apply Kd.N_drewN | apply Kd.N_drew)); exact HO176.out) (Kd.N_base (Kd.S_N ho0)) hb)
                                  have n2_ := Aside0.mk (Kd.R_below (by (with_reducible repeat (first | apply Kd.R_alloc | apply Kd.R_drewN | apply Kd.R_drew)); exact HO185.out) hb)
                                  have n3_ := Aside0.mk (Kd.N_lower (Kd.N_mono (ok' := fun k_ => some k_ ≠ (v168 : Value).ownBlock ∧ some k_ ≠ (v175 : Value).ownBlock ∧ some k_ ≠ (.slice Ao99 y183.length co99 : Value).ownBlock ∧ k_ ≠ gb152) (Kd.S_N (Kd.S_bound ho0)) (fun k_ hk_ => ⟨(Kd.fresh' (Kd.N_lt (by (with_reducible repeat (first | apply Kd.N_alloc | apply Kd.N_drewN | apply Kd.N_drew)); exact HO_9.out)) k_ hk_.2.1), (Kd.fresh' (Kd.N_lt (by (with_reducible repeat (first | apply Kd.N_alloc | apply Kd.N_drewN | apply Kd.N_drew)); exact HO176.out)) k_ hk_.2.1), (Kd.fresh' (Kd.R_lt (by (with_reducible repeat (first | apply Kd.R_alloc | apply Kd.R_drewN | apply Kd.R_drew)); exact HO185.out)) k_ hk_.2.1), (Kd.freshB (g := gb152) (o := .cells #[.int .i64 a3_0, .string a3_1, .string a3_2, .string a3_3, .string a3_4, .string a3_5, .string a3_6, .string a3_7, .string a3_8] 24 (0, 0)) (by (with_reducible repeat (first | refine blk_drewN ?_ _ | refine blk_drew ?_ | refine blk_alloc ?_ _)); exact BK152.out) k_ hk_.2.1)⟩)) (below_size (by repeat (first | (with_reducible first | exact HB.out | apply below_alloc | apply pw_below_drewN | apply below_drew1 | refine below_set ?_ GE152.out) | exact HB.out))))
                                  have n4_ := Aside0.mk (blk_below (g := gb152) (o := .cells #[.int .i64 a3_0, .string a3_1, .string a3_2, .string a3_3, .string a3_4, .string a3_5, .string a3_6, .string a3_7, .string a3_8] 24 (0, 0)) (by (with_reducible repeat (first | refine blk_drewN ?_ _ | refine blk_drew ?_ | refine blk_alloc ?_ _)); exact BK152.out) hb)
                                  have n5_ := Aside0.mk (below_step (by repeat (first | (with_reducible first | exact HB.out | apply below_alloc | apply pw_below_drewN | apply below_drew1 | refine below_set ?_ GE152.out) | exact HB.out)) hb)
                                  clear HO_9
                                  clear HO176
                                  clear HO185
                                  clear BK152
                                  clear HB
                                  have HO_9 := n0_
                                  have HO176 := n1_
                                  have HO185 := n2_
                                  have HO188 := n3_
                                  have BK152 := n4_
                                  have HB := n5_
                                  clear n0_ n1_ n2_ n3_ n4_ n5_
                                  (try clear hb)
                                  (try clear hb2)
                                  (try clear hk)
                                  (try clear hi)
                                  (try clear ho0)
                                  obtain ⟨Ao101, co101, eo101⟩ := Kd.N_slice HO188.out
                                  (first | subst eo101 | (injection eo101 with f1_ f2_ f3_; have f4_ := f1_.symm; have f5_ := f3_.symm; clear f1_ f2_ f3_; subst f4_; subst f5_))
                                  refine hK.out _ _ ⟨(blk_cell BK152.out 0).trans rfl, (blk_cell BK152.out 1).trans rfl, (blk_cell BK152.out 2).trans rfl, (blk_cell BK152.out 3).trans rfl, (blk_cell BK152.out 4).trans rfl, (blk_cell BK152.out 5).trans rfl, (blk_cell BK152.out 6).trans rfl, (blk_cell BK152.out 7).trans rfl, (blk_cell BK152.out 8).trans rfl⟩ (fun hHeld => ?_)
                                  clear hK K
                                  refine norm_ (a' := ?_) ?_ ?_
                                  rotate_left
                                  · show Act.put _ (some 90) _ = _
                                    simp only [Act.put, List.setIfInBounds_toArray, List.set_cons_zero, List.set_cons_succ, i64_w, i32_w]
                                    rfl
                                  refine one_ (i := 3) (N := some 92) #[true, true, true, true, false] rfl rfl (by kernel_rfl) (by decide) (fun K hK => ?_)
                                  refine goes_ Tryd.func11 (by kernel_rfl) rfl #[.slice Ao101 t186.length co101, .agg #[.int .i64 a3_0, .string a3_1, .string a3_2, .string a3_3, .string a3_4, .string a3_5, .string a3_6, .string a3_7, .string a3_8]] (by rfl) rfl rfl (by (try simp only [List.map_toArray, List.map_cons, List.map_nil]); first | done | rfl | (simp only [List.length_drop, List.length_take]; rfl)) ?_
                                  with_reducible refine (impl_ListRender.calls _ _ t186 a3_0 a3_1 a3_2 a3_3 a3_4 a3_5 a3_6 a3_7 a3_8 t189 _ ?side1 ?side2 A54.out).mono ?_
                                  (case side1 => repeat (first | exact (Kd.N_reads' HO188.out).2.2 | (with_reducible refine Kd.C_alloc ?_ _) | (with_reducible refine Kd.C_drewN ?_ _) | (with_reducible refine Kd.C_drew ?_)))
                                  (case side2 => exact (Kd.N_reads' HO188.out).2.1)
                                  rintro e w102 ⟨rfl, hb⟩
                                  refine ⟨_, rfl, ?_⟩
                                  have n0_ := Aside0.mk (Kd.N_below (by (with_reducible repeat (first | apply Kd.N_alloc | apply Kd.N_drewN | apply Kd.N_drew)); exact HO_9.out) hb)
                                  have n1_ := Aside0.mk (Kd.N_below (by (with_reducible repeat (first | apply Kd.N_alloc | apply Kd.N_drewN | apply Kd.N_drew)); exact HO176.out) hb)
                                  have n2_ := Aside0.mk (Kd.R_below (by (with_reducible repeat (first | apply Kd.R_alloc | apply Kd.R_drewN | apply Kd.R_drew)); exact HO185.out) hb)
                                  have n3_ := Aside0.mk (Kd.N_below (by (with_reducible repeat (first | apply Kd.N_alloc | apply Kd.N_drewN | apply Kd.N_drew)); exact HO188.out) hb)
                                  have n4_ := Aside0.mk (blk_below (g := gb152) (o := .cells #[.int .i64 a3_0, .string a3_1, .string a3_2, .string a3_3, .string a3_4, .string a3_5, .string a3_6, .string a3_7, .string a3_8] 24 (0, 0)) (by (with_reducible repeat (first | refine blk_drewN ?_ _ | refine blk_drew ?_ | refine blk_alloc ?_ _)); exact BK152.out) hb)
                                  have n5_ := Aside0.mk (below_step (by repeat (first | (with_reducible first | exact HB.out | apply below_alloc | apply pw_below_drewN | apply below_drew1 | refine below_set ?_ GE152.out) | exact HB.out)) hb)
                                  clear HO_9
                                  clear HO176
                                  clear HO185
                                  clear HO188
                                  clear BK152
                                  clear HB
                                  have HO_9 := n0_
                                  have HO176 := n1_
                                  have HO185 := n2_
                                  have HO188 := n3_
                                  have BK152 := n4_
                                  have HB := n5_
                                  clear n0_ n1_ n2_ n3_ n4_ n5_
                                  (try clear hb)
                                  (try clear hb2)
                                  (try clear hk)
                                  (try clear hi)
                                  refine hK.out _ _ ⟨(blk_cell BK152.out 0).trans rfl, (blk_cell BK152.out 1).trans rfl, (blk_cell BK152.out 2).trans rfl, (blk_cell BK152.out 3).trans rfl, (blk_cell BK152.out 4).trans rfl, (blk_cell BK152.out 5).trans rfl, (blk_cell BK152.out 6).trans rfl, (blk_cell BK152.out 7).trans rfl, (blk_cell BK152.out 8).trans rfl⟩ (fun hHeld => ?_)
                                  clear hK K
                                  refine norm_ (a' := ?_) ?_ ?_
                                  rotate_left
                                  · show Act.put _ (some 92) _ = _
                                    simp only [Act.put, List.setIfInBounds_toArray, List.set_cons_zero, List.set_cons_succ, i64_w, i32_w]
                                    rfl
                                  refine pure_ (i := 4) (N := some 12) (v := ?_) (a' := ?_) #[true, true, true, true, true] rfl rfl (by kernel_rfl) (fun _ _ _ h => h) (Or.inl ⟨by rfl, ?_⟩) ?_ ?_
                                  rotate_left
                                  · intro w'
                                    go_simp
                                    with_reducible rfl
                                  rotate_left
                                  · simp only [Act.put, List.setIfInBounds_toArray, List.set_cons_zero, List.set_cons_succ, i64_w, i32_w]
                                    rfl
                                  refine done_ (by kernel_rfl) ?_
                                  have hcz103_0 : w102.cell? ⟨gb152, 0, none⟩ = some (.int .i64 a3_0) := (blk_cell BK152.out 0).trans rfl
                                  have hcz103_1 : w102.cell? ⟨gb152, 1, none⟩ = some (.string a3_1) := (blk_cell BK152.out 1).trans rfl
                                  have hcz103_2 : w102.cell? ⟨gb152, 2, none⟩ = some (.string a3_2) := (blk_cell BK152.out 2).trans rfl
                                  have hcz103_3 : w102.cell? ⟨gb152, 3, none⟩ = some (.string a3_3) := (blk_cell BK152.out 3).trans rfl
                                  have hcz103_4 : w102.cell? ⟨gb152, 4, none⟩ = some (.string a3_4) := (blk_cell BK152.out 4).trans rfl
                                  have hcz103_5 : w102.cell? ⟨gb152, 5, none⟩ = some (.string a3_5) := (blk_cell BK152.out 5).trans rfl
                                  have hcz103_6 : w102.cell? ⟨gb152, 6, none⟩ = some (.string a3_6) := (blk_cell BK152.out 6).trans rfl
                                  have hcz103_7 : w102.cell? ⟨gb152, 7, none⟩ = some (.string a3_7) := (blk_cell BK152.out 7).trans rfl
                                  have hcz103_8 : w102.cell? ⟨gb152, 8, none⟩ = some (.string a3_8) := (blk_cell BK152.out 8).trans rfl
                                  have hfz103_0 := blk_frozen BK152.out 0
                                  have hfz103_1 := blk_frozen BK152.out 1
                                  have hfz103_2 := blk_frozen BK152.out 2
                                  have hfz103_3 := blk_frozen BK152.out 3
                                  have hfz103_4 := blk_frozen BK152.out 4
                                  have hfz103_5 := blk_frozen BK152.out 5
                                  have hfz103_6 := blk_frozen BK152.out 6
                                  have hfz103_7 := blk_frozen BK152.out 7
                                  have hfz103_8 := blk_frozen BK152.out 8
                                  obtain ⟨Ao104, co104, eo104⟩ := Kd.N_slice HO_9.out
                                  subst eo104
                                  try go_wp2_with (first | ((with_reducible refine gate_callee (f := 11) rfl ?_); refine goesL_ (some 95) rfl rfl Tryd.func11 (by kernel_rfl) rfl #[.slice Ao104 y167.length co104, .agg #[.int .i64 a3_0, .string a3_1, .string a3_2, .string a3_3, .string a3_4, .string a3_5, .string a3_6, .string a3_7, .string a3_8]] rfl (by (try simp only [List.map_toArray, List.map_cons, List.map_nil]); first | done | rfl | (simp only [List.length_drop, List.length_take]; rfl)) ?_; (with_reducible refine (impl_ListRender.calls _ _ y167 a3_0 a3_1 a3_2 a3_3 a3_4 a3_5 a3_6 a3_7 a3_8 t190 _ ?side1 ?side2 A55.out).mono ?_); (case side1 => repeat (first | exact (Kd.N_reads' HO_9.out).2.2 | (with_reducible refine Kd.C_alloc ?_ _) | (with_reducible refine Kd.C_drewN ?_ _) | (with_reducible refine Kd.C_drew ?_))); (case side2 => exact (Kd.N_reads' HO_9.out).2.1); rintro e w105 ⟨rfl, hb⟩; refine ⟨_, rfl, ?_⟩; have n0_ := Aside0.mk (Kd.N_below (by (with_reducible repeat (first | apply Kd.N_alloc | apply Kd.N_drewN | apply Kd.N_drew)); exact HO_9.out) hb); have n1_ := Aside0.mk (Kd.N_below (by (with_reducible repeat (first | apply Kd.N_alloc | apply Kd.N_drewN | apply Kd.N_drew)); exact HO176.out) hb); have n2_ := Aside0.mk (Kd.R_below (by (with_reducible repeat (first | apply Kd.R_alloc | apply Kd.R_drewN | apply Kd.R_drew)); exact HO185.out) hb); have n3_ := Aside0.mk (Kd.N_below (by (with_reducible repeat (first | apply Kd.N_alloc | apply Kd.N_drewN | apply Kd.N_drew)); exact HO188.out) hb); have n4_ := Aside0.mk (blk_below (g := gb152) (o := .cells #[.int .i64 a3_0, .string a3_1, .string a3_2, .string a3_3, .string a3_4, .string a3_5, .string a3_6, .string a3_7, .string a3_8] 24 (0, 0)) (by (with_reducible repeat (first | refine blk_drewN ?_ _ | refine blk_drew ?_ | refine blk_alloc ?_ _)); exact BK152.out) hb); have n5_ := Aside0.mk (below_step (by repeat (first | (with_reducible first | exact HB.out | apply below_alloc | apply pw_below_drewN | apply below_drew1 | refine below_set ?_ GE152.out) | exact HB.out)) hb); clear HO_9; clear HO176; clear HO185; clear HO188; clear BK152; clear HB; have HO_9 := n0_; have HO176 := n1_; have HO185 := n2_; have HO188 := n3_; have BK152 := n4_; have HB := n5_; clear n0_ n1_ n2_ n3_ n4_ n5_; (try clear hb); (try clear hb2); (try clear hk); (try clear hi)))
                                  go_ret
                                  exact ⟨by first | rfl | (simp [errW_none, errW_some] <;> rfl) | (simp only [← hji38]; first | rfl | (simp [errW_none, errW_some] <;> rfl)) | (simp [*, errW_none, errW_some] <;> rfl), by repeat (first | (with_reducible first | exact HB.out | apply below_alloc | apply pw_below_drewN | apply below_drew1 | refine below_set ?_ GE152.out) | exact HB.out)⟩
                              · rw [if_neg c52] at H
                                exact absurd H (by simp)
                            · rw [if_neg c51] at H
                              exact absurd H (by simp)
                          · rw [if_neg c50] at H
                            exact absurd H (by simp)
                  · rw [if_neg c40] at H
                    exact absurd H (by simp)
                · rw [if_neg c39] at H
                  exact absurd H (by simp)
              · rw [if_neg c37] at H
                exact absurd H (by simp)

end
end Go.Proofs.YthjkmjimlhpbfaaDoor.GFnListUnIndentAll
