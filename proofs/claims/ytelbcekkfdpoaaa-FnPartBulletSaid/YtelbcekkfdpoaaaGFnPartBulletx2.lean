-- Written by gprint.py, a program of this session over the kit's printer, with contracts of its own for what the printer does not take. Not trusted: Lean checks it.
import Derived.Test.YtelbcekkfdpoaaaGFnPartBulletx0
import Derived.Test.YtelbcekkfdpoaaaGFnPartBulletx1
namespace Go.Proofs.Ytelbcekkfdpoaaa.GFnPartBullet
open Go.RowKit Go.Proofs.Ytelbcekkfdpoaaa.Itr Go.Proofs.YtelbcekkfdpoaaaW.PrintWords Go.Proofs.YtelbcekkfdpoaaaW.PrintLast Go.Proofs.YtelbcekkfdpoaaaW.PrintMore
attribute [local go_sem] max2_int min2_int max_two min_two max_three min_three max_four min_four   -- for this text's walks alone
set_option linter.unusedVariables false
set_option linter.unusedSimpArgs false

/-! ### laws_FnPartBullet: function 6 -/
mutual
def laws_FnPartBullet.j0 : Nat → Int → Bool → Bool → Bool → Bool → Bool → Bool → Int → ByteArray → ByteArray → ByteArray → ByteArray → ByteArray → ByteArray → ByteArray → ByteArray → Option (Bool)
  | 0, _, _, _, _, _, _, _, _, _, _, _, _, _, _, _, _ => none
  | k + 1, x0, x1, x2, x3, x4, x5, x32, x128000, x128001, x128002, x128003, x128004, x128005, x128006, x128007, x128008 => if x32 = true then (some true) else (if x0 > 0 then (laws_FnPartBullet.j1 k x0 x1 x2 x3 x4 x5 x128005 x4 x128000 x128001 x128002 x128003 x128004 x128005 x128006 x128007 x128008) else (laws_FnPartBullet.j1 k x0 x1 x2 x3 x4 x5 x128005 false x128000 x128001 x128002 x128003 x128004 x128005 x128006 x128007 x128008))
def laws_FnPartBullet.j1 : Nat → Int → Bool → Bool → Bool → Bool → Bool → ByteArray → Bool → Int → ByteArray → ByteArray → ByteArray → ByteArray → ByteArray → ByteArray → ByteArray → ByteArray → Option (Bool)
  | 0, _, _, _, _, _, _, _, _, _, _, _, _, _, _, _, _, _ => none
  | k + 1, x0, x1, x2, x3, x4, x5, x15, x39, x128000, x128001, x128002, x128003, x128004, x128005, x128006, x128007, x128008 => if x39 = true then ((spec_Times.f k (⟨#[32]⟩ : ByteArray) (x128005.size : Int)).bind fun t130 => (laws_FnPartBullet.j2 k x0 x1 x2 x3 x4 x5 t130 x128000 x128001 x128002 x128003 x128004 x128005 x128006 x128007 x128008)) else (laws_FnPartBullet.j2 k x0 x1 x2 x3 x4 x5 x15 x128000 x128001 x128002 x128003 x128004 x128005 x128006 x128007 x128008)
def laws_FnPartBullet.j2 : Nat → Int → Bool → Bool → Bool → Bool → Bool → ByteArray → Int → ByteArray → ByteArray → ByteArray → ByteArray → ByteArray → ByteArray → ByteArray → ByteArray → Option (Bool)
  | 0, _, _, _, _, _, _, _, _, _, _, _, _, _, _, _, _ => none
  | k + 1, x0, x1, x2, x3, x4, x5, x15, x128000, x128001, x128002, x128003, x128004, x128005, x128006, x128007, x128008 => if x0 = 0 then (if x3 = true then (laws_FnPartBullet.j3 k x0 x1 x2 x3 x4 x5 x1 x128000 x128001 x128002 x128003 x128004 x128005 x128006 x128007 x128008) else (laws_FnPartBullet.j3 k x0 x1 x2 x3 x4 x5 false x128000 x128001 x128002 x128003 x128004 x128005 x128006 x128007 x128008)) else ((impl_ListBullet.f x0 x1 x2 x3 x4 x5 x128000 x128001 x128002 x128003 x128004 x128005 x128006 x128007 x128008).bind fun t138 => (some (t138.toList == x15.toList)))
def laws_FnPartBullet.j3 : Nat → Int → Bool → Bool → Bool → Bool → Bool → Bool → Int → ByteArray → ByteArray → ByteArray → ByteArray → ByteArray → ByteArray → ByteArray → ByteArray → Option (Bool)
  | 0, _, _, _, _, _, _, _, _, _, _, _, _, _, _, _, _ => none
  | k + 1, x0, x1, x2, x3, x4, x5, x48, x128000, x128001, x128002, x128003, x128004, x128005, x128006, x128007, x128008 => if x48 = true then (if x128001.size + 1 ≤ 9223372036854775807 then ((impl_ListBullet.f x0 x1 x2 x3 x4 x5 x128000 x128001 x128002 x128003 x128004 x128005 x128006 x128007 x128008).bind fun t131 => (some (t131.toList == (x128001 ++ (⟨#[32]⟩ : ByteArray)).toList))) else (none)) else (if x3 = true then (if x128006.size + 1 ≤ 9223372036854775807 then ((impl_ListBullet.f x0 x1 x2 x3 x4 x5 x128000 x128001 x128002 x128003 x128004 x128005 x128006 x128007 x128008).bind fun t132 => (some (t132.toList == (x128006 ++ (⟨#[32]⟩ : ByteArray)).toList))) else (none)) else (if x1 = true then (if x128002.size + 1 ≤ 9223372036854775807 then ((impl_ListBullet.f x0 x1 x2 x3 x4 x5 x128000 x128001 x128002 x128003 x128004 x128005 x128006 x128007 x128008).bind fun t133 => (some (t133.toList == (x128002 ++ (⟨#[32]⟩ : ByteArray)).toList))) else (none)) else (if x2 = true then (if x128003.size + 1 ≤ 9223372036854775807 then ((impl_ListBullet.f x0 x1 x2 x3 x4 x5 x128000 x128001 x128002 x128003 x128004 x128005 x128006 x128007 x128008).bind fun t134 => (some (t134.toList == (x128003 ++ (⟨#[32]⟩ : ByteArray)).toList))) else (none)) else (if x5 = true then (if x128006.size + 1 ≤ 9223372036854775807 then ((impl_ListBullet.f x0 x1 x2 x3 x4 x5 x128000 x128001 x128002 x128003 x128004 x128005 x128006 x128007 x128008).bind fun t135 => (some (t135.toList == (x128006 ++ (⟨#[32]⟩ : ByteArray)).toList))) else (none)) else (if x4 = true then (if x128006.size + 1 ≤ 9223372036854775807 then ((impl_ListBullet.f x0 x1 x2 x3 x4 x5 x128000 x128001 x128002 x128003 x128004 x128005 x128006 x128007 x128008).bind fun t136 => (some (t136.toList == (x128006 ++ (⟨#[32]⟩ : ByteArray)).toList))) else (none)) else (if x128004.size + 1 ≤ 9223372036854775807 then ((impl_ListBullet.f x0 x1 x2 x3 x4 x5 x128000 x128001 x128002 x128003 x128004 x128005 x128006 x128007 x128008).bind fun t137 => (some (t137.toList == (x128004 ++ (⟨#[32]⟩ : ByteArray)).toList))) else (none)))))))
end
def laws_FnPartBullet.f (k : Nat) (a0 : Int) (a1 : Bool) (a2 : Bool) (a3 : Bool) (a4 : Bool) (a5 : Bool) (a6_0 : Int) (a6_1 : ByteArray) (a6_2 : ByteArray) (a6_3 : ByteArray) (a6_4 : ByteArray) (a6_5 : ByteArray) (a6_6 : ByteArray) (a6_7 : ByteArray) (a6_8 : ByteArray) : Option (Bool) := (laws_zzFits3.f a6_0 a6_1 a6_2 a6_3 a6_4 a6_5 a6_6 a6_7 a6_8).bind fun t128 => (if t128 = true then (if a0 < 0 then (laws_FnPartBullet.j0 k a0 a1 a2 a3 a4 a5 true a6_0 a6_1 a6_2 a6_3 a6_4 a6_5 a6_6 a6_7 a6_8) else ((spec_Single.f k a6_5).bind fun t129 => (if t129 = true then (laws_FnPartBullet.j0 k a0 a1 a2 a3 a4 a5 (decide ((a6_5.size : Int) > 60)) a6_0 a6_1 a6_2 a6_3 a6_4 a6_5 a6_6 a6_7 a6_8) else (laws_FnPartBullet.j0 k a0 a1 a2 a3 a4 a5 true a6_0 a6_1 a6_2 a6_3 a6_4 a6_5 a6_6 a6_7 a6_8)))) else (some true))
theorem laws_FnPartBullet.mono_l : ∀ k, (∀ y0 y1 y2 y3 y4 y5 y6 y7 y8 y9 y10 y11 y12 y13 y14 y15, LeO (laws_FnPartBullet.j0 k y0 y1 y2 y3 y4 y5 y6 y7 y8 y9 y10 y11 y12 y13 y14 y15) (laws_FnPartBullet.j0 (k + 1) y0 y1 y2 y3 y4 y5 y6 y7 y8 y9 y10 y11 y12 y13 y14 y15)) ∧ (∀ y0 y1 y2 y3 y4 y5 y6 y7 y8 y9 y10 y11 y12 y13 y14 y15 y16, LeO (laws_FnPartBullet.j1 k y0 y1 y2 y3 y4 y5 y6 y7 y8 y9 y10 y11 y12 y13 y14 y15 y16) (laws_FnPartBullet.j1 (k + 1) y0 y1 y2 y3 y4 y5 y6 y7 y8 y9 y10 y11 y12 y13 y14 y15 y16)) ∧ (∀ y0 y1 y2 y3 y4 y5 y6 y7 y8 y9 y10 y11 y12 y13 y14 y15, LeO (laws_FnPartBullet.j2 k y0 y1 y2 y3 y4 y5 y6 y7 y8 y9 y10 y11 y12 y13 y14 y15) (laws_FnPartBullet.j2 (k + 1) y0 y1 y2 y3 y4 y5 y6 y7 y8 y9 y10 y11 y12 y13 y14 y15)) ∧ (∀ y0 y1 y2 y3 y4 y5 y6 y7 y8 y9 y10 y11 y12 y13 y14 y15, LeO (laws_FnPartBullet.j3 k y0 y1 y2 y3 y4 y5 y6 y7 y8 y9 y10 y11 y12 y13 y14 y15) (laws_FnPartBullet.j3 (k + 1) y0 y1 y2 y3 y4 y5 y6 y7 y8 y9 y10 y11 y12 y13 y14 y15))
  | 0 => ⟨fun _ _ _ _ _ _ _ _ _ _ _ _ _ _ _ _ r h => by simp [laws_FnPartBullet.j0] at h, fun _ _ _ _ _ _ _ _ _ _ _ _ _ _ _ _ _ r h => by simp [laws_FnPartBullet.j1] at h, fun _ _ _ _ _ _ _ _ _ _ _ _ _ _ _ _ r h => by simp [laws_FnPartBullet.j2] at h, fun _ _ _ _ _ _ _ _ _ _ _ _ _ _ _ _ r h => by simp [laws_FnPartBullet.j3] at h⟩
  | k + 1 => by
    obtain ⟨ih0, ih1, ih2, ih3⟩ := laws_FnPartBullet.mono_l k
    refine ⟨?_, ?_, ?_, ?_⟩
    · intro y0 y1 y2 y3 y4 y5 y6 y7 y8 y9 y10 y11 y12 y13 y14 y15
      unfold laws_FnPartBullet.j0
      repeat' first
      | (with_reducible exact ih0 _ _ _ _ _ _ _ _ _ _ _ _ _ _ _ _)
      | (with_reducible exact ih1 _ _ _ _ _ _ _ _ _ _ _ _ _ _ _ _ _)
      | (with_reducible exact ih2 _ _ _ _ _ _ _ _ _ _ _ _ _ _ _ _)
      | (with_reducible exact ih3 _ _ _ _ _ _ _ _ _ _ _ _ _ _ _ _)
      | (with_reducible exact spec_Single.mono _ _)
      | (with_reducible exact spec_Times.mono _ _ _)
      | (with_reducible exact LeO.refl _)
      | (with_reducible exact LeO.none _)
      | (with_reducible refine LeO.ite ?_ ?_)
      | (with_reducible refine LeO.bind ?_ (fun _ => ?_))
      | exact ih0 _ _ _ _ _ _ _ _ _ _ _ _ _ _ _ _
      | exact ih1 _ _ _ _ _ _ _ _ _ _ _ _ _ _ _ _ _
      | exact ih2 _ _ _ _ _ _ _ _ _ _ _ _ _ _ _ _
      | exact ih3 _ _ _ _ _ _ _ _ _ _ _ _ _ _ _ _
      | exact spec_Single.mono _ _
      | exact spec_Times.mono _ _ _
      | exact LeO.none _
      | refine LeO.ite ?_ ?_
      | refine LeO.bind ?_ (fun _ => ?_)
    · intro y0 y1 y2 y3 y4 y5 y6 y7 y8 y9 y10 y11 y12 y13 y14 y15 y16
      unfold laws_FnPartBullet.j1
      repeat' first
      | (with_reducible exact ih0 _ _ _ _ _ _ _ _ _ _ _ _ _ _ _ _)
      | (with_reducible exact ih1 _ _ _ _ _ _ _ _ _ _ _ _ _ _ _ _ _)
      | (with_reducible exact ih2 _ _ _ _ _ _ _ _ _ _ _ _ _ _ _ _)
      | (with_reducible exact ih3 _ _ _ _ _ _ _ _ _ _ _ _ _ _ _ _)
      | (with_reducible exact spec_Single.mono _ _)
      | (with_reducible exact spec_Times.mono _ _ _)
      | (with_reducible exact LeO.refl _)
      | (with_reducible exact LeO.none _)
      | (with_reducible refine LeO.ite ?_ ?_)
      | (with_reducible refine LeO.bind ?_ (fun _ => ?_))
      | exact ih0 _ _ _ _ _ _ _ _ _ _ _ _ _ _ _ _
      | exact ih1 _ _ _ _ _ _ _ _ _ _ _ _ _ _ _ _ _
      | exact ih2 _ _ _ _ _ _ _ _ _ _ _ _ _ _ _ _
      | exact ih3 _ _ _ _ _ _ _ _ _ _ _ _ _ _ _ _
      | exact spec_Single.mono _ _
      | exact spec_Times.mono _ _ _
      | exact LeO.none _
      | refine LeO.ite ?_ ?_
      | refine LeO.bind ?_ (fun _ => ?_)
    · intro y0 y1 y2 y3 y4 y5 y6 y7 y8 y9 y10 y11 y12 y13 y14 y15
      unfold laws_FnPartBullet.j2
      repeat' first
      | (with_reducible exact ih0 _ _ _ _ _ _ _ _ _ _ _ _ _ _ _ _)
      | (with_reducible exact ih1 _ _ _ _ _ _ _ _ _ _ _ _ _ _ _ _ _)
      | (with_reducible exact ih2 _ _ _ _ _ _ _ _ _ _ _ _ _ _ _ _)
      | (with_reducible exact ih3 _ _ _ _ _ _ _ _ _ _ _ _ _ _ _ _)
      | (with_reducible exact spec_Single.mono _ _)
      | (with_reducible exact spec_Times.mono _ _ _)
      | (with_reducible exact LeO.refl _)
      | (with_reducible exact LeO.none _)
      | (with_reducible refine LeO.ite ?_ ?_)
      | (with_reducible refine LeO.bind ?_ (fun _ => ?_))
      | exact ih0 _ _ _ _ _ _ _ _ _ _ _ _ _ _ _ _
      | exact ih1 _ _ _ _ _ _ _ _ _ _ _ _ _ _ _ _ _
      | exact ih2 _ _ _ _ _ _ _ _ _ _ _ _ _ _ _ _
      | exact ih3 _ _ _ _ _ _ _ _ _ _ _ _ _ _ _ _
      | exact spec_Single.mono _ _
      | exact spec_Times.mono _ _ _
      | exact LeO.none _
      | refine LeO.ite ?_ ?_
      | refine LeO.bind ?_ (fun _ => ?_)
    · intro y0 y1 y2 y3 y4 y5 y6 y7 y8 y9 y10 y11 y12 y13 y14 y15
      unfold laws_FnPartBullet.j3
      repeat' first
      | (with_reducible exact ih0 _ _ _ _ _ _ _ _ _ _ _ _ _ _ _ _)
      | (with_reducible exact ih1 _ _ _ _ _ _ _ _ _ _ _ _ _ _ _ _ _)
      | (with_reducible exact ih2 _ _ _ _ _ _ _ _ _ _ _ _ _ _ _ _)
      | (with_reducible exact ih3 _ _ _ _ _ _ _ _ _ _ _ _ _ _ _ _)
      | (with_reducible exact spec_Single.mono _ _)
      | (with_reducible exact spec_Times.mono _ _ _)
      | (with_reducible exact LeO.refl _)
      | (with_reducible exact LeO.none _)
      | (with_reducible refine LeO.ite ?_ ?_)
      | (with_reducible refine LeO.bind ?_ (fun _ => ?_))
      | exact ih0 _ _ _ _ _ _ _ _ _ _ _ _ _ _ _ _
      | exact ih1 _ _ _ _ _ _ _ _ _ _ _ _ _ _ _ _ _
      | exact ih2 _ _ _ _ _ _ _ _ _ _ _ _ _ _ _ _
      | exact ih3 _ _ _ _ _ _ _ _ _ _ _ _ _ _ _ _
      | exact spec_Single.mono _ _
      | exact spec_Times.mono _ _ _
      | exact LeO.none _
      | refine LeO.ite ?_ ?_
      | refine LeO.bind ?_ (fun _ => ?_)
theorem laws_FnPartBullet.mono : ∀ a0 a1 a2 a3 a4 a5 a6 a7 a8 a9 a10 a11 a12 a13 a14 k, LeO (laws_FnPartBullet.f k a0 a1 a2 a3 a4 a5 a6 a7 a8 a9 a10 a11 a12 a13 a14) (laws_FnPartBullet.f (k + 1) a0 a1 a2 a3 a4 a5 a6 a7 a8 a9 a10 a11 a12 a13 a14) := by
  intro a0 a1 a2 a3 a4 a5 a6 a7 a8 a9 a10 a11 a12 a13 a14 k
  obtain ⟨ih0, ih1, ih2, ih3⟩ := laws_FnPartBullet.mono_l k
  unfold laws_FnPartBullet.f
  repeat' first
      | (with_reducible exact ih0 _ _ _ _ _ _ _ _ _ _ _ _ _ _ _ _)
      | (with_reducible exact ih1 _ _ _ _ _ _ _ _ _ _ _ _ _ _ _ _ _)
      | (with_reducible exact ih2 _ _ _ _ _ _ _ _ _ _ _ _ _ _ _ _)
      | (with_reducible exact ih3 _ _ _ _ _ _ _ _ _ _ _ _ _ _ _ _)
      | (with_reducible exact spec_Single.mono _ _)
      | (with_reducible exact spec_Times.mono _ _ _)
      | (with_reducible exact LeO.refl _)
      | (with_reducible exact LeO.none _)
      | (with_reducible refine LeO.ite ?_ ?_)
      | (with_reducible refine LeO.bind ?_ (fun _ => ?_))
      | exact ih0 _ _ _ _ _ _ _ _ _ _ _ _ _ _ _ _
      | exact ih1 _ _ _ _ _ _ _ _ _ _ _ _ _ _ _ _ _
      | exact ih2 _ _ _ _ _ _ _ _ _ _ _ _ _ _ _ _
      | exact ih3 _ _ _ _ _ _ _ _ _ _ _ _ _ _ _ _
      | exact spec_Single.mono _ _
      | exact spec_Times.mono _ _ _
      | exact LeO.none _
      | refine LeO.ite ?_ ?_
      | refine LeO.bind ?_ (fun _ => ?_)
set_option maxHeartbeats 8000000 in
set_option maxRecDepth 100000 in
theorem laws_FnPartBullet.calls (k : Nat) (a0 : Int) (a1 : Bool) (a2 : Bool) (a3 : Bool) (a4 : Bool) (a5 : Bool) (a6_0 : Int) (a6_1 : ByteArray) (a6_2 : ByteArray) (a6_3 : ByteArray) (a6_4 : ByteArray) (a6_5 : ByteArray) (a6_6 : ByteArray) (a6_7 : ByteArray) (a6_8 : ByteArray) (r : Bool) (w : World) (h : laws_FnPartBullet.f k a0 a1 a2 a3 a4 a5 a6_0 a6_1 a6_2 a6_3 a6_4 a6_5 a6_6 a6_7 a6_8 = some r) :
    Calls Try.prog 6 #[.int .i64 a0, .bool a1, .bool a2, .bool a3, .bool a4, .bool a5, .agg #[.int .i64 a6_0, .string a6_1, .string a6_2, .string a6_3, .string a6_4, .string a6_5, .string a6_6, .string a6_7, .string a6_8]] w fun e w' => e = .returned (.bool r) ∧ Below w.heap.size w w' := by
  have hu39 := Try.underlying39
  have HB := Aside0.mk (Below.refl w.heap.size w)
  have H : ((laws_zzFits3.f a6_0 a6_1 a6_2 a6_3 a6_4 a6_5 a6_6 a6_7 a6_8).bind fun t128 => (if t128 = true then (if a0 < 0 then (laws_FnPartBullet.j0 k a0 a1 a2 a3 a4 a5 true a6_0 a6_1 a6_2 a6_3 a6_4 a6_5 a6_6 a6_7 a6_8) else ((spec_Single.f k a6_5).bind fun t129 => (if t129 = true then (laws_FnPartBullet.j0 k a0 a1 a2 a3 a4 a5 (decide ((a6_5.size : Int) > 60)) a6_0 a6_1 a6_2 a6_3 a6_4 a6_5 a6_6 a6_7 a6_8) else (laws_FnPartBullet.j0 k a0 a1 a2 a3 a4 a5 true a6_0 a6_1 a6_2 a6_3 a6_4 a6_5 a6_6 a6_7 a6_8)))) else (some true))) = some r := h
  clear h
  replace H := Option.bind_eq_some_iff.mp H
  obtain ⟨t128, A80, H⟩ := H
  replace H : (if t128 = true then (if a0 < 0 then (laws_FnPartBullet.j0 k a0 a1 a2 a3 a4 a5 true a6_0 a6_1 a6_2 a6_3 a6_4 a6_5 a6_6 a6_7 a6_8) else ((spec_Single.f k a6_5).bind fun t129 => (if t129 = true then (laws_FnPartBullet.j0 k a0 a1 a2 a3 a4 a5 (decide ((a6_5.size : Int) > 60)) a6_0 a6_1 a6_2 a6_3 a6_4 a6_5 a6_6 a6_7 a6_8) else (laws_FnPartBullet.j0 k a0 a1 a2 a3 a4 a5 true a6_0 a6_1 a6_2 a6_3 a6_4 a6_5 a6_6 a6_7 a6_8)))) else (some true)) = some r := H
  have A8 := Aside0.mk A80
  clear A80
  by_cases c9 : t128 = true
  · subst c9
    have H1 : (if a0 < 0 then (laws_FnPartBullet.j0 k a0 a1 a2 a3 a4 a5 true a6_0 a6_1 a6_2 a6_3 a6_4 a6_5 a6_6 a6_7 a6_8) else ((spec_Single.f k a6_5).bind fun t129 => (if t129 = true then (laws_FnPartBullet.j0 k a0 a1 a2 a3 a4 a5 (decide ((a6_5.size : Int) > 60)) a6_0 a6_1 a6_2 a6_3 a6_4 a6_5 a6_6 a6_7 a6_8) else (laws_FnPartBullet.j0 k a0 a1 a2 a3 a4 a5 true a6_0 a6_1 a6_2 a6_3 a6_4 a6_5 a6_6 a6_7 a6_8)))) = some r := by rw [if_pos rfl] at H; exact H
    clear H
    have H := H1
    clear H1
    have HC10 := Aside0.mk H
    clear H
    go_enter Try.func6, Try.ntmps6
    go_upto_region 3 with (first | ((with_reducible refine gate_dst (N := 13) rfl ?_); (try (refine gate_guard (by rfl) ?_; dsimp only)); refine box_event ?hg (N := 13) ?hd (cs := #[.int .i64 a6_0, .string a6_1, .string a6_2, .string a6_3, .string a6_4, .string a6_5, .string a6_6, .string a6_7, .string a6_8]) (t := 39) ?hr ?_; (case hd => rfl); (case hg => rfl); (case hr => first | (go_simp; done) | (go_simp; rfl)); intro gb127 hg w11 hbox hb; have n0_ := Aside0.mk (below_step (by repeat (first | (with_reducible first | exact HB.out | apply below_alloc | apply pw_below_drewN | apply below_drew1) | exact HB.out)) hb); have n1_ := Aside0.mk (hbox); have n2_ := Aside0.mk ((by rw [hg]; exact (below_size (by repeat (first | (with_reducible first | exact HB.out | apply below_alloc | apply pw_below_drewN | apply below_drew1) | exact HB.out))) : w.heap.size ≤ gb127)); have n3_ := Aside0.mk ((by rw [hg]; exact (below_size (by repeat (first | (with_reducible first | exact HB.out | apply below_alloc | apply pw_below_drewN | apply below_drew1) | exact HB.out))) : w.heap.size ≤ gb127)); clear HB; have HB := n0_; have BK127 := n1_; have GW127 := n2_; have GE127 := n3_; clear n0_ n1_ n2_ n3_; clear hb hbox hg; have hcz12_0 : w11.cell? ⟨gb127, 0, none⟩ = some (.int .i64 a6_0) := (blk_cell BK127.out 0).trans rfl; have hcz12_1 : w11.cell? ⟨gb127, 1, none⟩ = some (.string a6_1) := (blk_cell BK127.out 1).trans rfl; have hcz12_2 : w11.cell? ⟨gb127, 2, none⟩ = some (.string a6_2) := (blk_cell BK127.out 2).trans rfl; have hcz12_3 : w11.cell? ⟨gb127, 3, none⟩ = some (.string a6_3) := (blk_cell BK127.out 3).trans rfl; have hcz12_4 : w11.cell? ⟨gb127, 4, none⟩ = some (.string a6_4) := (blk_cell BK127.out 4).trans rfl; have hcz12_5 : w11.cell? ⟨gb127, 5, none⟩ = some (.string a6_5) := (blk_cell BK127.out 5).trans rfl; have hcz12_6 : w11.cell? ⟨gb127, 6, none⟩ = some (.string a6_6) := (blk_cell BK127.out 6).trans rfl; have hcz12_7 : w11.cell? ⟨gb127, 7, none⟩ = some (.string a6_7) := (blk_cell BK127.out 7).trans rfl; have hcz12_8 : w11.cell? ⟨gb127, 8, none⟩ = some (.string a6_8) := (blk_cell BK127.out 8).trans rfl; have hfz12_0 := blk_frozen BK127.out 0; have hfz12_1 := blk_frozen BK127.out 1; have hfz12_2 := blk_frozen BK127.out 2; have hfz12_3 := blk_frozen BK127.out 3; have hfz12_4 := blk_frozen BK127.out 4; have hfz12_5 := blk_frozen BK127.out 5; have hfz12_6 := blk_frozen BK127.out 6; have hfz12_7 := blk_frozen BK127.out 7; have hfz12_8 := blk_frozen BK127.out 8) | ((with_reducible refine gate_callee (f := 17) rfl ?_); refine goesL_ (some 17) rfl rfl Try.func17 (by kernel_rfl) rfl #[.agg #[.int .i64 a6_0, .string a6_1, .string a6_2, .string a6_3, .string a6_4, .string a6_5, .string a6_6, .string a6_7, .string a6_8]] rfl (by (try simp only [List.map_toArray, List.map_cons, List.map_nil]); first | done | rfl | (simp only [List.length_drop, List.length_take]; rfl)) ?_; (with_reducible refine (laws_zzFits3.calls a6_0 a6_1 a6_2 a6_3 a6_4 a6_5 a6_6 a6_7 a6_8 true _ A8.out).mono ?_); rintro e w13 ⟨rfl, hb⟩; refine ⟨_, rfl, ?_⟩; have n0_ := Aside0.mk (blk_below (g := gb127) (o := .cells #[.int .i64 a6_0, .string a6_1, .string a6_2, .string a6_3, .string a6_4, .string a6_5, .string a6_6, .string a6_7, .string a6_8] 39 (0, 0)) (by (with_reducible repeat (first | refine blk_drewN ?_ _ | refine blk_drew ?_ | refine blk_alloc ?_ _)); exact BK127.out) hb); have n1_ := Aside0.mk (below_step (by repeat (first | (with_reducible first | exact HB.out | apply below_alloc | apply pw_below_drewN | apply below_drew1 | refine below_set ?_ GE127.out) | exact HB.out)) hb); clear BK127; clear HB; have BK127 := n0_; have HB := n1_; clear n0_ n1_; (try clear hb); (try clear hb2); (try clear hk); (try clear hi)))
    (try simp only [Act.put, List.setIfInBounds_toArray, List.set_cons_zero, List.set_cons_succ])
    go_cut [32] (fun v32 wc => ∃ (kq : Nat) (x32_9 : Bool), v32 = .bool x32_9 ∧ Aside0 (laws_FnPartBullet.j0 kq a0 a1 a2 a3 a4 a5 x32_9 a6_0 a6_1 a6_2 a6_3 a6_4 a6_5 a6_6 a6_7 a6_8 = some r) ∧ Aside0 (kq ≤ k) ∧ Aside0 (wc.heap[gb127]? = some (.cells #[.int .i64 a6_0, .string a6_1, .string a6_2, .string a6_3, .string a6_4, .string a6_5, .string a6_6, .string a6_7, .string a6_8] 39 (0, 0))) ∧ Aside0 (Below w.heap.size w wc))
    case first =>
      have H := HC10.out
      clear HC10
      by_cases c14 : a0 < 0
      · rw [if_pos c14] at H
        have c14b0 : decide (a0 < 0) = true := decide_eq_true c14
        clear c14
        (first | rw [c14b0] | (simp only [i64_w, i32_w]; rw [c14b0]) | skip)
        have H' := Aside0.mk H
        clear H
        go_wp2
        go_meet
        case rel => exact ⟨_, (true), (by first | rfl | (simp; done) | (simp [*]; done)), H', ⟨by first | omega | exact Nat.le_refl _⟩, ⟨by (with_reducible repeat (first | refine blk_drewN ?_ _ | refine blk_drew ?_ | refine blk_alloc ?_ _)); exact BK127.out⟩, ⟨by repeat (first | (with_reducible first | exact HB.out | apply below_alloc | apply pw_below_drewN | apply below_drew1 | refine below_set ?_ GE127.out) | exact HB.out)⟩⟩
      · rw [if_neg c14] at H
        have c14b0 : decide (a0 < 0) = false := decide_eq_false c14
        clear c14
        (first | rw [c14b0] | (simp only [i64_w, i32_w]; rw [c14b0]) | skip)
        replace H := Option.bind_eq_some_iff.mp H
        obtain ⟨t129, A150, H⟩ := H
        replace H : (if t129 = true then (laws_FnPartBullet.j0 k a0 a1 a2 a3 a4 a5 (decide ((a6_5.size : Int) > 60)) a6_0 a6_1 a6_2 a6_3 a6_4 a6_5 a6_6 a6_7 a6_8) else (laws_FnPartBullet.j0 k a0 a1 a2 a3 a4 a5 true a6_0 a6_1 a6_2 a6_3 a6_4 a6_5 a6_6 a6_7 a6_8)) = some r := H
        have A15 := Aside0.mk A150
        clear A150
        by_cases c16 : t129 = true
        · subst c16
          have H1 : (laws_FnPartBullet.j0 k a0 a1 a2 a3 a4 a5 (decide ((a6_5.size : Int) > 60)) a6_0 a6_1 a6_2 a6_3 a6_4 a6_5 a6_6 a6_7 a6_8) = some r := by rw [if_pos rfl] at H; exact H
          clear H
          have H := H1
          clear H1
          have H' := Aside0.mk H
          clear H
          have hcz17_0 : w13.cell? ⟨gb127, 0, none⟩ = some (.int .i64 a6_0) := (blk_cell BK127.out 0).trans rfl
          have hcz17_1 : w13.cell? ⟨gb127, 1, none⟩ = some (.string a6_1) := (blk_cell BK127.out 1).trans rfl
          have hcz17_2 : w13.cell? ⟨gb127, 2, none⟩ = some (.string a6_2) := (blk_cell BK127.out 2).trans rfl
          have hcz17_3 : w13.cell? ⟨gb127, 3, none⟩ = some (.string a6_3) := (blk_cell BK127.out 3).trans rfl
          have hcz17_4 : w13.cell? ⟨gb127, 4, none⟩ = some (.string a6_4) := (blk_cell BK127.out 4).trans rfl
          have hcz17_5 : w13.cell? ⟨gb127, 5, none⟩ = some (.string a6_5) := (blk_cell BK127.out 5).trans rfl
          have hcz17_6 : w13.cell? ⟨gb127, 6, none⟩ = some (.string a6_6) := (blk_cell BK127.out 6).trans rfl
          have hcz17_7 : w13.cell? ⟨gb127, 7, none⟩ = some (.string a6_7) := (blk_cell BK127.out 7).trans rfl
          have hcz17_8 : w13.cell? ⟨gb127, 8, none⟩ = some (.string a6_8) := (blk_cell BK127.out 8).trans rfl
          have hfz17_0 := blk_frozen BK127.out 0
          have hfz17_1 := blk_frozen BK127.out 1
          have hfz17_2 := blk_frozen BK127.out 2
          have hfz17_3 := blk_frozen BK127.out 3
          have hfz17_4 := blk_frozen BK127.out 4
          have hfz17_5 := blk_frozen BK127.out 5
          have hfz17_6 := blk_frozen BK127.out 6
          have hfz17_7 := blk_frozen BK127.out 7
          have hfz17_8 := blk_frozen BK127.out 8
          go_wp2_with (first | (go_at_call 18; (with_reducible refine (spec_Single.calls k a6_5 true _ A15.out).mono ?_); rintro e w' ⟨rfl, ⟨nd, rfl⟩⟩))
          go_meet
          case rel => exact ⟨_, (decide ((a6_5.size : Int) > 60)), (by first | rfl | (simp; done) | (simp [*]; done)), H', ⟨by first | omega | exact Nat.le_refl _⟩, ⟨by (with_reducible repeat (first | refine blk_drewN ?_ _ | refine blk_drew ?_ | refine blk_alloc ?_ _)); exact BK127.out⟩, ⟨by repeat (first | (with_reducible first | exact HB.out | apply below_alloc | apply pw_below_drewN | apply below_drew1 | refine below_set ?_ GE127.out) | exact HB.out)⟩⟩
        · replace c16 := Bool.eq_false_iff.mpr c16
          subst c16
          have H1 : (laws_FnPartBullet.j0 k a0 a1 a2 a3 a4 a5 true a6_0 a6_1 a6_2 a6_3 a6_4 a6_5 a6_6 a6_7 a6_8) = some r := by rw [if_neg (show ¬ (false = true) by decide)] at H; exact H
          clear H
          have H := H1
          clear H1
          have H' := Aside0.mk H
          clear H
          have hcz18_0 : w13.cell? ⟨gb127, 0, none⟩ = some (.int .i64 a6_0) := (blk_cell BK127.out 0).trans rfl
          have hcz18_1 : w13.cell? ⟨gb127, 1, none⟩ = some (.string a6_1) := (blk_cell BK127.out 1).trans rfl
          have hcz18_2 : w13.cell? ⟨gb127, 2, none⟩ = some (.string a6_2) := (blk_cell BK127.out 2).trans rfl
          have hcz18_3 : w13.cell? ⟨gb127, 3, none⟩ = some (.string a6_3) := (blk_cell BK127.out 3).trans rfl
          have hcz18_4 : w13.cell? ⟨gb127, 4, none⟩ = some (.string a6_4) := (blk_cell BK127.out 4).trans rfl
          have hcz18_5 : w13.cell? ⟨gb127, 5, none⟩ = some (.string a6_5) := (blk_cell BK127.out 5).trans rfl
          have hcz18_6 : w13.cell? ⟨gb127, 6, none⟩ = some (.string a6_6) := (blk_cell BK127.out 6).trans rfl
          have hcz18_7 : w13.cell? ⟨gb127, 7, none⟩ = some (.string a6_7) := (blk_cell BK127.out 7).trans rfl
          have hcz18_8 : w13.cell? ⟨gb127, 8, none⟩ = some (.string a6_8) := (blk_cell BK127.out 8).trans rfl
          have hfz18_0 := blk_frozen BK127.out 0
          have hfz18_1 := blk_frozen BK127.out 1
          have hfz18_2 := blk_frozen BK127.out 2
          have hfz18_3 := blk_frozen BK127.out 3
          have hfz18_4 := blk_frozen BK127.out 4
          have hfz18_5 := blk_frozen BK127.out 5
          have hfz18_6 := blk_frozen BK127.out 6
          have hfz18_7 := blk_frozen BK127.out 7
          have hfz18_8 := blk_frozen BK127.out 8
          go_wp2_with (first | (go_at_call 18; (with_reducible refine (spec_Single.calls k a6_5 false _ A15.out).mono ?_); rintro e w' ⟨rfl, ⟨nd, rfl⟩⟩))
          go_meet
          case rel => exact ⟨_, (true), (by first | rfl | (simp; done) | (simp [*]; done)), H', ⟨by first | omega | exact Nat.le_refl _⟩, ⟨by (with_reducible repeat (first | refine blk_drewN ?_ _ | refine blk_drew ?_ | refine blk_alloc ?_ _)); exact BK127.out⟩, ⟨by repeat (first | (with_reducible first | exact HB.out | apply below_alloc | apply pw_below_drewN | apply below_drew1 | refine below_set ?_ GE127.out) | exact HB.out)⟩⟩
    case rest =>
      clear HC10
      try clear c1
      try clear p2
      try clear c6
      try clear c9
      try clear c14
      try clear c14b0
      try clear c16
      try clear c17
      try clear hcz12_0
      try clear hcz12_1
      try clear hcz12_2
      try clear hcz12_3
      try clear hcz12_4
      try clear hcz12_5
      try clear hcz12_6
      try clear hcz12_7
      try clear hcz12_8
      try clear hcz17_0
      try clear hcz17_1
      try clear hcz17_2
      try clear hcz17_3
      try clear hcz17_4
      try clear hcz17_5
      try clear hcz17_6
      try clear hcz17_7
      try clear hcz17_8
      try clear hcz18_0
      try clear hcz18_1
      try clear hcz18_2
      try clear hcz18_3
      try clear hcz18_4
      try clear hcz18_5
      try clear hcz18_6
      try clear hcz18_7
      try clear hcz18_8
      try clear hfz12_0
      try clear hfz12_1
      try clear hfz12_2
      try clear hfz12_3
      try clear hfz12_4
      try clear hfz12_5
      try clear hfz12_6
      try clear hfz12_7
      try clear hfz12_8
      try clear hfz17_0
      try clear hfz17_1
      try clear hfz17_2
      try clear hfz17_3
      try clear hfz17_4
      try clear hfz17_5
      try clear hfz17_6
      try clear hfz17_7
      try clear hfz17_8
      try clear hfz18_0
      try clear hfz18_1
      try clear hfz18_2
      try clear hfz18_3
      try clear hfz18_4
      try clear hfz18_5
      try clear hfz18_6
      try clear hfz18_7
      try clear hfz18_8
      obtain ⟨kq, x32_9, rfl, HA, HJ9, BK127, HB⟩ := hcut
      cases kq with
      | zero => exact absurd HA.out (by simp [laws_FnPartBullet.j0])
      | succ kj9 =>
        have H := HA.out
        clear HA
        simp only [laws_FnPartBullet.j0] at H
        by_cases c19 : x32_9 = true
        · subst c19
          have H1 : (some true) = some r := by rw [if_pos rfl] at H; exact H
          clear H
          have H := H1
          clear H1
          obtain rfl := Option.some.inj H
          go_wp2
          go_ret
          exact ⟨by first | rfl | (simp [errW_none, errW_some] <;> rfl) | (simp [*, errW_none, errW_some] <;> rfl), by repeat (first | (with_reducible first | exact HB.out | apply below_alloc | apply pw_below_drewN | apply below_drew1 | refine below_set ?_ GE127.out) | exact HB.out)⟩
        · replace c19 := Bool.eq_false_iff.mpr c19
          subst c19
          have H1 : (if a0 > 0 then (laws_FnPartBullet.j1 kj9 a0 a1 a2 a3 a4 a5 a6_5 a4 a6_0 a6_1 a6_2 a6_3 a6_4 a6_5 a6_6 a6_7 a6_8) else (laws_FnPartBullet.j1 kj9 a0 a1 a2 a3 a4 a5 a6_5 false a6_0 a6_1 a6_2 a6_3 a6_4 a6_5 a6_6 a6_7 a6_8)) = some r := by rw [if_neg (show ¬ (false = true) by decide)] at H; exact H
          clear H
          have H := H1
          clear H1
          have HC20 := Aside0.mk H
          clear H
          have hcz21_0 : wc.cell? ⟨gb127, 0, none⟩ = some (.int .i64 a6_0) := (blk_cell BK127.out 0).trans rfl
          have hcz21_1 : wc.cell? ⟨gb127, 1, none⟩ = some (.string a6_1) := (blk_cell BK127.out 1).trans rfl
          have hcz21_2 : wc.cell? ⟨gb127, 2, none⟩ = some (.string a6_2) := (blk_cell BK127.out 2).trans rfl
          have hcz21_3 : wc.cell? ⟨gb127, 3, none⟩ = some (.string a6_3) := (blk_cell BK127.out 3).trans rfl
          have hcz21_4 : wc.cell? ⟨gb127, 4, none⟩ = some (.string a6_4) := (blk_cell BK127.out 4).trans rfl
          have hcz21_5 : wc.cell? ⟨gb127, 5, none⟩ = some (.string a6_5) := (blk_cell BK127.out 5).trans rfl
          have hcz21_6 : wc.cell? ⟨gb127, 6, none⟩ = some (.string a6_6) := (blk_cell BK127.out 6).trans rfl
          have hcz21_7 : wc.cell? ⟨gb127, 7, none⟩ = some (.string a6_7) := (blk_cell BK127.out 7).trans rfl
          have hcz21_8 : wc.cell? ⟨gb127, 8, none⟩ = some (.string a6_8) := (blk_cell BK127.out 8).trans rfl
          have hfz21_0 := blk_frozen BK127.out 0
          have hfz21_1 := blk_frozen BK127.out 1
          have hfz21_2 := blk_frozen BK127.out 2
          have hfz21_3 := blk_frozen BK127.out 3
          have hfz21_4 := blk_frozen BK127.out 4
          have hfz21_5 := blk_frozen BK127.out 5
          have hfz21_6 := blk_frozen BK127.out 6
          have hfz21_7 := blk_frozen BK127.out 7
          have hfz21_8 := blk_frozen BK127.out 8
          go_upto_region 6 with (fail)
          go_cut [39] (fun v39 wc => ∃ (kq : Nat) (x39_19 : Bool), v39 = .bool x39_19 ∧ Aside0 (laws_FnPartBullet.j1 kq a0 a1 a2 a3 a4 a5 a6_5 x39_19 a6_0 a6_1 a6_2 a6_3 a6_4 a6_5 a6_6 a6_7 a6_8 = some r) ∧ Aside0 (kq ≤ kj9) ∧ Aside0 (wc.heap[gb127]? = some (.cells #[.int .i64 a6_0, .string a6_1, .string a6_2, .string a6_3, .string a6_4, .string a6_5, .string a6_6, .string a6_7, .string a6_8] 39 (0, 0))) ∧ Aside0 (Below w.heap.size w wc))
          case first =>
            have H := HC20.out
            clear HC20
            by_cases c22 : a0 > 0
            · rw [if_pos c22] at H
              have c22b0 : decide (0 < a0) = true := decide_eq_true c22
              clear c22
              (first | rw [c22b0] | (simp only [i64_w, i32_w]; rw [c22b0]) | skip)
              have H' := Aside0.mk H
              clear H
              go_wp2
              go_meet
              case rel => exact ⟨_, (a4), (by first | rfl | (simp; done) | (simp [*]; done)), H', ⟨by have := HJ9.out; first | omega | exact Nat.le_refl _⟩, ⟨by (with_reducible repeat (first | refine blk_drewN ?_ _ | refine blk_drew ?_ | refine blk_alloc ?_ _)); exact BK127.out⟩, ⟨by repeat (first | (with_reducible first | exact HB.out | apply below_alloc | apply pw_below_drewN | apply below_drew1 | refine below_set ?_ GE127.out) | exact HB.out)⟩⟩
            · rw [if_neg c22] at H
              have c22b0 : decide (0 < a0) = false := decide_eq_false c22
              clear c22
              (first | rw [c22b0] | (simp only [i64_w, i32_w]; rw [c22b0]) | skip)
              have H' := Aside0.mk H
              clear H
              go_wp2
              go_meet
              case rel => exact ⟨_, (false), (by first | rfl | (simp; done) | (simp [*]; done)), H', ⟨by have := HJ9.out; first | omega | exact Nat.le_refl _⟩, ⟨by (with_reducible repeat (first | refine blk_drewN ?_ _ | refine blk_drew ?_ | refine blk_alloc ?_ _)); exact BK127.out⟩, ⟨by repeat (first | (with_reducible first | exact HB.out | apply below_alloc | apply pw_below_drewN | apply below_drew1 | refine below_set ?_ GE127.out) | exact HB.out)⟩⟩
          case rest =>
            clear HC20
            try clear c1
            try clear c2
            try clear p2
            try clear c6
            try clear c9
            try clear c14
            try clear c14b0
            try clear c16
            try clear c17
            try clear c19
            try clear c22
            try clear c22b0
            try clear hcz12_0
            try clear hcz12_1
            try clear hcz12_2
            try clear hcz12_3
            try clear hcz12_4
            try clear hcz12_5
            try clear hcz12_6
            try clear hcz12_7
            try clear hcz12_8
            try clear hcz17_0
            try clear hcz17_1
            try clear hcz17_2
            try clear hcz17_3
            try clear hcz17_4
            try clear hcz17_5
            try clear hcz17_6
            try clear hcz17_7
            try clear hcz17_8
            try clear hcz18_0
            try clear hcz18_1
            try clear hcz18_2
            try clear hcz18_3
            try clear hcz18_4
            try clear hcz18_5
            try clear hcz18_6
            try clear hcz18_7
            try clear hcz18_8
            try clear hcz21_0
            try clear hcz21_1
            try clear hcz21_2
            try clear hcz21_3
            try clear hcz21_4
            try clear hcz21_5
            try clear hcz21_6
            try clear hcz21_7
            try clear hcz21_8
            try clear hfz12_0
            try clear hfz12_1
            try clear hfz12_2
            try clear hfz12_3
            try clear hfz12_4
            try clear hfz12_5
            try clear hfz12_6
            try clear hfz12_7
            try clear hfz12_8
            try clear hfz17_0
            try clear hfz17_1
            try clear hfz17_2
            try clear hfz17_3
            try clear hfz17_4
            try clear hfz17_5
            try clear hfz17_6
            try clear hfz17_7
            try clear hfz17_8
            try clear hfz18_0
            try clear hfz18_1
            try clear hfz18_2
            try clear hfz18_3
            try clear hfz18_4
            try clear hfz18_5
            try clear hfz18_6
            try clear hfz18_7
            try clear hfz18_8
            try clear hfz21_0
            try clear hfz21_1
            try clear hfz21_2
            try clear hfz21_3
            try clear hfz21_4
            try clear hfz21_5
            try clear hfz21_6
            try clear hfz21_7
            try clear hfz21_8
            try clear p2
            obtain ⟨kq, x39_19, rfl, HA, HJ19, BK127, HB⟩ := hcut
            cases kq with
            | zero => exact absurd HA.out (by simp [laws_FnPartBullet.j1])
            | succ kj19 =>
              have H := HA.out
              clear HA
              simp only [laws_FnPartBullet.j1] at H
              have HC23 := Aside0.mk H
              clear H
              go_upto_if 39 with (fail)
              go_cut [15] (fun v15 wc => ∃ (kq : Nat) (x15_22 : ByteArray), v15 = .string x15_22 ∧ Aside0 (laws_FnPartBullet.j2 kq a0 a1 a2 a3 a4 a5 x15_22 a6_0 a6_1 a6_2 a6_3 a6_4 a6_5 a6_6 a6_7 a6_8 = some r) ∧ Aside0 (kq ≤ kj19) ∧ Aside0 (wc.heap[gb127]? = some (.cells #[.int .i64 a6_0, .string a6_1, .string a6_2, .string a6_3, .string a6_4, .string a6_5, .string a6_6, .string a6_7, .string a6_8] 39 (0, 0))) ∧ Aside0 (Below w.heap.size w wc))
              case first =>
                have H := HC23.out
                clear HC23
                by_cases c24 : x39_19 = true
                · subst c24
                  have H1 : ((spec_Times.f kj19 (⟨#[32]⟩ : ByteArray) (a6_5.size : Int)).bind fun t130 => (laws_FnPartBullet.j2 kj19 a0 a1 a2 a3 a4 a5 t130 a6_0 a6_1 a6_2 a6_3 a6_4 a6_5 a6_6 a6_7 a6_8)) = some r := by rw [if_pos rfl] at H; exact H
                  clear H
                  have H := H1
                  clear H1
                  replace H := Option.bind_eq_some_iff.mp H
                  obtain ⟨t130, A250, H⟩ := H
                  replace H : (laws_FnPartBullet.j2 kj19 a0 a1 a2 a3 a4 a5 t130 a6_0 a6_1 a6_2 a6_3 a6_4 a6_5 a6_6 a6_7 a6_8) = some r := H
                  have A25 := Aside0.mk A250
                  clear A250
                  have H' := Aside0.mk H
                  clear H
                  have hcz26_0 : wc.cell? ⟨gb127, 0, none⟩ = some (.int .i64 a6_0) := (blk_cell BK127.out 0).trans rfl
                  have hcz26_1 : wc.cell? ⟨gb127, 1, none⟩ = some (.string a6_1) := (blk_cell BK127.out 1).trans rfl
                  have hcz26_2 : wc.cell? ⟨gb127, 2, none⟩ = some (.string a6_2) := (blk_cell BK127.out 2).trans rfl
                  have hcz26_3 : wc.cell? ⟨gb127, 3, none⟩ = some (.string a6_3) := (blk_cell BK127.out 3).trans rfl
                  have hcz26_4 : wc.cell? ⟨gb127, 4, none⟩ = some (.string a6_4) := (blk_cell BK127.out 4).trans rfl
                  have hcz26_5 : wc.cell? ⟨gb127, 5, none⟩ = some (.string a6_5) := (blk_cell BK127.out 5).trans rfl
                  have hcz26_6 : wc.cell? ⟨gb127, 6, none⟩ = some (.string a6_6) := (blk_cell BK127.out 6).trans rfl
                  have hcz26_7 : wc.cell? ⟨gb127, 7, none⟩ = some (.string a6_7) := (blk_cell BK127.out 7).trans rfl
                  have hcz26_8 : wc.cell? ⟨gb127, 8, none⟩ = some (.string a6_8) := (blk_cell BK127.out 8).trans rfl
                  have hfz26_0 := blk_frozen BK127.out 0
                  have hfz26_1 := blk_frozen BK127.out 1
                  have hfz26_2 := blk_frozen BK127.out 2
                  have hfz26_3 := blk_frozen BK127.out 3
                  have hfz26_4 := blk_frozen BK127.out 4
                  have hfz26_5 := blk_frozen BK127.out 5
                  have hfz26_6 := blk_frozen BK127.out 6
                  have hfz26_7 := blk_frozen BK127.out 7
                  have hfz26_8 := blk_frozen BK127.out 8
                  go_wp2_with (first | ((with_reducible refine gate_callee (f := 19) rfl ?_); refine goesL_ (some 43) rfl rfl Try.func19 (by kernel_rfl) rfl #[.string (⟨#[32]⟩ : ByteArray), .int .i64 (a6_5.size : Int)] rfl (by (try simp only [List.map_toArray, List.map_cons, List.map_nil]); first | done | rfl | (simp only [List.length_drop, List.length_take]; rfl)) ?_; (with_reducible refine (spec_Times.calls kj19 (⟨#[32]⟩ : ByteArray) (a6_5.size : Int) t130 _ A25.out).mono ?_); rintro e w' ⟨rfl, ⟨nd, rfl⟩⟩; refine ⟨_, rfl, ?_⟩))
                  go_meet
                  case rel => exact ⟨_, (t130), (by first | rfl | (simp; done) | (simp [*]; done)), H', ⟨by have := HJ9.out; have := HJ19.out; first | omega | exact Nat.le_refl _⟩, ⟨by (with_reducible repeat (first | refine blk_drewN ?_ _ | refine blk_drew ?_ | refine blk_alloc ?_ _)); exact BK127.out⟩, ⟨by repeat (first | (with_reducible first | exact HB.out | apply below_alloc | apply pw_below_drewN | apply below_drew1 | refine below_set ?_ GE127.out) | exact HB.out)⟩⟩
                · replace c24 := Bool.eq_false_iff.mpr c24
                  subst c24
                  have H1 : (laws_FnPartBullet.j2 kj19 a0 a1 a2 a3 a4 a5 a6_5 a6_0 a6_1 a6_2 a6_3 a6_4 a6_5 a6_6 a6_7 a6_8) = some r := by rw [if_neg (show ¬ (false = true) by decide)] at H; exact H
                  clear H
                  have H := H1
                  clear H1
                  have H' := Aside0.mk H
                  clear H
                  go_wp2
                  go_meet
                  case rel => exact ⟨_, (a6_5), (by first | rfl | (simp; done) | (simp [*]; done)), H', ⟨by have := HJ9.out; have := HJ19.out; first | omega | exact Nat.le_refl _⟩, ⟨by (with_reducible repeat (first | refine blk_drewN ?_ _ | refine blk_drew ?_ | refine blk_alloc ?_ _)); exact BK127.out⟩, ⟨by repeat (first | (with_reducible first | exact HB.out | apply below_alloc | apply pw_below_drewN | apply below_drew1 | refine below_set ?_ GE127.out) | exact HB.out)⟩⟩
              case rest =>
                clear HC23
                try clear c1
                try clear c2
                try clear p2
                try clear c6
                try clear c9
                try clear c14
                try clear c14b0
                try clear c16
                try clear c17
                try clear c19
                try clear c22
                try clear c22b0
                try clear c24
                try clear hcz12_0
                try clear hcz12_1
                try clear hcz12_2
                try clear hcz12_3
                try clear hcz12_4
                try clear hcz12_5
                try clear hcz12_6
                try clear hcz12_7
                try clear hcz12_8
                try clear hcz17_0
                try clear hcz17_1
                try clear hcz17_2
                try clear hcz17_3
                try clear hcz17_4
                try clear hcz17_5
                try clear hcz17_6
                try clear hcz17_7
                try clear hcz17_8
                try clear hcz18_0
                try clear hcz18_1
                try clear hcz18_2
                try clear hcz18_3
                try clear hcz18_4
                try clear hcz18_5
                try clear hcz18_6
                try clear hcz18_7
                try clear hcz18_8
                try clear hcz21_0
                try clear hcz21_1
                try clear hcz21_2
                try clear hcz21_3
                try clear hcz21_4
                try clear hcz21_5
                try clear hcz21_6
                try clear hcz21_7
                try clear hcz21_8
                try clear hcz26_0
                try clear hcz26_1
                try clear hcz26_2
                try clear hcz26_3
                try clear hcz26_4
                try clear hcz26_5
                try clear hcz26_6
                try clear hcz26_7
                try clear hcz26_8
                try clear hfz12_0
                try clear hfz12_1
                try clear hfz12_2
                try clear hfz12_3
                try clear hfz12_4
                try clear hfz12_5
                try clear hfz12_6
                try clear hfz12_7
                try clear hfz12_8
                try clear hfz17_0
                try clear hfz17_1
                try clear hfz17_2
                try clear hfz17_3
                try clear hfz17_4
                try clear hfz17_5
                try clear hfz17_6
                try clear hfz17_7
                try clear hfz17_8
                try clear hfz18_0
                try clear hfz18_1
                try clear hfz18_2
                try clear hfz18_3
                try clear hfz18_4
                try clear hfz18_5
                try clear hfz18_6
                try clear hfz18_7
                try clear hfz18_8
                try clear hfz21_0
                try clear hfz21_1
                try clear hfz21_2
                try clear hfz21_3
                try clear hfz21_4
                try clear hfz21_5
                try clear hfz21_6
                try clear hfz21_7
                try clear hfz21_8
                try clear hfz26_0
                try clear hfz26_1
                try clear hfz26_2
                try clear hfz26_3
                try clear hfz26_4
                try clear hfz26_5
                try clear hfz26_6
                try clear hfz26_7
                try clear hfz26_8
                try clear p2
                obtain ⟨kq, x15_22, rfl, HA, HJ22, BK127, HB⟩ := hcut
                cases kq with
                | zero => exact absurd HA.out (by simp [laws_FnPartBullet.j2])
                | succ kj22 =>
                  have H := HA.out
                  clear HA
                  simp only [laws_FnPartBullet.j2] at H
                  by_cases c27 : a0 = 0
                  · rw [if_pos c27] at H
                    have c27b0 : (a0 == 0) = true := beq_iff_eq.mpr c27
                    have c27b1 : (a0 != 0) = false := bne_eq_false_iff_eq.mpr c27
                    clear c27
                    have HC28 := Aside0.mk H
                    clear H
                    go_upto_region 10 with (fail)
                    go_cut [48] (fun v48 wc => ∃ (kq : Nat) (x48_27 : Bool), v48 = .bool x48_27 ∧ Aside0 (laws_FnPartBullet.j3 kq a0 a1 a2 a3 a4 a5 x48_27 a6_0 a6_1 a6_2 a6_3 a6_4 a6_5 a6_6 a6_7 a6_8 = some r) ∧ Aside0 (kq ≤ kj22) ∧ Aside0 (wc.heap[gb127]? = some (.cells #[.int .i64 a6_0, .string a6_1, .string a6_2, .string a6_3, .string a6_4, .string a6_5, .string a6_6, .string a6_7, .string a6_8] 39 (0, 0))) ∧ Aside0 (Below w.heap.size w wc))
                    case first =>
                      have H := HC28.out
                      clear HC28
                      by_cases c29 : a3 = true
                      · subst c29
                        have H1 : (laws_FnPartBullet.j3 kj22 a0 a1 a2 true a4 a5 a1 a6_0 a6_1 a6_2 a6_3 a6_4 a6_5 a6_6 a6_7 a6_8) = some r := by rw [if_pos rfl] at H; exact H
                        clear H
                        have H := H1
                        clear H1
                        have H' := Aside0.mk H
                        clear H
                        go_wp2
                        go_meet
                        case rel => exact ⟨_, (a1), (by first | rfl | (simp; done) | (simp [*]; done)), H', ⟨by have := HJ9.out; have := HJ19.out; have := HJ22.out; first | omega | exact Nat.le_refl _⟩, ⟨by (with_reducible repeat (first | refine blk_drewN ?_ _ | refine blk_drew ?_ | refine blk_alloc ?_ _)); exact BK127.out⟩, ⟨by repeat (first | (with_reducible first | exact HB.out | apply below_alloc | apply pw_below_drewN | apply below_drew1 | refine below_set ?_ GE127.out) | exact HB.out)⟩⟩
                      · replace c29 := Bool.eq_false_iff.mpr c29
                        subst c29
                        have H1 : (laws_FnPartBullet.j3 kj22 a0 a1 a2 false a4 a5 false a6_0 a6_1 a6_2 a6_3 a6_4 a6_5 a6_6 a6_7 a6_8) = some r := by rw [if_neg (show ¬ (false = true) by decide)] at H; exact H
                        clear H
                        have H := H1
                        clear H1
                        have H' := Aside0.mk H
                        clear H
                        go_wp2
                        go_meet
                        case rel => exact ⟨_, (false), (by first | rfl | (simp; done) | (simp [*]; done)), H', ⟨by have := HJ9.out; have := HJ19.out; have := HJ22.out; first | omega | exact Nat.le_refl _⟩, ⟨by (with_reducible repeat (first | refine blk_drewN ?_ _ | refine blk_drew ?_ | refine blk_alloc ?_ _)); exact BK127.out⟩, ⟨by repeat (first | (with_reducible first | exact HB.out | apply below_alloc | apply pw_below_drewN | apply below_drew1 | refine below_set ?_ GE127.out) | exact HB.out)⟩⟩
                    case rest =>
                      clear HC28
                      try clear c1
                      try clear c2
                      try clear p2
                      try clear c6
                      try clear c9
                      try clear c14
                      try clear c14b0
                      try clear c16
                      try clear c17
                      try clear c19
                      try clear c22
                      try clear c22b0
                      try clear c24
                      try clear c27
                      try clear c27b0
                      try clear c27b1
                      try clear c29
                      try clear hcz12_0
                      try clear hcz12_1
                      try clear hcz12_2
                      try clear hcz12_3
                      try clear hcz12_4
                      try clear hcz12_5
                      try clear hcz12_6
                      try clear hcz12_7
                      try clear hcz12_8
                      try clear hcz17_0
                      try clear hcz17_1
                      try clear hcz17_2
                      try clear hcz17_3
                      try clear hcz17_4
                      try clear hcz17_5
                      try clear hcz17_6
                      try clear hcz17_7
                      try clear hcz17_8
                      try clear hcz18_0
                      try clear hcz18_1
                      try clear hcz18_2
                      try clear hcz18_3
                      try clear hcz18_4
                      try clear hcz18_5
                      try clear hcz18_6
                      try clear hcz18_7
                      try clear hcz18_8
                      try clear hcz21_0
                      try clear hcz21_1
                      try clear hcz21_2
                      try clear hcz21_3
                      try clear hcz21_4
                      try clear hcz21_5
                      try clear hcz21_6
                      try clear hcz21_7
                      try clear hcz21_8
                      try clear hcz26_0
                      try clear hcz26_1
                      try clear hcz26_2
                      try clear hcz26_3
                      try clear hcz26_4
                      try clear hcz26_5
                      try clear hcz26_6
                      try clear hcz26_7
                      try clear hcz26_8
                      try clear hfz12_0
                      try clear hfz12_1
                      try clear hfz12_2
                      try clear hfz12_3
                      try clear hfz12_4
                      try clear hfz12_5
                      try clear hfz12_6
                      try clear hfz12_7
                      try clear hfz12_8
                      try clear hfz17_0
                      try clear hfz17_1
                      try clear hfz17_2
                      try clear hfz17_3
                      try clear hfz17_4
                      try clear hfz17_5
                      try clear hfz17_6
                      try clear hfz17_7
                      try clear hfz17_8
                      try clear hfz18_0
                      try clear hfz18_1
                      try clear hfz18_2
                      try clear hfz18_3
                      try clear hfz18_4
                      try clear hfz18_5
                      try clear hfz18_6
                      try clear hfz18_7
                      try clear hfz18_8
                      try clear hfz21_0
                      try clear hfz21_1
                      try clear hfz21_2
                      try clear hfz21_3
                      try clear hfz21_4
                      try clear hfz21_5
                      try clear hfz21_6
                      try clear hfz21_7
                      try clear hfz21_8
                      try clear hfz26_0
                      try clear hfz26_1
                      try clear hfz26_2
                      try clear hfz26_3
                      try clear hfz26_4
                      try clear hfz26_5
                      try clear hfz26_6
                      try clear hfz26_7
                      try clear hfz26_8
                      try clear p2
                      obtain ⟨kq, x48_27, rfl, HA, HJ27, BK127, HB⟩ := hcut
                      cases kq with
                      | zero => exact absurd HA.out (by simp [laws_FnPartBullet.j3])
                      | succ kj27 =>
                        have H := HA.out
                        clear HA
                        simp only [laws_FnPartBullet.j3] at H
                        by_cases c30 : x48_27 = true
                        · subst c30
                          have H1 : (if a6_1.size + 1 ≤ 9223372036854775807 then ((impl_ListBullet.f a0 a1 a2 a3 a4 a5 a6_0 a6_1 a6_2 a6_3 a6_4 a6_5 a6_6 a6_7 a6_8).bind fun t131 => (some (t131.toList == (a6_1 ++ (⟨#[32]⟩ : ByteArray)).toList))) else (none)) = some r := by rw [if_pos rfl] at H; exact H
                          clear H
                          have H := H1
                          clear H1
                          by_cases c31 : a6_1.size + 1 ≤ 9223372036854775807
                          · rw [if_pos c31] at H
                            have c31b0 := eq_true c31
                            have c31b1 : decide (a6_1.size + 1 ≤ 9223372036854775807) = true := decide_eq_true c31
                            try have c31b2 : (9223372036854775807 < a6_1.size + 1) = False := eq_false (Nat.not_lt.2 c31)
                            replace H := Option.bind_eq_some_iff.mp H
                            obtain ⟨t131, A320, H⟩ := H
                            replace H : (some (t131.toList == (a6_1 ++ (⟨#[32]⟩ : ByteArray)).toList)) = some r := H
                            have A32 := Aside0.mk A320
                            clear A320
                            obtain rfl := Option.some.inj H
                            have hcz33_0 : wc.cell? ⟨gb127, 0, none⟩ = some (.int .i64 a6_0) := (blk_cell BK127.out 0).trans rfl
                            have hcz33_1 : wc.cell? ⟨gb127, 1, none⟩ = some (.string a6_1) := (blk_cell BK127.out 1).trans rfl
                            have hcz33_2 : wc.cell? ⟨gb127, 2, none⟩ = some (.string a6_2) := (blk_cell BK127.out 2).trans rfl
                            have hcz33_3 : wc.cell? ⟨gb127, 3, none⟩ = some (.string a6_3) := (blk_cell BK127.out 3).trans rfl
                            have hcz33_4 : wc.cell? ⟨gb127, 4, none⟩ = some (.string a6_4) := (blk_cell BK127.out 4).trans rfl
                            have hcz33_5 : wc.cell? ⟨gb127, 5, none⟩ = some (.string a6_5) := (blk_cell BK127.out 5).trans rfl
                            have hcz33_6 : wc.cell? ⟨gb127, 6, none⟩ = some (.string a6_6) := (blk_cell BK127.out 6).trans rfl
                            have hcz33_7 : wc.cell? ⟨gb127, 7, none⟩ = some (.string a6_7) := (blk_cell BK127.out 7).trans rfl
                            have hcz33_8 : wc.cell? ⟨gb127, 8, none⟩ = some (.string a6_8) := (blk_cell BK127.out 8).trans rfl
                            have hfz33_0 := blk_frozen BK127.out 0
                            have hfz33_1 := blk_frozen BK127.out 1
                            have hfz33_2 := blk_frozen BK127.out 2
                            have hfz33_3 := blk_frozen BK127.out 3
                            have hfz33_4 := blk_frozen BK127.out 4
                            have hfz33_5 := blk_frozen BK127.out 5
                            have hfz33_6 := blk_frozen BK127.out 6
                            have hfz33_7 := blk_frozen BK127.out 7
                            have hfz33_8 := blk_frozen BK127.out 8
                            go_wp2_with (first | ((with_reducible refine gate_callee (f := 20) rfl ?_); refine goesL_ (some 83) rfl rfl Try.func20 (by kernel_rfl) rfl #[.int .i64 a0, .bool a1, .bool a2, .bool a3, .bool a4, .bool a5, .agg #[.int .i64 a6_0, .string a6_1, .string a6_2, .string a6_3, .string a6_4, .string a6_5, .string a6_6, .string a6_7, .string a6_8]] rfl (by (try simp only [List.map_toArray, List.map_cons, List.map_nil]); first | done | rfl | (simp only [List.length_drop, List.length_take]; rfl)) ?_; (with_reducible refine (impl_ListBullet.calls a0 a1 a2 a3 a4 a5 a6_0 a6_1 a6_2 a6_3 a6_4 a6_5 a6_6 a6_7 a6_8 t131 _ A32.out).mono ?_); rintro e w34 ⟨rfl, hb⟩; refine ⟨_, rfl, ?_⟩; have n0_ := Aside0.mk (blk_below (g := gb127) (o := .cells #[.int .i64 a6_0, .string a6_1, .string a6_2, .string a6_3, .string a6_4, .string a6_5, .string a6_6, .string a6_7, .string a6_8] 39 (0, 0)) (by (with_reducible repeat (first | refine blk_drewN ?_ _ | refine blk_drew ?_ | refine blk_alloc ?_ _)); exact BK127.out) hb); have n1_ := Aside0.mk (below_step (by repeat (first | (with_reducible first | exact HB.out | apply below_alloc | apply pw_below_drewN | apply below_drew1 | refine below_set ?_ GE127.out) | exact HB.out)) hb); clear BK127; clear HB; have BK127 := n0_; have HB := n1_; clear n0_ n1_; (try clear hb); (try clear hb2); (try clear hk); (try clear hi)))
                            go_ret
                            exact ⟨by first | rfl | (simp [errW_none, errW_some] <;> rfl) | (simp [*, errW_none, errW_some] <;> rfl), by repeat (first | (with_reducible first | exact HB.out | apply below_alloc | apply pw_below_drewN | apply below_drew1 | refine below_set ?_ GE127.out) | exact HB.out)⟩
                          · rw [if_neg c31] at H
                            exact absurd H (by simp)
                        · replace c30 := Bool.eq_false_iff.mpr c30
                          subst c30
                          have H1 : (if a3 = true then (if a6_6.size + 1 ≤ 9223372036854775807 then ((impl_ListBullet.f a0 a1 a2 a3 a4 a5 a6_0 a6_1 a6_2 a6_3 a6_4 a6_5 a6_6 a6_7 a6_8).bind fun t132 => (some (t132.toList == (a6_6 ++ (⟨#[32]⟩ : ByteArray)).toList))) else (none)) else (if a1 = true then (if a6_2.size + 1 ≤ 9223372036854775807 then ((impl_ListBullet.f a0 a1 a2 a3 a4 a5 a6_0 a6_1 a6_2 a6_3 a6_4 a6_5 a6_6 a6_7 a6_8).bind fun t133 => (some (t133.toList == (a6_2 ++ (⟨#[32]⟩ : ByteArray)).toList))) else (none)) else (if a2 = true then (if a6_3.size + 1 ≤ 9223372036854775807 then ((impl_ListBullet.f a0 a1 a2 a3 a4 a5 a6_0 a6_1 a6_2 a6_3 a6_4 a6_5 a6_6 a6_7 a6_8).bind fun t134 => (some (t134.toList == (a6_3 ++ (⟨#[32]⟩ : ByteArray)).toList))) else (none)) else (if a5 = true then (if a6_6.size + 1 ≤ 9223372036854775807 then ((impl_ListBullet.f a0 a1 a2 a3 a4 a5 a6_0 a6_1 a6_2 a6_3 a6_4 a6_5 a6_6 a6_7 a6_8).bind fun t135 => (some (t135.toList == (a6_6 ++ (⟨#[32]⟩ : ByteArray)).toList))) else (none)) else (if a4 = true then (if a6_6.size + 1 ≤ 9223372036854775807 then ((impl_ListBullet.f a0 a1 a2 a3 a4 a5 a6_0 a6_1 a6_2 a6_3 a6_4 a6_5 a6_6 a6_7 a6_8).bind fun t136 => (some (t136.toList == (a6_6 ++ (⟨#[32]⟩ : ByteArray)).toList))) else (none)) else (if a6_4.size + 1 ≤ 9223372036854775807 then ((impl_ListBullet.f a0 a1 a2 a3 a4 a5 a6_0 a6_1 a6_2 a6_3 a6_4 a6_5 a6_6 a6_7 a6_8).bind fun t137 => (some (t137.toList == (a6_4 ++ (⟨#[32]⟩ : ByteArray)).toList))) else (none))))))) = some r := by rw [if_neg (show ¬ (false = true) by decide)] at H; exact H
                          clear H
                          have H := H1
                          clear H1
                          by_cases c35 : a3 = true
                          · subst c35
                            have H1 : (if a6_6.size + 1 ≤ 9223372036854775807 then ((impl_ListBullet.f a0 a1 a2 true a4 a5 a6_0 a6_1 a6_2 a6_3 a6_4 a6_5 a6_6 a6_7 a6_8).bind fun t132 => (some (t132.toList == (a6_6 ++ (⟨#[32]⟩ : ByteArray)).toList))) else (none)) = some r := by rw [if_pos rfl] at H; exact H
                            clear H
                            have H := H1
                            clear H1
                            by_cases c36 : a6_6.size + 1 ≤ 9223372036854775807
                            · rw [if_pos c36] at H
                              have c36b0 := eq_true c36
                              have c36b1 : decide (a6_6.size + 1 ≤ 9223372036854775807) = true := decide_eq_true c36
                              try have c36b2 : (9223372036854775807 < a6_6.size + 1) = False := eq_false (Nat.not_lt.2 c36)
                              replace H := Option.bind_eq_some_iff.mp H
                              obtain ⟨t132, A370, H⟩ := H
                              replace H : (some (t132.toList == (a6_6 ++ (⟨#[32]⟩ : ByteArray)).toList)) = some r := H
                              have A37 := Aside0.mk A370
                              clear A370
                              obtain rfl := Option.some.inj H
                              have hcz38_0 : wc.cell? ⟨gb127, 0, none⟩ = some (.int .i64 a6_0) := (blk_cell BK127.out 0).trans rfl
                              have hcz38_1 : wc.cell? ⟨gb127, 1, none⟩ = some (.string a6_1) := (blk_cell BK127.out 1).trans rfl
                              have hcz38_2 : wc.cell? ⟨gb127, 2, none⟩ = some (.string a6_2) := (blk_cell BK127.out 2).trans rfl
                              have hcz38_3 : wc.cell? ⟨gb127, 3, none⟩ = some (.string a6_3) := (blk_cell BK127.out 3).trans rfl
                              have hcz38_4 : wc.cell? ⟨gb127, 4, none⟩ = some (.string a6_4) := (blk_cell BK127.out 4).trans rfl
                              have hcz38_5 : wc.cell? ⟨gb127, 5, none⟩ = some (.string a6_5) := (blk_cell BK127.out 5).trans rfl
                              have hcz38_6 : wc.cell? ⟨gb127, 6, none⟩ = some (.string a6_6) := (blk_cell BK127.out 6).trans rfl
                              have hcz38_7 : wc.cell? ⟨gb127, 7, none⟩ = some (.string a6_7) := (blk_cell BK127.out 7).trans rfl
                              have hcz38_8 : wc.cell? ⟨gb127, 8, none⟩ = some (.string a6_8) := (blk_cell BK127.out 8).trans rfl
                              have hfz38_0 := blk_frozen BK127.out 0
                              have hfz38_1 := blk_frozen BK127.out 1
                              have hfz38_2 := blk_frozen BK127.out 2
                              have hfz38_3 := blk_frozen BK127.out 3
                              have hfz38_4 := blk_frozen BK127.out 4
                              have hfz38_5 := blk_frozen BK127.out 5
                              have hfz38_6 := blk_frozen BK127.out 6
                              have hfz38_7 := blk_frozen BK127.out 7
                              have hfz38_8 := blk_frozen BK127.out 8
                              go_wp2_with (first | ((with_reducible refine gate_callee (f := 20) rfl ?_); refine goesL_ (some 83) rfl rfl Try.func20 (by kernel_rfl) rfl #[.int .i64 a0, .bool a1, .bool a2, .bool true, .bool a4, .bool a5, .agg #[.int .i64 a6_0, .string a6_1, .string a6_2, .string a6_3, .string a6_4, .string a6_5, .string a6_6, .string a6_7, .string a6_8]] rfl (by (try simp only [List.map_toArray, List.map_cons, List.map_nil]); first | done | rfl | (simp only [List.length_drop, List.length_take]; rfl)) ?_; (with_reducible refine (impl_ListBullet.calls a0 a1 a2 true a4 a5 a6_0 a6_1 a6_2 a6_3 a6_4 a6_5 a6_6 a6_7 a6_8 t132 _ A37.out).mono ?_); rintro e w39 ⟨rfl, hb⟩; refine ⟨_, rfl, ?_⟩; have n0_ := Aside0.mk (blk_below (g := gb127) (o := .cells #[.int .i64 a6_0, .string a6_1, .string a6_2, .string a6_3, .string a6_4, .string a6_5, .string a6_6, .string a6_7, .string a6_8] 39 (0, 0)) (by (with_reducible repeat (first | refine blk_drewN ?_ _ | refine blk_drew ?_ | refine blk_alloc ?_ _)); exact BK127.out) hb); have n1_ := Aside0.mk (below_step (by repeat (first | (with_reducible first | exact HB.out | apply below_alloc | apply pw_below_drewN | apply below_drew1 | refine below_set ?_ GE127.out) | exact HB.out)) hb); clear BK127; clear HB; have BK127 := n0_; have HB := n1_; clear n0_ n1_; (try clear hb); (try clear hb2); (try clear hk); (try clear hi)))
                              go_ret
                              exact ⟨by first | rfl | (simp [errW_none, errW_some] <;> rfl) | (simp [*, errW_none, errW_some] <;> rfl), by repeat (first | (with_reducible first | exact HB.out | apply below_alloc | apply pw_below_drewN | apply below_drew1 | refine below_set ?_ GE127.out) | exact HB.out)⟩
                            · rw [if_neg c36] at H
                              exact absurd H (by simp)
                          · replace c35 := Bool.eq_false_iff.mpr c35
                            subst c35
                            have H1 : (if a1 = true then (if a6_2.size + 1 ≤ 9223372036854775807 then ((impl_ListBullet.f a0 a1 a2 false a4 a5 a6_0 a6_1 a6_2 a6_3 a6_4 a6_5 a6_6 a6_7 a6_8).bind fun t133 => (some (t133.toList == (a6_2 ++ (⟨#[32]⟩ : ByteArray)).toList))) else (none)) else (if a2 = true then (if a6_3.size + 1 ≤ 9223372036854775807 then ((impl_ListBullet.f a0 a1 a2 false a4 a5 a6_0 a6_1 a6_2 a6_3 a6_4 a6_5 a6_6 a6_7 a6_8).bind fun t134 => (some (t134.toList == (a6_3 ++ (⟨#[32]⟩ : ByteArray)).toList))) else (none)) else (if a5 = true then (if a6_6.size + 1 ≤ 9223372036854775807 then ((impl_ListBullet.f a0 a1 a2 false a4 a5 a6_0 a6_1 a6_2 a6_3 a6_4 a6_5 a6_6 a6_7 a6_8).bind fun t135 => (some (t135.toList == (a6_6 ++ (⟨#[32]⟩ : ByteArray)).toList))) else (none)) else (if a4 = true then (if a6_6.size + 1 ≤ 9223372036854775807 then ((impl_ListBullet.f a0 a1 a2 false a4 a5 a6_0 a6_1 a6_2 a6_3 a6_4 a6_5 a6_6 a6_7 a6_8).bind fun t136 => (some (t136.toList == (a6_6 ++ (⟨#[32]⟩ : ByteArray)).toList))) else (none)) else (if a6_4.size + 1 ≤ 9223372036854775807 then ((impl_ListBullet.f a0 a1 a2 false a4 a5 a6_0 a6_1 a6_2 a6_3 a6_4 a6_5 a6_6 a6_7 a6_8).bind fun t137 => (some (t137.toList == (a6_4 ++ (⟨#[32]⟩ : ByteArray)).toList))) else (none)))))) = some r := by rw [if_neg (show ¬ (false = true) by decide)] at H; exact H
                            clear H
                            have H := H1
                            clear H1
                            by_cases c40 : a1 = true
                            · subst c40
                              have H1 : (if a6_2.size + 1 ≤ 9223372036854775807 then ((impl_ListBullet.f a0 true a2 false a4 a5 a6_0 a6_1 a6_2 a6_3 a6_4 a6_5 a6_6 a6_7 a6_8).bind fun t133 => (some (t133.toList == (a6_2 ++ (⟨#[32]⟩ : ByteArray)).toList))) else (none)) = some r := by rw [if_pos rfl] at H; exact H
                              clear H
                              have H := H1
                              clear H1
                              by_cases c41 : a6_2.size + 1 ≤ 9223372036854775807
                              · rw [if_pos c41] at H
                                have c41b0 := eq_true c41
                                have c41b1 : decide (a6_2.size + 1 ≤ 9223372036854775807) = true := decide_eq_true c41
                                try have c41b2 : (9223372036854775807 < a6_2.size + 1) = False := eq_false (Nat.not_lt.2 c41)
                                replace H := Option.bind_eq_some_iff.mp H
                                obtain ⟨t133, A420, H⟩ := H
                                replace H : (some (t133.toList == (a6_2 ++ (⟨#[32]⟩ : ByteArray)).toList)) = some r := H
                                have A42 := Aside0.mk A420
                                clear A420
                                obtain rfl := Option.some.inj H
                                have hcz43_0 : wc.cell? ⟨gb127, 0, none⟩ = some (.int .i64 a6_0) := (blk_cell BK127.out 0).trans rfl
                                have hcz43_1 : wc.cell? ⟨gb127, 1, none⟩ = some (.string a6_1) := (blk_cell BK127.out 1).trans rfl
                                have hcz43_2 : wc.cell? ⟨gb127, 2, none⟩ = some (.string a6_2) := (blk_cell BK127.out 2).trans rfl
                                have hcz43_3 : wc.cell? ⟨gb127, 3, none⟩ = some (.string a6_3) := (blk_cell BK127.out 3).trans rfl
                                have hcz43_4 : wc.cell? ⟨gb127, 4, none⟩ = some (.string a6_4) := (blk_cell BK127.out 4).trans rfl
                                have hcz43_5 : wc.cell? ⟨gb127, 5, none⟩ = some (.string a6_5) := (blk_cell BK127.out 5).trans rfl
                                have hcz43_6 : wc.cell? ⟨gb127, 6, none⟩ = some (.string a6_6) := (blk_cell BK127.out 6).trans rfl
                                have hcz43_7 : wc.cell? ⟨gb127, 7, none⟩ = some (.string a6_7) := (blk_cell BK127.out 7).trans rfl
                                have hcz43_8 : wc.cell? ⟨gb127, 8, none⟩ = some (.string a6_8) := (blk_cell BK127.out 8).trans rfl
                                have hfz43_0 := blk_frozen BK127.out 0
                                have hfz43_1 := blk_frozen BK127.out 1
                                have hfz43_2 := blk_frozen BK127.out 2
                                have hfz43_3 := blk_frozen BK127.out 3
                                have hfz43_4 := blk_frozen BK127.out 4
                                have hfz43_5 := blk_frozen BK127.out 5
                                have hfz43_6 := blk_frozen BK127.out 6
                                have hfz43_7 := blk_frozen BK127.out 7
                                have hfz43_8 := blk_frozen BK127.out 8
                                go_wp2_with (first | ((with_reducible refine gate_callee (f := 20) rfl ?_); refine goesL_ (some 83) rfl rfl Try.func20 (by kernel_rfl) rfl #[.int .i64 a0, .bool true, .bool a2, .bool false, .bool a4, .bool a5, .agg #[.int .i64 a6_0, .string a6_1, .string a6_2, .string a6_3, .string a6_4, .string a6_5, .string a6_6, .string a6_7, .string a6_8]] rfl (by (try simp only [List.map_toArray, List.map_cons, List.map_nil]); first | done | rfl | (simp only [List.length_drop, List.length_take]; rfl)) ?_; (with_reducible refine (impl_ListBullet.calls a0 true a2 false a4 a5 a6_0 a6_1 a6_2 a6_3 a6_4 a6_5 a6_6 a6_7 a6_8 t133 _ A42.out).mono ?_); rintro e w44 ⟨rfl, hb⟩; refine ⟨_, rfl, ?_⟩; have n0_ := Aside0.mk (blk_below (g := gb127) (o := .cells #[.int .i64 a6_0, .string a6_1, .string a6_2, .string a6_3, .string a6_4, .string a6_5, .string a6_6, .string a6_7, .string a6_8] 39 (0, 0)) (by (with_reducible repeat (first | refine blk_drewN ?_ _ | refine blk_drew ?_ | refine blk_alloc ?_ _)); exact BK127.out) hb); have n1_ := Aside0.mk (below_step (by repeat (first | (with_reducible first | exact HB.out | apply below_alloc | apply pw_below_drewN | apply below_drew1 | refine below_set ?_ GE127.out) | exact HB.out)) hb); clear BK127; clear HB; have BK127 := n0_; have HB := n1_; clear n0_ n1_; (try clear hb); (try clear hb2); (try clear hk); (try clear hi)))
                                go_ret
                                exact ⟨by first | rfl | (simp [errW_none, errW_some] <;> rfl) | (simp [*, errW_none, errW_some] <;> rfl), by repeat (first | (with_reducible first | exact HB.out | apply below_alloc | apply pw_below_drewN | apply below_drew1 | refine below_set ?_ GE127.out) | exact HB.out)⟩
                              · rw [if_neg c41] at H
                                exact absurd H (by simp)
                            · replace c40 := Bool.eq_false_iff.mpr c40
                              subst c40
                              have H1 : (if a2 = true then (if a6_3.size + 1 ≤ 9223372036854775807 then ((impl_ListBullet.f a0 false a2 false a4 a5 a6_0 a6_1 a6_2 a6_3 a6_4 a6_5 a6_6 a6_7 a6_8).bind fun t134 => (some (t134.toList == (a6_3 ++ (⟨#[32]⟩ : ByteArray)).toList))) else (none)) else (if a5 = true then (if a6_6.size + 1 ≤ 9223372036854775807 then ((impl_ListBullet.f a0 false a2 false a4 a5 a6_0 a6_1 a6_2 a6_3 a6_4 a6_5 a6_6 a6_7 a6_8).bind fun t135 => (some (t135.toList == (a6_6 ++ (⟨#[32]⟩ : ByteArray)).toList))) else (none)) else (if a4 = true then (if a6_6.size + 1 ≤ 9223372036854775807 then ((impl_ListBullet.f a0 false a2 false a4 a5 a6_0 a6_1 a6_2 a6_3 a6_4 a6_5 a6_6 a6_7 a6_8).bind fun t136 => (some (t136.toList == (a6_6 ++ (⟨#[32]⟩ : ByteArray)).toList))) else (none)) else (if a6_4.size + 1 ≤ 9223372036854775807 then ((impl_ListBullet.f a0 false a2 false a4 a5 a6_0 a6_1 a6_2 a6_3 a6_4 a6_5 a6_6 a6_7 a6_8).bind fun t137 => (some (t137.toList == (a6_4 ++ (⟨#[32]⟩ : ByteArray)).toList))) else (none))))) = some r := by rw [if_neg (show ¬ (false = true) by decide)] at H; exact H
                              clear H
                              have H := H1
                              clear H1
                              by_cases c45 : a2 = true
                              · subst c45
                                have H1 : (if a6_3.size + 1 ≤ 9223372036854775807 then ((impl_ListBullet.f a0 false true false a4 a5 a6_0 a6_1 a6_2 a6_3 a6_4 a6_5 a6_6 a6_7 a6_8).bind fun t134 => (some (t134.toList == (a6_3 ++ (⟨#[32]⟩ : ByteArray)).toList))) else (none)) = some r := by rw [if_pos rfl] at H; exact H
                                clear H
                                have H := H1
                                clear H1
                                by_cases c46 : a6_3.size + 1 ≤ 9223372036854775807
                                · rw [if_pos c46] at H
                                  have c46b0 := eq_true c46
                                  have c46b1 : decide (a6_3.size + 1 ≤ 9223372036854775807) = true := decide_eq_true c46
                                  try have c46b2 : (9223372036854775807 < a6_3.size + 1) = False := eq_false (Nat.not_lt.2 c46)
                                  replace H := Option.bind_eq_some_iff.mp H
                                  obtain ⟨t134, A470, H⟩ := H
                                  replace H : (some (t134.toList == (a6_3 ++ (⟨#[32]⟩ : ByteArray)).toList)) = some r := H
                                  have A47 := Aside0.mk A470
                                  clear A470
                                  obtain rfl := Option.some.inj H
                                  have hcz48_0 : wc.cell? ⟨gb127, 0, none⟩ = some (.int .i64 a6_0) := (blk_cell BK127.out 0).trans rfl
                                  have hcz48_1 : wc.cell? ⟨gb127, 1, none⟩ = some (.string a6_1) := (blk_cell BK127.out 1).trans rfl
                                  have hcz48_2 : wc.cell? ⟨gb127, 2, none⟩ = some (.string a6_2) := (blk_cell BK127.out 2).trans rfl
                                  have hcz48_3 : wc.cell? ⟨gb127, 3, none⟩ = some (.string a6_3) := (blk_cell BK127.out 3).trans rfl
                                  have hcz48_4 : wc.cell? ⟨gb127, 4, none⟩ = some (.string a6_4) := (blk_cell BK127.out 4).trans rfl
                                  have hcz48_5 : wc.cell? ⟨gb127, 5, none⟩ = some (.string a6_5) := (blk_cell BK127.out 5).trans rfl
                                  have hcz48_6 : wc.cell? ⟨gb127, 6, none⟩ = some (.string a6_6) := (blk_cell BK127.out 6).trans rfl
                                  have hcz48_7 : wc.cell? ⟨gb127, 7, none⟩ = some (.string a6_7) := (blk_cell BK127.out 7).trans rfl
                                  have hcz48_8 : wc.cell? ⟨gb127, 8, none⟩ = some (.string a6_8) := (blk_cell BK127.out 8).trans rfl
                                  have hfz48_0 := blk_frozen BK127.out 0
                                  have hfz48_1 := blk_frozen BK127.out 1
                                  have hfz48_2 := blk_frozen BK127.out 2
                                  have hfz48_3 := blk_frozen BK127.out 3
                                  have hfz48_4 := blk_frozen BK127.out 4
                                  have hfz48_5 := blk_frozen BK127.out 5
                                  have hfz48_6 := blk_frozen BK127.out 6
                                  have hfz48_7 := blk_frozen BK127.out 7
                                  have hfz48_8 := blk_frozen BK127.out 8
                                  go_wp2_with (first | ((with_reducible refine gate_callee (f := 20) rfl ?_); refine goesL_ (some 83) rfl rfl Try.func20 (by kernel_rfl) rfl #[.int .i64 a0, .bool false, .bool true, .bool false, .bool a4, .bool a5, .agg #[.int .i64 a6_0, .string a6_1, .string a6_2, .string a6_3, .string a6_4, .string a6_5, .string a6_6, .string a6_7, .string a6_8]] rfl (by (try simp only [List.map_toArray, List.map_cons, List.map_nil]); first | done | rfl | (simp only [List.length_drop, List.length_take]; rfl)) ?_; (with_reducible refine (impl_ListBullet.calls a0 false true false a4 a5 a6_0 a6_1 a6_2 a6_3 a6_4 a6_5 a6_6 a6_7 a6_8 t134 _ A47.out).mono ?_); rintro e w49 ⟨rfl, hb⟩; refine ⟨_, rfl, ?_⟩; have n0_ := Aside0.mk (blk_below (g := gb127) (o := .cells #[.int .i64 a6_0, .string a6_1, .string a6_2, .string a6_3, .string a6_4, .string a6_5, .string a6_6, .string a6_7, .string a6_8] 39 (0, 0)) (by (with_reducible repeat (first | refine blk_drewN ?_ _ | refine blk_drew ?_ | refine blk_alloc ?_ _)); exact BK127.out) hb); have n1_ := Aside0.mk (below_step (by repeat (first | (with_reducible first | exact HB.out | apply below_alloc | apply pw_below_drewN | apply below_drew1 | refine below_set ?_ GE127.out) | exact HB.out)) hb); clear BK127; clear HB; have BK127 := n0_; have HB := n1_; clear n0_ n1_; (try clear hb); (try clear hb2); (try clear hk); (try clear hi)))
                                  go_ret
                                  exact ⟨by first | rfl | (simp [errW_none, errW_some] <;> rfl) | (simp [*, errW_none, errW_some] <;> rfl), by repeat (first | (with_reducible first | exact HB.out | apply below_alloc | apply pw_below_drewN | apply below_drew1 | refine below_set ?_ GE127.out) | exact HB.out)⟩
                                · rw [if_neg c46] at H
                                  exact absurd H (by simp)
                              · replace c45 := Bool.eq_false_iff.mpr c45
                                subst c45
                                have H1 : (if a5 = true then (if a6_6.size + 1 ≤ 9223372036854775807 then ((impl_ListBullet.f a0 false false false a4 a5 a6_0 a6_1 a6_2 a6_3 a6_4 a6_5 a6_6 a6_7 a6_8).bind fun t135 => (some (t135.toList == (a6_6 ++ (⟨#[32]⟩ : ByteArray)).toList))) else (none)) else (if a4 = true then (if a6_6.size + 1 ≤ 9223372036854775807 then ((impl_ListBullet.f a0 false false false a4 a5 a6_0 a6_1 a6_2 a6_3 a6_4 a6_5 a6_6 a6_7 a6_8).bind fun t136 => (some (t136.toList == (a6_6 ++ (⟨#[32]⟩ : ByteArray)).toList))) else (none)) else (if a6_4.size + 1 ≤ 9223372036854775807 then ((impl_ListBullet.f a0 false false false a4 a5 a6_0 a6_1 a6_2 a6_3 a6_4 a6_5 a6_6 a6_7 a6_8).bind fun t137 => (some (t137.toList == (a6_4 ++ (⟨#[32]⟩ : ByteArray)).toList))) else (none)))) = some r := by rw [if_neg (show ¬ (false = true) by decide)] at H; exact H
                                clear H
                                have H := H1
                                clear H1
                                by_cases c50 : a5 = true
                                · subst c50
                                  have H1 : (if a6_6.size + 1 ≤ 9223372036854775807 then ((impl_ListBullet.f a0 false false false a4 true a6_0 a6_1 a6_2 a6_3 a6_4 a6_5 a6_6 a6_7 a6_8).bind fun t135 => (some (t135.toList == (a6_6 ++ (⟨#[32]⟩ : ByteArray)).toList))) else (none)) = some r := by rw [if_pos rfl] at H; exact H
                                  clear H
                                  have H := H1
                                  clear H1
                                  by_cases c51 : a6_6.size + 1 ≤ 9223372036854775807
                                  · rw [if_pos c51] at H
                                    have c51b0 := eq_true c51
                                    have c51b1 : decide (a6_6.size + 1 ≤ 9223372036854775807) = true := decide_eq_true c51
                                    try have c51b2 : (9223372036854775807 < a6_6.size + 1) = False := eq_false (Nat.not_lt.2 c51)
                                    replace H := Option.bind_eq_some_iff.mp H
                                    obtain ⟨t135, A520, H⟩ := H
                                    replace H : (some (t135.toList == (a6_6 ++ (⟨#[32]⟩ : ByteArray)).toList)) = some r := H
                                    have A52 := Aside0.mk A520
                                    clear A520
                                    obtain rfl := Option.some.inj H
                                    have hcz53_0 : wc.cell? ⟨gb127, 0, none⟩ = some (.int .i64 a6_0) := (blk_cell BK127.out 0).trans rfl
                                    have hcz53_1 : wc.cell? ⟨gb127, 1, none⟩ = some (.string a6_1) := (blk_cell BK127.out 1).trans rfl
                                    have hcz53_2 : wc.cell? ⟨gb127, 2, none⟩ = some (.string a6_2) := (blk_cell BK127.out 2).trans rfl
                                    have hcz53_3 : wc.cell? ⟨gb127, 3, none⟩ = some (.string a6_3) := (blk_cell BK127.out 3).trans rfl
                                    have hcz53_4 : wc.cell? ⟨gb127, 4, none⟩ = some (.string a6_4) := (blk_cell BK127.out 4).trans rfl
                                    have hcz53_5 : wc.cell? ⟨gb127, 5, none⟩ = some (.string a6_5) := (blk_cell BK127.out 5).trans rfl
                                    have hcz53_6 : wc.cell? ⟨gb127, 6, none⟩ = some (.string a6_6) := (blk_cell BK127.out 6).trans rfl
                                    have hcz53_7 : wc.cell? ⟨gb127, 7, none⟩ = some (.string a6_7) := (blk_cell BK127.out 7).trans rfl
                                    have hcz53_8 : wc.cell? ⟨gb127, 8, none⟩ = some (.string a6_8) := (blk_cell BK127.out 8).trans rfl
                                    have hfz53_0 := blk_frozen BK127.out 0
                                    have hfz53_1 := blk_frozen BK127.out 1
                                    have hfz53_2 := blk_frozen BK127.out 2
                                    have hfz53_3 := blk_frozen BK127.out 3
                                    have hfz53_4 := blk_frozen BK127.out 4
                                    have hfz53_5 := blk_frozen BK127.out 5
                                    have hfz53_6 := blk_frozen BK127.out 6
                                    have hfz53_7 := blk_frozen BK127.out 7
                                    have hfz53_8 := blk_frozen BK127.out 8
                                    go_wp2_with (first | ((with_reducible refine gate_callee (f := 20) rfl ?_); refine goesL_ (some 83) rfl rfl Try.func20 (by kernel_rfl) rfl #[.int .i64 a0, .bool false, .bool false, .bool false, .bool a4, .bool true, .agg #[.int .i64 a6_0, .string a6_1, .string a6_2, .string a6_3, .string a6_4, .string a6_5, .string a6_6, .string a6_7, .string a6_8]] rfl (by (try simp only [List.map_toArray, List.map_cons, List.map_nil]); first | done | rfl | (simp only [List.length_drop, List.length_take]; rfl)) ?_; (with_reducible refine (impl_ListBullet.calls a0 false false false a4 true a6_0 a6_1 a6_2 a6_3 a6_4 a6_5 a6_6 a6_7 a6_8 t135 _ A52.out).mono ?_); rintro e w54 ⟨rfl, hb⟩; refine ⟨_, rfl, ?_⟩; have n0_ := Aside0.mk (blk_below (g := gb127) (o := .cells #[.int .i64 a6_0, .string a6_1, .string a6_2, .string a6_3, .string a6_4, .string a6_5, .string a6_6, .string a6_7, .string a6_8] 39 (0, 0)) (by (with_reducible repeat (first | refine blk_drewN ?_ _ | refine blk_drew ?_ | refine blk_alloc ?_ _)); exact BK127.out) hb); have n1_ := Aside0.mk (below_step (by repeat (first | (with_reducible first | exact HB.out | apply below_alloc | apply pw_below_drewN | apply below_drew1 | refine below_set ?_ GE127.out) | exact HB.out)) hb); clear BK127; clear HB; have BK127 := n0_; have HB := n1_; clear n0_ n1_; (try clear hb); (try clear hb2); (try clear hk); (try clear hi)))
                                    go_ret
                                    exact ⟨by first | rfl | (simp [errW_none, errW_some] <;> rfl) | (simp [*, errW_none, errW_some] <;> rfl), by repeat (first | (with_reducible first | exact HB.out | apply below_alloc | apply pw_below_drewN | apply below_drew1 | refine below_set ?_ GE127.out) | exact HB.out)⟩
                                  · rw [if_neg c51] at H
                                    exact absurd H (by simp)
                                · replace c50 := Bool.eq_false_iff.mpr c50
                                  subst c50
                                  have H1 : (if a4 = true then (if a6_6.size + 1 ≤ 9223372036854775807 then ((impl_ListBullet.f a0 false false false a4 false a6_0 a6_1 a6_2 a6_3 a6_4 a6_5 a6_6 a6_7 a6_8).bind fun t136 => (some (t136.toList == (a6_6 ++ (⟨#[32]⟩ : ByteArray)).toList))) else (none)) else (if a6_4.size + 1 ≤ 9223372036854775807 then ((impl_ListBullet.f a0 false false false a4 false a6_0 a6_1 a6_2 a6_3 a6_4 a6_5 a6_6 a6_7 a6_8).bind fun t137 => (some (t137.toList == (a6_4 ++ (⟨#[32]⟩ : ByteArray)).toList))) else (none))) = some r := by rw [if_neg (show ¬ (false = true) by decide)] at H; exact H
                                  clear H
                                  have H := H1
                                  clear H1
                                  by_cases c55 : a4 = true
                                  · subst c55
                                    have H1 : (if a6_6.size + 1 ≤ 9223372036854775807 then ((impl_ListBullet.f a0 false false false true false a6_0 a6_1 a6_2 a6_3 a6_4 a6_5 a6_6 a6_7 a6_8).bind fun t136 => (some (t136.toList == (a6_6 ++ (⟨#[32]⟩ : ByteArray)).toList))) else (none)) = some r := by rw [if_pos rfl] at H; exact H
                                    clear H
                                    have H := H1
                                    clear H1
                                    by_cases c56 : a6_6.size + 1 ≤ 9223372036854775807
                                    · rw [if_pos c56] at H
                                      have c56b0 := eq_true c56
                                      have c56b1 : decide (a6_6.size + 1 ≤ 9223372036854775807) = true := decide_eq_true c56
                                      try have c56b2 : (9223372036854775807 < a6_6.size + 1) = False := eq_false (Nat.not_lt.2 c56)
                                      replace H := Option.bind_eq_some_iff.mp H
                                      obtain ⟨t136, A570, H⟩ := H
                                      replace H : (some (t136.toList == (a6_6 ++ (⟨#[32]⟩ : ByteArray)).toList)) = some r := H
                                      have A57 := Aside0.mk A570
                                      clear A570
                                      obtain rfl := Option.some.inj H
                                      have hcz58_0 : wc.cell? ⟨gb127, 0, none⟩ = some (.int .i64 a6_0) := (blk_cell BK127.out 0).trans rfl
                                      have hcz58_1 : wc.cell? ⟨gb127, 1, none⟩ = some (.string a6_1) := (blk_cell BK127.out 1).trans rfl
                                      have hcz58_2 : wc.cell? ⟨gb127, 2, none⟩ = some (.string a6_2) := (blk_cell BK127.out 2).trans rfl
                                      have hcz58_3 : wc.cell? ⟨gb127, 3, none⟩ = some (.string a6_3) := (blk_cell BK127.out 3).trans rfl
                                      have hcz58_4 : wc.cell? ⟨gb127, 4, none⟩ = some (.string a6_4) := (blk_cell BK127.out 4).trans rfl
                                      have hcz58_5 : wc.cell? ⟨gb127, 5, none⟩ = some (.string a6_5) := (blk_cell BK127.out 5).trans rfl
                                      have hcz58_6 : wc.cell? ⟨gb127, 6, none⟩ = some (.string a6_6) := (blk_cell BK127.out 6).trans rfl
                                      have hcz58_7 : wc.cell? ⟨gb127, 7, none⟩ = some (.string a6_7) := (blk_cell BK127.out 7).trans rfl
                                      have hcz58_8 : wc.cell? ⟨gb127, 8, none⟩ = some (.string a6_8) := (blk_cell BK127.out 8).trans rfl
                                      have hfz58_0 := blk_frozen BK127.out 0
                                      have hfz58_1 := blk_frozen BK127.out 1
                                      have hfz58_2 := blk_frozen BK127.out 2
                                      have hfz58_3 := blk_frozen BK127.out 3
                                      have hfz58_4 := blk_frozen BK127.out 4
                                      have hfz58_5 := blk_frozen BK127.out 5
                                      have hfz58_6 := blk_frozen BK127.out 6
                                      have hfz58_7 := blk_frozen BK127.out 7
                                      have hfz58_8 := blk_frozen BK127.out 8
                                      go_wp2_with (first | ((with_reducible refine gate_callee (f := 20) rfl ?_); refine goesL_ (some 83) rfl rfl Try.func20 (by kernel_rfl) rfl #[.int .i64 a0, .bool false, .bool false, .bool false, .bool true, .bool false, .agg #[.int .i64 a6_0, .string a6_1, .string a6_2, .string a6_3, .string a6_4, .string a6_5, .string a6_6, .string a6_7, .string a6_8]] rfl (by (try simp only [List.map_toArray, List.map_cons, List.map_nil]); first | done | rfl | (simp only [List.length_drop, List.length_take]; rfl)) ?_; (with_reducible refine (impl_ListBullet.calls a0 false false false true false a6_0 a6_1 a6_2 a6_3 a6_4 a6_5 a6_6 a6_7 a6_8 t136 _ A57.out).mono ?_); rintro e w59 ⟨rfl, hb⟩; refine ⟨_, rfl, ?_⟩; have n0_ := Aside0.mk (blk_below (g := gb127) (o := .cells #[.int .i64 a6_0, .string a6_1, .string a6_2, .string a6_3, .string a6_4, .string a6_5, .string a6_6, .string a6_7, .string a6_8] 39 (0, 0)) (by (with_reducible repeat (first | refine blk_drewN ?_ _ | refine blk_drew ?_ | refine blk_alloc ?_ _)); exact BK127.out) hb); have n1_ := Aside0.mk (below_step (by repeat (first | (with_reducible first | exact HB.out | apply below_alloc | apply pw_below_drewN | apply below_drew1 | refine below_set ?_ GE127.out) | exact HB.out)) hb); clear BK127; clear HB; have BK127 := n0_; have HB := n1_; clear n0_ n1_; (try clear hb); (try clear hb2); (try clear hk); (try clear hi)))
                                      go_ret
                                      exact ⟨by first | rfl | (simp [errW_none, errW_some] <;> rfl) | (simp [*, errW_none, errW_some] <;> rfl), by repeat (first | (with_reducible first | exact HB.out | apply below_alloc | apply pw_below_drewN | apply below_drew1 | refine below_set ?_ GE127.out) | exact HB.out)⟩
                                    · rw [if_neg c56] at H
                                      exact absurd H (by simp)
                                  · replace c55 := Bool.eq_false_iff.mpr c55
                                    subst c55
                                    have H1 : (if a6_4.size + 1 ≤ 9223372036854775807 then ((impl_ListBullet.f a0 false false false false false a6_0 a6_1 a6_2 a6_3 a6_4 a6_5 a6_6 a6_7 a6_8).bind fun t137 => (some (t137.toList == (a6_4 ++ (⟨#[32]⟩ : ByteArray)).toList))) else (none)) = some r := by rw [if_neg (show ¬ (false = true) by decide)] at H; exact H
                                    clear H
                                    have H := H1
                                    clear H1
                                    by_cases c60 : a6_4.size + 1 ≤ 9223372036854775807
                                    · rw [if_pos c60] at H
                                      have c60b0 := eq_true c60
                                      have c60b1 : decide (a6_4.size + 1 ≤ 9223372036854775807) = true := decide_eq_true c60
                                      try have c60b2 : (9223372036854775807 < a6_4.size + 1) = False := eq_false (Nat.not_lt.2 c60)
                                      replace H := Option.bind_eq_some_iff.mp H
                                      obtain ⟨t137, A610, H⟩ := H
                                      replace H : (some (t137.toList == (a6_4 ++ (⟨#[32]⟩ : ByteArray)).toList)) = some r := H
                                      have A61 := Aside0.mk A610
                                      clear A610
                                      obtain rfl := Option.some.inj H
                                      have hcz62_0 : wc.cell? ⟨gb127, 0, none⟩ = some (.int .i64 a6_0) := (blk_cell BK127.out 0).trans rfl
                                      have hcz62_1 : wc.cell? ⟨gb127, 1, none⟩ = some (.string a6_1) := (blk_cell BK127.out 1).trans rfl
                                      have hcz62_2 : wc.cell? ⟨gb127, 2, none⟩ = some (.string a6_2) := (blk_cell BK127.out 2).trans rfl
                                      have hcz62_3 : wc.cell? ⟨gb127, 3, none⟩ = some (.string a6_3) := (blk_cell BK127.out 3).trans rfl
                                      have hcz62_4 : wc.cell? ⟨gb127, 4, none⟩ = some (.string a6_4) := (blk_cell BK127.out 4).trans rfl
                                      have hcz62_5 : wc.cell? ⟨gb127, 5, none⟩ = some (.string a6_5) := (blk_cell BK127.out 5).trans rfl
                                      have hcz62_6 : wc.cell? ⟨gb127, 6, none⟩ = some (.string a6_6) := (blk_cell BK127.out 6).trans rfl
                                      have hcz62_7 : wc.cell? ⟨gb127, 7, none⟩ = some (.string a6_7) := (blk_cell BK127.out 7).trans rfl
                                      have hcz62_8 : wc.cell? ⟨gb127, 8, none⟩ = some (.string a6_8) := (blk_cell BK127.out 8).trans rfl
                                      have hfz62_0 := blk_frozen BK127.out 0
                                      have hfz62_1 := blk_frozen BK127.out 1
                                      have hfz62_2 := blk_frozen BK127.out 2
                                      have hfz62_3 := blk_frozen BK127.out 3
                                      have hfz62_4 := blk_frozen BK127.out 4
                                      have hfz62_5 := blk_frozen BK127.out 5
                                      have hfz62_6 := blk_frozen BK127.out 6
                                      have hfz62_7 := blk_frozen BK127.out 7
                                      have hfz62_8 := blk_frozen BK127.out 8
                                      go_wp2_with (first | ((with_reducible refine gate_callee (f := 20) rfl ?_); refine goesL_ (some 83) rfl rfl Try.func20 (by kernel_rfl) rfl #[.int .i64 a0, .bool false, .bool false, .bool false, .bool false, .bool false, .agg #[.int .i64 a6_0, .string a6_1, .string a6_2, .string a6_3, .string a6_4, .string a6_5, .string a6_6, .string a6_7, .string a6_8]] rfl (by (try simp only [List.map_toArray, List.map_cons, List.map_nil]); first | done | rfl | (simp only [List.length_drop, List.length_take]; rfl)) ?_; (with_reducible refine (impl_ListBullet.calls a0 false false false false false a6_0 a6_1 a6_2 a6_3 a6_4 a6_5 a6_6 a6_7 a6_8 t137 _ A61.out).mono ?_); rintro e w63 ⟨rfl, hb⟩; refine ⟨_, rfl, ?_⟩; have n0_ := Aside0.mk (blk_below (g := gb127) (o := .cells #[.int .i64 a6_0, .string a6_1, .string a6_2, .string a6_3, .string a6_4, .string a6_5, .string a6_6, .string a6_7, .string a6_8] 39 (0, 0)) (by (with_reducible repeat (first | refine blk_drewN ?_ _ | refine blk_drew ?_ | refine blk_alloc ?_ _)); exact BK127.out) hb); have n1_ := Aside0.mk (below_step (by repeat (first | (with_reducible first | exact HB.out | apply below_alloc | apply pw_below_drewN | apply below_drew1 | refine below_set ?_ GE127.out) | exact HB.out)) hb); clear BK127; clear HB; have BK127 := n0_; have HB := n1_; clear n0_ n1_; (try clear hb); (try clear hb2); (try clear hk); (try clear hi)))
                                      go_ret
                                      exact ⟨by first | rfl | (simp [errW_none, errW_some] <;> rfl) | (simp [*, errW_none, errW_some] <;> rfl), by repeat (first | (with_reducible first | exact HB.out | apply below_alloc | apply pw_below_drewN | apply below_drew1 | refine below_set ?_ GE127.out) | exact HB.out)⟩
                                    · rw [if_neg c60] at H
                                      exact absurd H (by simp)
                  · rw [if_neg c27] at H
                    have c27b0 : (a0 == 0) = false := beq_eq_false_iff_ne.mpr c27
                    have c27b1 : (a0 != 0) = true := bne_iff_ne.mpr c27
                    replace H := Option.bind_eq_some_iff.mp H
                    obtain ⟨t138, A640, H⟩ := H
                    replace H : (some (t138.toList == x15_22.toList)) = some r := H
                    have A64 := Aside0.mk A640
                    clear A640
                    obtain rfl := Option.some.inj H
                    have hcz65_0 : wc.cell? ⟨gb127, 0, none⟩ = some (.int .i64 a6_0) := (blk_cell BK127.out 0).trans rfl
                    have hcz65_1 : wc.cell? ⟨gb127, 1, none⟩ = some (.string a6_1) := (blk_cell BK127.out 1).trans rfl
                    have hcz65_2 : wc.cell? ⟨gb127, 2, none⟩ = some (.string a6_2) := (blk_cell BK127.out 2).trans rfl
                    have hcz65_3 : wc.cell? ⟨gb127, 3, none⟩ = some (.string a6_3) := (blk_cell BK127.out 3).trans rfl
                    have hcz65_4 : wc.cell? ⟨gb127, 4, none⟩ = some (.string a6_4) := (blk_cell BK127.out 4).trans rfl
                    have hcz65_5 : wc.cell? ⟨gb127, 5, none⟩ = some (.string a6_5) := (blk_cell BK127.out 5).trans rfl
                    have hcz65_6 : wc.cell? ⟨gb127, 6, none⟩ = some (.string a6_6) := (blk_cell BK127.out 6).trans rfl
                    have hcz65_7 : wc.cell? ⟨gb127, 7, none⟩ = some (.string a6_7) := (blk_cell BK127.out 7).trans rfl
                    have hcz65_8 : wc.cell? ⟨gb127, 8, none⟩ = some (.string a6_8) := (blk_cell BK127.out 8).trans rfl
                    have hfz65_0 := blk_frozen BK127.out 0
                    have hfz65_1 := blk_frozen BK127.out 1
                    have hfz65_2 := blk_frozen BK127.out 2
                    have hfz65_3 := blk_frozen BK127.out 3
                    have hfz65_4 := blk_frozen BK127.out 4
                    have hfz65_5 := blk_frozen BK127.out 5
                    have hfz65_6 := blk_frozen BK127.out 6
                    have hfz65_7 := blk_frozen BK127.out 7
                    have hfz65_8 := blk_frozen BK127.out 8
                    go_wp2_with (first | ((with_reducible refine gate_callee (f := 20) rfl ?_); refine goesL_ (some 83) rfl rfl Try.func20 (by kernel_rfl) rfl #[.int .i64 a0, .bool a1, .bool a2, .bool a3, .bool a4, .bool a5, .agg #[.int .i64 a6_0, .string a6_1, .string a6_2, .string a6_3, .string a6_4, .string a6_5, .string a6_6, .string a6_7, .string a6_8]] rfl (by (try simp only [List.map_toArray, List.map_cons, List.map_nil]); first | done | rfl | (simp only [List.length_drop, List.length_take]; rfl)) ?_; (with_reducible refine (impl_ListBullet.calls a0 a1 a2 a3 a4 a5 a6_0 a6_1 a6_2 a6_3 a6_4 a6_5 a6_6 a6_7 a6_8 t138 _ A64.out).mono ?_); rintro e w66 ⟨rfl, hb⟩; refine ⟨_, rfl, ?_⟩; have n0_ := Aside0.mk (blk_below (g := gb127) (o := .cells #[.int .i64 a6_0, .string a6_1, .string a6_2, .string a6_3, .string a6_4, .string a6_5, .string a6_6, .string a6_7, .string a6_8] 39 (0, 0)) (by (with_reducible repeat (first | refine blk_drewN ?_ _ | refine blk_drew ?_ | refine blk_alloc ?_ _)); exact BK127.out) hb); have n1_ := Aside0.mk (below_step (by repeat (first | (with_reducible first | exact HB.out | apply below_alloc | apply pw_below_drewN | apply below_drew1 | refine below_set ?_ GE127.out) | exact HB.out)) hb); clear BK127; clear HB; have BK127 := n0_; have HB := n1_; clear n0_ n1_; (try clear hb); (try clear hb2); (try clear hk); (try clear hi)))
                    go_ret
                    exact ⟨by first | rfl | (simp [errW_none, errW_some] <;> rfl) | (simp [*, errW_none, errW_some] <;> rfl), by repeat (first | (with_reducible first | exact HB.out | apply below_alloc | apply pw_below_drewN | apply below_drew1 | refine below_set ?_ GE127.out) | exact HB.out)⟩
  · replace c9 := Bool.eq_false_iff.mpr c9
    subst c9
    have H1 : (some true) = some r := by rw [if_neg (show ¬ (false = true) by decide)] at H; exact H
    clear H
    have H := H1
    clear H1
    obtain rfl := Option.some.inj H
    go_enter Try.func6, Try.ntmps6
    go_wp2_with (first | ((with_reducible refine gate_dst (N := 13) rfl ?_); (try (refine gate_guard (by rfl) ?_; dsimp only)); refine box_event ?hg (N := 13) ?hd (cs := #[.int .i64 a6_0, .string a6_1, .string a6_2, .string a6_3, .string a6_4, .string a6_5, .string a6_6, .string a6_7, .string a6_8]) (t := 39) ?hr ?_; (case hd => rfl); (case hg => rfl); (case hr => first | (go_simp; done) | (go_simp; rfl)); intro gb127 hg w67 hbox hb; have n0_ := Aside0.mk (below_step (by repeat (first | (with_reducible first | exact HB.out | apply below_alloc | apply pw_below_drewN | apply below_drew1) | exact HB.out)) hb); have n1_ := Aside0.mk (hbox); have n2_ := Aside0.mk ((by rw [hg]; exact (below_size (by repeat (first | (with_reducible first | exact HB.out | apply below_alloc | apply pw_below_drewN | apply below_drew1) | exact HB.out))) : w.heap.size ≤ gb127)); have n3_ := Aside0.mk ((by rw [hg]; exact (below_size (by repeat (first | (with_reducible first | exact HB.out | apply below_alloc | apply pw_below_drewN | apply below_drew1) | exact HB.out))) : w.heap.size ≤ gb127)); clear HB; have HB := n0_; have BK127 := n1_; have GW127 := n2_; have GE127 := n3_; clear n0_ n1_ n2_ n3_; clear hb hbox hg; have hcz68_0 : w67.cell? ⟨gb127, 0, none⟩ = some (.int .i64 a6_0) := (blk_cell BK127.out 0).trans rfl; have hcz68_1 : w67.cell? ⟨gb127, 1, none⟩ = some (.string a6_1) := (blk_cell BK127.out 1).trans rfl; have hcz68_2 : w67.cell? ⟨gb127, 2, none⟩ = some (.string a6_2) := (blk_cell BK127.out 2).trans rfl; have hcz68_3 : w67.cell? ⟨gb127, 3, none⟩ = some (.string a6_3) := (blk_cell BK127.out 3).trans rfl; have hcz68_4 : w67.cell? ⟨gb127, 4, none⟩ = some (.string a6_4) := (blk_cell BK127.out 4).trans rfl; have hcz68_5 : w67.cell? ⟨gb127, 5, none⟩ = some (.string a6_5) := (blk_cell BK127.out 5).trans rfl; have hcz68_6 : w67.cell? ⟨gb127, 6, none⟩ = some (.string a6_6) := (blk_cell BK127.out 6).trans rfl; have hcz68_7 : w67.cell? ⟨gb127, 7, none⟩ = some (.string a6_7) := (blk_cell BK127.out 7).trans rfl; have hcz68_8 : w67.cell? ⟨gb127, 8, none⟩ = some (.string a6_8) := (blk_cell BK127.out 8).trans rfl; have hfz68_0 := blk_frozen BK127.out 0; have hfz68_1 := blk_frozen BK127.out 1; have hfz68_2 := blk_frozen BK127.out 2; have hfz68_3 := blk_frozen BK127.out 3; have hfz68_4 := blk_frozen BK127.out 4; have hfz68_5 := blk_frozen BK127.out 5; have hfz68_6 := blk_frozen BK127.out 6; have hfz68_7 := blk_frozen BK127.out 7; have hfz68_8 := blk_frozen BK127.out 8) | ((with_reducible refine gate_callee (f := 17) rfl ?_); refine goesL_ (some 17) rfl rfl Try.func17 (by kernel_rfl) rfl #[.agg #[.int .i64 a6_0, .string a6_1, .string a6_2, .string a6_3, .string a6_4, .string a6_5, .string a6_6, .string a6_7, .string a6_8]] rfl (by (try simp only [List.map_toArray, List.map_cons, List.map_nil]); first | done | rfl | (simp only [List.length_drop, List.length_take]; rfl)) ?_; (with_reducible refine (laws_zzFits3.calls a6_0 a6_1 a6_2 a6_3 a6_4 a6_5 a6_6 a6_7 a6_8 false _ A8.out).mono ?_); rintro e w69 ⟨rfl, hb⟩; refine ⟨_, rfl, ?_⟩; have n0_ := Aside0.mk (blk_below (g := gb127) (o := .cells #[.int .i64 a6_0, .string a6_1, .string a6_2, .string a6_3, .string a6_4, .string a6_5, .string a6_6, .string a6_7, .string a6_8] 39 (0, 0)) (by (with_reducible repeat (first | refine blk_drewN ?_ _ | refine blk_drew ?_ | refine blk_alloc ?_ _)); exact BK127.out) hb); have n1_ := Aside0.mk (below_step (by repeat (first | (with_reducible first | exact HB.out | apply below_alloc | apply pw_below_drewN | apply below_drew1 | refine below_set ?_ GE127.out) | exact HB.out)) hb); clear BK127; clear HB; have BK127 := n0_; have HB := n1_; clear n0_ n1_; (try clear hb); (try clear hb2); (try clear hk); (try clear hi)))
    go_ret
    exact ⟨by first | rfl | (simp [errW_none, errW_some] <;> rfl) | (simp [*, errW_none, errW_some] <;> rfl), by repeat (first | (with_reducible first | exact HB.out | apply below_alloc | apply pw_below_drewN | apply below_drew1 | refine below_set ?_ GE127.out) | exact HB.out)⟩

end Go.Proofs.Ytelbcekkfdpoaaa.GFnPartBullet
