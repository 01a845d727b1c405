/- The walk of the law: hidden twice is hidden together. -/
import Derived.Test.YtjpdkmmpofddlaaHpu
namespace Go.Proofs.Ytjpdkmmpofddlaa.Hlw
open Go Go.RowKit Go.Proofs.YtjpdkmmpofddlaaW.PrintWords Go.Proofs.YtjpdkmmpofddlaaW.PrintMore Go.Proofs.Ytjpdkmmpofddlaa.Cfg Go.Proofs.Ytjpdkmmpofddlaa.Hid Go.Proofs.Ytjpdkmmpofddlaa.Hzz Go.Proofs.Ytjpdkmmpofddlaa.Hpu Go.Proofs.Ytjpdkmmpofddlaa.Small Go.Proofs.Ytjpdkmmpofddlaa.GHidBody

theorem one_lit (w : World) (g1 g2 : Nat) (x : ByteArray) (h1 : w.heap[g1]? = some (.cells #[.string x] 9 (0, 0))) (h2 : w.heap[g2]? = some (.cells #[.slice (some ⟨g1, 0, none⟩) 1 1] 33 (0, 0))) : Kd.C kt w (some ⟨g2, 0, none⟩) 1 [[x]] := by
  refine ⟨rfl, by decide, fun _ => ⟨_, rfl, fun j p hp => ?_⟩⟩
  have hj : j = 0 := by
    have := (List.getElem?_eq_some_iff.1 hp).1
    simpa using this
  subst hj
  obtain rfl : [x] = p := by simpa using hp
  refine ⟨[.slice (some ⟨g1, 0, none⟩) 1 1], rfl, ⟨_, 1, rfl, Nat.le_refl _, rfl, by simp, fun _ => ⟨_, rfl, fun j p hp => ?_⟩⟩, fun i u hi => ?_⟩
  · have hj : j = 0 := by
      have := (List.getElem?_eq_some_iff.1 hp).1
      simpa using this
    subst hj
    obtain rfl : x = p := by simpa using hp
    refine ⟨[.string x], rfl, rfl, fun i u hi => ?_⟩
    have hi0 : i = 0 := by
      have := (List.getElem?_eq_some_iff.1 hi).1
      simpa using this
    subst hi0
    obtain rfl : Value.string x = u := by simpa using hi
    exact cell_of_row w g1 0 _ 9 _ h1
  · have hi0 : i = 0 := by
      have := (List.getElem?_eq_some_iff.1 hi).1
      simpa using this
    subst hi0
    obtain rfl : Value.slice (some ⟨g1, 0, none⟩) 1 1 = u := by simpa using hi
    exact cell_of_row w g2 0 _ 33 _ h2

theorem first_call (A0 : Option Addr) (c0 : Nat) (l0 : List (List ByteArray)) (A1 : Option Addr) (c1 m : Nat) (l1 : List Bool) (w : World) (hm : m = l1.length) (hr0 : Kd.C kt w A0 l0.length l0) (hc0 : l0.length ≤ c0) (hr1 : Kd.C Kd.bool w A1 m l1) (h1 : m ≤ 200) (h0 : l0.length ≤ 60) (hl : ∀ r ∈ l0, r.length ≤ 2147483647) :
    Calls Try.prog 10 #[.slice A0 l0.length c0, .slice A1 m c1] w fun e w' => ∃ A c, e = .returned (.tuple #[.slice A l0.length c, .int .i64 (maxTo (cf l1) l0 0 l0.length)]) ∧ l0.length ≤ c ∧ Kd.F kt w' (fun _ => True) A l0.length (rowsTo (cf l1) l0 l0.length) ∧ Below w.heap.size w w' :=
  hiddenOf A0 c0 l0.length l0 A1 c1 m l1 w rfl hm hr0 hc0 hr1 (by omega) (by omega) hl (by have := tot_small l0 hl l0.length (Nat.le_refl _); omega)
theorem second_call (A0 : Option Addr) (c0 : Nat) (l0 : List (List ByteArray)) (l1 : List Bool) (A2 : Option Addr) (c2 : Nat) (l2 : List Bool) (w : World) (hr0 : Kd.C kt w A0 l0.length (rowsTo (cf l1) l0 l0.length)) (hc0 : l0.length ≤ c0) (hr2 : Kd.C Kd.bool w A2 l2.length l2) (h2 : l2.length ≤ 200) (h0 : l0.length ≤ 60) (hl : ∀ r ∈ l0, r.length ≤ 2147483647) :
    Calls Try.prog 10 #[.slice A0 l0.length c0, .slice A2 l2.length c2] w fun e w' => ∃ A c, e = .returned (.tuple #[.slice A l0.length c, .int .i64 (maxTo (cf (tog l1 l2)) l0 0 l0.length)]) ∧ l0.length ≤ c ∧ Kd.F kt w' (fun _ => True) A l0.length (rowsTo (cf (tog l1 l2)) l0 l0.length) ∧ Below w.heap.size w w' := by
  rw [← max_twice l1 l2 l0 l0.length l0.length (Nat.le_refl _), ← rows_twice l1 l2 l0 l0.length l0.length (Nat.le_refl _)]
  exact hiddenOf A0 c0 l0.length (rowsTo (cf l1) l0 l0.length) A2 c2 l2.length l2 w (rowsTo_len _ _ _).symm rfl hr0 hc0 hr2 (by omega) (by omega) (mem_rowsTo _ _ hl _ (Nat.le_refl _))
    (by have := tot_small l0 hl l0.length (Nat.le_refl _); have := tot_le (cf l1) l0 l0.length l0.length (Nat.le_refl _); omega)
theorem last_call (g : Nat) (x : ByteArray) (w : World) (h : Kd.C kt w (some ⟨g, 0, none⟩) 1 [[x]]) :
    Calls Try.prog 10 #[.slice (some ⟨g, 0, none⟩) 1 1, .slice none 0 0] w fun e w' => ∃ v, e = .returned (.tuple #[v, .int .i64 1]) ∧ Below w.heap.size w w' := by
  refine (hiddenOf (some ⟨g, 0, none⟩) 1 1 [[x]] none 0 0 [] w rfl rfl h (Nat.le_refl _) (Kd.C_nil _ _) (by decide) (by decide) (by simp) (by simp [tot])).mono ?_
  rintro e w' ⟨A, c, rfl, _, _, hb⟩
  exact ⟨_, rfl, hb⟩

set_option linter.all false in
set_option maxRecDepth 100000 in
set_option maxHeartbeats 1000000 in
theorem law_any (A0 : Option Addr) (c0 : Nat) (l0 : List (List ByteArray)) (A1 : Option Addr) (c1 : Nat) (l1 : List Bool) (A2 : Option Addr) (c2 : Nat) (l2 : List Bool) (w : World) (hr0 : Kd.C kt w A0 l0.length l0) (hc0 : l0.length ≤ c0) (hr1 : Kd.C Kd.bool w A1 l1.length l1) (hc1 : l1.length ≤ c1) (hr2 : Kd.C Kd.bool w A2 l2.length l2) (hc2 : l2.length ≤ c2) :
    Calls Try.prog 4 #[.slice A0 l0.length c0, .slice A1 l1.length c1, .slice A2 l2.length c2] w fun e w' => e = .returned (.bool true) ∧ Below w.heap.size w w' := by
  obtain ⟨b19, k19, h19, hb19⟩ := fits19 l0
  cases b19
  · clear hb19
    go_enter Try.func4, Try.ntmps4
    go_wp2_with (first
      | (go_at_call 9; refine (laws_zzFits19.calls k19 A0 c0 l0 false w hr0 hc0 h19).mono ?_; rintro e w1 ⟨rfl, hd⟩))
    go_ret
    exact ⟨rfl, hd.below⟩
  obtain ⟨_, hl⟩ := hb19 rfl
  have HL := Aside0.mk hl
  clear hb19 hl
  by_cases g1 : (l1.length : Int) > 2147483647
  · have q1 : decide ((l1.length : Int) > 2147483647) = true := decide_eq_true g1
    go_enter Try.func4, Try.ntmps4
    go_wp2_with (first
      | (go_at_call 9; refine (laws_zzFits19.calls k19 A0 c0 l0 true w hr0 hc0 h19).mono ?_; rintro e w1 ⟨rfl, hd⟩))
    go_ret
    exact ⟨rfl, hd.below⟩
  have q1 : decide ((l1.length : Int) > 2147483647) = false := decide_eq_false g1
  by_cases g2 : (l2.length : Int) > 2147483647
  · have q2 : decide ((l2.length : Int) > 2147483647) = true := decide_eq_true g2
    go_enter Try.func4, Try.ntmps4
    go_wp2_with (first
      | (go_at_call 9; refine (laws_zzFits19.calls k19 A0 c0 l0 true w hr0 hc0 h19).mono ?_; rintro e w1 ⟨rfl, hd⟩))
    go_ret
    exact ⟨rfl, hd.below⟩
  have q2 : decide ((l2.length : Int) > 2147483647) = false := decide_eq_false g2
  by_cases g3 : (l0.length : Int) > 60
  · have q3 : decide ((l0.length : Int) > 60) = true := decide_eq_true g3
    go_enter Try.func4, Try.ntmps4
    go_wp2_with (first
      | (go_at_call 9; refine (laws_zzFits19.calls k19 A0 c0 l0 true w hr0 hc0 h19).mono ?_; rintro e w1 ⟨rfl, hd⟩))
    go_ret
    exact ⟨rfl, hd.below⟩
  have q3 : decide ((l0.length : Int) > 60) = false := decide_eq_false g3
  by_cases g4 : (l1.length : Int) > 60
  · have q4 : decide ((l1.length : Int) > 60) = true := decide_eq_true g4
    go_enter Try.func4, Try.ntmps4
    go_wp2_with (first
      | (go_at_call 9; refine (laws_zzFits19.calls k19 A0 c0 l0 true w hr0 hc0 h19).mono ?_; rintro e w1 ⟨rfl, hd⟩))
    go_ret
    exact ⟨rfl, hd.below⟩
  have q4 : decide ((l1.length : Int) > 60) = false := decide_eq_false g4
  by_cases g5 : (l2.length : Int) > 60
  · have q5 : decide ((l2.length : Int) > 60) = true := decide_eq_true g5
    go_enter Try.func4, Try.ntmps4
    go_wp2_with (first
      | (go_at_call 9; refine (laws_zzFits19.calls k19 A0 c0 l0 true w hr0 hc0 h19).mono ?_; rintro e w1 ⟨rfl, hd⟩))
    go_ret
    exact ⟨rfl, hd.below⟩
  have q5 : decide ((l2.length : Int) > 60) = false := decide_eq_false g5
  obtain ⟨kt2, htog⟩ := together l1 l2 (by omega) (by omega)
  obtain ⟨ks, hsame⟩ := same (rowsTo (cf (tog l1 l2)) l0 l0.length) (by rw [rowsTo_len]; omega) (mem_rowsTo _ _ HL.out _ (Nat.le_refl _))
  have htl : (tog l1 l2).length = l1.length + l2.length := togTo_len _ _ _
  have HT := Aside0.mk htog; have HS := Aside0.mk hsame
  have hgl := rowsTo_len (cf (tog l1 l2)) l0 l0.length
  have tok1 : True := trivial
  have tok2 : True := trivial
  have tok3 : True := trivial
  have tok4 : True := trivial
  have HC0 := Aside0.mk hr0; have HC1 := Aside0.mk hr1; have HC2 := Aside0.mk hr2
  have n0 : l0.length ≤ 60 := by omega
  have n1 : l1.length ≤ 60 := by omega
  have n2 : l2.length ≤ 60 := by omega
  have HB := Below.refl w.heap.size w
  clear htog hsame g1 g2 g3 g4 g5 hr1 hr2
  go_enter Try.func4, Try.ntmps4
  go_wp2_with (first
    | (go_at_call 9; refine (laws_zzFits19.calls k19 A0 c0 l0 true w hr0 hc0 h19).mono ?_; rintro e w1 ⟨rfl, hd⟩; replace HB := HB.trans hd.below; clear hr0 hd)
    | (go_at_call 10; have _t := tok1; refine (first_call A0 c0 l0 A1 c1 _ l1 _ rfl (Kd.C_below HC0.out HB) hc0 (Kd.C_below HC1.out HB) (by omega) n0 HL.out).mono ?_
       rintro e w2 ⟨Ax, cx, rfl, hcx, hF1, hb2⟩
       replace HB := HB.trans (hb2.mono HB.size)
       have HF1 := Aside0.mk hF1
       clear tok1 hF1 hb2)
    | (go_at_call 10; have _t := tok2; refine (second_call Ax cx l0 l1 A2 c2 l2 _ (Kd.F_now HF1.out) hcx (Kd.C_below HC2.out HB) (by omega) n0 HL.out).mono ?_
       rintro e w3 ⟨Ay, cy, rfl, hcy, hF2, hb3⟩
       replace HB := HB.trans (hb3.mono HB.size)
       have HF2 := Aside0.mk hF2
       clear tok2 hF2 hb3 HF1)
    | (go_at_call 11; refine (spec_Together.calls kt2 A1 c1 l1 A2 c2 l2 (tog l1 l2) _ (Kd.C_below HC1.out HB) hc1 (Kd.C_below HC2.out HB) hc2 HT.out).mono ?_
       rintro e w4 ⟨v4, rfl, hR4, hb4⟩
       obtain ⟨At, ct, rfl, hct, hC4⟩ := Kd.R_reads hR4
       replace HB := HB.trans (hb4.mono HB.size)
       have HF3 := Aside0.mk (Kd.F_below HF2.out hb4)
       rw [htl] at hC4
       have HC4 := Aside0.mk hC4
       clear hR4 hb4 hC4 HF2)
    | (go_at_call 10; have _t := tok3; refine (first_call A0 c0 l0 At ct (l1.length + l2.length) (tog l1 l2) _ htl.symm (Kd.C_below HC0.out HB) hc0 HC4.out (by omega) n0 HL.out).mono ?_
       rintro e w5 ⟨Az, cz, rfl, hcz, hF5, hb5⟩
       replace HB := HB.trans (hb5.mono HB.size)
       have HF4 := Aside0.mk (Kd.F_below HF3.out hb5)
       have HF5 := Aside0.mk hF5
       clear tok3 hF5 hb5 HF3 HC4)
    | (go_at_call 10; have _t := tok4; refine (last_call _ ⟨#[97]⟩ _ (one_lit _ w5.heap.size (w5.heap.size + 1) ⟨#[97]⟩ (Tbl.old (Tbl.new' rfl)) (Tbl.new' (by simp only [World.size_alloc])))).mono ?_
       rintro e w6 ⟨v6, rfl, hb6⟩
       have hb7 : Below w5.heap.size w5 w6 := (below_alloc (below_alloc (Below.refl _ _) _) _).trans (hb6.mono (by simp only [World.size_alloc]; omega))
       replace HB := HB.trans (hb7.mono HB.size)
       have HF6 := Aside0.mk (Kd.F_below HF4.out hb7)
       have HF7 := Aside0.mk (Kd.F_below HF5.out hb7)
       clear tok4 hb6 hb7 HF4 HF5)
    | (go_at_call 12; rw [← hgl]; refine (spec_SameGrid.calls ks Ay cy _ Az cz _ true _ (by rw [hgl]; exact Kd.F_now HF6.out) (by rw [hgl]; exact hcy) (by rw [hgl]; exact Kd.F_now HF7.out) (by rw [hgl]; exact hcz) HS.out).mono ?_
       rintro e w7 ⟨rfl, hd7⟩
       replace HB := HB.trans (hd7.below.mono HB.size)))
  go_ret
  exact ⟨rfl, HB⟩
end Go.Proofs.Ytjpdkmmpofddlaa.Hlw
