-- Written by gprint.py, a program of this session over the kit's printer, with contracts of its own for what the printer does not take. Not trusted: Lean checks it.
import Derived.Test.YtmphemnmbofpaaaDoorRRRGFnTextFormatx0
import Derived.Test.YtmphemnmbofpaaaDoorRRRGFnTextFormatx3
namespace Go.Proofs.YtmphemnmbofpaaaDoorRRR.GFnTextFormat
open Go.RowKit Go.Proofs.YtmphemnmbofpaaaDoorRRR.Itr Go.Proofs.YtmphemnmbofpaaaDoorRRRW.PrintWords Go.Proofs.YtmphemnmbofpaaaDoorRRRW.PrintLast Go.Proofs.YtmphemnmbofpaaaDoorRRRW.PrintMore
attribute [local go_sem] max2_int min2_int max_two min_two max_three min_three max_four min_four   -- for this text's walks alone
set_option linter.unusedVariables false
set_option linter.unusedSimpArgs false

/-! ### text_Format_Apply: function 14 -/
def text_Format_Apply.f (a0 : Int) (a1 : ByteArray) : Option (ByteArray) := if a0 = 1 then ((strings_ToLower.f a1).bind fun t124 => (some t124)) else (if a0 = 2 then ((text_toTitle.f a1).bind fun t125 => (some t125)) else (if a0 = 3 then ((text_toUpper.f a1).bind fun t126 => (some t126)) else (some a1)))
set_option maxHeartbeats 8000000 in
set_option maxRecDepth 100000 in
theorem text_Format_Apply.calls (a0 : Int) (a1 : ByteArray) (r : ByteArray) (w : World) (h : text_Format_Apply.f a0 a1 = some r) :
    Calls Tryd.prog 14 #[.int .i64 a0, .string a1] w fun e w' => e = .returned (.string r) ∧ Below w.heap.size w w' := by
  have HB := Aside0.mk (Below.refl w.heap.size w)
  have H : (if a0 = 1 then ((strings_ToLower.f a1).bind fun t124 => (some t124)) else (if a0 = 2 then ((text_toTitle.f a1).bind fun t125 => (some t125)) else (if a0 = 3 then ((text_toUpper.f a1).bind fun t126 => (some t126)) else (some a1)))) = some r := h
  clear h
  by_cases c3 : a0 = 1
  · rw [if_pos c3] at H
    have c3b0 : (a0 == 1) = true := beq_iff_eq.mpr c3
    have c3b1 : (a0 != 1) = false := bne_eq_false_iff_eq.mpr c3
    clear c3
    replace H := Option.bind_eq_some_iff.mp H
    obtain ⟨t124, A40, H⟩ := H
    replace H : (some t124) = some r := H
    have A4 := Aside0.mk A40
    clear A40
    obtain rfl := Option.some.inj H
    go_enter Tryd.func14, Tryd.ntmps14
    go_wp2_with (first | ((with_reducible refine gate_callee (f := 18) rfl ?_); refine goesL_ (some 10) rfl rfl Tryd.func18 (by kernel_rfl) rfl #[.string a1] rfl (by (try simp only [List.map_toArray, List.map_cons, List.map_nil]); first | done | rfl | (simp only [List.length_drop, List.length_take]; rfl)) ?_; (with_reducible refine (strings_ToLower.calls a1 t124 _ A4.out).mono ?_); rintro e w5 ⟨rfl, hb⟩; refine ⟨_, rfl, ?_⟩; have n0_ := Aside0.mk (below_step (by repeat (first | (with_reducible first | exact HB.out | apply below_alloc | apply pw_below_drewN | apply below_drew1) | exact HB.out)) hb); clear HB; have HB := n0_; clear n0_; (try clear hb); (try clear hb2); (try clear hk); (try clear hi)))
    go_ret
    exact ⟨by first | rfl | (simp [errW_none, errW_some] <;> rfl) | (simp [*, errW_none, errW_some] <;> rfl), by repeat (first | (with_reducible first | exact HB.out | apply below_alloc | apply pw_below_drewN | apply below_drew1) | exact HB.out)⟩
  · rw [if_neg c3] at H
    have c3b0 : (a0 == 1) = false := beq_eq_false_iff_ne.mpr c3
    have c3b1 : (a0 != 1) = true := bne_iff_ne.mpr c3
    by_cases c6 : a0 = 2
    · rw [if_pos c6] at H
      have c6b0 : (a0 == 2) = true := beq_iff_eq.mpr c6
      have c6b1 : (a0 != 2) = false := bne_eq_false_iff_eq.mpr c6
      clear c6
      replace H := Option.bind_eq_some_iff.mp H
      obtain ⟨t125, A70, H⟩ := H
      replace H : (some t125) = some r := H
      have A7 := Aside0.mk A70
      clear A70
      obtain rfl := Option.some.inj H
      go_enter Tryd.func14, Tryd.ntmps14
      go_wp2_with (first | ((with_reducible refine gate_callee (f := 19) rfl ?_); refine goesL_ (some 14) rfl rfl Tryd.func19 (by kernel_rfl) rfl #[.string a1] rfl (by (try simp only [List.map_toArray, List.map_cons, List.map_nil]); first | done | rfl | (simp only [List.length_drop, List.length_take]; rfl)) ?_; (with_reducible refine (text_toTitle.calls a1 t125 _ A7.out).mono ?_); rintro e w8 ⟨rfl, hb⟩; refine ⟨_, rfl, ?_⟩; have n0_ := Aside0.mk (below_step (by repeat (first | (with_reducible first | exact HB.out | apply below_alloc | apply pw_below_drewN | apply below_drew1) | exact HB.out)) hb); clear HB; have HB := n0_; clear n0_; (try clear hb); (try clear hb2); (try clear hk); (try clear hi)))
      go_ret
      exact ⟨by first | rfl | (simp [errW_none, errW_some] <;> rfl) | (simp [*, errW_none, errW_some] <;> rfl), by repeat (first | (with_reducible first | exact HB.out | apply below_alloc | apply pw_below_drewN | apply below_drew1) | exact HB.out)⟩
    · rw [if_neg c6] at H
      have c6b0 : (a0 == 2) = false := beq_eq_false_iff_ne.mpr c6
      have c6b1 : (a0 != 2) = true := bne_iff_ne.mpr c6
      by_cases c9 : a0 = 3
      · rw [if_pos c9] at H
        have c9b0 : (a0 == 3) = true := beq_iff_eq.mpr c9
        have c9b1 : (a0 != 3) = false := bne_eq_false_iff_eq.mpr c9
        clear c9
        replace H := Option.bind_eq_some_iff.mp H
        obtain ⟨t126, A100, H⟩ := H
        replace H : (some t126) = some r := H
        have A10 := Aside0.mk A100
        clear A100
        obtain rfl := Option.some.inj H
        go_enter Tryd.func14, Tryd.ntmps14
        go_wp2_with (first | ((with_reducible refine gate_callee (f := 20) rfl ?_); refine goesL_ (some 18) rfl rfl Tryd.func20 (by kernel_rfl) rfl #[.string a1] rfl (by (try simp only [List.map_toArray, List.map_cons, List.map_nil]); first | done | rfl | (simp only [List.length_drop, List.length_take]; rfl)) ?_; (with_reducible refine (text_toUpper.calls a1 t126 _ A10.out).mono ?_); rintro e w11 ⟨rfl, hb⟩; refine ⟨_, rfl, ?_⟩; have n0_ := Aside0.mk (below_step (by repeat (first | (with_reducible first | exact HB.out | apply below_alloc | apply pw_below_drewN | apply below_drew1) | exact HB.out)) hb); clear HB; have HB := n0_; clear n0_; (try clear hb); (try clear hb2); (try clear hk); (try clear hi)))
        go_ret
        exact ⟨by first | rfl | (simp [errW_none, errW_some] <;> rfl) | (simp [*, errW_none, errW_some] <;> rfl), by repeat (first | (with_reducible first | exact HB.out | apply below_alloc | apply pw_below_drewN | apply below_drew1) | exact HB.out)⟩
      · rw [if_neg c9] at H
        have c9b0 : (a0 == 3) = false := beq_eq_false_iff_ne.mpr c9
        have c9b1 : (a0 != 3) = true := bne_iff_ne.mpr c9
        obtain rfl := Option.some.inj H
        go_enter Tryd.func14, Tryd.ntmps14
        go_wp2
        go_ret
        exact ⟨by first | rfl | (simp [errW_none, errW_some] <;> rfl) | (simp [*, errW_none, errW_some] <;> rfl), by repeat (first | (with_reducible first | exact HB.out | apply below_alloc | apply pw_below_drewN | apply below_drew1) | exact HB.out)⟩

/-! ### impl_TextFormat: function 8 -/
def impl_TextFormat.f (a0 : Int) (a1 : ByteArray) : Option (ByteArray) := (text_Format_Apply.f a0 a1).bind fun t127 => (some t127)
set_option maxHeartbeats 8000000 in
set_option maxRecDepth 100000 in
theorem impl_TextFormat.calls (a0 : Int) (a1 : ByteArray) (r : ByteArray) (w : World) (h : impl_TextFormat.f a0 a1 = some r) :
    Calls Tryd.prog 8 #[.int .i64 a0, .string a1] w fun e w' => e = .returned (.string r) ∧ Below w.heap.size w w' := by
  have HB := Aside0.mk (Below.refl w.heap.size w)
  have H : ((text_Format_Apply.f a0 a1).bind fun t127 => (some t127)) = some r := h
  clear h
  replace H := Option.bind_eq_some_iff.mp H
  obtain ⟨t127, A30, H⟩ := H
  replace H : (some t127) = some r := H
  have A3 := Aside0.mk A30
  clear A30
  obtain rfl := Option.some.inj H
  go_enter Tryd.func8, Tryd.ntmps8
  go_wp2_with (first | ((with_reducible refine gate_callee (f := 14) rfl ?_); refine goesL_ (some 7) rfl rfl Tryd.func14 (by kernel_rfl) rfl #[.int .i64 a0, .string a1] rfl (by (try simp only [List.map_toArray, List.map_cons, List.map_nil]); first | done | rfl | (simp only [List.length_drop, List.length_take]; rfl)) ?_; (with_reducible refine (text_Format_Apply.calls a0 a1 t127 _ A3.out).mono ?_); rintro e w4 ⟨rfl, hb⟩; refine ⟨_, rfl, ?_⟩; have n0_ := Aside0.mk (below_step (by repeat (first | (with_reducible first | exact HB.out | apply below_alloc | apply pw_below_drewN | apply below_drew1) | exact HB.out)) hb); clear HB; have HB := n0_; clear n0_; (try clear hb); (try clear hb2); (try clear hk); (try clear hi)))
  go_ret
  exact ⟨by first | rfl | (simp [errW_none, errW_some] <;> rfl) | (simp [*, errW_none, errW_some] <;> rfl), by repeat (first | (with_reducible first | exact HB.out | apply below_alloc | apply pw_below_drewN | apply below_drew1) | exact HB.out)⟩

/-! ### spec_TxSequence: function 15 -/
def spec_TxSequence.f (l0 : List Int) : Option (ByteArray) := if l0.length ≤ 2147483647 then (if (∀ c ∈ l0, Sqa.In64 c) then some (Sqa.seqA l0) else none) else none
theorem spec_TxSequence.calls (A0 : Option Addr) (c0 : Nat) (l0 : List Int) (r : ByteArray) (w : World) (hr0 : Kd.C (Kd.int .i64) w A0 l0.length l0) (hc0 : l0.length ≤ c0) (h : spec_TxSequence.f l0 = some r) (hT_ : Sqa.Tb w) :
    Calls Tryd.prog 15 #[.slice A0 l0.length c0] w fun e w' => e = .returned (.string r) ∧ Below w.heap.size w w' := by
  unfold spec_TxSequence.f at h
  by_cases hc : l0.length ≤ 2147483647
  · rw [if_pos hc] at h
    by_cases hd : ∀ c ∈ l0, Sqa.In64 c
    · rw [if_pos hd] at h
      obtain rfl := Option.some.inj h
      exact Sqa.sqa A0 c0 l0.length l0 w hT_ rfl hr0 hc hd
    · rw [if_neg hd] at h
      exact absurd h (by simp)
  · rw [if_neg hc] at h
    exact absurd h (by simp)

/-! ### spec_TxWritten: function 9 -/
def spec_TxWritten.l0 : Nat → ByteArray → List (S32) → Int → Int → Option (ByteArray)
  | 0, _, _, _, _ => none
  | k + 1, x3, x6, x7, x8 => if x8 < x7 then (if 0 ≤ x8 then (if x8 < (x6.length : Int) then ((spec_TxSequence.f ((rd_T32 x6 x8).f0)).bind fun t130 => (if t130.size + ((rd_T32 x6 x8).f1).size ≤ 9223372036854775807 then (if x3.size + (t130 ++ ((rd_T32 x6 x8).f1)).size ≤ 9223372036854775807 then (spec_TxWritten.l0 k (x3 ++ (t130 ++ ((rd_T32 x6 x8).f1))) x6 x7 (wrap64 (x8 + 1))) else (none)) else (none))) else (none)) else (none)) else (some x3)
def spec_TxWritten.f (k : Nat) (l0 : List (S32)) : Option (ByteArray) := spec_TxWritten.l0 k (⟨#[]⟩ : ByteArray) l0 (l0.length : Int) 0
theorem spec_TxWritten.mono_l : ∀ k, (∀ y0 y1 y2 y3, LeO (spec_TxWritten.l0 k y0 y1 y2 y3) (spec_TxWritten.l0 (k + 1) y0 y1 y2 y3))
  | 0 => fun _ _ _ _ r h => by simp [spec_TxWritten.l0] at h
  | k + 1 => by
    have ih0 := spec_TxWritten.mono_l k
    · intro y0 y1 y2 y3
      unfold spec_TxWritten.l0
      repeat' first
      | (with_reducible exact ih0 _ _ _ _)
      | (with_reducible exact LeO.refl _)
      | (with_reducible exact LeO.none _)
      | (with_reducible refine LeO.ite ?_ ?_)
      | (with_reducible refine LeO.bind ?_ (fun _ => ?_))
      | exact ih0 _ _ _ _
      | exact LeO.none _
      | refine LeO.ite ?_ ?_
      | refine LeO.bind ?_ (fun _ => ?_)
theorem spec_TxWritten.mono : ∀ a0 k, LeO (spec_TxWritten.f k a0) (spec_TxWritten.f (k + 1) a0) := by
  intro a0 k
  have ih0 := spec_TxWritten.mono_l k
  unfold spec_TxWritten.f
  repeat' first
      | (with_reducible exact ih0 _ _ _ _)
      | (with_reducible exact LeO.refl _)
      | (with_reducible exact LeO.none _)
      | (with_reducible refine LeO.ite ?_ ?_)
      | (with_reducible refine LeO.bind ?_ (fun _ => ?_))
      | exact ih0 _ _ _ _
      | exact LeO.none _
      | refine LeO.ite ?_ ?_
      | refine LeO.bind ?_ (fun _ => ?_)
def spec_TxWritten.T5 : Bool × List (List Nat × List Nat) := (true, [([], []), ([], []), ([1], [1]), ([2], [2]), ([], []), ([4], [4]), ([3, 5], [3, 5]), ([0, 6], [0, 6]), ([7, 3, 0, 1, 2, 3, 4, 5, 6, 7], [0, 7])])
def spec_TxWritten.B5 : List Nat := [0, 0, 2, 6, 0, 16, 62, 127, 255]
theorem spec_TxWritten.tab5 : rtab .any (opsOf Tryd.f9 5) = spec_TxWritten.T5 := by kernel_rfl
theorem spec_TxWritten.bits5 : waitsOk spec_TxWritten.T5.2 spec_TxWritten.B5 = true := by kernel_rfl
set_option maxHeartbeats 8000000 in
set_option maxRecDepth 100000 in
theorem spec_TxWritten.calls (k : Nat) (A0 : Option Addr) (c0 : Nat) (l0 : List (S32)) (r : ByteArray) (w : World) (hr0 : Kd.C k32 w A0 l0.length l0) (hc0 : l0.length ≤ c0) (h : spec_TxWritten.f k l0 = some r) (hT_ : Sqa.Tb w) :
    Calls Tryd.prog 9 #[.slice A0 l0.length c0] w fun e w' => e = .returned (.string r) ∧ Below w.heap.size w w' := by
  have HT_P := Aside0.mk hT_
  clear hT_
  have hu32 := Tryd.underlying32
  have HR0 := Aside0.mk hr0
  have HC0 := Aside0.mk hc0
  clear hr0 hc0
  have HB := Aside0.mk (Below.refl w.heap.size w)
  have H : (spec_TxWritten.l0 k (⟨#[]⟩ : ByteArray) l0 (l0.length : Int) 0) = some r := h
  clear h
  have H' := Aside0.mk H
  clear H
  go_enter Tryd.func9, Tryd.ntmps9
  go_wp2
  (try simp only [Act.put, List.setIfInBounds_toArray, List.set_cons_zero, List.set_cons_succ])
  go_loopg [3, 8] k (fun kq v3 v8 w' => ∃ (x3_1 : ByteArray) (x8_1 : Int), v3 = .string x3_1 ∧ v8 = .int .i64 x8_1 ∧ Aside0 (spec_TxWritten.l0 kq x3_1 l0 (l0.length : Int) x8_1 = some r) ∧ Aside0 (kq ≤ k) ∧ Aside0 (Below w.heap.size w w'))
  case atStart => exact ⟨((⟨#[]⟩ : ByteArray)), (0), (by first | rfl | (simp; done) | (simp [*]; done)), (by first | rfl | (simp; done) | (simp [*]; done)), H', ⟨Nat.le_refl _⟩, ⟨by repeat (first | (with_reducible first | exact HB.out | apply below_alloc | apply pw_below_drewN | apply below_drew1) | exact HB.out)⟩⟩
  case round =>
    clear H'
    obtain ⟨x3_1, x8_1, rfl, rfl, HA, HK1, HB⟩ := hrel
    cases gk with
    | zero => exact absurd HA.out (by simp [spec_TxWritten.l0])
    | succ k1 =>
      have H := HA.out
      clear HA
      simp only [spec_TxWritten.l0] at H
      by_cases c2 : x8_1 < (l0.length : Int)
      · rw [if_pos c2] at H
        have c2b0 : decide (x8_1 < (l0.length : Int)) = true := decide_eq_true c2
        clear c2
        by_cases c3 : 0 ≤ x8_1
        · rw [if_pos c3] at H
          have c3b0 : decide (0 ≤ x8_1) = true := decide_eq_true c3
          clear c3
          by_cases c4 : x8_1 < (l0.length : Int)
          · rw [if_pos c4] at H
            have c4b0 : decide (x8_1 < (l0.length : Int)) = true := decide_eq_true c4
            clear c4
            replace H := Option.bind_eq_some_iff.mp H
            obtain ⟨t130, A50, H⟩ := H
            replace H : (if t130.size + ((rd_T32 l0 x8_1).f1).size ≤ 9223372036854775807 then (if x3_1.size + (t130 ++ ((rd_T32 l0 x8_1).f1)).size ≤ 9223372036854775807 then (spec_TxWritten.l0 k1 (x3_1 ++ (t130 ++ ((rd_T32 l0 x8_1).f1))) l0 (l0.length : Int) (wrap64 (x8_1 + 1))) else (none)) else (none)) = some r := H
            have A5 := Aside0.mk A50
            clear A50
            by_cases c6 : t130.size + ((rd_T32 l0 x8_1).f1).size ≤ 9223372036854775807
            · rw [if_pos c6] at H
              have c6b0 := eq_true c6
              have c6b1 : decide (t130.size + ((rd_T32 l0 x8_1).f1).size ≤ 9223372036854775807) = true := decide_eq_true c6
              try have c6b2 : (9223372036854775807 < t130.size + ((rd_T32 l0 x8_1).f1).size) = False := eq_false (Nat.not_lt.2 c6)
              by_cases c7 : x3_1.size + (t130 ++ ((rd_T32 l0 x8_1).f1)).size ≤ 9223372036854775807
              · rw [if_pos c7] at H
                have c7b0 := eq_true c7
                have c7b1 : decide (x3_1.size + (t130 ++ ((rd_T32 l0 x8_1).f1)).size ≤ 9223372036854775807) = true := decide_eq_true c7
                have c7l : (9223372036854775807 < x3_1.size + (t130 ++ ((rd_T32 l0 x8_1).f1)).size) = False := eq_false (Nat.not_lt.2 c7)
                try simp only [ByteArray.size_append, bytes_size_mk, List.size_toArray, List.length_cons, List.length_nil, Nat.zero_add, Nat.reduceAdd] at c7l
                try have c7b2 : (9223372036854775807 < x3_1.size + (t130 ++ ((rd_T32 l0 x8_1).f1)).size) = False := eq_false (Nat.not_lt.2 c7)
                have H' := Aside0.mk H
                clear H
                have p128 : 0 ≤ (x8_1 : Int) := of_decide_eq_true (by first | (with_reducible assumption) | assumption)
                have q128 : x8_1 < (l0.length : Int) := of_decide_eq_true (by first | (with_reducible assumption) | assumption)
                obtain ⟨ad128, A128_0, c128_0, e128, hx128_0, hx128_1, hl128_0, hi128_0⟩ := at_T32 HR0.out x8_1 p128 q128
                cases e128
                replace hx128_0 := (HB.out.cell (World.block_lt_of_cell? w _ hx128_0)).trans hx128_0
                replace hx128_1 := (HB.out.cell (World.block_lt_of_cell? w _ hx128_1)).trans hx128_1
                have HR128_0 := Aside0.mk hi128_0
                have HC128_0 := Aside0.mk hl128_0
                clear hi128_0 hl128_0
                replace p128 := eq_true p128
                replace q128 := eq_true q128
                try go_wp2_with (first | ((with_reducible refine gate_dst (N := 5) rfl ?_); refine box_event ?hg (N := 5) ?hd (cs := #[.slice none 0 0, .string (⟨#[]⟩ : ByteArray)]) (t := 32) ?hr ?_; (case hd => rfl); (case hg => rfl); (case hr => first | (go_simp; done) | (go_simp; rfl)); intro gb129 hg w8 hbox hb; have n0_ := Aside0.mk (below_step (by repeat (first | (with_reducible first | exact HB.out | apply below_alloc | apply pw_below_drewN | apply below_drew1) | exact HB.out)) hb); have n1_ := Aside0.mk (hbox); have n2_ := Aside0.mk ((by rw [hg]; exact (below_size (by repeat (first | (with_reducible first | exact HB.out | apply below_alloc | apply pw_below_drewN | apply below_drew1) | exact HB.out))) : w.heap.size ≤ gb129)); have n3_ := Aside0.mk ((by rw [hg]; exact (below_size (by repeat (first | (with_reducible first | exact HB.out | apply below_alloc | apply pw_below_drewN | apply below_drew1) | exact HB.out))) : w.heap.size ≤ gb129)); clear HB; have HB := n0_; have BK129 := n1_; have GW129 := n2_; have GE129 := n3_; clear n0_ n1_ n2_ n3_; clear hb hbox hg; have hcz9_0 : w8.cell? ⟨gb129, 0, none⟩ = some (.slice none 0 0) := (blk_cell BK129.out 0).trans rfl; have hcz9_1 : w8.cell? ⟨gb129, 1, none⟩ = some (.string (⟨#[]⟩ : ByteArray)) := (blk_cell BK129.out 1).trans rfl; have hfz9_0 := blk_frozen BK129.out 0; have hfz9_1 := blk_frozen BK129.out 1))
                have n0_ : Aside0 (((w8.setCell ⟨gb129, 0, none⟩ (.slice A128_0 ((rd_T32 l0 x8_1).f0).length c128_0)).setCell ⟨gb129, 1, none⟩ (.string ((rd_T32 l0 x8_1).f1))).heap[gb129]? = some (.cells #[.slice A128_0 ((rd_T32 l0 x8_1).f0).length c128_0, .string ((rd_T32 l0 x8_1).f1)] 32 (0, 0))) := ⟨by (with_reducible repeat (first | refine blk_drewN ?_ _ | refine blk_drew ?_ | refine blk_alloc ?_ _)); refine blk_put (cs := #[.slice A128_0 ((rd_T32 l0 x8_1).f0).length c128_0, .string (⟨#[]⟩ : ByteArray)]) ?_ 1 _ rfl; (with_reducible repeat (first | refine blk_drewN ?_ _ | refine blk_drew ?_ | refine blk_alloc ?_ _)); refine blk_put (cs := #[.slice none 0 0, .string (⟨#[]⟩ : ByteArray)]) ?_ 0 _ rfl; (with_reducible repeat (first | refine blk_drewN ?_ _ | refine blk_drew ?_ | refine blk_alloc ?_ _)); exact BK129.out⟩
                have n1_ : Aside0 (Below w.heap.size w ((w8.setCell ⟨gb129, 0, none⟩ (.slice A128_0 ((rd_T32 l0 x8_1).f0).length c128_0)).setCell ⟨gb129, 1, none⟩ (.string ((rd_T32 l0 x8_1).f1)))) := ⟨by repeat (first | (with_reducible first | exact HB.out | apply below_alloc | apply pw_below_drewN | apply below_drew1 | refine below_set ?_ GE129.out) | exact HB.out)⟩
                (try clear BK129)
                (try clear HB)
                generalize ((w8.setCell ⟨gb129, 0, none⟩ (.slice A128_0 ((rd_T32 l0 x8_1).f0).length c128_0)).setCell ⟨gb129, 1, none⟩ (.string ((rd_T32 l0 x8_1).f1))) = w10 at n0_ n1_ ⊢
                have BK129 := n0_
                have HB := n1_
                clear n0_ n1_
                have n0_ := Aside0.mk (blk_drew BK129.out)
                have n1_ := Aside0.mk (below_drew1 HB.out)
                clear BK129
                clear HB
                have BK129 := n0_
                have HB := n1_
                clear n0_ n1_
                refine start_ (n := 9) (S := fun w' => w'.cell? ⟨gb129, 0, none⟩ = some (.slice A128_0 ((rd_T32 l0 x8_1).f0).length c128_0) ∧ w'.cell? ⟨gb129, 1, none⟩ = some (.string ((rd_T32 l0 x8_1).f1))) (ds := []) #[false, false, false, false, false, false, false, false, false] (by kernel_rfl) rfl rfl ⟨(blk_cell BK129.out 0).trans rfl, (blk_cell BK129.out 1).trans rfl⟩ (fun hHeld => ?_); refine with_tabW spec_TxWritten.tab5 spec_TxWritten.bits5 (fun HT_ HW_ => ?_)
                generalize w10.drew = w11 at BK129 HB hHeld ⊢
                refine pure_ (i := 0) (N := some 12) (v := ?_) (a' := ?_) #[true, false, false, false, false, false, false, false, false] rfl rfl (any_of HT_.out (by kernel_rfl)) (fun _ _ _ h => h) (Or.inl ⟨by rfl, ?_⟩) ?_ ?_
                rotate_left
                · intro w'
                  go_simp
                  with_reducible rfl
                rotate_left
                · simp only [Act.put, List.setIfInBounds_toArray, List.set_cons_zero, List.set_cons_succ, i64_w, i32_w]
                  rfl
                refine pure_ (i := 1) (N := some 13) (v := ?_) (a' := ?_) #[true, true, false, false, false, false, false, false, false] rfl rfl (any_of HT_.out (by kernel_rfl)) (fun _ _ _ h => h) (Or.inl ⟨by rfl, ?_⟩) ?_ ?_
                rotate_left
                · intro w'
                  go_simp
                  with_reducible rfl
                rotate_left
                · simp only [Act.put, List.setIfInBounds_toArray, List.set_cons_zero, List.set_cons_succ, i64_w, i32_w]
                  rfl
                refine pure_ (i := 4) (N := some 16) (v := ?_) (a' := ?_) #[true, true, false, false, true, false, false, false, false] rfl rfl (any_of HT_.out (by kernel_rfl)) (fun _ _ _ h => h) (Or.inl ⟨by rfl, ?_⟩) ?_ ?_
                rotate_left
                · intro w'
                  go_simp
                  with_reducible rfl
                rotate_left
                · simp only [Act.put, List.setIfInBounds_toArray, List.set_cons_zero, List.set_cons_succ, i64_w, i32_w]
                  rfl
                refine take_ (i := 2) (N := some 14) (v := ?_) (a' := ?_) #[true, true, true, false, true, false, false, false, false] rfl rfl (take_ofW HT_.out HW_.out (by kernel_rfl)) (fun _ _ _ h => h) (Or.inl ⟨by rfl, ?_⟩) hHeld ?_ ?_
                rotate_left
                · rintro w' ⟨s0, s1⟩
                  go_simp
                  with_reducible rfl
                rotate_left
                · simp only [Act.put, List.setIfInBounds_toArray, List.set_cons_zero, List.set_cons_succ, i64_w, i32_w]
                  rfl
                refine take_ (i := 5) (N := some 17) (v := ?_) (a' := ?_) #[true, true, true, false, true, true, false, false, false] rfl rfl (take_ofW HT_.out HW_.out (by kernel_rfl)) (fun _ _ _ h => h) (Or.inl ⟨by rfl, ?_⟩) hHeld ?_ ?_
                rotate_left
                · rintro w' ⟨s0, s1⟩
                  go_simp
                  with_reducible rfl
                rotate_left
                · simp only [Act.put, List.setIfInBounds_toArray, List.set_cons_zero, List.set_cons_succ, i64_w, i32_w]
                  rfl
                refine one_ (i := 3) (N := some 15) #[true, true, true, true, true, true, false, false, false] rfl rfl (one_of HT_.out (by kernel_rfl)) (by decide) (fun K hK => ?_)
                refine goes_ Tryd.func15 (by kernel_rfl) rfl #[.slice A128_0 ((rd_T32 l0 x8_1).f0).length c128_0] (by rfl) rfl rfl (by (try simp only [List.map_toArray, List.map_cons, List.map_nil]); first | done | rfl | (simp only [List.length_drop, List.length_take]; rfl)) ?_
                with_reducible refine (spec_TxSequence.calls _ _ ((rd_T32 l0 x8_1).f0) t130 _ ?side1 ?side2 A5.out (Sqa.Tb.below HT_P.out (by repeat (first | (with_reducible first | exact HB.out | apply below_alloc | apply pw_below_drewN | apply below_drew1 | refine below_set ?_ GE129.out | refine below_set ?_ (by assumption)) | exact HB.out | exact Below.refl _ _)))).mono ?_
                (case side1 => repeat (first | exact (Kd.C_below HR128_0.out HB.out) | (with_reducible refine Kd.C_alloc ?_ _) | (with_reducible refine Kd.C_drewN ?_ _) | (with_reducible refine Kd.C_drew ?_)))
                (case side2 => exact HC128_0.out)
                rintro e w12 ⟨rfl, hb⟩
                refine ⟨_, rfl, ?_⟩
                have n0_ := Aside0.mk (blk_below (g := gb129) (o := .cells #[.slice A128_0 ((rd_T32 l0 x8_1).f0).length c128_0, .string ((rd_T32 l0 x8_1).f1)] 32 (0, 0)) (by (with_reducible repeat (first | refine blk_drewN ?_ _ | refine blk_drew ?_ | refine blk_alloc ?_ _)); exact BK129.out) hb)
                have n1_ := Aside0.mk (below_step (by repeat (first | (with_reducible first | exact HB.out | apply below_alloc | apply pw_below_drewN | apply below_drew1 | refine below_set ?_ GE129.out) | exact HB.out)) hb)
                clear BK129
                clear HB
                have BK129 := n0_
                have HB := n1_
                clear n0_ n1_
                (try clear hb)
                (try clear hb2)
                (try clear hk)
                (try clear hi)
                refine hK.out _ _ ⟨(blk_cell BK129.out 0).trans rfl, (blk_cell BK129.out 1).trans rfl⟩ (fun hHeld => ?_)
                clear hK K
                refine norm_ (a' := ?_) ?_ ?_
                rotate_left
                · show Act.put _ (some 15) _ = _
                  simp only [Act.put, List.setIfInBounds_toArray, List.set_cons_zero, List.set_cons_succ, i64_w, i32_w]
                  rfl
                refine pure_ (i := 6) (N := some 18) (v := ?_) (a' := ?_) #[true, true, true, true, true, true, true, false, false] rfl rfl (any_of HT_.out (by kernel_rfl)) (fun _ _ _ h => h) (Or.inl ⟨by rfl, ?_⟩) ?_ ?_
                rotate_left
                · intro w'
                  go_simp
                  with_reducible rfl
                rotate_left
                · simp only [Act.put, List.setIfInBounds_toArray, List.set_cons_zero, List.set_cons_succ, i64_w, i32_w]
                  rfl
                refine pure_ (i := 7) (N := some 19) (v := ?_) (a' := ?_) #[true, true, true, true, true, true, true, true, false] rfl rfl (any_of HT_.out (by kernel_rfl)) (fun _ _ _ h => h) (Or.inl ⟨by rfl, ?_⟩) ?_ ?_
                rotate_left
                · intro w'
                  go_simp
                  with_reducible rfl
                rotate_left
                · simp only [Act.put, List.setIfInBounds_toArray, List.set_cons_zero, List.set_cons_succ, i64_w, i32_w]
                  rfl
                refine pure_ (i := 8) (N := some 3) (v := ?_) (a' := ?_) #[true, true, true, true, true, true, true, true, true] rfl rfl (any_of HT_.out (by kernel_rfl)) (fun _ _ _ h => h) (Or.inl ⟨by rfl, ?_⟩) ?_ ?_
                rotate_left
                · intro w'
                  go_simp
                  with_reducible rfl
                rotate_left
                · simp only [Act.put, List.setIfInBounds_toArray, List.set_cons_zero, List.set_cons_succ, i64_w, i32_w]
                  rfl
                refine done_ (done_of HT_.out (by kernel_rfl)) ?_
                try go_wp2
                go_roundg k1
                case measure => have := HK1.out; omega
                case rel => exact ⟨(x3_1 ++ (t130 ++ ((rd_T32 l0 x8_1).f1))), (wrap64 (x8_1 + 1)), (by first | rfl | (simp; done) | (simp [*]; done)), (by first | rfl | (simp; done) | (simp [*]; done)), H', ⟨by have := HK1.out; omega⟩, ⟨by repeat (first | (with_reducible first | exact HB.out | apply below_alloc | apply pw_below_drewN | apply below_drew1 | refine below_set ?_ GE129.out) | exact HB.out)⟩⟩
              · rw [if_neg c7] at H
                exact absurd H (by simp)
            · rw [if_neg c6] at H
              exact absurd H (by simp)
          · rw [if_neg c4] at H
            exact absurd H (by simp)
        · rw [if_neg c3] at H
          exact absurd H (by simp)
      · rw [if_neg c2] at H
        have c2b0 : decide (x8_1 < (l0.length : Int)) = false := decide_eq_false c2
        clear c2
        obtain rfl := Option.some.inj H
        go_wp2
        go_ret
        exact ⟨by first | rfl | (simp [errW_none, errW_some] <;> rfl) | (simp [*, errW_none, errW_some] <;> rfl), by repeat (first | (with_reducible first | exact HB.out | apply below_alloc | apply pw_below_drewN | apply below_drew1) | exact HB.out)⟩

/-! ### spec_TxCase: function 16 -/
def spec_TxCase.j0 : Nat → Int → Int → Bool → Option (Int)
  | 0, _, _, _ => none
  | k + 1, x0, x1, x14 => if x14 = true then (some (wrap32 (x0 + 32))) else (if x1 = 3 then (if x0 ≥ 97 then (if x0 ≤ 122 then (some (wrap32 (x0 - 32))) else (some x0)) else (some x0)) else (some x0))
def spec_TxCase.f (k : Nat) (a0 : Int) (a1 : Int) : Option (Int) := if a1 = 1 then (if a0 ≥ 65 then (spec_TxCase.j0 k a0 a1 (decide (a0 ≤ 90))) else (spec_TxCase.j0 k a0 a1 false)) else (spec_TxCase.j0 k a0 a1 false)
theorem spec_TxCase.mono_l : ∀ k, (∀ y0 y1 y2, LeO (spec_TxCase.j0 k y0 y1 y2) (spec_TxCase.j0 (k + 1) y0 y1 y2))
  | 0 => fun _ _ _ r h => by simp [spec_TxCase.j0] at h
  | k + 1 => by
    have ih0 := spec_TxCase.mono_l k
    · intro y0 y1 y2
      unfold spec_TxCase.j0
      repeat' first
      | (with_reducible exact ih0 _ _ _)
      | (with_reducible exact LeO.refl _)
      | (with_reducible exact LeO.none _)
      | (with_reducible refine LeO.ite ?_ ?_)
      | (with_reducible refine LeO.bind ?_ (fun _ => ?_))
      | exact ih0 _ _ _
      | exact LeO.none _
      | refine LeO.ite ?_ ?_
      | refine LeO.bind ?_ (fun _ => ?_)
theorem spec_TxCase.mono : ∀ a0 a1 k, LeO (spec_TxCase.f k a0 a1) (spec_TxCase.f (k + 1) a0 a1) := by
  intro a0 a1 k
  have ih0 := spec_TxCase.mono_l k
  unfold spec_TxCase.f
  repeat' first
      | (with_reducible exact ih0 _ _ _)
      | (with_reducible exact LeO.refl _)
      | (with_reducible exact LeO.none _)
      | (with_reducible refine LeO.ite ?_ ?_)
      | (with_reducible refine LeO.bind ?_ (fun _ => ?_))
      | exact ih0 _ _ _
      | exact LeO.none _
      | refine LeO.ite ?_ ?_
      | refine LeO.bind ?_ (fun _ => ?_)
set_option maxHeartbeats 8000000 in
set_option maxRecDepth 100000 in
theorem spec_TxCase.calls (k : Nat) (a0 : Int) (a1 : Int) (r : Int) (w : World) (h : spec_TxCase.f k a0 a1 = some r) :
    Calls Tryd.prog 16 #[.int .i32 a0, .int .i64 a1] w fun e w' => e = .returned (.int .i32 r) ∧ Drawn0 w w' := by
  have H : (if a1 = 1 then (if a0 ≥ 65 then (spec_TxCase.j0 k a0 a1 (decide (a0 ≤ 90))) else (spec_TxCase.j0 k a0 a1 false)) else (spec_TxCase.j0 k a0 a1 false)) = some r := h
  clear h
  have HC3 := Aside0.mk H
  clear H
  go_enter Tryd.func16, Tryd.ntmps16
  go_upto_region 1 with (fail)
  go_cut [14] (fun v14 wc => ∃ (kq : Nat) (x14_2 : Bool), v14 = .bool x14_2 ∧ Aside0 (spec_TxCase.j0 kq a0 a1 x14_2 = some r) ∧ Aside0 (kq ≤ k) ∧ Drawn0 w wc)
  case first =>
    have H := HC3.out
    clear HC3
    by_cases c4 : a1 = 1
    · rw [if_pos c4] at H
      have c4b0 : (a1 == 1) = true := beq_iff_eq.mpr c4
      have c4b1 : (a1 != 1) = false := bne_eq_false_iff_eq.mpr c4
      clear c4
      (first | rw [c4b0] | (simp only [i64_w, i32_w]; rw [c4b0]) | skip)
      by_cases c5 : a0 ≥ 65
      · rw [if_pos c5] at H
        have c5b0 : decide (65 ≤ a0) = true := decide_eq_true c5
        clear c5
        have H' := Aside0.mk H
        clear H
        go_wp2
        go_meet
        case rel => exact ⟨_, (decide (a0 ≤ 90)), (by first | rfl | (simp; done) | (simp [*]; done)), H', ⟨by first | omega | exact Nat.le_refl _⟩, by repeat (first | exact Drawn0.refl _ | apply Drawn0.step)⟩
      · rw [if_neg c5] at H
        have c5b0 : decide (65 ≤ a0) = false := decide_eq_false c5
        clear c5
        have H' := Aside0.mk H
        clear H
        go_wp2
        go_meet
        case rel => exact ⟨_, (false), (by first | rfl | (simp; done) | (simp [*]; done)), H', ⟨by first | omega | exact Nat.le_refl _⟩, by repeat (first | exact Drawn0.refl _ | apply Drawn0.step)⟩
    · rw [if_neg c4] at H
      have c4b0 : (a1 == 1) = false := beq_eq_false_iff_ne.mpr c4
      have c4b1 : (a1 != 1) = true := bne_iff_ne.mpr c4
      (first | rw [c4b0] | (simp only [i64_w, i32_w]; rw [c4b0]) | skip)
      have H' := Aside0.mk H
      clear H
      go_wp2
      go_meet
      case rel => exact ⟨_, (false), (by first | rfl | (simp; done) | (simp [*]; done)), H', ⟨by first | omega | exact Nat.le_refl _⟩, by repeat (first | exact Drawn0.refl _ | apply Drawn0.step)⟩
  case rest =>
    clear HC3
    try clear c1
    try clear p2
    try clear c4
    try clear c4b0
    try clear c4b1
    try clear c5
    try clear c5b0
    obtain ⟨kq, x14_2, rfl, HA, HJ2, ⟨mc2, rfl⟩⟩ := hcut
    cases kq with
    | zero => exact absurd HA.out (by simp [spec_TxCase.j0])
    | succ kj2 =>
      have H := HA.out
      clear HA
      simp only [spec_TxCase.j0] at H
      by_cases c6 : x14_2 = true
      · subst c6
        have H1 : (some (wrap32 (a0 + 32))) = some r := by rw [if_pos rfl] at H; exact H
        clear H
        have H := H1
        clear H1
        obtain rfl := Option.some.inj H
        go_wp2
        go_ret
        exact ⟨by first | rfl | (simp; done) | (simp [*]; done), by repeat (first | exact Drawn0.refl _ | apply Drawn0.step)⟩
      · replace c6 := Bool.eq_false_iff.mpr c6
        subst c6
        have H1 : (if a1 = 3 then (if a0 ≥ 97 then (if a0 ≤ 122 then (some (wrap32 (a0 - 32))) else (some a0)) else (some a0)) else (some a0)) = some r := by rw [if_neg (show ¬ (false = true) by decide)] at H; exact H
        clear H
        have H := H1
        clear H1
        by_cases c7 : a1 = 3
        · rw [if_pos c7] at H
          have c7b0 : (a1 == 3) = true := beq_iff_eq.mpr c7
          have c7b1 : (a1 != 3) = false := bne_eq_false_iff_eq.mpr c7
          clear c7
          by_cases c8 : a0 ≥ 97
          · rw [if_pos c8] at H
            have c8b0 : decide (97 ≤ a0) = true := decide_eq_true c8
            clear c8
            by_cases c9 : a0 ≤ 122
            · rw [if_pos c9] at H
              have c9b0 : decide (a0 ≤ 122) = true := decide_eq_true c9
              clear c9
              obtain rfl := Option.some.inj H
              go_wp2
              go_ret
              exact ⟨by first | rfl | (simp; done) | (simp [*]; done), by repeat (first | exact Drawn0.refl _ | apply Drawn0.step)⟩
            · rw [if_neg c9] at H
              have c9b0 : decide (a0 ≤ 122) = false := decide_eq_false c9
              clear c9
              obtain rfl := Option.some.inj H
              go_wp2
              go_ret
              exact ⟨by first | rfl | (simp; done) | (simp [*]; done), by repeat (first | exact Drawn0.refl _ | apply Drawn0.step)⟩
          · rw [if_neg c8] at H
            have c8b0 : decide (97 ≤ a0) = false := decide_eq_false c8
            clear c8
            obtain rfl := Option.some.inj H
            go_wp2
            go_ret
            exact ⟨by first | rfl | (simp; done) | (simp [*]; done), by repeat (first | exact Drawn0.refl _ | apply Drawn0.step)⟩
        · rw [if_neg c7] at H
          have c7b0 : (a1 == 3) = false := beq_eq_false_iff_ne.mpr c7
          have c7b1 : (a1 != 3) = true := bne_iff_ne.mpr c7
          obtain rfl := Option.some.inj H
          go_wp2
          go_ret
          exact ⟨by first | rfl | (simp; done) | (simp [*]; done), by repeat (first | exact Drawn0.refl _ | apply Drawn0.step)⟩

/-! ### spec_TxCased: function 10 -/
mutual
def spec_TxCased.l0 : Nat → Int → ByteArray → List (S32) → Int → Int → Option (ByteArray)
  | 0, _, _, _, _, _ => none
  | k + 1, x1, x5, x10, x11, x12 => if x12 < x11 then (if 0 ≤ x12 then (if x12 < (x10.length : Int) then ((spec_TxSequence.f ((rd_T32 x10 x12).f0)).bind fun t133 => (if x5.size + t133.size ≤ 9223372036854775807 then ((itr_make.f ((rd_T32 x10 x12).f1)).bind fun bt134 => (spec_TxCased.l1 k x1 (x5 ++ t133) x10 x11 x12 bt134.1 bt134.2)) else (none))) else (none)) else (none)) else (some x5)
def spec_TxCased.l1 : Nat → Int → ByteArray → List (S32) → Int → Int → ByteArray → Int → Option (ByteArray)
  | 0, _, _, _, _, _, _, _ => none
  | k + 1, x1, x5, x10, x11, x12, x137000, x137001 => if x137001 < (x137000.size : Int) then ((itr_more.f x137000 x137001).bind fun bt137 => ((spec_TxCase.f k bt137.2.1 x1).bind fun t140 => (if x5.size + (Utf8.encode t140).size ≤ 9223372036854775807 then (spec_TxCased.l1 k x1 (x5 ++ (Utf8.encode t140)) x10 x11 x12 x137000 bt137.2.2) else (none)))) else ((itr_end.f x137000 x137001).bind fun t141 => (spec_TxCased.l0 k x1 x5 x10 x11 (wrap64 (x12 + 1))))
end
def spec_TxCased.f (k : Nat) (l0 : List (S32)) (a1 : Int) : Option (ByteArray) := spec_TxCased.l0 k a1 (⟨#[]⟩ : ByteArray) l0 (l0.length : Int) 0
theorem spec_TxCased.mono_l : ∀ k, (∀ y0 y1 y2 y3 y4, LeO (spec_TxCased.l0 k y0 y1 y2 y3 y4) (spec_TxCased.l0 (k + 1) y0 y1 y2 y3 y4)) ∧ (∀ y0 y1 y2 y3 y4 y5 y6, LeO (spec_TxCased.l1 k y0 y1 y2 y3 y4 y5 y6) (spec_TxCased.l1 (k + 1) y0 y1 y2 y3 y4 y5 y6))
  | 0 => ⟨fun _ _ _ _ _ r h => by simp [spec_TxCased.l0] at h, fun _ _ _ _ _ _ _ r h => by simp [spec_TxCased.l1] at h⟩
  | k + 1 => by
    obtain ⟨ih0, ih1⟩ := spec_TxCased.mono_l k
    refine ⟨?_, ?_⟩
    · intro y0 y1 y2 y3 y4
      unfold spec_TxCased.l0
      repeat' first
      | (with_reducible exact ih0 _ _ _ _ _)
      | (with_reducible exact ih1 _ _ _ _ _ _ _)
      | (with_reducible exact spec_TxCase.mono _ _ _)
      | (with_reducible exact LeO.refl _)
      | (with_reducible exact LeO.none _)
      | (with_reducible refine LeO.ite ?_ ?_)
      | (with_reducible refine LeO.bind ?_ (fun _ => ?_))
      | exact ih0 _ _ _ _ _
      | exact ih1 _ _ _ _ _ _ _
      | exact spec_TxCase.mono _ _ _
      | exact LeO.none _
      | refine LeO.ite ?_ ?_
      | refine LeO.bind ?_ (fun _ => ?_)
    · intro y0 y1 y2 y3 y4 y5 y6
      unfold spec_TxCased.l1
      repeat' first
      | (with_reducible exact ih0 _ _ _ _ _)
      | (with_reducible exact ih1 _ _ _ _ _ _ _)
      | (with_reducible exact spec_TxCase.mono _ _ _)
      | (with_reducible exact LeO.refl _)
      | (with_reducible exact LeO.none _)
      | (with_reducible refine LeO.ite ?_ ?_)
      | (with_reducible refine LeO.bind ?_ (fun _ => ?_))
      | exact ih0 _ _ _ _ _
      | exact ih1 _ _ _ _ _ _ _
      | exact spec_TxCase.mono _ _ _
      | exact LeO.none _
      | refine LeO.ite ?_ ?_
      | refine LeO.bind ?_ (fun _ => ?_)
theorem spec_TxCased.mono : ∀ a0 a1 k, LeO (spec_TxCased.f k a0 a1) (spec_TxCased.f (k + 1) a0 a1) := by
  intro a0 a1 k
  obtain ⟨ih0, ih1⟩ := spec_TxCased.mono_l k
  unfold spec_TxCased.f
  repeat' first
      | (with_reducible exact ih0 _ _ _ _ _)
      | (with_reducible exact ih1 _ _ _ _ _ _ _)
      | (with_reducible exact spec_TxCase.mono _ _ _)
      | (with_reducible exact LeO.refl _)
      | (with_reducible exact LeO.none _)
      | (with_reducible refine LeO.ite ?_ ?_)
      | (with_reducible refine LeO.bind ?_ (fun _ => ?_))
      | exact ih0 _ _ _ _ _
      | exact ih1 _ _ _ _ _ _ _
      | exact spec_TxCase.mono _ _ _
      | exact LeO.none _
      | refine LeO.ite ?_ ?_
      | refine LeO.bind ?_ (fun _ => ?_)
set_option maxHeartbeats 8000000 in
set_option maxRecDepth 100000 in
theorem spec_TxCased.calls (k : Nat) (A0 : Option Addr) (c0 : Nat) (l0 : List (S32)) (a1 : Int) (r : ByteArray) (w : World) (hr0 : Kd.C k32 w A0 l0.length l0) (hc0 : l0.length ≤ c0) (h : spec_TxCased.f k l0 a1 = some r) (hT_ : Sqa.Tb w) :
    Calls Tryd.prog 10 #[.slice A0 l0.length c0, .int .i64 a1] w fun e w' => e = .returned (.string r) ∧ Below w.heap.size w w' := by
  have HT_P := Aside0.mk hT_
  clear hT_
  have hu32 := Tryd.underlying32
  have HR0 := Aside0.mk hr0
  have HC0 := Aside0.mk hc0
  clear hr0 hc0
  have HB := Aside0.mk (Below.refl w.heap.size w)
  have H : (spec_TxCased.l0 k a1 (⟨#[]⟩ : ByteArray) l0 (l0.length : Int) 0) = some r := h
  clear h
  have H' := Aside0.mk H
  clear H
  go_enter Tryd.func10, Tryd.ntmps10
  go_wp2
  (try simp only [Act.put, List.setIfInBounds_toArray, List.set_cons_zero, List.set_cons_succ])
  go_loopg [5, 12] k (fun kq v5 v12 w' => ∃ (x5_1 : ByteArray) (x12_1 : Int), v5 = .string x5_1 ∧ v12 = .int .i64 x12_1 ∧ Aside0 (spec_TxCased.l0 kq a1 x5_1 l0 (l0.length : Int) x12_1 = some r) ∧ Aside0 (kq ≤ k) ∧ Aside0 (Below w.heap.size w w'))
  case atStart => exact ⟨((⟨#[]⟩ : ByteArray)), (0), (by first | rfl | (simp; done) | (simp [*]; done)), (by first | rfl | (simp; done) | (simp [*]; done)), H', ⟨Nat.le_refl _⟩, ⟨by repeat (first | (with_reducible first | exact HB.out | apply below_alloc | apply pw_below_drewN | apply below_drew1) | exact HB.out)⟩⟩
  case round =>
    clear H'
    try clear c1
    try clear p2
    obtain ⟨x5_1, x12_1, rfl, rfl, HA, HK1, HB⟩ := hrel
    cases gk with
    | zero => exact absurd HA.out (by simp [spec_TxCased.l0])
    | succ k1 =>
      have H := HA.out
      clear HA
      simp only [spec_TxCased.l0] at H
      by_cases c3 : x12_1 < (l0.length : Int)
      · rw [if_pos c3] at H
        have c3b0 : decide (x12_1 < (l0.length : Int)) = true := decide_eq_true c3
        clear c3
        by_cases c4 : 0 ≤ x12_1
        · rw [if_pos c4] at H
          have c4b0 : decide (0 ≤ x12_1) = true := decide_eq_true c4
          clear c4
          by_cases c5 : x12_1 < (l0.length : Int)
          · rw [if_pos c5] at H
            have c5b0 : decide (x12_1 < (l0.length : Int)) = true := decide_eq_true c5
            clear c5
            replace H := Option.bind_eq_some_iff.mp H
            obtain ⟨t133, A60, H⟩ := H
            replace H : (if x5_1.size + t133.size ≤ 9223372036854775807 then ((itr_make.f ((rd_T32 l0 x12_1).f1)).bind fun bt134 => (spec_TxCased.l1 k1 a1 (x5_1 ++ t133) l0 (l0.length : Int) x12_1 bt134.1 bt134.2)) else (none)) = some r := H
            have A6 := Aside0.mk A60
            clear A60
            by_cases c7 : x5_1.size + t133.size ≤ 9223372036854775807
            · rw [if_pos c7] at H
              have c7b0 := eq_true c7
              have c7b1 : decide (x5_1.size + t133.size ≤ 9223372036854775807) = true := decide_eq_true c7
              try have c7b2 : (9223372036854775807 < x5_1.size + t133.size) = False := eq_false (Nat.not_lt.2 c7)
              replace H := Option.bind_eq_some_iff.mp H
              obtain ⟨⟨t134, t135⟩, A80, H⟩ := H
              replace H : (spec_TxCased.l1 k1 a1 (x5_1 ++ t133) l0 (l0.length : Int) x12_1 t134 t135) = some r := H
              have A8 := Aside0.mk A80
              clear A80
              have H' := Aside0.mk H
              clear H
              have p131 : 0 ≤ (x12_1 : Int) := of_decide_eq_true (by first | (with_reducible assumption) | assumption)
              have q131 : x12_1 < (l0.length : Int) := of_decide_eq_true (by first | (with_reducible assumption) | assumption)
              obtain ⟨ad131, A131_0, c131_0, e131, hx131_0, hx131_1, hl131_0, hi131_0⟩ := at_T32 HR0.out x12_1 p131 q131
              cases e131
              replace hx131_0 := (HB.out.cell (World.block_lt_of_cell? w _ hx131_0)).trans hx131_0
              replace hx131_1 := (HB.out.cell (World.block_lt_of_cell? w _ hx131_1)).trans hx131_1
              have HR131_0 := Aside0.mk hi131_0
              have HC131_0 := Aside0.mk hl131_0
              clear hi131_0 hl131_0
              replace p131 := eq_true p131
              replace q131 := eq_true q131
              go_wp2_with (first | ((with_reducible refine gate_dst (N := 7) rfl ?_); refine box_event ?hg (N := 7) ?hd (cs := #[.slice none 0 0, .string (⟨#[]⟩ : ByteArray)]) (t := 32) ?hr ?_; (case hd => rfl); (case hg => rfl); (case hr => first | (go_simp; done) | (go_simp; rfl)); intro gb132 hg w9 hbox hb; have n0_ := Aside0.mk (below_step (by repeat (first | (with_reducible first | exact HB.out | apply below_alloc | apply pw_below_drewN | apply below_drew1) | exact HB.out)) hb); have n1_ := Aside0.mk (hbox); have n2_ := Aside0.mk ((by rw [hg]; exact (below_size (by repeat (first | (with_reducible first | exact HB.out | apply below_alloc | apply pw_below_drewN | apply below_drew1) | exact HB.out))) : w.heap.size ≤ gb132)); have n3_ := Aside0.mk ((by rw [hg]; exact (below_size (by repeat (first | (with_reducible first | exact HB.out | apply below_alloc | apply pw_below_drewN | apply below_drew1) | exact HB.out))) : w.heap.size ≤ gb132)); clear HB; have HB := n0_; have BK132 := n1_; have GW132 := n2_; have GE132 := n3_; clear n0_ n1_ n2_ n3_; clear hb hbox hg; have hcz10_0 : w9.cell? ⟨gb132, 0, none⟩ = some (.slice none 0 0) := (blk_cell BK132.out 0).trans rfl; have hcz10_1 : w9.cell? ⟨gb132, 1, none⟩ = some (.string (⟨#[]⟩ : ByteArray)) := (blk_cell BK132.out 1).trans rfl; have hfz10_0 := blk_frozen BK132.out 0; have hfz10_1 := blk_frozen BK132.out 1) | ((with_reducible refine gate_callee (f := 15) rfl ?_); refine goesL_ (some 19) rfl rfl Tryd.func15 (by kernel_rfl) rfl #[.slice A131_0 ((rd_T32 l0 x12_1).f0).length c131_0] rfl (by (try simp only [List.map_toArray, List.map_cons, List.map_nil]); first | done | rfl | (simp only [List.length_drop, List.length_take]; rfl)) ?_; (with_reducible refine (spec_TxSequence.calls _ _ ((rd_T32 l0 x12_1).f0) t133 _ ?side1 ?side2 A6.out (Sqa.Tb.below HT_P.out (by repeat (first | (with_reducible first | exact HB.out | apply below_alloc | apply pw_below_drewN | apply below_drew1 | refine below_set ?_ GE132.out | refine below_set ?_ (by assumption)) | exact HB.out | exact Below.refl _ _)))).mono ?_); (case side1 => exact Kd.C_below HR131_0.out (by repeat (first | (with_reducible first | exact HB.out | apply below_alloc | apply pw_below_drewN | apply below_drew1 | refine below_set ?_ GE132.out) | exact HB.out))); (case side2 => exact HC131_0.out); rintro e w11 ⟨rfl, hb⟩; refine ⟨_, rfl, ?_⟩; have n0_ := Aside0.mk (blk_below (g := gb132) (o := .cells #[.slice A131_0 ((rd_T32 l0 x12_1).f0).length c131_0, .string ((rd_T32 l0 x12_1).f1)] 32 (0, 0)) (by (with_reducible repeat (first | refine blk_drewN ?_ _ | refine blk_drew ?_ | refine blk_alloc ?_ _)); refine blk_put (cs := #[.slice A131_0 ((rd_T32 l0 x12_1).f0).length c131_0, .string (⟨#[]⟩ : ByteArray)]) ?_ 1 _ rfl; (with_reducible repeat (first | refine blk_drewN ?_ _ | refine blk_drew ?_ | refine blk_alloc ?_ _)); refine blk_put (cs := #[.slice none 0 0, .string (⟨#[]⟩ : ByteArray)]) ?_ 0 _ rfl; (with_reducible repeat (first | refine blk_drewN ?_ _ | refine blk_drew ?_ | refine blk_alloc ?_ _)); exact BK132.out) hb); have n1_ := Aside0.mk (below_step (by repeat (first | (with_reducible first | exact HB.out | apply below_alloc | apply pw_below_drewN | apply below_drew1 | refine below_set ?_ GE132.out) | exact HB.out)) hb); clear BK132; clear HB; have BK132 := n0_; have HB := n1_; clear n0_ n1_; (try clear hb); (try clear hb2); (try clear hk); (try clear hi); have hcz12_0 : w11.cell? ⟨gb132, 0, none⟩ = some (.slice A131_0 ((rd_T32 l0 x12_1).f0).length c131_0) := (blk_cell BK132.out 0).trans rfl; have hcz12_1 : w11.cell? ⟨gb132, 1, none⟩ = some (.string ((rd_T32 l0 x12_1).f1)) := (blk_cell BK132.out 1).trans rfl; have hfz12_0 := blk_frozen BK132.out 0; have hfz12_1 := blk_frozen BK132.out 1) | ((with_reducible refine gate_dst (N := 23) rfl ?_); refine rangeL_ (some 23) rfl rfl rfl Tryd.underlying9 ((rd_T32 l0 x12_1).f1) rfl ?_; (with_reducible refine (itr_make.calls ((rd_T32 l0 x12_1).f1) t134 t135 w _ ?side1 A8.out).mono ?_); (case side1 => repeat (first | (with_reducible first | exact HB.out | apply below_alloc | apply pw_below_drewN | apply below_drew1 | refine below_set ?_ GE132.out) | exact HB.out)); rintro e w13 ⟨g136, rfl, hi, hb, hb2, hge⟩; refine ⟨_, rfl, ?_⟩; have n0_ := Aside0.mk (blk_below (g := gb132) (o := .cells #[.slice A131_0 ((rd_T32 l0 x12_1).f0).length c131_0, .string ((rd_T32 l0 x12_1).f1)] 32 (0, 0)) (by (with_reducible repeat (first | refine blk_drewN ?_ _ | refine blk_drew ?_ | refine blk_alloc ?_ _)); exact BK132.out) hb2); have n1_ := Aside0.mk (hb); have n2_ := Aside0.mk (hi); have n3_ := Aside0.mk (IsS123.ne_blk hi (blk_below (g := gb132) (o := .cells #[.slice A131_0 ((rd_T32 l0 x12_1).f0).length c131_0, .string ((rd_T32 l0 x12_1).f1)] 32 (0, 0)) (by (with_reducible repeat (first | refine blk_drewN ?_ _ | refine blk_drew ?_ | refine blk_alloc ?_ _)); exact BK132.out) hb2) (by decide)); have n4_ := Aside0.mk (Ne.symm (IsS123.ne_blk hi (blk_below (g := gb132) (o := .cells #[.slice A131_0 ((rd_T32 l0 x12_1).f0).length c131_0, .string ((rd_T32 l0 x12_1).f1)] 32 (0, 0)) (by (with_reducible repeat (first | refine blk_drewN ?_ _ | refine blk_drew ?_ | refine blk_alloc ?_ _)); exact BK132.out) hb2) (by decide))); clear BK132; clear HB; have BK132 := n0_; have HB := n1_; have HI136 := n2_; have NB136_132 := n3_; have NB132_136 := n4_; clear n0_ n1_ n2_ n3_ n4_; (try clear hb); (try clear hb2); (try clear hk); (try clear hi)))
              (try simp only [Act.put, List.setIfInBounds_toArray, List.set_cons_zero, List.set_cons_succ])
              go_loopg [5] k1 (fun kq v5 w' => ∃ (x5_2 : ByteArray) (x137001_2 : Int), v5 = .string x5_2 ∧ Aside0 (spec_TxCased.l1 kq a1 x5_2 l0 (l0.length : Int) x12_1 t134 x137001_2 = some r) ∧ Aside0 (kq ≤ k1) ∧ Aside0 (w'.heap[gb132]? = some (.cells #[(.slice A131_0 ((rd_T32 l0 x12_1).f0).length c131_0), .string ((rd_T32 l0 x12_1).f1)] 32 (0, 0))) ∧ Aside0 (IsS123 w w' g136 t134 x137001_2) ∧ Aside0 (Below w.heap.size w w'))
              case atStart => exact ⟨(x5_1 ++ t133), (t135), (by first | rfl | (simp; done) | (simp [*]; done)), H', ⟨Nat.le_refl _⟩, ⟨by (with_reducible repeat (first | refine blk_drewN ?_ _ | refine blk_drew ?_ | refine blk_alloc ?_ _)); exact BK132.out⟩, ⟨by repeat (first | (with_reducible first | exact HI136.out | apply IsS123.alloc | apply IsS123.drewN | apply IsS123.drew | apply IsS123.set_1 | refine IsS123.far ?_ NB136_132.out _) | exact HI136.out)⟩, ⟨by repeat (first | (with_reducible first | exact HB.out | apply below_alloc | apply pw_below_drewN | apply below_drew1 | refine below_set ?_ (IsS123.ge HI136.out) | refine below_set ?_ GE132.out) | exact HB.out)⟩⟩
              case round =>
                clear H'
                try clear c1
                try clear p1
                try clear q1
                try clear hx1
                try clear p2
                try clear c3
                try clear c3b0
                try clear c4
                try clear c4b0
                try clear c5
                try clear c5b0
                try clear c7
                try clear c7b0
                try clear c7b1
                try clear c7b2
                try clear c10
                try clear c13
                try clear p13
                try clear q13
                try clear hx13
                try clear hcz10_0
                try clear hcz10_1
                try clear hcz12_0
                try clear hcz12_1
                try clear hfz10_0
                try clear hfz10_1
                try clear hfz12_0
                try clear hfz12_1
                try clear hx131_0
                try clear hx131_1
                try clear p131
                try clear p2
                try clear q131
                obtain ⟨x5_2, x137001_2, rfl, HA, HK2, BK132, HI136, HB⟩ := hrel
                cases gk with
                | zero => exact absurd HA.out (by simp [spec_TxCased.l1])
                | succ k2 =>
                  have H := HA.out
                  clear HA
                  simp only [spec_TxCased.l1] at H
                  by_cases c14 : x137001_2 < (t134.size : Int)
                  · rw [if_pos c14] at H
                    have c14b0 : decide (x137001_2 < (t134.size : Int)) = true := decide_eq_true c14
                    clear c14
                    replace H := Option.bind_eq_some_iff.mp H
                    obtain ⟨⟨t137, t138, t139⟩, A150, H⟩ := H
                    replace H : ((spec_TxCase.f k2 t138 a1).bind fun t140 => (if x5_2.size + (Utf8.encode t140).size ≤ 9223372036854775807 then (spec_TxCased.l1 k2 a1 (x5_2 ++ (Utf8.encode t140)) l0 (l0.length : Int) x12_1 t134 t139) else (none))) = some r := H
                    have A15 := Aside0.mk A150
                    clear A150
                    replace H := Option.bind_eq_some_iff.mp H
                    obtain ⟨t140, A160, H⟩ := H
                    replace H : (if x5_2.size + (Utf8.encode t140).size ≤ 9223372036854775807 then (spec_TxCased.l1 k2 a1 (x5_2 ++ (Utf8.encode t140)) l0 (l0.length : Int) x12_1 t134 t139) else (none)) = some r := H
                    have A16 := Aside0.mk A160
                    clear A160
                    by_cases c17 : x5_2.size + (Utf8.encode t140).size ≤ 9223372036854775807
                    · rw [if_pos c17] at H
                      have c17b0 := eq_true c17
                      have c17b1 : decide (x5_2.size + (Utf8.encode t140).size ≤ 9223372036854775807) = true := decide_eq_true c17
                      try have c17b2 : (9223372036854775807 < x5_2.size + (Utf8.encode t140).size) = False := eq_false (Nat.not_lt.2 c17)
                      have H' := Aside0.mk H
                      clear H
                      go_wp2_with (first | ((with_reducible refine gate_dst (N := 24) rfl ?_); refine nextL_ (some 24) rfl rfl rfl (.pointer (some ⟨g136, 0, none⟩)) rfl ?_; (with_reducible refine (itr_more.calls g136 t134 x137001_2 t137 t138 t139 w _ ?side1 ?side2 A15.out).mono ?_); (case side1 => repeat (first | (with_reducible first | exact HI136.out | apply IsS123.alloc | apply IsS123.drewN | apply IsS123.drew | apply IsS123.set_1 | refine IsS123.far ?_ NB136_132.out _) | exact HI136.out)); (case side2 => repeat (first | (with_reducible first | exact HB.out | apply below_alloc | apply pw_below_drewN | apply below_drew1 | refine below_set ?_ (IsS123.ge HI136.out) | refine below_set ?_ GE132.out) | exact HB.out)); rintro e w18 ⟨rfl, hi, hb, hk⟩; refine ⟨_, rfl, ?_⟩; have n0_ := Aside0.mk (KeepBut.blk hk (g' := gb132) (o := .cells #[.slice A131_0 ((rd_T32 l0 x12_1).f0).length c131_0, .string ((rd_T32 l0 x12_1).f1)] 32 (0, 0)) (by (with_reducible repeat (first | refine blk_drewN ?_ _ | refine blk_drew ?_ | refine blk_alloc ?_ _)); exact BK132.out) NB132_136.out (by simp)); have n1_ := Aside0.mk (hb); have n2_ := Aside0.mk (hi); clear BK132; clear HB; clear HI136; have BK132 := n0_; have HB := n1_; have HI136 := n2_; clear n0_ n1_ n2_; (try clear hb); (try clear hb2); (try clear hk); (try clear hi)) | ((with_reducible refine gate_callee (f := 16) rfl ?_); refine goesL_ (some 30) rfl rfl Tryd.func16 (by kernel_rfl) rfl #[.int .i32 t138, .int .i64 a1] rfl (by (try simp only [List.map_toArray, List.map_cons, List.map_nil]); first | done | rfl | (simp only [List.length_drop, List.length_take]; rfl)) ?_; (with_reducible refine (spec_TxCase.calls k2 t138 a1 t140 _ A16.out).mono ?_); rintro e w' ⟨rfl, ⟨nd, rfl⟩⟩; refine ⟨_, rfl, ?_⟩))
                      go_roundg k2
                      case measure => have := HK1.out; have := HK2.out; omega
                      case rel => exact ⟨(x5_2 ++ (Utf8.encode t140)), (t139), (by first | rfl | (simp; done) | (simp [*]; done)), H', ⟨by have := HK1.out; have := HK2.out; omega⟩, ⟨by (with_reducible repeat (first | refine blk_drewN ?_ _ | refine blk_drew ?_ | refine blk_alloc ?_ _)); exact BK132.out⟩, ⟨by repeat (first | (with_reducible first | exact HI136.out | apply IsS123.alloc | apply IsS123.drewN | apply IsS123.drew | apply IsS123.set_1 | refine IsS123.far ?_ NB136_132.out _) | exact HI136.out)⟩, ⟨by repeat (first | (with_reducible first | exact HB.out | apply below_alloc | apply pw_below_drewN | apply below_drew1 | refine below_set ?_ (IsS123.ge HI136.out) | refine below_set ?_ GE132.out) | exact HB.out)⟩⟩
                    · rw [if_neg c17] at H
                      exact absurd H (by simp)
                  · rw [if_neg c14] at H
                    have c14b0 : decide (x137001_2 < (t134.size : Int)) = false := decide_eq_false c14
                    clear c14
                    replace H := Option.bind_eq_some_iff.mp H
                    obtain ⟨t141, A190, H⟩ := H
                    replace H : (spec_TxCased.l0 k2 a1 x5_2 l0 (l0.length : Int) (wrap64 (x12_1 + 1))) = some r := H
                    have A19 := Aside0.mk A190
                    clear A190
                    have H' := Aside0.mk H
                    clear H
                    go_wp2_with (first | ((with_reducible refine gate_dst (N := 24) rfl ?_); refine nextL_ (some 24) rfl rfl rfl (.pointer (some ⟨g136, 0, none⟩)) rfl ?_; (with_reducible refine (itr_end.calls g136 t134 x137001_2 t141 w _ ?side1 ?side2 A19.out).mono ?_); (case side1 => repeat (first | (with_reducible first | exact HI136.out | apply IsS123.alloc | apply IsS123.drewN | apply IsS123.drew | apply IsS123.set_1 | refine IsS123.far ?_ NB136_132.out _) | exact HI136.out)); (case side2 => repeat (first | (with_reducible first | exact HB.out | apply below_alloc | apply pw_below_drewN | apply below_drew1 | refine below_set ?_ (IsS123.ge HI136.out) | refine below_set ?_ GE132.out) | exact HB.out)); rintro e w20 ⟨rfl, hi, hb, hk⟩; refine ⟨_, rfl, ?_⟩; have n0_ := Aside0.mk (KeepBut.blk hk (g' := gb132) (o := .cells #[.slice A131_0 ((rd_T32 l0 x12_1).f0).length c131_0, .string ((rd_T32 l0 x12_1).f1)] 32 (0, 0)) (by (with_reducible repeat (first | refine blk_drewN ?_ _ | refine blk_drew ?_ | refine blk_alloc ?_ _)); exact BK132.out) NB132_136.out (by simp)); have n1_ := Aside0.mk (hb); have n2_ := Aside0.mk (hi); clear BK132; clear HB; clear HI136; have BK132 := n0_; have HB := n1_; have HI136 := n2_; clear n0_ n1_ n2_; (try clear hb); (try clear hb2); (try clear hk); (try clear hi)))
                    go_roundg k2
                    case measure => have := HK1.out; have := HK2.out; omega
                    case rel => exact ⟨(x5_2), (wrap64 (x12_1 + 1)), (by first | rfl | (simp; done) | (simp [*]; done)), (by first | rfl | (simp; done) | (simp [*]; done)), H', ⟨by have := HK1.out; have := HK2.out; omega⟩, ⟨by repeat (first | (with_reducible first | exact HB.out | apply below_alloc | apply pw_below_drewN | apply below_drew1 | refine below_set ?_ (IsS123.ge HI136.out) | refine below_set ?_ GE132.out) | exact HB.out)⟩⟩
            · rw [if_neg c7] at H
              exact absurd H (by simp)
          · rw [if_neg c5] at H
            exact absurd H (by simp)
        · rw [if_neg c4] at H
          exact absurd H (by simp)
      · rw [if_neg c3] at H
        have c3b0 : decide (x12_1 < (l0.length : Int)) = false := decide_eq_false c3
        clear c3
        obtain rfl := Option.some.inj H
        go_wp2
        go_ret
        exact ⟨by first | rfl | (simp [errW_none, errW_some] <;> rfl) | (simp [*, errW_none, errW_some] <;> rfl), by repeat (first | (with_reducible first | exact HB.out | apply below_alloc | apply pw_below_drewN | apply below_drew1) | exact HB.out)⟩

end Go.Proofs.YtmphemnmbofpaaaDoorRRR.GFnTextFormat
