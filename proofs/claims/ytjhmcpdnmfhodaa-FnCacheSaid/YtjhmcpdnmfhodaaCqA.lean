/- '==' of two pairs. -/
import Derived.Test.YtjhmcpdnmfhodaaWEqStruct
import Derived.Test.YtjhmcpdnmfhodaaProg
import Derived.ChangeKeysEq
import Derived.Test.YtjhmcpdnmfhodaaSpm
import Derived.Laws.Cover2
section
/- '==' of two pairs. -/
namespace Go.Proofs.Ytjhmcpdnmfhodaa.Eqa
open Go Go.RowKit

theorem eq3 (d : Nat) (a b : Int) (w : World) : (Op.equalIn (d + 1) 3 (.int .i64 a) (.int .i64 b)).run Try.prog w = .ok (a == b) w := by
  simp [Op.equalIn, run_underlying Try.underlying3]
theorem pt0 (a b : Int) (w : World) : (part 3 #[.int .i64 a, .int .i64 b] 0).run Try.prog w = .ok (.int .i64 a) w := run_part_plain w (by kernel_rfl) rfl
theorem pt1 (a b : Int) (w : World) : (part 3 #[.int .i64 a, .int .i64 b] 1).run Try.prog w = .ok (.int .i64 b) w := run_part_plain w (by kernel_rfl) rfl
theorem sz3 (w : World) : (sizeOf 3).run Try.prog w = .ok 1 w := by kernel_rfl
theorem equal44 (d : Nat) (a b x y : Int) (w : World) : (Op.equalIn (d + 2) 44 (.agg #[.int .i64 a, .int .i64 b]) (.agg #[.int .i64 x, .int .i64 y])).run Try.prog w = .ok (a == x && b == y) w := by
  rw [Op.equalIn]
  simp only [Sem.run_bind, run_underlying Try.underlying44, Result.andThen_ok, sz3]
  rw [Std.Legacy.Range.forIn_eq_forIn_range']
  simp only [Std.Legacy.Range.size, Nat.sub_zero, Nat.add_sub_cancel, Nat.div_one, List.range', List.forIn_cons, List.forIn_nil, Sem.run_bind, Nat.zero_mul, Nat.one_mul, pt0, pt1, eq3, Result.andThen_ok]
  cases h1 : (a == x) <;> cases h2 : (b == y) <;> simp [h1, h2, pt0, pt1, eq3]
theorem eql44 (a b x y : Int) (w : World) : (binOp .eql 44 (.agg #[.int .i64 a, .int .i64 b]) (.agg #[.int .i64 x, .int .i64 y])).run Try.prog w = .ok (.bool (a == x && b == y)) w := by
  rw [run_eql_struct, equal44 9998]; rfl
theorem neq44 (a b x y : Int) (w : World) : (binOp .neq 44 (.agg #[.int .i64 a, .int .i64 b]) (.agg #[.int .i64 x, .int .i64 y])).run Try.prog w = .ok (.bool (!(a == x && b == y))) w := by
  rw [run_neq_struct, equal44 9998]; rfl
end Go.Proofs.Ytjhmcpdnmfhodaa.Eqa
end

section
/- The walk of cachePurged. -/
namespace Go.Proofs.Ytjhmcpdnmfhodaa.Cpu
open Go Go.RowKit Go.Proofs.YtjhmcpdnmfhodaaW.PrintWords Spm Eqa

/-- a row of pairs can be read -/
def Rd (w : World) (v : Value) (ps : List (Int × Int)) : Prop := ∃ A n c, v = .slice A n c ∧ ps.length = n ∧ (n ≠ 0 → ∃ g, A = some ⟨g, 0, none⟩ ∧ g < w.heap.size ∧ n ≤ 1000000 ∧ n ≤ c ∧ ∀ i, i < n →
  w.cell? ⟨g, i * 2, none⟩ = some (.int .i64 (ps.getD i (0, 0)).1) ∧ w.cell? ⟨g, i * 2 + 1, none⟩ = some (.int .i64 (ps.getD i (0, 0)).2))
theorem Rd.of_own {B : Nat} {w : World} {v : Value} {n : Nat} {ps : List (Int × Int)} (h : w.ownsRow B 44 2 v n (pcs ps)) (hn : ps.length = n) (hs : n ≤ 1000000) : Rd w v ps := by
  rcases h.2 with ⟨rfl, h0⟩ | ⟨g, c, cur, rfl, hb, hg, hnc, _⟩
  · exact ⟨none, n, 0, by rw [h0], hn, fun h => absurd h0 h⟩
  · exact ⟨some ⟨g, 0, none⟩, n, c, rfl, hn, fun _ => ⟨g, rfl, (Array.getElem?_eq_some_iff.1 hg).1, hs, hnc, fun i hi => cell2 h hn.symm i hi⟩⟩
theorem Rd.kept {w w' : World} {v : Value} {ps : List (Int × Int)} (h : Rd w v ps) (hb : Below w.heap.size w w') : Rd w' v ps := by
  obtain ⟨A, n, c, hv, hn, hr⟩ := h
  exact ⟨A, n, c, hv, hn, fun h0 => by
    obtain ⟨g, hA, hg, hs, hnc, hc⟩ := hr h0
    exact ⟨g, hA, Nat.lt_of_lt_of_le hg hb.size, hs, hnc, fun i hi => ⟨(hb.cell hg).trans (hc i hi).1, (hb.cell hg).trans (hc i hi).2⟩⟩⟩
theorem take_count (got : List (Int × Int)) (y : Int × Int) (k : Nat) (hk : k < got.length) : (got.take (k + 1)).count y = (got.take k).count y + (if (got.getD k (0, 0)).1 = y.1 ∧ (got.getD k (0, 0)).2 = y.2 then 1 else 0) := by
  have hx : got[k]? = some (got.getD k (0, 0)) := by rw [List.getD_eq_getElem?_getD, List.getElem?_eq_getElem hk]; rfl
  rw [List.take_add_one, hx, List.count_append]
  congr 1
  obtain ⟨a, b⟩ := got.getD k (0, 0)
  obtain ⟨c, d⟩ := y
  simp only [Option.toList_some, List.count_cons, List.count_nil, Nat.zero_add]
  by_cases h : a = c ∧ b = d
  · rw [if_pos h, if_pos (by rw [h.1, h.2]; exact beq_self_eq_true _)]
  · rw [if_neg h, if_neg (by simp only [beq_iff_eq, Prod.mk.injEq]; exact h)]
theorem w1 (c : Nat) (h : c < 1000001) : wrap64 ((c : Int) + 1) = ((c + 1 : Nat) : Int) := by unfold wrap64; omega
set_option linter.all false in
set_option maxRecDepth 1000000 in
set_option maxHeartbeats 4000000 in
theorem cPurged {w : World} {v1 v2 : Value} {got want : List (Int × Int)} (h1 : Rd w v1 got) (h2 : Rd w v2 want) (hl : got.length = want.length) (hc : ∀ y ∈ want, got.count y = 1) :
    Calls Try.prog 9 #[v1, v2] w fun r w' => r = .returned (.bool true) ∧ Below w.heap.size w w' := by
  obtain ⟨A1, n, c1, rfl, hn1, hr1⟩ := h1
  obtain ⟨A2, m, c2, rfl, hn2, hr2⟩ := h2
  obtain rfl : m = n := by omega
  by_cases h0 : m = 0
  · subst h0
    clear hr1 hr2 hc hl hn1 hn2
    go_enter Try.func9, Try.ntmps9
    go_wp2_with (fail)
    go_loopg [5] 0 (fun gk v5 wx => v5 = .int .i64 0 ∧ wx = w)
    case atStart => exact ⟨rfl, rfl⟩
    case round =>
      obtain ⟨hv, hw⟩ := hrel
      subst hv
      rw [hw]
      go_wp2_with (fail)
      go_ret
      exact ⟨rfl, Below.refl _ _⟩
  · obtain ⟨g1, rfl, hg1, hs, hm1, hx1⟩ := hr1 h0
    obtain ⟨g2, rfl, hg2, _, hm2, hx2⟩ := hr2 h0
    have HX := Aside0.mk (And.intro hx1 (And.intro hx2 (And.intro hc (And.intro hn1 (And.intro hn2 (And.intro hg1 (And.intro hg2 h0)))))))
    clear hr1 hr2 hx1 hx2 hc hl hn1 hn2 h0
    go_enter Try.func9, Try.ntmps9
    go_wp2_with (fail)
    go_loopg [5] m (fun gk v5 wx => ∃ i : Nat, v5 = .int .i64 i ∧ i + gk = m ∧ Below w.heap.size w wx)
    case atStart => exact ⟨0, rfl, by omega, Below.refl _ _⟩
    case round =>
      obtain ⟨i, hv, hi, hB⟩ := hrel
      subst hv
      have HB := Aside0.mk hB
      by_cases hlt : i < m
      · obtain ⟨g', rfl⟩ : ∃ g', gk = g' + 1 := ⟨gk - 1, by omega⟩
        have hltd : (i : Int) < (m : Int) := by omega
        have hwi := Aside0.mk <| w1 i (Nat.lt_of_lt_of_le hlt (Nat.le_trans hs (by decide)))
        obtain ⟨y, hy⟩ : ∃ y, want.getD i (0, 0) = y := ⟨_, rfl⟩
        have hyc : got.count y = 1 := HX.out.2.2.1 y (by
          rw [← hy, List.getD_eq_getElem?_getD, List.getElem?_eq_getElem (by have := HX.out.2.2.2.2.1; omega)]
          exact List.getElem_mem _)
        have HY := Aside0.mk (And.intro hy hyc)
        clear hB hy hyc
        go_wp2_with (fail)
        go_loopg [6, 7] m (fun gj v6 v7 wx => ∃ k c : Nat, v7 = .int .i64 k ∧ k + gj = m ∧ v6 = .int .i64 c ∧ Aside0 ((got.take k).count y = c ∧ c ≤ k) ∧ Below w.heap.size w wx)
        case atStart => exact ⟨0, 0, rfl, by omega, rfl, ⟨by simp⟩, HB.out⟩
        case round =>
          obtain ⟨k, c, hv7, hk, hv6, hC, hB2⟩ := hrel
          subst hv7
          subst hv6
          by_cases hlk : k < m
          · obtain ⟨j', rfl⟩ : ∃ j', gk = j' + 1 := ⟨gk - 1, by omega⟩
            have hlkd : (k : Int) < (m : Int) := by omega
            have hwk := Aside0.mk <| w1 k (Nat.lt_of_lt_of_le hlk (Nat.le_trans hs (by decide)))
            have hwc := Aside0.mk <| w1 c (Nat.lt_of_le_of_lt hC.out.2 (Nat.lt_of_lt_of_le hlk (Nat.le_trans hs (by decide))))
            obtain ⟨a0, a1⟩ := HX.out.1 k hlk
            obtain ⟨b0, b1⟩ := HX.out.2.1 i hlt
            rw [HY.out.1] at b0 b1
            have HT := Aside0.mk (take_count got y k (by rw [HX.out.2.2.2.1]; exact hlk))
            obtain ⟨z, hz⟩ : ∃ z, got.getD k (0, 0) = z := ⟨_, rfl⟩
            rw [hz] at a0 a1 HT
            have q0 := (hB2.cell (p := ⟨g1, k * 2, none⟩) HX.out.2.2.2.2.2.1).trans a0
            have q1 := (hB2.cell (p := ⟨g1, k * 2 + 1, none⟩) HX.out.2.2.2.2.2.1).trans a1
            have p0 := (hB2.cell (p := ⟨g2, i * 2, none⟩) HX.out.2.2.2.2.2.2.1).trans b0
            have p1 := (hB2.cell (p := ⟨g2, i * 2 + 1, none⟩) HX.out.2.2.2.2.2.2.1).trans b1
            have HB2 := Aside0.mk hB2
            have he := equal44 9998 z.1 z.2 y.1 y.2
            obtain ⟨b, hb⟩ : ∃ b, (z.1 == y.1 && z.2 == y.2) = b := ⟨_, rfl⟩
            rw [hb] at he
            have HE := Aside0.mk hb
            clear hB2 a0 a1 b0 b1 hz hb
            cases b
            · have HT2 : Aside0 ((got.take (k + 1)).count y = c) := ⟨by
                rw [HT.out, if_neg (fun h => by have h2 := HE.out; rw [h.1, h.2] at h2; simp at h2)]; exact hC.out.1⟩
              go_wp2_with (fail)
              go_quiet (fail)
              go_wp2_with (fail)
              go_roundg j'
              case measure => exact Nat.lt_succ_self _
              case rel => exact ⟨k + 1, c, rfl, by rw [Nat.add_right_comm]; exact hk, rfl, ⟨HT2.out, Nat.le_trans hC.out.2 (Nat.le_succ _)⟩, ⟨HB2.out.os, HB2.out.tape, HB2.out.output, HB2.out.size, HB2.out.block⟩⟩
            · have HT2 : Aside0 ((got.take (k + 1)).count y = c + 1) := ⟨by
                rw [HT.out, if_pos (by have h2 := HE.out; simpa using h2), hC.out.1]⟩
              go_wp2_with (fail)
              go_quiet (fail)
              go_wp2_with (fail)
              go_roundg j'
              case measure => exact Nat.lt_succ_self _
              case rel => exact ⟨k + 1, c + 1, rfl, by rw [Nat.add_right_comm]; exact hk, by first | rfl | rw [hwc.out], ⟨HT2.out, Nat.succ_le_succ hC.out.2⟩, ⟨HB2.out.os, HB2.out.tape, HB2.out.output, HB2.out.size, HB2.out.block⟩⟩
          · obtain rfl : gk = 0 := by omega
            obtain rfl : k = m := by omega
            have hc1 : c = 1 := by
              have h1 := hC.out.1
              rw [List.take_of_length_le (by rw [HX.out.2.2.2.1]; exact Nat.le_refl _), HY.out.2] at h1
              exact h1.symm
            subst hc1
            have HB2 := Aside0.mk hB2
            clear hB2
            go_wp2_with (fail)
            go_roundg g'
            case measure => exact Nat.lt_succ_self _
            case rel => exact ⟨i + 1, rfl, by rw [Nat.add_right_comm]; exact hi, HB2.out⟩
      · obtain rfl : gk = 0 := by omega
        obtain rfl : i = m := by omega
        clear hB
        go_wp2_with (fail)
        go_ret
        exact ⟨rfl, HB.out⟩
end Go.Proofs.Ytjhmcpdnmfhodaa.Cpu
end

section
/- The walk of cacheSame. -/
namespace Go.Proofs.Ytjhmcpdnmfhodaa.Csm
open Go Go.RowKit Go.Proofs.YtjhmcpdnmfhodaaW.PrintWords Spm Eqa Cpu

def ov (ok : Bool) (key val : Int) (rate : Nat) (asked : Bool) (gv : Value) : Value := .agg #[.bool ok, .int .i64 key, .int .i64 val, .float .f64 rate, .bool asked, gv]
theorem ne_int (a : Int) : (a != a) = false := bne_self_eq_false a
set_option linter.all false in
set_option maxRecDepth 1000000 in
set_option maxHeartbeats 4000000 in
theorem cSameNil {w : World} (ok asked : Bool) (key val : Int) (rate : Nat) (A1 A2 : Option Addr) (c1 n2 c2 : Nat) (cb : Bool) (hcb : cb = true → n2 = 0) (hr : FloatKind.f64.format.order rate rate = some .eq) :
    Calls Try.prog 10 #[ov ok key val rate asked (.slice A1 0 c1), ov ok key val rate asked (.slice A2 n2 c2), .bool cb] w fun r w' => r = .returned (.bool true) ∧ Below w.heap.size w w' := by
  unfold ov
  have hb2 : Below w.heap.size w ((w.alloc (.cells #[.bool ok, .int .i64 key, .int .i64 val, .float .f64 rate, .bool asked, .slice A1 0 c1] 33)).alloc (.cells #[.bool ok, .int .i64 key, .int .i64 val, .float .f64 rate, .bool asked, .slice A2 n2 c2] 33)) := ((Below.refl _ w).alloc (Nat.le_refl _) _).alloc (by simp) _
  have hf : (FloatKind.f64.format.order rate rate != some .eq) = false := by rw [hr]; rfl
  have HB := Aside0.mk hb2
  clear hb2 hr
  cases cb
  · clear hcb
    go_enter Try.func10, Try.ntmps10
    go_wp2_with (fail)
    go_loopg [8] 0 (fun gk v8 wx => v8 = .int .i64 0 ∧ Below w.heap.size w wx)
    case atStart => exact ⟨rfl, HB.out⟩
    case round =>
      obtain ⟨hv, hw⟩ := hrel
      subst hv
      have HW := Aside0.mk hw
      clear hw
      go_wp2_with (fail)
      go_ret
      exact ⟨rfl, HW.out⟩
  · obtain rfl := hcb rfl
    clear hcb
    go_enter Try.func10, Try.ntmps10
    go_wp2_with (fail)
    go_loopg [8] 0 (fun gk v8 wx => v8 = .int .i64 0 ∧ Below w.heap.size w wx)
    case atStart => exact ⟨rfl, HB.out⟩
    case round =>
      obtain ⟨hv, hw⟩ := hrel
      subst hv
      have HW := Aside0.mk hw
      clear hw
      go_wp2_with (fail)
      go_ret
      exact ⟨rfl, HW.out⟩
set_option linter.all false in
set_option maxRecDepth 1000000 in
set_option maxHeartbeats 4000000 in
theorem cSameFull {w : World} (ok asked : Bool) (key val : Int) (rate : Nat) (g1 g2 n c1 c2 : Nat) (l : List (Int × Int)) (hl : l.length = n) (hs : n ≤ 1000000) (hn1 : n ≤ c1) (hn2 : n ≤ c2) (hg1 : g1 < w.heap.size) (hg2 : g2 < w.heap.size)
    (h1 : ∀ i, i < n → w.cell? ⟨g1, i * 2, none⟩ = some (.int .i64 (l.getD i (0, 0)).1) ∧ w.cell? ⟨g1, i * 2 + 1, none⟩ = some (.int .i64 (l.getD i (0, 0)).2))
    (h2 : ∀ i, i < n → w.cell? ⟨g2, i * 2, none⟩ = some (.int .i64 (l.getD i (0, 0)).1) ∧ w.cell? ⟨g2, i * 2 + 1, none⟩ = some (.int .i64 (l.getD i (0, 0)).2)) (hr : FloatKind.f64.format.order rate rate = some .eq) :
    Calls Try.prog 10 #[ov ok key val rate asked (.slice (some ⟨g1, 0, none⟩) n c1), ov ok key val rate asked (.slice (some ⟨g2, 0, none⟩) n c2), .bool true] w fun r w' => r = .returned (.bool true) ∧ Below w.heap.size w w' := by
  unfold ov
  obtain ⟨W, hW⟩ : ∃ W, (w.alloc (.cells #[.bool ok, .int .i64 key, .int .i64 val, .float .f64 rate, .bool asked, .slice (some ⟨g1, 0, none⟩) n c1] 33)).alloc (.cells #[.bool ok, .int .i64 key, .int .i64 val, .float .f64 rate, .bool asked, .slice (some ⟨g2, 0, none⟩) n c2] 33) = W := ⟨_, rfl⟩
  have hb2 : Below w.heap.size w W := by rw [← hW]; exact ((Below.refl _ w).alloc (Nat.le_refl _) _).alloc (by simp) _
  have hzW : W.heap.size = w.heap.size + 1 + 1 := by rw [← hW]; simp
  have hp1 : W.heap[w.heap.size]? = some (.cells #[.bool ok, .int .i64 key, .int .i64 val, .float .f64 rate, .bool asked, .slice (some ⟨g1, 0, none⟩) n c1] 33 (0, 0)) := by rw [← hW]; exact (Below.heap_alloc _ _ _ (by simp)).trans (heap_alloc_new w _)
  have hp2 : W.heap[w.heap.size + 1]? = some (.cells #[.bool ok, .int .i64 key, .int .i64 val, .float .f64 rate, .bool asked, .slice (some ⟨g2, 0, none⟩) n c2] 33 (0, 0)) := by
    have := heap_alloc_new (w.alloc (.cells #[.bool ok, .int .i64 key, .int .i64 val, .float .f64 rate, .bool asked, .slice (some ⟨g1, 0, none⟩) n c1] 33)) (.cells #[.bool ok, .int .i64 key, .int .i64 val, .float .f64 rate, .bool asked, .slice (some ⟨g2, 0, none⟩) n c2] 33)
    rw [hW] at this
    simpa using this
  have x0 : W.cell? ⟨w.heap.size, 0, none⟩ = some (.bool ok) := by rw [Lib.cell_of_heap hp1]; rfl
  have x1 : W.cell? ⟨w.heap.size, 1, none⟩ = some (.int .i64 key) := by rw [Lib.cell_of_heap hp1]; rfl
  have x2 : W.cell? ⟨w.heap.size, 2, none⟩ = some (.int .i64 val) := by rw [Lib.cell_of_heap hp1]; rfl
  have x3 : W.cell? ⟨w.heap.size, 3, none⟩ = some (.float .f64 rate) := by rw [Lib.cell_of_heap hp1]; rfl
  have x4 : W.cell? ⟨w.heap.size, 4, none⟩ = some (.bool asked) := by rw [Lib.cell_of_heap hp1]; rfl
  have x5 : W.cell? ⟨w.heap.size, 5, none⟩ = some (.slice (some ⟨g1, 0, none⟩) n c1) := by rw [Lib.cell_of_heap hp1]; rfl
  have y0 : W.cell? ⟨w.heap.size + 1, 0, none⟩ = some (.bool ok) := by rw [Lib.cell_of_heap hp2]; rfl
  have y1 : W.cell? ⟨w.heap.size + 1, 1, none⟩ = some (.int .i64 key) := by rw [Lib.cell_of_heap hp2]; rfl
  have y2 : W.cell? ⟨w.heap.size + 1, 2, none⟩ = some (.int .i64 val) := by rw [Lib.cell_of_heap hp2]; rfl
  have y3 : W.cell? ⟨w.heap.size + 1, 3, none⟩ = some (.float .f64 rate) := by rw [Lib.cell_of_heap hp2]; rfl
  have y4 : W.cell? ⟨w.heap.size + 1, 4, none⟩ = some (.bool asked) := by rw [Lib.cell_of_heap hp2]; rfl
  have y5 : W.cell? ⟨w.heap.size + 1, 5, none⟩ = some (.slice (some ⟨g2, 0, none⟩) n c2) := by rw [Lib.cell_of_heap hp2]; rfl
  have hf : (FloatKind.f64.format.order rate rate != some .eq) = false := by rw [hr]; rfl
  have HX := Aside0.mk (And.intro h1 (And.intro h2 (And.intro hb2 (And.intro hg1 (And.intro hg2 (And.intro hl (And.intro x5 hzW)))))))
  clear h1 h2 hb2 hg1 hg2 hl hr hp1 hp2 hzW
  go_enter Try.func10, Try.ntmps10
  go_wp2_with (fail)
  clear x0 x1 x2 x3 x4 x5 y0 y1 y2 y3 y4 y5 hW hf
  go_loopg [8] n (fun gk v8 wx => ∃ i : Nat, v8 = .int .i64 i ∧ i + gk = n ∧ Below W.heap.size W wx)
  case atStart => exact ⟨0, rfl, by omega, Below.refl _ _⟩
  case round =>
    obtain ⟨i, hv, hi, hB⟩ := hrel
    subst hv
    have HB := Aside0.mk hB
    by_cases hlt : i < n
    · obtain ⟨g', rfl⟩ : ∃ g', gk = g' + 1 := ⟨gk - 1, by omega⟩
      have hltd : (i : Int) < (n : Int) := by omega
      obtain ⟨a0, a1⟩ := HX.out.1 i hlt
      obtain ⟨b0, b1⟩ := HX.out.2.1 i hlt
      obtain ⟨y, hy⟩ : ∃ y, l.getD i (0, 0) = y := ⟨_, rfl⟩
      rw [hy] at a0 a1 b0 b1
      have hbw := HX.out.2.2.1
      have hzz := HX.out.2.2.2.2.2.2.2
      have hgw1 : g1 < W.heap.size := by have := HX.out.2.2.2.1; omega
      have hgw2 : g2 < W.heap.size := by have := HX.out.2.2.2.2.1; omega
      have q0 := (hB.cell (p := ⟨g1, i * 2, none⟩) hgw1).trans ((hbw.cell (p := ⟨g1, i * 2, none⟩) HX.out.2.2.2.1).trans a0)
      have q1 := (hB.cell (p := ⟨g1, i * 2 + 1, none⟩) hgw1).trans ((hbw.cell (p := ⟨g1, i * 2 + 1, none⟩) HX.out.2.2.2.1).trans a1)
      have p0 := (hB.cell (p := ⟨g2, i * 2, none⟩) hgw2).trans ((hbw.cell (p := ⟨g2, i * 2, none⟩) HX.out.2.2.2.2.1).trans b0)
      have p1 := (hB.cell (p := ⟨g2, i * 2 + 1, none⟩) hgw2).trans ((hbw.cell (p := ⟨g2, i * 2 + 1, none⟩) HX.out.2.2.2.2.1).trans b1)
      have r5 := (hB.cell (p := ⟨w.heap.size, 5, none⟩) (show w.heap.size < W.heap.size by omega)).trans HX.out.2.2.2.2.2.2.1
      have he := equal44 9998 y.1 y.2 y.1 y.2
      rw [show (y.1 == y.1 && y.2 == y.2) = true by simp] at he
      clear hB a0 a1 b0 b1 hy hbw hzz hgw1 hgw2
      go_wp2_with (fail)
      go_quiet (fail)
      go_wp2_with (fail)
      go_roundg g'
      case measure => omega
      case rel => exact ⟨i + 1, rfl, by omega, ⟨HB.out.os, HB.out.tape, HB.out.output, HB.out.size, HB.out.block⟩⟩
    · obtain rfl : gk = 0 := by omega
      obtain rfl : i = n := by omega
      clear hB
      go_wp2_with (fail)
      go_ret
      exact ⟨rfl, HX.out.2.2.1.trans (HB.out.mono (by have := HX.out.2.2.2.2.2.2.2; omega))⟩
/-- the two say the same -/
theorem cSame {w : World} {v1 v2 : Value} {got want : List (Int × Int)} (h1 : Rd w v1 got) (h2 : Rd w v2 want) (ok asked : Bool) (key val : Int) (rate : Nat) (cb : Bool) (hsame : got = if cb then want else []) (hr : FloatKind.f64.format.order rate rate = some .eq) :
    Calls Try.prog 10 #[ov ok key val rate asked v1, ov ok key val rate asked v2, .bool cb] w fun r w' => r = .returned (.bool true) ∧ Below w.heap.size w w' := by
  obtain ⟨A1, n, c1, rfl, hn1, hr1⟩ := h1
  obtain ⟨A2, m, c2, rfl, hn2, hr2⟩ := h2
  by_cases h0 : n = 0
  · subst h0
    refine cSameNil ok asked key val rate A1 A2 c1 m c2 cb (fun hcb => ?_) hr
    rw [hcb, if_pos rfl] at hsame
    rw [hsame] at hn1
    omega
  · cases cb
    · rw [if_neg (by decide)] at hsame
      rw [hsame] at hn1
      exact absurd hn1.symm h0
    · rw [if_pos rfl] at hsame
      subst hsame
      obtain rfl : m = n := by omega
      obtain ⟨g1, rfl, hg1, hs, hm1, hx1⟩ := hr1 h0
      obtain ⟨g2, rfl, hg2, _, hm2, hx2⟩ := hr2 h0
      exact cSameFull ok asked key val rate g1 g2 m c1 c2 got hn1 hs hm1 hm2 hg1 hg2 hx1 hx2 hr
end Go.Proofs.Ytjhmcpdnmfhodaa.Csm
end
