/- The walk of FnCacheCompute. -/
import Derived.Test.YtjhmcpdnmfhodaaCcm
import Derived.Test.YtjhmcpdnmfhodaaCcp
import Derived.Deep.QuietTactic
namespace Go.Proofs.Ytjhmcpdnmfhodaa.Ccw
open Go Go.RowKit Go.Proofs.YtjhmcpdnmfhodaaW.PrintWords Go.Proofs.Ytjhmcpdnmfhodaa.GCfBody Lrc Lcp Lcm Lcw Ccm Ccp Small

theorem few (l : List S36) (hl : l.length ≤ 2147483647) : ∃ k b, laws_cacheFew.f k l = some b := by
  have key : ∀ (m i : Nat), i + m = l.length → ∃ b, Ev (fun k => laws_cacheFew.l0 k l (i : Int)) b := by
    intro m
    induction m with
    | zero =>
      intro i hi
      refine ⟨true, Ev.shift ?_⟩
      simp only [laws_cacheFew.l0, if_neg (show ¬ (i : Int) < (l.length : Int) by omega)]
      exact Ev.now _
    | succ m ih =>
      intro i hi
      obtain ⟨b, hb⟩ := ih (i + 1) (by omega)
      by_cases h1 : (rd_T36 l (i : Int)).f0 < 0
      · refine ⟨false, Ev.shift ?_⟩
        simp only [laws_cacheFew.l0, if_pos (show (i : Int) < (l.length : Int) by omega), if_pos (show (0 : Int) ≤ (i : Int) by omega), if_pos h1]
        exact Ev.now _
      · by_cases h2 : (rd_T36 l (i : Int)).f0 > 8
        · refine ⟨false, Ev.shift ?_⟩
          simp only [laws_cacheFew.l0, if_pos (show (i : Int) < (l.length : Int) by omega), if_pos (show (0 : Int) ≤ (i : Int) by omega), if_neg h1, if_pos h2]
          exact Ev.now _
        · refine ⟨b, Ev.shift ?_⟩
          simp only [laws_cacheFew.l0, if_pos (show (i : Int) < (l.length : Int) by omega), if_pos (show (0 : Int) ≤ (i : Int) by omega), if_neg h1, if_neg h2, wrap_succ i (by omega)]
          exact hb
  by_cases h : (l.length : Int) > 2000
  · exact ⟨0, false, by unfold laws_cacheFew.f; rw [if_pos h]⟩
  · obtain ⟨b, hb⟩ := key l.length 0 (by omega)
    obtain ⟨k, hk⟩ := Ev.rounds hb
    exact ⟨k, b, by unfold laws_cacheFew.f; rw [if_neg h]; exact hk⟩
theorem flat6 (os : List Ot) : ∀ j, (ocs os)[j]? = (os[j / 6]?).bind fun x => (oc x)[j % 6]? := by
  unfold ocs
  induction os with
  | nil => intro j; simp
  | cons x t ih =>
    intro j
    rw [List.flatMap_cons]
    by_cases h : j < 6
    · rw [List.getElem?_append_left (show j < (oc x).length from h), show j / 6 = 0 by omega, show j % 6 = j by omega]
      rfl
    · rw [List.getElem?_append_right (show (oc x).length ≤ j by show 6 ≤ j; omega), show (oc x).length = 6 from rfl, ih, show j / 6 = (j - 6) / 6 + 1 by omega, show (j - 6) % 6 = j % 6 by omega]
      rfl
/-- an entry of what a script gave, in memory -/
theorem read {W : World} {B g c n : Nat} {os : List Ot} (h : W.ownsRow B 33 6 (.slice (some ⟨g, 0, none⟩) n c) n (ocs os)) (i : Nat) (x : Ot) (hx : os[i]? = some x) (hn : n = os.length) :
    W.cell? ⟨g, i * 6, none⟩ = some (.bool x.o.ok) ∧ W.cell? ⟨g, i * 6 + 2, none⟩ = some (.int .i64 x.o.val) ∧ W.cell? ⟨g, i * 6 + 4, none⟩ = some (.bool x.o.asked) := by
  have hi : i < os.length := (List.getElem?_eq_some_iff.1 hx).1
  have key : ∀ r, r < 6 → W.cell? ⟨g, i * 6 + r, none⟩ = (oc x)[r]? := fun r hr => by
    rw [h.cellAt (i * 6 + r) (by omega), flat6, show (i * 6 + r) / 6 = i by omega, show (i * 6 + r) % 6 = r by omega, hx]
    rfl
  exact ⟨key 0 (by omega), key 2 (by omega), key 4 (by omega)⟩
theorem form6 {W : World} {B n : Nat} {v : Value} {xs : List Value} (h : W.ownsRow B 33 6 v n xs) (hn : 0 < n) : ∃ g c, v = .slice (some ⟨g, 0, none⟩) n c := by
  rcases h.2 with ⟨_, h0⟩ | ⟨g, c, _, hv, _⟩
  · omega
  · exact ⟨g, c, hv⟩
/-- what a script's last calls gave -/
theorem lasts {os : List Ot} {n : Int} {ops ex : List Op3} {outs : List O4} (h : os.map Ot.o = (Lcp.run n ⟨[], 0, 0⟩ (ops ++ ex)).2) (he : (Lcp.run n (Lcp.run n ⟨[], 0, 0⟩ ops).1 ex).2 = outs) (i : Nat) (y : O4) (hy : outs[i]? = some y) :
    ∃ x : Ot, os[ops.length + i]? = some x ∧ x.o = y := by
  rw [run_app, he] at h
  have h1 := congrArg (·[ops.length + i]?) h
  simp only [List.getElem?_map] at h1
  rw [List.getElem?_append_right (by rw [run_len2]; omega), run_len2, Nat.add_sub_cancel_left, hy] at h1
  obtain ⟨x, hx, hxy⟩ := Option.map_eq_some_iff.1 h1
  exact ⟨x, hx, hxy⟩
set_option linter.all false in
set_option maxRecDepth 1000000 in
set_option maxHeartbeats 4000000 in
theorem law_any (a0 : Int) (A1 : Option Addr) (c1 : Nat) (l : List S36) (a2 a3 : Int) (w : World) (hr1 : Kd.C k36 w A1 l.length l) (hc1 : l.length ≤ c1) (h00 : 0 ≤ a0) (h01 : a0 ≤ 255) (hk : In64 a2) (hw : ∀ x ∈ l, In64 x.f1) :
    Calls Try.prog 4 #[.int .u8 a0, .slice A1 l.length c1, .int .i64 a2, .int .i64 a3] w fun e w' => e = .returned (.bool true) ∧ Below w.heap.size w w' := by
  have HR := Aside0.mk hr1
  have HW := Aside0.mk (And.intro hk hw)
  obtain ⟨q, hq⟩ : ∃ q, l.length = q := ⟨_, rfl⟩
  have HQ := Aside0.mk hq
  rw [hq] at hc1 ⊢
  clear hr1 hk hw
  by_cases hbig : (q : Int) > 2147483647
  · have hb1 : decide ((q : Int) > 2147483647) = true := decide_eq_true hbig
    have hb2 : decide ((2147483647 : Int) < (q : Int)) = true := hb1
    have hb3 : decide (2147483647 < q) = true := decide_eq_true (by omega)
    clear hq hbig
    go_enter Try.func4, Try.ntmps4
    go_wp2_with (fail)
    go_ret
    exact ⟨rfl, Below.refl _ _⟩
  · have hb1 : decide ((q : Int) > 2147483647) = false := decide_eq_false hbig
    have hb2 : decide ((2147483647 : Int) < (q : Int)) = false := hb1
    have hb3 : decide (2147483647 < q) = false := decide_eq_false (by omega)
    obtain ⟨k, b, hf⟩ := few l (by omega)
    have cF := laws_cacheFew.calls k A1 c1 l b w HR.out (by rw [hq]; exact hc1) hf
    rw [hq] at cF
    clear hq hbig hf
    cases b
    · go_enter Try.func4, Try.ntmps4
      go_wp2_with (go_at_call 5; refine cF.mono ?_; rintro e w1 ⟨rfl, hb⟩; have HB := Aside0.mk hb; clear hb)
      go_ret
      exact ⟨rfl, (Drawn0.below HB.out)⟩
    · by_cases h3 : (q : Int) > 300
      · have hd1 : decide ((q : Int) > 300) = true := decide_eq_true h3
        have hd2 : decide ((300 : Int) < (q : Int)) = true := hd1
        have hd3 : decide (300 < q) = true := decide_eq_true (by omega)
        clear h3
        go_enter Try.func4, Try.ntmps4
        go_wp2_with (go_at_call 5; refine cF.mono ?_; rintro e w1 ⟨rfl, hb⟩; have HB := Aside0.mk hb; clear hb)
        go_ret
        exact ⟨rfl, (Drawn0.below HB.out)⟩
      · have hd1 : decide ((q : Int) > 300) = false := decide_eq_false h3
        have hd2 : decide ((300 : Int) < (q : Int)) = false := hd1
        have hd3 : decide (300 < q) = false := decide_eq_false (by omega)
        have H3 := Aside0.mk h3
        clear h3
        go_enter Try.func4, Try.ntmps4
        have hN0 : 0 < 1 + a0 % 40 := by omega
        have hN1 : 1 + a0 % 40 ≤ 100000 := by omega
        have hwq : wrap64 ((q : Int) + 1) = ((q + 1 : Nat) : Int) := by unfold wrap64; have := H3.out; omega
        have hwq2 : wrap64 ((q : Int) + 2) = ((q + 2 : Nat) : Int) := by unfold wrap64; have := H3.out; omega
        obtain ⟨y, l1, l2, ly⟩ := last (1 + a0 % 40) a2 a3 (Lcp.run (1 + a0 % 40) ⟨[], 0, 0⟩ (l.map toOp)).1
        obtain ⟨fo, hfo⟩ : ∃ fo, Lcp.find (Lcp.run (1 + a0 % 40) ⟨[], 0, 0⟩ (l.map toOp)).1.l a2 = fo := ⟨_, rfl⟩
        rw [hfo] at l1 l2 ly
        have HL := Aside0.mk (And.intro l1 (And.intro l2 ly))
        have hkeys : ∀ ex : List Op3, (∀ x ∈ ex, In64 x.k) → ∀ x ∈ l.map toOp ++ ex, In64 x.k := fun ex he x hx => by
          rcases List.mem_append.1 hx with hx | hx
          · obtain ⟨z, hz, rfl⟩ := List.mem_map.1 hx
            exact HW.out.2 z hz
          · exact he x hx
        have HKY := Aside0.mk hkeys
        clear l1 l2 ly hfo hkeys
        go_wp2_with (fail)
        refine cF.mono ?_
        rintro e w1 ⟨rfl, hb⟩
        have kb1 := Drawn0.below hb
        obtain ⟨v1, W1, r1, g1, cap1, W2, r2, hs2, kb2⟩ := scripts (c1 := c1) kb1 HR.out (by have := HQ.out; have := H3.out; omega) [⟨1, a2, 0⟩] (by simp) (by simp)
        have cA := cacheRun (w := W2) (1 + a0 % 40) hN0 hN1 (l.map toOp ++ [⟨1, a2, 0⟩]) g1 cap1 hs2 (HKY.out _ (by intro x hx; rw [List.mem_singleton.1 hx]; exact HW.out.1)) (by have := HQ.out; have := H3.out; simp; omega)
        have hbw : Below w.heap.size w W2 := ⟨kb2.os.trans kb1.os, kb2.tape.trans kb1.tape, kb2.output.trans kb1.output, Nat.le_trans kb1.size kb2.size, fun k hk => (kb2.block k (by have := kb1.size; omega)).trans (kb1.block k hk)⟩
        have hq0 := HQ.out
        have hl1 : (l.map toOp ++ [(⟨1, a2, 0⟩ : Op3)]).length = q + 1 := by simp [hq0]
        rw [hl1] at cA
        simp only [hq0, List.length_singleton, List.flatMap_cons, List.flatMap_nil, opc, List.append_nil] at r1 r2
        have B1 := Aside0.mk hbw
        clear hb kb1 hs2 kb2 hbw hq0 hl1
        go_wp2_with (first | (refine appL_ (some 37) rfl rfl rfl rfl rfl r1 ?_) | (refine appL_ (some 41) rfl rfl rfl rfl rfl r2 ?_))
        refine cA.mono ?_
        rintro e w3 ⟨v3, os1, rfl, ho1, hm1, kb3⟩
        clear cA r1 r2
        have hbw : Below w.heap.size w w3 := ⟨kb3.os.trans B1.out.os, kb3.tape.trans B1.out.tape, kb3.output.trans B1.out.output, Nat.le_trans B1.out.size kb3.size, fun k hk => (kb3.block k (by have := B1.out.size; omega)).trans (B1.out.block k hk)⟩
        obtain ⟨v4, W4, r3, g2, cap2, W5, r4, hs5, kb5⟩ := scripts (c1 := c1) hbw HR.out (by have := HQ.out; have := H3.out; omega) [⟨2, a2, a3⟩, ⟨1, a2, 0⟩] (by simp) (by simp)
        have cB := cacheRun (w := W5) (1 + a0 % 40) hN0 hN1 (l.map toOp ++ [⟨2, a2, a3⟩, ⟨1, a2, 0⟩]) g2 cap2 hs5 (HKY.out _ (by intro x hx; simp only [List.mem_cons, List.mem_nil_iff, or_false] at hx; rcases hx with rfl | rfl <;> exact HW.out.1)) (by have := HQ.out; have := H3.out; simp; omega)
        have hq0 := HQ.out
        have hl1 : (l.map toOp ++ [(⟨2, a2, a3⟩ : Op3), ⟨1, a2, 0⟩]).length = q + 2 := by simp [hq0]
        rw [hl1] at cB
        have hlo : os1.length = q + 1 := by
          have h := congrArg List.length hm1
          rw [List.length_map, run_len2] at h
          simpa [hq0] using h
        obtain ⟨o1, co1, rfl⟩ := form6 ho1 (by omega)
        have ho5 := own_heap ho1 (fun k hk => kb5.block k (by obtain ⟨c, hc⟩ := own_typed6 ho1 hk; exact (Array.getElem?_eq_some_iff.1 hc).1))
        have hbw5 : Below w.heap.size w W5 := ⟨kb5.os.trans hbw.os, kb5.tape.trans hbw.tape, kb5.output.trans hbw.output, Nat.le_trans hbw.size kb5.size, fun k hk => (kb5.block k (by have := hbw.size; omega)).trans (hbw.block k hk)⟩
        simp only [hq0, List.length_cons, List.length_nil, Nat.zero_add, Nat.reduceAdd, List.flatMap_cons, List.flatMap_nil, opc, List.append_nil, List.cons_append, List.nil_append] at r3 r4
        rw [hlo]
        have B2 := Aside0.mk (And.intro hbw5 (And.intro ho5 (And.intro hm1 hlo)))
        clear ho1 hm1 kb3 hbw hs5 kb5 hq0 hl1 hlo ho5 hbw5
        go_wp2_with (first | (refine appL_ (some 49) rfl rfl rfl rfl rfl r3 ?_) | (refine appL_ (some 56) rfl rfl rfl rfl rfl r4 ?_))
        refine cB.mono ?_
        rintro e w6 ⟨v6, os2, rfl, ho2, hm2, kb6⟩
        clear cB r3 r4
        obtain ⟨b1, b2, b3, b4⟩ := B2.out
        have hq0 := HQ.out
        have hlo2 : os2.length = q + 2 := by
          have h := congrArg List.length hm2
          rw [List.length_map, run_len2] at h
          simpa [hq0] using h
        obtain ⟨o2, co2, rfl⟩ := form6 ho2 (by omega)
        have hoa := own_heap b2 (fun k hk => kb6.block k (by obtain ⟨c, hc⟩ := own_typed6 b2 hk; exact (Array.getElem?_eq_some_iff.1 hc).1))
        obtain ⟨x1, hx1, e1⟩ := lasts b3 HL.out.1 0 _ rfl
        obtain ⟨x2, hx2, e2⟩ := lasts hm2 HL.out.2.1 0 _ rfl
        obtain ⟨x3, hx3, e3⟩ := lasts hm2 HL.out.2.1 1 _ rfl
        simp only [List.length_map, hq0, Nat.add_zero] at hx1 hx2 hx3
        rw [b4] at hoa
        rw [hlo2] at ho2 ⊢
        obtain ⟨p1, p2, p3⟩ := read hoa q x1 hx1 b4.symm
        obtain ⟨q1, q2, q3⟩ := read ho2 q x2 hx2 hlo2.symm
        obtain ⟨s1, s2, s3⟩ := read ho2 (q + 1) x3 hx3 hlo2.symm
        rw [e1] at p1 p2 p3
        rw [e2] at q1 q2 q3
        rw [e3] at s1 s2 s3
        have B3 := Aside0.mk (show Below w.heap.size w w6 from ⟨kb6.os.trans b1.os, kb6.tape.trans b1.tape, kb6.output.trans b1.output, Nat.le_trans b1.size kb6.size, fun k hk => (kb6.block k (by have := b1.size; omega)).trans (b1.block k hk)⟩)
        clear b1 b2 b3 b4 hq0 hlo2 hoa hx1 hx2 hx3 e1 e2 e3 ho2 hm2 kb6
        have hy := HL.out.2.2
        rcases fo with _ | v0
        · simp only [Option.isSome_none, Option.getD_none, Bool.not_false, Bool.false_eq_true, if_false] at p1 p2 p3 q1 q2 q3 s1 s2 s3 hy
          rw [hy] at q2 s2
          clear hy
          go_wp2_with (fail)
          go_quiet (fail)
          try go_wp2
          go_ret
          exact ⟨rfl, by repeat (first | exact B3.out | apply pw_below_drewN)⟩
        · simp only [Option.isSome_some, Option.getD_some, Bool.not_true, if_true] at p1 p2 p3 q1 q2 q3 s1 s2 s3 hy
          rw [hy] at q2 s2
          clear hy
          go_wp2_with (fail)
          go_quiet (fail)
          try go_wp2
          go_ret
          exact ⟨rfl, by repeat (first | exact B3.out | apply pw_below_drewN)⟩
end Go.Proofs.Ytjhmcpdnmfhodaa.Ccw
