/- The walk of CacheRun, without a callback: each result is what the step tells. -/
import Derived.Test.YtjhmcpdnmfhodaaLeB
namespace Go.Proofs.Ytjhmcpdnmfhodaa.Leh
open Go Go.Maps Go.ChangeMaps Go.MapKept Go.RowKit Go.Proofs.YtjhmcpdnmfhodaaW.PrintWords Ll Lra Lrc Lrw Lrx Lrz Lcp Mp Spm Lea Leb Lec Lee Lef Leg Lej Flt
open Lcw (put_size appL_)
open Go.Proofs.Ytjhmcpdnmfhodaa.GCfBody (S36 k36 z36 rd_T36 at_T36)
open Ccm (toOp)

set_option linter.all false in
set_option maxRecDepth 1000000 in
set_option maxHeartbeats 4000000 in
theorem cacheRun {w : World} (n : Int) (hn : 0 < n) (l : List S36) (A1 : Option Addr) (c1 : Nat) (hr : Kd.C k36 w A1 l.length l) (hk : ∀ x ∈ l, In64 x.f1) (hd : ∀ x ∈ l, 0 ≤ x.f0 ∧ x.f0 ≤ 8) (hfew : l.length ≤ 2000) :
    Calls Try.prog 6 #[.int .i64 n, .bool false, .slice A1 l.length c1] w (Post w n false l) := by
  obtain ⟨Q, hQ⟩ : ∃ Q, Post w n false l = Q := ⟨_, rfl⟩
  obtain ⟨N, hN⟩ : ∃ N, cut n = N := ⟨_, rfl⟩
  have h0 : 0 < N := by rw [← hN]; unfold cut; omega
  have h1 : N ≤ 100000 := by rw [← hN]; unfold cut; omega
  obtain ⟨ops, hops⟩ : ∃ ops, l.map toOp = ops := ⟨_, rfl⟩
  have hlo : l.length = ops.length := by rw [← hops, List.length_map]
  have HX0 := Aside0.mk (And.intro hr (And.intro hk (And.intro hd (And.intro hops (And.intro hQ (And.intro hfew hN))))))
  have cN := new2 (w.alloc (.cells #[.slice none 0 0] 31)) n hn
  rw [hN] at cN
  unfold ptr at cN
  rw [hQ]
  rw [hlo]
  clear hr hk hd hfew hQ hops hN hn
  go_enter Try.func6, Try.ntmps6
  go_wp2_with (first | (go_at_call 11; refine cN.mono ?_; rintro r wn ⟨rfl, hwn⟩; clear cN))
  go_loopg [10, 25] ops.length (fun gk v10 v25 wx => ∃ j : Nat, v25 = .int .i64 j ∧ j ≤ ops.length ∧ ops.length ≤ j + gk ∧ Ru2 w N false ops w.heap.size (w.heap.size + 1 + 1) j v10 wx)
  case atStart =>
    refine ⟨0, rfl, Nat.zero_le _, by omega, ?_⟩
    have hz : (w.alloc (.cells #[.slice none 0 0] 31)).heap.size = w.heap.size + 1 := by simp
    have hb0 : Below w.heap.size w (w.alloc (.cells #[.slice none 0 0] 31)) := (Below.refl _ w).alloc (Nat.le_refl _) _
    have hg : (w.alloc (.cells #[.slice none 0 0] 31)).heap[w.heap.size]? = some (.cells #[.slice none 0 0] 31 (0, 0)) := heap_alloc_new w _
    have hs := startF (w := w) N ops (w.alloc (.cells #[.slice none 0 0] 31)) hz hb0 hg
    exact hs
  case round =>
    obtain ⟨j, hv, hj, hfu, hR⟩ := hrel
    subst hv
    by_cases hlt : j < ops.length
    · obtain ⟨g', rfl⟩ : ∃ g', gk = g' + 1 := ⟨gk - 1, by omega⟩
      obtain ⟨ad, hA1, hc0, hc1, hc2⟩ := at_T36 (Kd.C_below HX0.out.1 hR.below) (j : Int) (by omega) (by rw [hlo]; omega)
      cases hA1
      obtain ⟨x, hx⟩ : ∃ x, toOp (rd_T36 l (j : Int)) = x := ⟨_, rfl⟩
      have hxo : ops[j]? = some x := by
        rw [← HX0.out.2.2.2.1, List.getElem?_map, List.getElem?_eq_getElem (by omega), ← hx]
        show some _ = some _
        congr 2
        show _ = l.getD (j : Int).toNat z36
        rw [Int.toNat_natCast, List.getD_eq_getElem?_getD, List.getElem?_eq_getElem (by omega)]; rfl
      have hmem : rd_T36 l (j : Int) ∈ l := by
        show l.getD (j : Int).toNat z36 ∈ l
        rw [Int.toNat_natCast, List.getD_eq_getElem?_getD, List.getElem?_eq_getElem (by omega)]
        exact List.getElem_mem _
      have hxk : In64 x.k := by rw [← hx]; exact HX0.out.2.1 _ hmem
      have hxd : 0 ≤ x.d ∧ x.d ≤ 8 := by rw [← hx]; exact HX0.out.2.2.1 _ hmem
      rw [Int.toNat_natCast] at hc0 hc1 hc2
      rw [show (rd_T36 l (j : Int)).f0 = x.d by rw [← hx]; rfl] at hc0
      rw [show (rd_T36 l (j : Int)).f1 = x.k by rw [← hx]; rfl] at hc1
      rw [show (rd_T36 l (j : Int)).f2 = x.v by rw [← hx]; rfl] at hc2
      obtain ⟨vG, hvG⟩ := hR.gone
      have hg0 : wr.cell? ⟨w.heap.size, 0, none⟩ = some vG := by rw [Lib.cell_of_heap hvG]; rfl
      have hgf : ∀ q, wr.frozen? ⟨w.heap.size, q, none⟩ = false := fun q => by rw [Lib.frozen_of_heap hvG]
      have hd1 : decide ((j : Int) < (ops.length : Int)) = true := decide_eq_true (by omega)
      have HR := Aside0.mk hR
      have hGlt : w.heap.size < wr.heap.size := (Array.getElem?_eq_some_iff.1 hvG).1
      have hga : ∀ o, (wr.alloc o).cell? ⟨w.heap.size, 0, none⟩ = some vG := fun o => by rw [Lib.cell_of_heap ((Below.heap_alloc wr o _ hGlt).trans hvG)]; rfl
      have hgaf : ∀ o q, (wr.alloc o).frozen? ⟨w.heap.size, q, none⟩ = false := fun o q => by rw [Lib.frozen_of_heap ((Below.heap_alloc wr o _ hGlt).trans hvG)]
      clear hR hx hmem hvG
      have hltd : (j : Int) < (ops.length : Int) := by omega
      have hsf : ∀ (W : World) (ad : Addr) (b : Nat), (store ad (.float .f64 b)).run Try.prog W = stored Try.prog W ad (.float .f64 b) .plain := fun W ad b => run_store Try.prog W ad _ .plain rfl
      go_upto_region 13 with (fail)
      obtain ⟨os, hos, hMd⟩ := HR.out.start (x := x) (Nat.le_refl _)
      obtain ⟨W, hW⟩ : ∃ W, ((wr.setCell ⟨w.heap.size, 0, none⟩ (.slice none 0 0)).alloc (.cells #[.int .i64 x.d, .int .i64 x.k, .int .i64 x.v] 36)).alloc (.cells #[.bool false, .int .i64 0, .int .i64 0, .float .f64 0, .bool false, .slice none 0 0] 33) = W := ⟨_, rfl⟩
      rw [hW] at hMd ⊢
      obtain ⟨p, hp⟩ : ∃ p, wr.heap.size = p := ⟨_, rfl⟩
      rw [hp] at hMd ⊢
      have hgp := hMd.gp
      have d1 : w.heap.size ≠ p + 1 := by omega
      have d1' := d1.symm
      have x0 : W.cell? ⟨p, 0, none⟩ = some (.int .i64 x.d) := by rw [Lib.cell_of_heap hMd.xb]; rfl
      have x1 : W.cell? ⟨p, 1, none⟩ = some (.int .i64 x.k) := by rw [Lib.cell_of_heap hMd.xb]; rfl
      have x2 : W.cell? ⟨p, 2, none⟩ = some (.int .i64 x.v) := by rw [Lib.cell_of_heap hMd.xb]; rfl
      have hll : (stAt N ops j).l.length ≤ 100000 := by
        have := Lcw.run_len N (ops.take j) ⟨[], 0, 0⟩
        rw [List.length_take] at this
        simp only [List.length_nil] at this
        have h2 := HX0.out.2.2.2.2.2.1
        show (Lcp.run N ⟨[], 0, 0⟩ (ops.take j)).1.l.length ≤ 100000
        omega
      have hom : os.length ≤ 4000 := by have := hos.len; have h2 := HX0.out.2.2.2.2.2.1; omega
      have HHM : Aside0 (0 ≤ (stAt N ops j).h ∧ 0 ≤ (stAt N ops j).m ∧ (stAt N ops j).h + (stAt N ops j).m ≤ 4000) := by
        have h2 := HX0.out.2.2.2.2.2.1
        obtain ⟨b1, b2, b3⟩ := stAt_hm N ops (by omega) j (by omega)
        exact ⟨b1, b2, by omega⟩
      have HX := Aside0.mk (And.intro hxo (And.intro hos hom))
      have HM := Aside0.mk hMd
      have hwj : wrap64 ((j : Int) + 1) = ((j + 1 : Nat) : Int) := by have h2 := HX0.out.2.2.2.2.2.1; unfold wrap64; omega
      obtain ⟨d, hd⟩ : ∃ d, x.d = d := ⟨_, rfl⟩
      rw [hd] at x0
      have HD := Aside0.mk (And.intro hd hxd)
      clear hc0 hc1 hc2 hg0 hgf hga hgaf hGlt hW hp hgp hMd hxo hos hom hd HR hxd
      by_cases hq0 : d = 0
      · subst hq0
        have cC := cAdd HM.out HD.out.1 h0 hxk hll
        go_wp2_with (first | (refine appL_ (some 102) rfl rfl rfl rfl rfl hrun ?_) | (
          go_at_call 14
          refine cC.mono ?_
          rintro r w1 ⟨b, l', A, q, c, gs, rfl, hst, hgs, hM1⟩
          obtain ⟨u0, u1, u2⟩ := tail hM1
          have e0 : w1.cell? ⟨p + 1, 0, none⟩ = some (.bool false) := u1 0
          have e1 : w1.cell? ⟨p + 1, 1, none⟩ = some (.int .i64 0) := u1 1
          have e2 : w1.cell? ⟨p + 1, 2, none⟩ = some (.int .i64 0) := u1 2
          have e3 : w1.cell? ⟨p + 1, 3, none⟩ = some (.float .f64 0) := u1 3
          have e4 : w1.cell? ⟨p + 1, 4, none⟩ = some (.bool false) := u1 4
          have e5 : w1.cell? ⟨p + 1, 5, none⟩ = some (.slice none 0 0) := u1 5
          obtain ⟨g2, cap2, w6, hrun, k1, k2, k3, k4, k5⟩ := Md2.end_ ⟨⟨b, 0, 0, false⟩, 0, gs, .slice A q c⟩ ((hM1.put 0 (.bool b)).put 5 (.slice A q c)) rfl rfl ⟨_, _, _, rfl⟩ rfl HX.out.2.2
          simp only [put_size, oz, o0] at hrun
          have K := Aside0.mk (Ru2.next (y := ⟨⟨b, 0, 0, false⟩, 0, gs, .slice A q c⟩) HX.out.1 HX.out.2.1 (okE hst (rate0 (by rw [HD.out.1]; decide)).symm hgs) (by rw [show Lcp.step N (stAt N ops j) x = _ from hst]) k1 k2 k3 k4 k5)
          clear u1 hst hM1 k1 k2 k3 k4 k5 hgs))
        go_roundg g'
        case measure => omega
        case rel => exact ⟨j + 1, congrArg _ hwj, hlt, by omega, K.out⟩
      by_cases hq1 : d = 1
      · subst hq1
        have cC := cGet HM.out HD.out.1 h0 hxk
        go_wp2_with (first | (refine appL_ (some 102) rfl rfl rfl rfl rfl hrun ?_) | (
          go_at_call 15
          refine cC.mono ?_
          rintro r w1 ⟨v, b, l', h', m', rfl, hst, hM1⟩
          obtain ⟨u0, u1, u2⟩ := tail hM1
          have e0 : w1.cell? ⟨p + 1, 0, none⟩ = some (.bool false) := u1 0
          have e1 : w1.cell? ⟨p + 1, 1, none⟩ = some (.int .i64 0) := u1 1
          have e2 : w1.cell? ⟨p + 1, 2, none⟩ = some (.int .i64 0) := u1 2
          have e3 : w1.cell? ⟨p + 1, 3, none⟩ = some (.float .f64 0) := u1 3
          have e4 : w1.cell? ⟨p + 1, 4, none⟩ = some (.bool false) := u1 4
          have e5 : w1.cell? ⟨p + 1, 5, none⟩ = some (.slice none 0 0) := u1 5
          obtain ⟨g2, cap2, w6, hrun, k1, k2, k3, k4, k5⟩ := Md2.end_ ⟨⟨b, 0, v, false⟩, 0, [], .slice none 0 0⟩ (((hM1.put 2 (.int .i64 v)).put 0 (.bool b)).put 5 (.slice none 0 0)) rfl rfl ⟨_, _, _, rfl⟩ rfl HX.out.2.2
          simp only [put_size, oz, o0] at hrun
          have K := Aside0.mk (Ru2.next (y := ⟨⟨b, 0, v, false⟩, 0, [], .slice none 0 0⟩) HX.out.1 HX.out.2.1 (okE hst (rate0 (by rw [HD.out.1]; decide)).symm (by rw [gone_other (by rw [HD.out.1]; decide), told_nil])) (by rw [show Lcp.step N (stAt N ops j) x = _ from hst]) k1 k2 k3 k4 k5)
          clear u1 hst hM1 k1 k2 k3 k4 k5))
        go_roundg g'
        case measure => omega
        case rel => exact ⟨j + 1, congrArg _ hwj, hlt, by omega, K.out⟩
      by_cases hq2 : d = 2
      · subst hq2
        have cC := cOr HM.out HD.out.1 h0 hxk hll (by decide) rfl
        go_wp2_with (first | (refine appL_ (some 102) rfl rfl rfl rfl rfl hrun ?_) | (
          go_at_call 16
          refine cC.mono ?_
          rintro r w1 ⟨v, b, l', h', m', A, q, c, gs, rfl, hst, hgs, hM1⟩
          obtain ⟨u0, u1, u2⟩ := tail hM1
          have e0 : w1.cell? ⟨p + 1, 0, none⟩ = some (.bool false) := u1 0
          have e1 : w1.cell? ⟨p + 1, 1, none⟩ = some (.int .i64 0) := u1 1
          have e2 : w1.cell? ⟨p + 1, 2, none⟩ = some (.int .i64 0) := u1 2
          have e3 : w1.cell? ⟨p + 1, 3, none⟩ = some (.float .f64 0) := u1 3
          have e4 : w1.cell? ⟨p + 1, 4, none⟩ = some (.bool b) := u1 4
          have e5 : w1.cell? ⟨p + 1, 5, none⟩ = some (.slice none 0 0) := u1 5
          obtain ⟨g2, cap2, w6, hrun, k1, k2, k3, k4, k5⟩ := Md2.end_ ⟨⟨false, 0, v, b⟩, 0, gs, .slice A q c⟩ ((hM1.put 2 (.int .i64 v)).put 5 (.slice A q c)) rfl rfl ⟨_, _, _, rfl⟩ rfl HX.out.2.2
          simp only [put_size, oz, o0] at hrun
          have K := Aside0.mk (Ru2.next (y := ⟨⟨false, 0, v, b⟩, 0, gs, .slice A q c⟩) HX.out.1 HX.out.2.1 (okE hst (rate0 (by rw [HD.out.1]; decide)).symm hgs) (by rw [show Lcp.step N (stAt N ops j) x = _ from hst]) k1 k2 k3 k4 k5)
          clear u1 hst hM1 k1 k2 k3 k4 k5 hgs))
        go_roundg g'
        case measure => omega
        case rel => exact ⟨j + 1, congrArg _ hwj, hlt, by omega, K.out⟩
      by_cases hq3 : d = 3
      · subst hq3
        have cC := cRemove HM.out HD.out.1 h0 hxk
        go_wp2_with (first | (refine appL_ (some 102) rfl rfl rfl rfl rfl hrun ?_) | (
          go_at_call 18
          refine cC.mono ?_
          rintro r w1 ⟨b, l', rfl, hst, hM1⟩
          obtain ⟨u0, u1, u2⟩ := tail hM1
          have e0 : w1.cell? ⟨p + 1, 0, none⟩ = some (.bool false) := u1 0
          have e1 : w1.cell? ⟨p + 1, 1, none⟩ = some (.int .i64 0) := u1 1
          have e2 : w1.cell? ⟨p + 1, 2, none⟩ = some (.int .i64 0) := u1 2
          have e3 : w1.cell? ⟨p + 1, 3, none⟩ = some (.float .f64 0) := u1 3
          have e4 : w1.cell? ⟨p + 1, 4, none⟩ = some (.bool false) := u1 4
          have e5 : w1.cell? ⟨p + 1, 5, none⟩ = some (.slice none 0 0) := u1 5
          obtain ⟨g2, cap2, w6, hrun, k1, k2, k3, k4, k5⟩ := Md2.end_ ⟨⟨b, 0, 0, false⟩, 0, [], .slice none 0 0⟩ ((hM1.put 0 (.bool b)).put 5 (.slice none 0 0)) rfl rfl ⟨_, _, _, rfl⟩ rfl HX.out.2.2
          simp only [put_size, oz, o0] at hrun
          have K := Aside0.mk (Ru2.next (y := ⟨⟨b, 0, 0, false⟩, 0, [], .slice none 0 0⟩) HX.out.1 HX.out.2.1 (okE hst (rate0 (by rw [HD.out.1]; decide)).symm (by rw [gone_other (by rw [HD.out.1]; decide), told_nil])) (by rw [show Lcp.step N (stAt N ops j) x = _ from hst]) k1 k2 k3 k4 k5)
          clear u1 hst hM1 k1 k2 k3 k4 k5))
        go_roundg g'
        case measure => omega
        case rel => exact ⟨j + 1, congrArg _ hwj, hlt, by omega, K.out⟩
      by_cases hq4 : d = 4
      · subst hq4
        have cC := cOldest HM.out HD.out.1 h0
        go_wp2_with (first | (refine appL_ (some 102) rfl rfl rfl rfl rfl hrun ?_) | (
          go_at_call 19
          refine cC.mono ?_
          rintro r w1 ⟨k, v, b, l', A, q, c, gs, rfl, hst, hgs, hM1⟩
          obtain ⟨u0, u1, u2⟩ := tail hM1
          have e0 : w1.cell? ⟨p + 1, 0, none⟩ = some (.bool false) := u1 0
          have e1 : w1.cell? ⟨p + 1, 1, none⟩ = some (.int .i64 0) := u1 1
          have e2 : w1.cell? ⟨p + 1, 2, none⟩ = some (.int .i64 0) := u1 2
          have e3 : w1.cell? ⟨p + 1, 3, none⟩ = some (.float .f64 0) := u1 3
          have e4 : w1.cell? ⟨p + 1, 4, none⟩ = some (.bool false) := u1 4
          have e5 : w1.cell? ⟨p + 1, 5, none⟩ = some (.slice none 0 0) := u1 5
          obtain ⟨g2, cap2, w6, hrun, k1, k2, k3, k4, k5⟩ := Md2.end_ ⟨⟨b, k, v, false⟩, 0, gs, .slice A q c⟩ ((((hM1.put 1 (.int .i64 k)).put 2 (.int .i64 v)).put 0 (.bool b)).put 5 (.slice A q c)) rfl rfl ⟨_, _, _, rfl⟩ rfl HX.out.2.2
          simp only [put_size, oz, o0] at hrun
          have K := Aside0.mk (Ru2.next (y := ⟨⟨b, k, v, false⟩, 0, gs, .slice A q c⟩) HX.out.1 HX.out.2.1 (okE hst (rate0 (by rw [HD.out.1]; decide)).symm hgs) (by rw [show Lcp.step N (stAt N ops j) x = _ from hst]) k1 k2 k3 k4 k5)
          clear u1 hst hM1 k1 k2 k3 k4 k5 hgs))
        go_roundg g'
        case measure => omega
        case rel => exact ⟨j + 1, congrArg _ hwj, hlt, by omega, K.out⟩
      by_cases hq5 : d = 5
      · subst hq5
        have cC := cPurge HM.out HD.out.1 h0 h1 hll
        go_wp2_with (first | (refine appL_ (some 102) rfl rfl rfl rfl rfl hrun ?_) | (
          go_at_call 20
          refine cC.mono ?_
          rintro r w1 ⟨rfl, hst, A, q, c, gs, hgs, hM1⟩
          obtain ⟨u0, u1, u2⟩ := tail hM1
          have e0 : w1.cell? ⟨p + 1, 0, none⟩ = some (.bool false) := u1 0
          have e1 : w1.cell? ⟨p + 1, 1, none⟩ = some (.int .i64 0) := u1 1
          have e2 : w1.cell? ⟨p + 1, 2, none⟩ = some (.int .i64 0) := u1 2
          have e3 : w1.cell? ⟨p + 1, 3, none⟩ = some (.float .f64 0) := u1 3
          have e4 : w1.cell? ⟨p + 1, 4, none⟩ = some (.bool false) := u1 4
          have e5 : w1.cell? ⟨p + 1, 5, none⟩ = some (.slice none 0 0) := u1 5
          obtain ⟨g2, cap2, w6, hrun, k1, k2, k3, k4, k5⟩ := Md2.end_ ⟨⟨false, 0, 0, false⟩, 0, gs, .slice A q c⟩ (hM1.put 5 (.slice A q c)) rfl rfl ⟨_, _, _, rfl⟩ rfl HX.out.2.2
          simp only [put_size, oz, o0] at hrun
          have K := Aside0.mk (Ru2.next (y := ⟨⟨false, 0, 0, false⟩, 0, gs, .slice A q c⟩) HX.out.1 HX.out.2.1 (okP HD.out.1 hst (rate0 (by rw [HD.out.1]; decide)).symm hgs) (by rw [show Lcp.step N (stAt N ops j) x = _ from hst]) k1 k2 k3 k4 k5)
          clear u1 hst hM1 k1 k2 k3 k4 k5 hgs))
        go_roundg g'
        case measure => omega
        case rel => exact ⟨j + 1, congrArg _ hwj, hlt, by omega, K.out⟩
      by_cases hq6 : d = 6
      · subst hq6
        have cC := cLen HM.out HD.out.1 h0
        go_wp2_with (first | (refine appL_ (some 102) rfl rfl rfl rfl rfl hrun ?_) | (
          go_at_call 21
          refine cC.mono ?_
          rintro r w1 ⟨v, rfl, hst, hM1⟩
          obtain ⟨u0, u1, u2⟩ := tail hM1
          have e0 : w1.cell? ⟨p + 1, 0, none⟩ = some (.bool false) := u1 0
          have e1 : w1.cell? ⟨p + 1, 1, none⟩ = some (.int .i64 0) := u1 1
          have e2 : w1.cell? ⟨p + 1, 2, none⟩ = some (.int .i64 0) := u1 2
          have e3 : w1.cell? ⟨p + 1, 3, none⟩ = some (.float .f64 0) := u1 3
          have e4 : w1.cell? ⟨p + 1, 4, none⟩ = some (.bool false) := u1 4
          have e5 : w1.cell? ⟨p + 1, 5, none⟩ = some (.slice none 0 0) := u1 5
          obtain ⟨g2, cap2, w6, hrun, k1, k2, k3, k4, k5⟩ := Md2.end_ ⟨⟨false, 0, v, false⟩, 0, [], .slice none 0 0⟩ ((hM1.put 2 (.int .i64 v)).put 5 (.slice none 0 0)) rfl rfl ⟨_, _, _, rfl⟩ rfl HX.out.2.2
          simp only [put_size, oz, o0] at hrun
          have K := Aside0.mk (Ru2.next (y := ⟨⟨false, 0, v, false⟩, 0, [], .slice none 0 0⟩) HX.out.1 HX.out.2.1 (okE hst (rate0 (by rw [HD.out.1]; decide)).symm (by rw [gone_other (by rw [HD.out.1]; decide), told_nil])) (by rw [show Lcp.step N (stAt N ops j) x = _ from hst]) k1 k2 k3 k4 k5)
          clear u1 hst hM1 k1 k2 k3 k4 k5))
        go_roundg g'
        case measure => omega
        case rel => exact ⟨j + 1, congrArg _ hwj, hlt, by omega, K.out⟩
      by_cases hq7 : d = 7
      · subst hq7
        have cC := cCap HM.out HD.out.1
        go_wp2_with (first | (refine appL_ (some 102) rfl rfl rfl rfl rfl hrun ?_) | (
          go_at_call 22
          refine cC.mono ?_
          rintro r w1 ⟨v, rfl, hst, hM1⟩
          obtain ⟨u0, u1, u2⟩ := tail hM1
          have e0 : w1.cell? ⟨p + 1, 0, none⟩ = some (.bool false) := u1 0
          have e1 : w1.cell? ⟨p + 1, 1, none⟩ = some (.int .i64 0) := u1 1
          have e2 : w1.cell? ⟨p + 1, 2, none⟩ = some (.int .i64 0) := u1 2
          have e3 : w1.cell? ⟨p + 1, 3, none⟩ = some (.float .f64 0) := u1 3
          have e4 : w1.cell? ⟨p + 1, 4, none⟩ = some (.bool false) := u1 4
          have e5 : w1.cell? ⟨p + 1, 5, none⟩ = some (.slice none 0 0) := u1 5
          obtain ⟨g2, cap2, w6, hrun, k1, k2, k3, k4, k5⟩ := Md2.end_ ⟨⟨false, 0, v, false⟩, 0, [], .slice none 0 0⟩ ((hM1.put 2 (.int .i64 v)).put 5 (.slice none 0 0)) rfl rfl ⟨_, _, _, rfl⟩ rfl HX.out.2.2
          simp only [put_size, oz, o0] at hrun
          have K := Aside0.mk (Ru2.next (y := ⟨⟨false, 0, v, false⟩, 0, [], .slice none 0 0⟩) HX.out.1 HX.out.2.1 (okE hst (rate0 (by rw [HD.out.1]; decide)).symm (by rw [gone_other (by rw [HD.out.1]; decide), told_nil])) (by rw [show Lcp.step N (stAt N ops j) x = _ from hst]) k1 k2 k3 k4 k5)
          clear u1 hst hM1 k1 k2 k3 k4 k5))
        go_roundg g'
        case measure => omega
        case rel => exact ⟨j + 1, congrArg _ hwj, hlt, by omega, K.out⟩
      by_cases hq8 : d = 8
      · subst hq8
        have cC := cRate HM.out HD.out.1 HHM.out.1 HHM.out.2.1 HHM.out.2.2
        obtain ⟨R, hR⟩ : ∃ R, rt (stAt N ops j).h (stAt N ops j).m = R := ⟨_, rfl⟩
        rw [hR] at cC
        have HRT := Aside0.mk hR
        clear hR
        go_wp2_with (first | (refine appL_ (some 102) rfl rfl rfl rfl rfl hrun ?_) | (
          go_at_call 23
          refine cC.mono ?_
          rintro r w1 ⟨rfl, hst, hM1⟩
          obtain ⟨u0, u1, u2⟩ := tail hM1
          have e0 : w1.cell? ⟨p + 1, 0, none⟩ = some (.bool false) := u1 0
          have e1 : w1.cell? ⟨p + 1, 1, none⟩ = some (.int .i64 0) := u1 1
          have e2 : w1.cell? ⟨p + 1, 2, none⟩ = some (.int .i64 0) := u1 2
          have e3 : w1.cell? ⟨p + 1, 3, none⟩ = some (.float .f64 0) := u1 3
          have e4 : w1.cell? ⟨p + 1, 4, none⟩ = some (.bool false) := u1 4
          have e5 : w1.cell? ⟨p + 1, 5, none⟩ = some (.slice none 0 0) := u1 5
          obtain ⟨g2, cap2, w6, hrun, k1, k2, k3, k4, k5⟩ := Md2.end_ ⟨⟨false, 0, 0, false⟩, R, [], .slice none 0 0⟩ ((hM1.put 3 (.float .f64 R)).put 5 (.slice none 0 0)) rfl rfl ⟨_, _, _, rfl⟩ rfl HX.out.2.2
          simp only [put_size, oz, o0] at hrun
          have K := Aside0.mk (Ru2.next (y := ⟨⟨false, 0, 0, false⟩, R, [], .slice none 0 0⟩) HX.out.1 HX.out.2.1 (okE hst (by rw [← HRT.out]; exact (if_pos HD.out.1).symm) (by rw [gone_other (by rw [HD.out.1]; decide), told_nil])) (by rw [show Lcp.step N (stAt N ops j) x = _ from hst]) k1 k2 k3 k4 k5)
          clear u1 hst hM1 k1 k2 k3 k4 k5))
        go_roundg g'
        case measure => omega
        case rel => exact ⟨j + 1, congrArg _ hwj, hlt, by omega, K.out⟩
      · exfalso
        have h2 := HD.out.2
        rw [HD.out.1] at h2
        omega
    · obtain rfl : j = ops.length := by omega
      have HR := Aside0.mk hR
      clear hR
      go_wp2_with (fail)
      rw [← HX0.out.2.2.2.2.1]
      obtain ⟨os, ho, hos, hrows⟩ := HR.out.out
      exact ⟨_, os, rfl, ho, by rw [HX0.out.2.2.2.2.2.2, HX0.out.2.2.2.1, hlo]; exact hos, hrows, HR.out.below⟩
end Go.Proofs.Ytjhmcpdnmfhodaa.Leh
