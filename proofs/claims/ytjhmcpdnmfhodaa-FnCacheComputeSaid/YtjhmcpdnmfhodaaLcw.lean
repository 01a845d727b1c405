/- The walk of CacheRun without a callback. -/
import Derived.Test.YtjhmcpdnmfhodaaLcv
namespace Go.Proofs.Ytjhmcpdnmfhodaa.Lcw
open Go Go.Maps Go.ChangeMaps Go.MapKept Go.RowKit Go.Proofs.YtjhmcpdnmfhodaaW.PrintWords Ll Lra Lrc Lrw Lrx Lrz Lcn Lcp Lcm Lcv Mp

theorem put_size (w : World) (p : Addr) (u : Value) : (w.setCell p u).heap.size = w.heap.size := by simp [World.setCell]
theorem run_len (n : Int) : ∀ (l : List Op3) (s : St), (Lcp.run n s l).1.l.length ≤ s.l.length + l.length
  | [], s => Nat.le_refl _
  | x :: t, s => by
    have h := run_len n t (Lcp.step n s x).1
    have h2 : (Lcp.step n s x).1.l.length ≤ s.l.length + 1 := by
      have hb : ∀ k, (but s.l k).length ≤ s.l.length := fun k => List.length_filter_le _ _
      have hi : ∀ k v, (Lcp.ins n s.l k v).length ≤ s.l.length + 1 := fun k v => by unfold Lcp.ins; split <;> simp
      unfold Lcp.step
      repeat' split
      all_goals first | (simp only [List.length_cons]; have := hb x.k; omega) | (have := hi x.k x.v; omega) | (have := hb x.k; simp only; omega) | (simp only [List.length_dropLast]; omega) | simp
    show (Lcp.run n (Lcp.step n s x).1 t).1.l.length ≤ _
    rw [List.length_cons]
    omega
theorem run_len2 (n : Int) : ∀ (l : List Op3) (s : St), (Lcp.run n s l).2.length = l.length
  | [], _ => rfl
  | x :: t, s => by show (_ :: (Lcp.run n (Lcp.step n s x).1 t).2).length = _; rw [List.length_cons, run_len2 n t, List.length_cons]
/-- an append whose run is known, as an arm of a walk -/
theorem appL_ {P : Program} {ops : Array Oper} {Q : Exit → Act → World → Prop} {rest : List Oper} {oi : Oper} {a : Act} {w w' : World} {v v' x : Value} {s y : Operand} {t : TypeId} (N : Option Tmp) (hd : oi.dst = N) (hgd : oi.guard = none) (hop : oi.op = .call { callee := .builtin .append, args := #[s, y], argTypes := #[t, t] })
    (hs : a.eval s = v) (hx : a.eval y = x) (hr : (Builtin.append_ #[t, t] oi.type #[v, x]).run P w = .ok v' w') (h : wpList P ops Q rest (a.put N v') w') : wpList P ops Q (oi :: rest) a w := by
  subst hd
  refine wpList_plain hgd fun K hK => ?_
  unfold Oper.wp execOp
  simp only [hop, resolve, invoke, builtin, Sem.run_bind, Sem.run_pure, Result.andThen_ok, List.map_toArray, List.map_cons, List.map_nil, hs, hx, hr]
  exact hK _ _ h
/-- what the tail of a round reads -/
theorem tail {w0 W : World} {n hh mm : Int} {ops : List Op3} {a G L p m : Nat} {x : Op3} {l : List (Int × Int)} {v10 : Value} {os : List Ot} {co : Array Value} (h : Md w0 W n ops a G L p m x hh mm l v10 os co) :
    W.cell? ⟨G, 0, none⟩ = some (.slice none 0 0) ∧ (∀ j, W.cell? ⟨p + 1, j, none⟩ = co[j]?) ∧ (∀ j, W.frozen? ⟨p + 1, j, none⟩ = false) :=
  ⟨by rw [Lib.cell_of_heap h.gn]; rfl, fun j => by rw [Lib.cell_of_heap h.o], fun j => by rw [Lib.frozen_of_heap h.o]⟩
set_option linter.all false in
set_option maxRecDepth 1000000 in
set_option maxHeartbeats 4000000 in
theorem cacheRun {w : World} (n : Int) (h0 : 0 < n) (h1 : n ≤ 100000) (ops : List Op3) (a cap : Nat) (hs : Script w a ops) (hk : ∀ x ∈ ops, In64 x.k) (hfew : ops.length ≤ 1000) :
    Calls Try.prog 6 #[.int .i64 n, .bool false, .slice (some ⟨a, 0, none⟩) ops.length cap] w fun r w' => ∃ v os, r = .returned (.tuple #[v, .bool true]) ∧ w'.ownsRow w.heap.size 33 6 v os.length (ocs os) ∧ os.map Ot.o = (Lcp.run n ⟨[], 0, 0⟩ ops).2 ∧ Below w.heap.size w w' := by
  have HS := Aside0.mk hs
  have HK := Aside0.mk hk
  have cN := new (w.alloc (.cells #[.slice none 0 0] 31)) n h0 h1
  unfold ptr at cN
  clear hs hk
  go_enter Try.func6, Try.ntmps6
  go_wp2_with (first | (go_at_call 11; refine cN.mono ?_; rintro r wn ⟨rfl, hwn⟩))
  go_loopg [10, 25] ops.length (fun gk v10 v25 wx => ∃ j : Nat, v25 = .int .i64 j ∧ j ≤ ops.length ∧ ops.length ≤ j + gk ∧ Ru w n ops a w.heap.size (w.heap.size + 1 + 1) j v10 wx)
  case atStart =>
    refine ⟨0, rfl, Nat.zero_le _, by omega, ?_⟩
    have hz : (w.alloc (.cells #[.slice none 0 0] 31)).heap.size = w.heap.size + 1 := by simp
    have hC := made (B := w.heap.size) (w.alloc (.cells #[.slice none 0 0] 31)) n (by omega)
    have hb0 : Below w.heap.size w (w.alloc (.cells #[.slice none 0 0] 31)) := (Below.refl _ w).alloc (Nat.le_refl _) _
    rw [hz] at hC
    obtain ⟨w1, hw1⟩ : ∃ w1, w.alloc (.cells #[.slice none 0 0] 31) = w1 := ⟨_, rfl⟩
    have hg : w1.heap[w.heap.size]? = some (.cells #[.slice none 0 0] 31 (0, 0)) := by rw [← hw1]; exact heap_alloc_new w _
    rw [hw1] at hC hb0 hz ⊢
    have hb1 := hb0.alloc (by omega) (.map #[] 0)
    have hb2 := hb1.alloc (by simp; omega) (.cells (lc n (.map (some (w.heap.size + 1))) .nilFunc 0 0 nil nil) 64)
    have keep : ∀ (k : Nat) (o : Obj), w1.heap[k]? = some o → (((w1.alloc (.map #[] 0)).alloc (.cells (lc n (.map (some (w.heap.size + 1))) .nilFunc 0 0 nil nil) 64)).alloc (.cells #[] 33)).heap[k]? = some o := fun k o hk => by
      have hlt := (Array.getElem?_eq_some_iff.1 hk).1
      exact (Below.heap_alloc _ _ k (by simp; omega)).trans ((Below.heap_alloc _ _ k (by simp; omega)).trans ((Below.heap_alloc _ _ k hlt).trans hk))
    obtain ⟨cs, hcs, hat⟩ := HS.out
    have halt : a < w.heap.size := (Array.getElem?_eq_some_iff.1 hcs).1
    refine ⟨⟨[], w.heap.size + 1, hC.born _, rfl⟩, ⟨[], ⟨rfl, .inr ⟨w.heap.size + 1 + 1 + 1, 0, #[], rfl, by omega, ?_, Nat.le_refl _, by decide, rfl, rfl⟩⟩, rfl⟩, hb2.alloc (by simp; omega) _, ⟨cs, keep a _ ((hb0.block a halt).trans hcs), hat⟩, keep _ _ hg⟩
    have := heap_alloc_new ((w1.alloc (.map #[] 0)).alloc (.cells (lc n (.map (some (w.heap.size + 1))) .nilFunc 0 0 nil nil) 64)) (.cells #[] 33)
    have hz2 : ((w1.alloc (.map #[] 0)).alloc (.cells (lc n (.map (some (w.heap.size + 1))) .nilFunc 0 0 nil nil) 64)).heap.size = w.heap.size + 1 + 1 + 1 := by simp; omega
    rw [hz2] at this
    exact this
  case round =>
    obtain ⟨j, hv, hj, hfu, hR⟩ := hrel
    subst hv
    by_cases hlt : j < ops.length
    · obtain ⟨g', rfl⟩ : ∃ g', gk = g' + 1 := ⟨gk - 1, by omega⟩
      obtain ⟨cs, hcs, hat⟩ := hR.scr
      obtain ⟨x, hx⟩ : ∃ x, ops[j]? = some x := ⟨_, List.getElem?_eq_getElem hlt⟩
      obtain ⟨x0, x1, x2⟩ := hat j x hx
      have hc0 : wr.cell? ⟨a, j * 3, none⟩ = some (.int .i64 x.d) := by rw [Lib.cell_of_heap hcs, Nat.mul_comm]; exact x0
      have hc1 : wr.cell? ⟨a, j * 3 + 1, none⟩ = some (.int .i64 x.k) := by rw [Lib.cell_of_heap hcs, Nat.mul_comm]; exact x1
      have hc2 : wr.cell? ⟨a, j * 3 + 2, none⟩ = some (.int .i64 x.v) := by rw [Lib.cell_of_heap hcs, Nat.mul_comm]; exact x2
      have hg0 : wr.cell? ⟨w.heap.size, 0, none⟩ = some (.slice none 0 0) := by rw [Lib.cell_of_heap hR.gone]; rfl
      have hgf : ∀ q, wr.frozen? ⟨w.heap.size, q, none⟩ = false := fun q => by rw [Lib.frozen_of_heap hR.gone]
      have hd1 : decide ((j : Int) < (ops.length : Int)) = true := decide_eq_true (by omega)
      have HR := Aside0.mk hR
      clear hR hcs hat x0 x1 x2
      have hltd : (j : Int) < (ops.length : Int) := by omega
      have hGlt : w.heap.size < wr.heap.size := (Array.getElem?_eq_some_iff.1 HR.out.gone).1
      have hga : ∀ o, (wr.alloc o).cell? ⟨w.heap.size, 0, none⟩ = some (.slice none 0 0) := fun o => by rw [Lib.cell_of_heap ((Below.heap_alloc wr o _ hGlt).trans HR.out.gone)]; rfl
      have hgaf : ∀ o q, (wr.alloc o).frozen? ⟨w.heap.size, q, none⟩ = false := fun o q => by rw [Lib.frozen_of_heap ((Below.heap_alloc wr o _ hGlt).trans HR.out.gone)]
      have hsf : ∀ (W : World) (ad : Addr) (b : Nat), (store ad (.float .f64 b)).run Try.prog W = stored Try.prog W ad (.float .f64 b) .plain := fun W ad b => run_store Try.prog W ad _ .plain rfl
      go_upto_region 13 with (fail)
      obtain ⟨os, hos, hMd⟩ := HR.out.start (x := x) (Nat.le_refl _)
      obtain ⟨W, hW⟩ : ∃ W, ((wr.setCell ⟨w.heap.size, 0, none⟩ (.slice none 0 0)).alloc (.cells #[.int .i64 x.d, .int .i64 x.k, .int .i64 x.v] 36)).alloc (.cells #[.bool false, .int .i64 0, .int .i64 0, .float .f64 0, .bool false, .slice none 0 0] 33) = W := ⟨_, rfl⟩
      rw [hW] at hMd ⊢
      obtain ⟨p, hp⟩ : ∃ p, wr.heap.size = p := ⟨_, rfl⟩
      rw [hp] at hMd ⊢
      have hgp := hMd.gp
      have d1 : w.heap.size ≠ p + 1 := by omega
      have d1' := d1.symm
      obtain ⟨t0, t1, t2⟩ := tail hMd
      have x0 : W.cell? ⟨p, 0, none⟩ = some (.int .i64 x.d) := by rw [Lib.cell_of_heap hMd.xb]; rfl
      have x1 : W.cell? ⟨p, 1, none⟩ = some (.int .i64 x.k) := by rw [Lib.cell_of_heap hMd.xb]; rfl
      have x2 : W.cell? ⟨p, 2, none⟩ = some (.int .i64 x.v) := by rw [Lib.cell_of_heap hMd.xb]; rfl
      have hxk := HK.out x (List.mem_of_getElem? hx)
      have hll : (Lcp.run n ⟨[], 0, 0⟩ (ops.take j)).1.l.length ≤ 100000 := by
        have := run_len n (ops.take j) ⟨[], 0, 0⟩
        rw [List.length_take] at this
        simp only [List.length_nil] at this
        omega
      have hom : os.length ≤ 2000 := by
        have := congrArg List.length hos
        rw [List.length_map] at this
        have h2 := run_len2 n (ops.take j) ⟨[], 0, 0⟩
        rw [h2, List.length_take] at this
        omega
      have HX := Aside0.mk (And.intro hx (And.intro hos hom))
      have HM := Aside0.mk hMd
      have hwj : wrap64 ((j : Int) + 1) = ((j + 1 : Nat) : Int) := by unfold wrap64; omega
      obtain ⟨d, hd⟩ : ∃ d, x.d = d := ⟨_, rfl⟩
      rw [hd] at x0
      have HD := Aside0.mk hd
      clear hc0 hc1 hc2 hg0 hgf hga hgaf hGlt hW hp hgp hMd hx hos hom hd HR
      by_cases hq0 : d = 0
      · subst hq0
        have cC := cAdd HM.out HD.out h0 hxk hll
        go_wp2_with (first | (refine appL_ (some 102) rfl rfl rfl rfl rfl hrun ?_) | (go_at_call 14; refine cC.mono ?_; rintro r w1 ⟨b, l', rfl, hst, hM1⟩
                                                                                      obtain ⟨u0, u1, u2⟩ := tail hM1
                                                                                      have e0 : w1.cell? ⟨p + 1, 0, none⟩ = some (.bool false) := u1 0
                                                                                      have e1 : w1.cell? ⟨p + 1, 1, none⟩ = some (.int .i64 0) := u1 1
                                                                                      have e2 : w1.cell? ⟨p + 1, 2, none⟩ = some (.int .i64 0) := u1 2
                                                                                      have e3 : w1.cell? ⟨p + 1, 3, none⟩ = some (.float .f64 0) := u1 3
                                                                                      have e4 : w1.cell? ⟨p + 1, 4, none⟩ = some (.bool false) := u1 4
                                                                                      have e5 : w1.cell? ⟨p + 1, 5, none⟩ = some (.slice none 0 0) := u1 5
                                                                                      obtain ⟨g2, cap2, w6, hrun, k1, k2, k3, k4, k5⟩ := Md.end_ ⟨⟨b, 0, 0, false⟩, 0⟩ ((hM1.put 0 (.bool b)).put 5 (.slice none 0 0)) rfl HX.out.2.2
                                                                                      simp only [put_size, oc] at hrun
                                                                                      have K := Aside0.mk (Ru.next (y := ⟨⟨b, 0, 0, false⟩, 0⟩) HX.out.1 HX.out.2.1 hst k1 k2 k3 k4 k5)
                                                                                      clear u1 hst hM1 k1 k2 k3 k4 k5))
        go_roundg g'
        case measure => omega
        case rel => exact ⟨j + 1, rfl, hlt, by omega, K.out⟩
      by_cases hq1 : d = 1
      · subst hq1
        have cC := cGet HM.out HD.out h0 hxk
        go_wp2_with (first | (refine appL_ (some 102) rfl rfl rfl rfl rfl hrun ?_) | (go_at_call 15; refine cC.mono ?_; rintro r w1 ⟨v, b, l', h', m', rfl, hst, hM1⟩
                                                                                      obtain ⟨u0, u1, u2⟩ := tail hM1
                                                                                      have e0 : w1.cell? ⟨p + 1, 0, none⟩ = some (.bool false) := u1 0
                                                                                      have e1 : w1.cell? ⟨p + 1, 1, none⟩ = some (.int .i64 0) := u1 1
                                                                                      have e2 : w1.cell? ⟨p + 1, 2, none⟩ = some (.int .i64 0) := u1 2
                                                                                      have e3 : w1.cell? ⟨p + 1, 3, none⟩ = some (.float .f64 0) := u1 3
                                                                                      have e4 : w1.cell? ⟨p + 1, 4, none⟩ = some (.bool false) := u1 4
                                                                                      have e5 : w1.cell? ⟨p + 1, 5, none⟩ = some (.slice none 0 0) := u1 5
                                                                                      obtain ⟨g2, cap2, w6, hrun, k1, k2, k3, k4, k5⟩ := Md.end_ ⟨⟨b, 0, v, false⟩, 0⟩ (((hM1.put 2 (.int .i64 v)).put 0 (.bool b)).put 5 (.slice none 0 0)) rfl HX.out.2.2
                                                                                      simp only [put_size, oc] at hrun
                                                                                      have K := Aside0.mk (Ru.next (y := ⟨⟨b, 0, v, false⟩, 0⟩) HX.out.1 HX.out.2.1 hst k1 k2 k3 k4 k5)
                                                                                      clear u1 hst hM1 k1 k2 k3 k4 k5))
        go_roundg g'
        case measure => omega
        case rel => exact ⟨j + 1, rfl, hlt, by omega, K.out⟩
      by_cases hq2 : d = 2
      · subst hq2
        have cC := cOr HM.out HD.out h0 hxk hll (by decide) rfl
        go_wp2_with (first | (refine appL_ (some 102) rfl rfl rfl rfl rfl hrun ?_) | (go_at_call 16; refine cC.mono ?_; rintro r w1 ⟨v, q, l', h', m', rfl, hst, hM1⟩
                                                                                      obtain ⟨u0, u1, u2⟩ := tail hM1
                                                                                      have e0 : w1.cell? ⟨p + 1, 0, none⟩ = some (.bool false) := u1 0
                                                                                      have e1 : w1.cell? ⟨p + 1, 1, none⟩ = some (.int .i64 0) := u1 1
                                                                                      have e2 : w1.cell? ⟨p + 1, 2, none⟩ = some (.int .i64 0) := u1 2
                                                                                      have e3 : w1.cell? ⟨p + 1, 3, none⟩ = some (.float .f64 0) := u1 3
                                                                                      have e4 : w1.cell? ⟨p + 1, 4, none⟩ = some (.bool q) := u1 4
                                                                                      have e5 : w1.cell? ⟨p + 1, 5, none⟩ = some (.slice none 0 0) := u1 5
                                                                                      obtain ⟨g2, cap2, w6, hrun, k1, k2, k3, k4, k5⟩ := Md.end_ ⟨⟨false, 0, v, q⟩, 0⟩ ((hM1.put 2 (.int .i64 v)).put 5 (.slice none 0 0)) rfl HX.out.2.2
                                                                                      simp only [put_size, oc] at hrun
                                                                                      have K := Aside0.mk (Ru.next (y := ⟨⟨false, 0, v, q⟩, 0⟩) HX.out.1 HX.out.2.1 hst k1 k2 k3 k4 k5)
                                                                                      clear u1 hst hM1 k1 k2 k3 k4 k5))
        go_roundg g'
        case measure => omega
        case rel => exact ⟨j + 1, rfl, hlt, by omega, K.out⟩
      by_cases hq3 : d = 3
      · subst hq3
        have cC := cRemove HM.out HD.out h0 hxk
        go_wp2_with (first | (refine appL_ (some 102) rfl rfl rfl rfl rfl hrun ?_) | (go_at_call 18; refine cC.mono ?_; rintro r w1 ⟨b, l', rfl, hst, hM1⟩
                                                                                      obtain ⟨u0, u1, u2⟩ := tail hM1
                                                                                      have e0 : w1.cell? ⟨p + 1, 0, none⟩ = some (.bool false) := u1 0
                                                                                      have e1 : w1.cell? ⟨p + 1, 1, none⟩ = some (.int .i64 0) := u1 1
                                                                                      have e2 : w1.cell? ⟨p + 1, 2, none⟩ = some (.int .i64 0) := u1 2
                                                                                      have e3 : w1.cell? ⟨p + 1, 3, none⟩ = some (.float .f64 0) := u1 3
                                                                                      have e4 : w1.cell? ⟨p + 1, 4, none⟩ = some (.bool false) := u1 4
                                                                                      have e5 : w1.cell? ⟨p + 1, 5, none⟩ = some (.slice none 0 0) := u1 5
                                                                                      obtain ⟨g2, cap2, w6, hrun, k1, k2, k3, k4, k5⟩ := Md.end_ ⟨⟨b, 0, 0, false⟩, 0⟩ ((hM1.put 0 (.bool b)).put 5 (.slice none 0 0)) rfl HX.out.2.2
                                                                                      simp only [put_size, oc] at hrun
                                                                                      have K := Aside0.mk (Ru.next (y := ⟨⟨b, 0, 0, false⟩, 0⟩) HX.out.1 HX.out.2.1 hst k1 k2 k3 k4 k5)
                                                                                      clear u1 hst hM1 k1 k2 k3 k4 k5))
        go_roundg g'
        case measure => omega
        case rel => exact ⟨j + 1, rfl, hlt, by omega, K.out⟩
      by_cases hq4 : d = 4
      · subst hq4
        have cC := cOldest HM.out HD.out h0
        go_wp2_with (first | (refine appL_ (some 102) rfl rfl rfl rfl rfl hrun ?_) | (go_at_call 19; refine cC.mono ?_; rintro r w1 ⟨k, v, b, l', rfl, hst, hM1⟩
                                                                                      obtain ⟨u0, u1, u2⟩ := tail hM1
                                                                                      have e0 : w1.cell? ⟨p + 1, 0, none⟩ = some (.bool false) := u1 0
                                                                                      have e1 : w1.cell? ⟨p + 1, 1, none⟩ = some (.int .i64 0) := u1 1
                                                                                      have e2 : w1.cell? ⟨p + 1, 2, none⟩ = some (.int .i64 0) := u1 2
                                                                                      have e3 : w1.cell? ⟨p + 1, 3, none⟩ = some (.float .f64 0) := u1 3
                                                                                      have e4 : w1.cell? ⟨p + 1, 4, none⟩ = some (.bool false) := u1 4
                                                                                      have e5 : w1.cell? ⟨p + 1, 5, none⟩ = some (.slice none 0 0) := u1 5
                                                                                      obtain ⟨g2, cap2, w6, hrun, k1, k2, k3, k4, k5⟩ := Md.end_ ⟨⟨b, k, v, false⟩, 0⟩ ((((hM1.put 1 (.int .i64 k)).put 2 (.int .i64 v)).put 0 (.bool b)).put 5 (.slice none 0 0)) rfl HX.out.2.2
                                                                                      simp only [put_size, oc] at hrun
                                                                                      have K := Aside0.mk (Ru.next (y := ⟨⟨b, k, v, false⟩, 0⟩) HX.out.1 HX.out.2.1 hst k1 k2 k3 k4 k5)
                                                                                      clear u1 hst hM1 k1 k2 k3 k4 k5))
        go_roundg g'
        case measure => omega
        case rel => exact ⟨j + 1, rfl, hlt, by omega, K.out⟩
      by_cases hq5 : d = 5
      · subst hq5
        have cC := cPurge HM.out HD.out h0 h1
        go_wp2_with (first | (refine appL_ (some 102) rfl rfl rfl rfl rfl hrun ?_) | (go_at_call 20; refine cC.mono ?_; rintro r w1 ⟨rfl, hst, hM1⟩
                                                                                      obtain ⟨u0, u1, u2⟩ := tail hM1
                                                                                      have e0 : w1.cell? ⟨p + 1, 0, none⟩ = some (.bool false) := u1 0
                                                                                      have e1 : w1.cell? ⟨p + 1, 1, none⟩ = some (.int .i64 0) := u1 1
                                                                                      have e2 : w1.cell? ⟨p + 1, 2, none⟩ = some (.int .i64 0) := u1 2
                                                                                      have e3 : w1.cell? ⟨p + 1, 3, none⟩ = some (.float .f64 0) := u1 3
                                                                                      have e4 : w1.cell? ⟨p + 1, 4, none⟩ = some (.bool false) := u1 4
                                                                                      have e5 : w1.cell? ⟨p + 1, 5, none⟩ = some (.slice none 0 0) := u1 5
                                                                                      obtain ⟨g2, cap2, w6, hrun, k1, k2, k3, k4, k5⟩ := Md.end_ ⟨⟨false, 0, 0, false⟩, 0⟩ (hM1.put 5 (.slice none 0 0)) rfl HX.out.2.2
                                                                                      simp only [put_size, oc] at hrun
                                                                                      have K := Aside0.mk (Ru.next (y := ⟨⟨false, 0, 0, false⟩, 0⟩) HX.out.1 HX.out.2.1 hst k1 k2 k3 k4 k5)
                                                                                      clear u1 hst hM1 k1 k2 k3 k4 k5))
        go_roundg g'
        case measure => omega
        case rel => exact ⟨j + 1, rfl, hlt, by omega, K.out⟩
      by_cases hq6 : d = 6
      · subst hq6
        have cC := cLen HM.out HD.out h0
        go_wp2_with (first | (refine appL_ (some 102) rfl rfl rfl rfl rfl hrun ?_) | (go_at_call 21; refine cC.mono ?_; rintro r w1 ⟨v, rfl, hst, hM1⟩
                                                                                      obtain ⟨u0, u1, u2⟩ := tail hM1
                                                                                      have e0 : w1.cell? ⟨p + 1, 0, none⟩ = some (.bool false) := u1 0
                                                                                      have e1 : w1.cell? ⟨p + 1, 1, none⟩ = some (.int .i64 0) := u1 1
                                                                                      have e2 : w1.cell? ⟨p + 1, 2, none⟩ = some (.int .i64 0) := u1 2
                                                                                      have e3 : w1.cell? ⟨p + 1, 3, none⟩ = some (.float .f64 0) := u1 3
                                                                                      have e4 : w1.cell? ⟨p + 1, 4, none⟩ = some (.bool false) := u1 4
                                                                                      have e5 : w1.cell? ⟨p + 1, 5, none⟩ = some (.slice none 0 0) := u1 5
                                                                                      obtain ⟨g2, cap2, w6, hrun, k1, k2, k3, k4, k5⟩ := Md.end_ ⟨⟨false, 0, v, false⟩, 0⟩ ((hM1.put 2 (.int .i64 v)).put 5 (.slice none 0 0)) rfl HX.out.2.2
                                                                                      simp only [put_size, oc] at hrun
                                                                                      have K := Aside0.mk (Ru.next (y := ⟨⟨false, 0, v, false⟩, 0⟩) HX.out.1 HX.out.2.1 hst k1 k2 k3 k4 k5)
                                                                                      clear u1 hst hM1 k1 k2 k3 k4 k5))
        go_roundg g'
        case measure => omega
        case rel => exact ⟨j + 1, rfl, hlt, by omega, K.out⟩
      by_cases hq7 : d = 7
      · subst hq7
        have cC := cCap HM.out HD.out
        go_wp2_with (first | (refine appL_ (some 102) rfl rfl rfl rfl rfl hrun ?_) | (go_at_call 22; refine cC.mono ?_; rintro r w1 ⟨v, rfl, hst, hM1⟩
                                                                                      obtain ⟨u0, u1, u2⟩ := tail hM1
                                                                                      have e0 : w1.cell? ⟨p + 1, 0, none⟩ = some (.bool false) := u1 0
                                                                                      have e1 : w1.cell? ⟨p + 1, 1, none⟩ = some (.int .i64 0) := u1 1
                                                                                      have e2 : w1.cell? ⟨p + 1, 2, none⟩ = some (.int .i64 0) := u1 2
                                                                                      have e3 : w1.cell? ⟨p + 1, 3, none⟩ = some (.float .f64 0) := u1 3
                                                                                      have e4 : w1.cell? ⟨p + 1, 4, none⟩ = some (.bool false) := u1 4
                                                                                      have e5 : w1.cell? ⟨p + 1, 5, none⟩ = some (.slice none 0 0) := u1 5
                                                                                      obtain ⟨g2, cap2, w6, hrun, k1, k2, k3, k4, k5⟩ := Md.end_ ⟨⟨false, 0, v, false⟩, 0⟩ ((hM1.put 2 (.int .i64 v)).put 5 (.slice none 0 0)) rfl HX.out.2.2
                                                                                      simp only [put_size, oc] at hrun
                                                                                      have K := Aside0.mk (Ru.next (y := ⟨⟨false, 0, v, false⟩, 0⟩) HX.out.1 HX.out.2.1 hst k1 k2 k3 k4 k5)
                                                                                      clear u1 hst hM1 k1 k2 k3 k4 k5))
        go_roundg g'
        case measure => omega
        case rel => exact ⟨j + 1, rfl, hlt, by omega, K.out⟩
      by_cases hq8 : d = 8
      · subst hq8
        have cC := cRate HM.out HD.out
        go_wp2_with (first | (refine appL_ (some 102) rfl rfl rfl rfl rfl hrun ?_) | (go_at_call 23; refine cC.mono ?_; rintro r w1 ⟨f, rfl, hst, hM1⟩
                                                                                      obtain ⟨u0, u1, u2⟩ := tail hM1
                                                                                      have e0 : w1.cell? ⟨p + 1, 0, none⟩ = some (.bool false) := u1 0
                                                                                      have e1 : w1.cell? ⟨p + 1, 1, none⟩ = some (.int .i64 0) := u1 1
                                                                                      have e2 : w1.cell? ⟨p + 1, 2, none⟩ = some (.int .i64 0) := u1 2
                                                                                      have e3 : w1.cell? ⟨p + 1, 3, none⟩ = some (.float .f64 0) := u1 3
                                                                                      have e4 : w1.cell? ⟨p + 1, 4, none⟩ = some (.bool false) := u1 4
                                                                                      have e5 : w1.cell? ⟨p + 1, 5, none⟩ = some (.slice none 0 0) := u1 5
                                                                                      obtain ⟨g2, cap2, w6, hrun, k1, k2, k3, k4, k5⟩ := Md.end_ ⟨⟨false, 0, 0, false⟩, f⟩ ((hM1.put 3 (.float .f64 f)).put 5 (.slice none 0 0)) rfl HX.out.2.2
                                                                                      simp only [put_size, oc] at hrun
                                                                                      have K := Aside0.mk (Ru.next (y := ⟨⟨false, 0, 0, false⟩, f⟩) HX.out.1 HX.out.2.1 hst k1 k2 k3 k4 k5)
                                                                                      clear u1 hst hM1 k1 k2 k3 k4 k5))
        go_roundg g'
        case measure => omega
        case rel => exact ⟨j + 1, rfl, hlt, by omega, K.out⟩
      · have hst := other (x := x) (n := n) (by rw [HD.out]; omega) (Lcp.run n ⟨[], 0, 0⟩ (ops.take j)).1
        obtain ⟨g2, cap2, w6, hrun, k1, k2, k3, k4, k5⟩ := Md.end_ ⟨o0, 0⟩ (HM.out.put 5 (.slice none 0 0)) rfl HX.out.2.2
        simp only [put_size, oc, o0] at hrun
        have K := Aside0.mk (Ru.next (y := ⟨o0, 0⟩) HX.out.1 HX.out.2.1 hst k1 k2 k3 k4 k5)
        have e0 : W.cell? ⟨p + 1, 0, none⟩ = some (.bool false) := t1 0
        have e1 : W.cell? ⟨p + 1, 1, none⟩ = some (.int .i64 0) := t1 1
        have e2 : W.cell? ⟨p + 1, 2, none⟩ = some (.int .i64 0) := t1 2
        have e3 : W.cell? ⟨p + 1, 3, none⟩ = some (.float .f64 0) := t1 3
        have e4 : W.cell? ⟨p + 1, 4, none⟩ = some (.bool false) := t1 4
        have e5 : W.cell? ⟨p + 1, 5, none⟩ = some (.slice none 0 0) := t1 5
        have hb0 : (d == 0) = false := by rw [beq_eq_false_iff_ne]; exact hq0
        have hb1 : (d == 1) = false := by rw [beq_eq_false_iff_ne]; exact hq1
        have hb2 : (d == 2) = false := by rw [beq_eq_false_iff_ne]; exact hq2
        have hb3 : (d == 3) = false := by rw [beq_eq_false_iff_ne]; exact hq3
        have hb4 : (d == 4) = false := by rw [beq_eq_false_iff_ne]; exact hq4
        have hb5 : (d == 5) = false := by rw [beq_eq_false_iff_ne]; exact hq5
        have hb6 : (d == 6) = false := by rw [beq_eq_false_iff_ne]; exact hq6
        have hb7 : (d == 7) = false := by rw [beq_eq_false_iff_ne]; exact hq7
        have hb8 : (d == 8) = false := by rw [beq_eq_false_iff_ne]; exact hq8
        clear t1 hst k1 k2 k3 k4 k5
        go_wp2_with (refine appL_ (some 102) rfl rfl rfl rfl rfl hrun ?_)
        go_roundg g'
        case measure => omega
        case rel => exact ⟨j + 1, rfl, hlt, by omega, K.out⟩
    · obtain rfl : j = ops.length := by omega
      have HR := Aside0.mk hR
      clear hR
      go_wp2_with (fail)
      go_ret2
      obtain ⟨os, ho, hos⟩ := HR.out.out
      rw [List.take_of_length_le (Nat.le_refl _)] at hos
      exact ⟨_, os, rfl, ho, hos, HR.out.below⟩
end Go.Proofs.Ytjhmcpdnmfhodaa.Lcw
