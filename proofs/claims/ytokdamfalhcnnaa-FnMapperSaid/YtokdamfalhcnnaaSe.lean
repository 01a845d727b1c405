/- spec.Done: the walk. -/
import Derived.Test.YtokdamfalhcnnaaSw
import Derived.Test.YtokdamfalhcnnaaGMpBodyx3
namespace Go.Proofs.Ytokdamfalhcnnaa.Se
open Go Go.Maps Go.ChangeMaps Go.MapKept Go.RowKit Go.Proofs.YtokdamfalhcnnaaW.PrintWords Go.Proofs.YtokdamfalhcnnaaW.PrintLast Go.Proofs.YtokdamfalhcnnaaW.PrintMore GMpBody Mp Mq Ms Mt Mu Small Mv Mo Mw Mx Pa Pb Pc Pe Pf Sd Sw

set_option linter.all false
set_option maxRecDepth 1000000
set_option maxHeartbeats 4000000
variable {w wx W : World} {nn : Bool} {ps qs : List Pr} {A A3 : Option Addr} {c c3 : Nat} {d k v : Int} {l : List Int}
/-- what Done gives -/
def Dt (w : World) (nn : Bool) (qs : List Pr) (r : Ending) (w' : World) : Prop := ∃ A c, r = .returned (.agg #[.bool nn, .slice A (sps qs).length c]) ∧ (sps qs).length ≤ c ∧ Kd.C k29 w' A (sps qs).length (sps qs) ∧ Below w.heap.size w w'
theorem set2 {T : Nat} (x y : Value) (W : World) : W.grownBy ((W.setCell ⟨T, 0, none⟩ x).setCell ⟨T, 1, none⟩ y) (some T) := by
  have hgs : ∀ (W : World) (j : Nat) (u : Value), W.grownBy (W.setCell ⟨T, j, none⟩ u) (some T) := fun W j u => ⟨rfl, rfl, rfl, by simp [World.setCell], fun k _ hk => Below.heap_setCell _ _ _ k (fun e => hk (by rw [e]))⟩
  exact (hgs W 0 x).andThen (hgs _ 1 y) (fun j hj => .inr hj)
/-- the end: the result's variable is written -/
theorem fin_own {T : Nat} (hb : Below w.heap.size w wx) (hT : w.heap.size ≤ T) {B : Nat} (hTB : T < B) (hc : (sps qs).length ≤ c) (hr : Kd.C k29 wx A (sps qs).length (sps qs)) (ha : ∀ ad, A = some ad → B ≤ ad.block) (b : Bool) (x y : Value) : Dt w b qs (.returned (.agg #[.bool b, .slice A (sps qs).length c])) ((wx.setCell ⟨T, 0, none⟩ x).setCell ⟨T, 1, none⟩ y) :=
  ⟨A, c, rfl, hc, CP_move hr (fun ad e hlt => (set2 x y wx).block _ hlt (fun e2 => by injection e2 with e2; have := ha ad e; omega)), hb.trans (below_grown (set2 (T := T) x y wx) hb.size (fun k hk => by injection hk with hk; rw [← hk]; exact hT))⟩
theorem fin_came {T : Nat} (hb : Below w.heap.size w wx) (hT : w.heap.size ≤ T) (hc : (sps qs).length ≤ c) (hr : Kd.C k29 w A (sps qs).length (sps qs)) (b : Bool) (x y : Value) : Dt w b qs (.returned (.agg #[.bool b, .slice A (sps qs).length c])) ((wx.setCell ⟨T, 0, none⟩ x).setCell ⟨T, 1, none⟩ y) := by
  have h := hb.trans (below_grown (set2 (T := T) x y wx) hb.size (fun k hk => by injection hk with hk; rw [← hk]; exact hT))
  exact ⟨A, c, rfl, hc, Kd.C_below hr h, h⟩
/-- the worlds behind the prologue -/
structure Pg (w W1 W2 W3 Wp : World) (nn : Bool) (A : Option Addr) (n c : Nat) (d k v : Int) (A3 : Option Addr) (l : List Int) (c3 : Nat) : Prop where
  s1 : W1.heap.size = w.heap.size + 1
  s2 : W2.heap.size = w.heap.size + 2
  s3 : W3.heap.size = w.heap.size + 3
  s4 : Wp.heap.size = w.heap.size + 4
  m : Wp.heap[w.heap.size]? = some (.cells #[.bool nn, .slice A n c] 27 (0, 0))
  m3 : W3.heap[w.heap.size]? = some (.cells #[.bool nn, .slice A n c] 27 (0, 0))
  o : Wp.heap[W1.heap.size]? = some (.cells #[.int .i64 d, .int .i64 k, .int .i64 v, .slice A3 l.length c3] 32 (0, 0))
  t : Wp.heap[W2.heap.size]? = some (.cells #[.bool false, .slice none 0 0] 27 (0, 0))
  u : Wp.heap[W3.heap.size]? = some (.cells #[.bool nn, .slice none 0 0] 27 (0, 0))
  bl : Below w.heap.size w Wp
theorem pg (w : World) (nn : Bool) (A : Option Addr) (n c : Nat) (d k v : Int) (A3 : Option Addr) (l : List Int) (c3 : Nat) {W1 W2 W3 Wz Wp : World} (h1 : w.alloc (.cells #[.bool nn, .slice A n c] 27) = W1) (h2 : W1.alloc (.cells #[.int .i64 d, .int .i64 k, .int .i64 v, .slice A3 l.length c3] 32) = W2) (h3 : W2.alloc (.cells #[.bool false, .slice none 0 0] 27) = W3) (h4 : W3.alloc (.cells #[.bool false, .slice none 0 0] 27) = Wz) (h5 : (Wz.setCell ⟨W3.heap.size, 0, none⟩ (.bool nn)).setCell ⟨W3.heap.size, 1, none⟩ (.slice none 0 0) = Wp) : Pg w W1 W2 W3 Wp nn A n c d k v A3 l c3 := by
  have s1 : W1.heap.size = w.heap.size + 1 := by rw [← h1]; simp
  have s2 : W2.heap.size = w.heap.size + 2 := by rw [← h2]; simp; omega
  have s3 : W3.heap.size = w.heap.size + 3 := by rw [← h3]; simp; omega
  have sz : Wz.heap.size = w.heap.size + 4 := by rw [← h4]; simp; omega
  have hg : Wz.grownBy Wp (some W3.heap.size) := by rw [← h5]; exact set2 _ _ Wz
  have s4 : Wp.heap.size = w.heap.size + 4 := by rw [← h5]; simp [World.setCell, sz]
  have hz : ∀ k, k < W3.heap.size → Wp.heap[k]? = W3.heap[k]? := fun k hk => (hg.block k (by omega) (fun e => by injection e with e; omega)).trans (by rw [← h4]; exact Below.heap_alloc W3 _ k hk)
  have uz : Wz.heap[W3.heap.size]? = some (.cells #[.bool false, .slice none 0 0] 27 (0, 0)) := by rw [← h4]; exact heap_alloc_new W3 _
  have m1 : W1.heap[w.heap.size]? = some (.cells #[.bool nn, .slice A n c] 27 (0, 0)) := by rw [← h1]; exact heap_alloc_new w _
  have m2 : W2.heap[w.heap.size]? = some (.cells #[.bool nn, .slice A n c] 27 (0, 0)) := by rw [← h2]; exact (Below.heap_alloc W1 _ _ (by omega)).trans m1
  have m3 : W3.heap[w.heap.size]? = some (.cells #[.bool nn, .slice A n c] 27 (0, 0)) := by rw [← h3]; exact (Below.heap_alloc W2 _ _ (by omega)).trans m2
  have o2 : W2.heap[W1.heap.size]? = some (.cells #[.int .i64 d, .int .i64 k, .int .i64 v, .slice A3 l.length c3] 32 (0, 0)) := by rw [← h2]; exact heap_alloc_new W1 _
  have o3 : W3.heap[W1.heap.size]? = some (.cells #[.int .i64 d, .int .i64 k, .int .i64 v, .slice A3 l.length c3] 32 (0, 0)) := by rw [← h3]; exact (Below.heap_alloc W2 _ _ (by omega)).trans o2
  have t3 : W3.heap[W2.heap.size]? = some (.cells #[.bool false, .slice none 0 0] 27 (0, 0)) := by rw [← h3]; exact heap_alloc_new W2 _
  refine ⟨s1, s2, s3, s4, (hz _ (by omega)).trans m3, m3, (hz _ (by omega)).trans o3, (hz _ (by omega)).trans t3, by rw [← h5]; exact (heap_setCell_same _ _ 1 _ 27 _ (heap_setCell_same Wz _ 0 _ 27 _ uz)).trans rfl, ?_⟩
  have b3 : Below w.heap.size w W3 := by
    rw [← h3, ← h2, ← h1]
    exact (((Below.refl _ w).alloc (Nat.le_refl _) _).alloc (by simp) _).alloc (by simp; omega) _
  exact b3.trans ((by rw [← h4]; exact (Below.refl _ W3).alloc (by omega) _ : Below w.heap.size W3 Wz).trans (below_grown hg (by omega) (fun k hk => by injection hk with hk; omega)))
theorem done3 (hr : Kd.C k29 w A (sps ps).length (sps ps)) (hc : (sps ps).length ≤ c) (hl : ps.length ≤ 90000) : Calls Try.prog 6 #[.agg #[.bool nn, .slice A (sps ps).length c], .agg #[.int .i64 3, .int .i64 k, .int .i64 v, .slice A3 l.length c3]] w (Dt w nn (ps)) := by
  obtain ⟨W1, hW1⟩ : ∃ W1, w.alloc (.cells #[.bool nn, .slice A (sps ps).length c] 27) = W1 := ⟨_, rfl⟩
  obtain ⟨W2, hW2⟩ : ∃ W2, W1.alloc (.cells #[.int .i64 3, .int .i64 k, .int .i64 v, .slice A3 l.length c3] 32) = W2 := ⟨_, rfl⟩
  obtain ⟨W3, hW3⟩ : ∃ W3, W2.alloc (.cells #[.bool false, .slice none 0 0] 27) = W3 := ⟨_, rfl⟩
  obtain ⟨Wz, hW4⟩ : ∃ Wz, W3.alloc (.cells #[.bool false, .slice none 0 0] 27) = Wz := ⟨_, rfl⟩
  obtain ⟨Wp, hW5⟩ : ∃ Wp, (Wz.setCell ⟨W3.heap.size, 0, none⟩ (.bool nn)).setCell ⟨W3.heap.size, 1, none⟩ (.slice none 0 0) = Wp := ⟨_, rfl⟩
  have uz : Wz.heap[W3.heap.size]? = some (.cells #[.bool false, .slice none 0 0] 27 (0, 0)) := by rw [← hW4]; exact heap_alloc_new W3 _
  have z0 : Wz.cell? ⟨W3.heap.size, 0, none⟩ = some (.bool false) := by rw [Lib.cell_of_heap uz]; rfl
  have z1 : Wz.cell? ⟨W3.heap.size, 1, none⟩ = some (.slice none 0 0) := by rw [Lib.cell_of_heap uz]; rfl
  have zf : ∀ j, Wz.frozen? ⟨W3.heap.size, j, none⟩ = false := fun j => by rw [Lib.frozen_of_heap uz]
  have HP := Aside0.mk (pg w nn A (sps ps).length c 3 k v A3 l c3 hW1 hW2 hW3 hW4 hW5)
  clear uz
  have HA := Aside0.mk (And.intro hr (And.intro hc hl))
  have hu27 := Try.underlying27
  have hu29 := Try.underlying29
  have hu32 := Try.underlying32
  have d20 : W3.cell? ⟨w.heap.size, 0, none⟩ = some (.bool nn) := by rw [Lib.cell_of_heap HP.out.m3]; rfl
  have a0 : Wp.cell? ⟨w.heap.size, 0, none⟩ = some (.bool nn) := by rw [Lib.cell_of_heap HP.out.m]; rfl
  have a1 : Wp.cell? ⟨w.heap.size, 1, none⟩ = some (.slice A (sps ps).length c) := by rw [Lib.cell_of_heap HP.out.m]; rfl
  have o0 : Wp.cell? ⟨W1.heap.size, 0, none⟩ = some (.int .i64 3) := by rw [Lib.cell_of_heap HP.out.o]; rfl
  have o1 : Wp.cell? ⟨W1.heap.size, 1, none⟩ = some (.int .i64 k) := by rw [Lib.cell_of_heap HP.out.o]; rfl
  have o2 : Wp.cell? ⟨W1.heap.size, 2, none⟩ = some (.int .i64 v) := by rw [Lib.cell_of_heap HP.out.o]; rfl
  have u0 : Wp.cell? ⟨W3.heap.size, 0, none⟩ = some (.bool nn) := by rw [Lib.cell_of_heap HP.out.u]; rfl
  have u1 : Wp.cell? ⟨W3.heap.size, 1, none⟩ = some (.slice none 0 0) := by rw [Lib.cell_of_heap HP.out.u]; rfl
  have t0 : Wp.cell? ⟨W2.heap.size, 0, none⟩ = some (.bool false) := by rw [Lib.cell_of_heap HP.out.t]; rfl
  have t1 : Wp.cell? ⟨W2.heap.size, 1, none⟩ = some (.slice none 0 0) := by rw [Lib.cell_of_heap HP.out.t]; rfl
  have tf : ∀ j, Wp.frozen? ⟨W2.heap.size, j, none⟩ = false := fun j => by rw [Lib.frozen_of_heap HP.out.t]
  clear hr hc hl
  go_enter Try.func6, Try.ntmps6
  go_wp2_with (fail)
  obtain ⟨WF, hWF⟩ : ∃ WF, (Wp.setCell ⟨W2.heap.size, 0, none⟩ (.bool nn)).setCell ⟨W2.heap.size, 1, none⟩ (Value.slice A (sps ps).length c) = WF := ⟨_, rfl⟩
  have hfin := fin_came (b := nn) (x := .bool nn) (y := .slice A (sps ps).length c) (T := W2.heap.size) HP.out.bl (by have := HP.out.s2; omega) HA.out.2.1 HA.out.1
  rw [hWF] at hfin ⊢
  have y0 : WF.cell? ⟨W2.heap.size, 0, none⟩ = some (.bool nn) := by rw [← hWF, Lib.cell_of_heap (heap_setCell_same _ W2.heap.size 1 _ 27 _ (heap_setCell_same Wp W2.heap.size 0 _ 27 _ HP.out.t))]; rfl
  have y1 : WF.cell? ⟨W2.heap.size, 1, none⟩ = some (Value.slice A (sps ps).length c) := by rw [← hWF, Lib.cell_of_heap (heap_setCell_same _ W2.heap.size 1 _ 27 _ (heap_setCell_same Wp W2.heap.size 0 _ 27 _ HP.out.t))]; rfl
  refine bodyPost_ret (v := .agg #[.bool nn, Value.slice A (sps ps).length c]) (by simp [results, go_sem, y0, y1]) rfl ?_
  exact hfin
theorem done4 (hr : Kd.C k29 w A (sps ps).length (sps ps)) (hc : (sps ps).length ≤ c) (hl : ps.length ≤ 90000) : Calls Try.prog 6 #[.agg #[.bool nn, .slice A (sps ps).length c], .agg #[.int .i64 4, .int .i64 k, .int .i64 v, .slice A3 l.length c3]] w (Dt w nn (ps)) := by
  obtain ⟨W1, hW1⟩ : ∃ W1, w.alloc (.cells #[.bool nn, .slice A (sps ps).length c] 27) = W1 := ⟨_, rfl⟩
  obtain ⟨W2, hW2⟩ : ∃ W2, W1.alloc (.cells #[.int .i64 4, .int .i64 k, .int .i64 v, .slice A3 l.length c3] 32) = W2 := ⟨_, rfl⟩
  obtain ⟨W3, hW3⟩ : ∃ W3, W2.alloc (.cells #[.bool false, .slice none 0 0] 27) = W3 := ⟨_, rfl⟩
  obtain ⟨Wz, hW4⟩ : ∃ Wz, W3.alloc (.cells #[.bool false, .slice none 0 0] 27) = Wz := ⟨_, rfl⟩
  obtain ⟨Wp, hW5⟩ : ∃ Wp, (Wz.setCell ⟨W3.heap.size, 0, none⟩ (.bool nn)).setCell ⟨W3.heap.size, 1, none⟩ (.slice none 0 0) = Wp := ⟨_, rfl⟩
  have uz : Wz.heap[W3.heap.size]? = some (.cells #[.bool false, .slice none 0 0] 27 (0, 0)) := by rw [← hW4]; exact heap_alloc_new W3 _
  have z0 : Wz.cell? ⟨W3.heap.size, 0, none⟩ = some (.bool false) := by rw [Lib.cell_of_heap uz]; rfl
  have z1 : Wz.cell? ⟨W3.heap.size, 1, none⟩ = some (.slice none 0 0) := by rw [Lib.cell_of_heap uz]; rfl
  have zf : ∀ j, Wz.frozen? ⟨W3.heap.size, j, none⟩ = false := fun j => by rw [Lib.frozen_of_heap uz]
  have HP := Aside0.mk (pg w nn A (sps ps).length c 4 k v A3 l c3 hW1 hW2 hW3 hW4 hW5)
  clear uz
  have HA := Aside0.mk (And.intro hr (And.intro hc hl))
  have hu27 := Try.underlying27
  have hu29 := Try.underlying29
  have hu32 := Try.underlying32
  have d20 : W3.cell? ⟨w.heap.size, 0, none⟩ = some (.bool nn) := by rw [Lib.cell_of_heap HP.out.m3]; rfl
  have a0 : Wp.cell? ⟨w.heap.size, 0, none⟩ = some (.bool nn) := by rw [Lib.cell_of_heap HP.out.m]; rfl
  have a1 : Wp.cell? ⟨w.heap.size, 1, none⟩ = some (.slice A (sps ps).length c) := by rw [Lib.cell_of_heap HP.out.m]; rfl
  have o0 : Wp.cell? ⟨W1.heap.size, 0, none⟩ = some (.int .i64 4) := by rw [Lib.cell_of_heap HP.out.o]; rfl
  have o1 : Wp.cell? ⟨W1.heap.size, 1, none⟩ = some (.int .i64 k) := by rw [Lib.cell_of_heap HP.out.o]; rfl
  have o2 : Wp.cell? ⟨W1.heap.size, 2, none⟩ = some (.int .i64 v) := by rw [Lib.cell_of_heap HP.out.o]; rfl
  have u0 : Wp.cell? ⟨W3.heap.size, 0, none⟩ = some (.bool nn) := by rw [Lib.cell_of_heap HP.out.u]; rfl
  have u1 : Wp.cell? ⟨W3.heap.size, 1, none⟩ = some (.slice none 0 0) := by rw [Lib.cell_of_heap HP.out.u]; rfl
  have t0 : Wp.cell? ⟨W2.heap.size, 0, none⟩ = some (.bool false) := by rw [Lib.cell_of_heap HP.out.t]; rfl
  have t1 : Wp.cell? ⟨W2.heap.size, 1, none⟩ = some (.slice none 0 0) := by rw [Lib.cell_of_heap HP.out.t]; rfl
  have tf : ∀ j, Wp.frozen? ⟨W2.heap.size, j, none⟩ = false := fun j => by rw [Lib.frozen_of_heap HP.out.t]
  clear hr hc hl
  go_enter Try.func6, Try.ntmps6
  go_wp2_with (fail)
  obtain ⟨WF, hWF⟩ : ∃ WF, (Wp.setCell ⟨W2.heap.size, 0, none⟩ (.bool nn)).setCell ⟨W2.heap.size, 1, none⟩ (Value.slice A (sps ps).length c) = WF := ⟨_, rfl⟩
  have hfin := fin_came (b := nn) (x := .bool nn) (y := .slice A (sps ps).length c) (T := W2.heap.size) HP.out.bl (by have := HP.out.s2; omega) HA.out.2.1 HA.out.1
  rw [hWF] at hfin ⊢
  have y0 : WF.cell? ⟨W2.heap.size, 0, none⟩ = some (.bool nn) := by rw [← hWF, Lib.cell_of_heap (heap_setCell_same _ W2.heap.size 1 _ 27 _ (heap_setCell_same Wp W2.heap.size 0 _ 27 _ HP.out.t))]; rfl
  have y1 : WF.cell? ⟨W2.heap.size, 1, none⟩ = some (Value.slice A (sps ps).length c) := by rw [← hWF, Lib.cell_of_heap (heap_setCell_same _ W2.heap.size 1 _ 27 _ (heap_setCell_same Wp W2.heap.size 0 _ 27 _ HP.out.t))]; rfl
  refine bodyPost_ret (v := .agg #[.bool nn, Value.slice A (sps ps).length c]) (by simp [results, go_sem, y0, y1]) rfl ?_
  exact hfin
theorem done7 (hr : Kd.C k29 w A (sps ps).length (sps ps)) (hc : (sps ps).length ≤ c) (hl : ps.length ≤ 90000) : Calls Try.prog 6 #[.agg #[.bool nn, .slice A (sps ps).length c], .agg #[.int .i64 7, .int .i64 k, .int .i64 v, .slice A3 l.length c3]] w (Dt w nn (ps)) := by
  obtain ⟨W1, hW1⟩ : ∃ W1, w.alloc (.cells #[.bool nn, .slice A (sps ps).length c] 27) = W1 := ⟨_, rfl⟩
  obtain ⟨W2, hW2⟩ : ∃ W2, W1.alloc (.cells #[.int .i64 7, .int .i64 k, .int .i64 v, .slice A3 l.length c3] 32) = W2 := ⟨_, rfl⟩
  obtain ⟨W3, hW3⟩ : ∃ W3, W2.alloc (.cells #[.bool false, .slice none 0 0] 27) = W3 := ⟨_, rfl⟩
  obtain ⟨Wz, hW4⟩ : ∃ Wz, W3.alloc (.cells #[.bool false, .slice none 0 0] 27) = Wz := ⟨_, rfl⟩
  obtain ⟨Wp, hW5⟩ : ∃ Wp, (Wz.setCell ⟨W3.heap.size, 0, none⟩ (.bool nn)).setCell ⟨W3.heap.size, 1, none⟩ (.slice none 0 0) = Wp := ⟨_, rfl⟩
  have uz : Wz.heap[W3.heap.size]? = some (.cells #[.bool false, .slice none 0 0] 27 (0, 0)) := by rw [← hW4]; exact heap_alloc_new W3 _
  have z0 : Wz.cell? ⟨W3.heap.size, 0, none⟩ = some (.bool false) := by rw [Lib.cell_of_heap uz]; rfl
  have z1 : Wz.cell? ⟨W3.heap.size, 1, none⟩ = some (.slice none 0 0) := by rw [Lib.cell_of_heap uz]; rfl
  have zf : ∀ j, Wz.frozen? ⟨W3.heap.size, j, none⟩ = false := fun j => by rw [Lib.frozen_of_heap uz]
  have HP := Aside0.mk (pg w nn A (sps ps).length c 7 k v A3 l c3 hW1 hW2 hW3 hW4 hW5)
  clear uz
  have HA := Aside0.mk (And.intro hr (And.intro hc hl))
  have hu27 := Try.underlying27
  have hu29 := Try.underlying29
  have hu32 := Try.underlying32
  have d20 : W3.cell? ⟨w.heap.size, 0, none⟩ = some (.bool nn) := by rw [Lib.cell_of_heap HP.out.m3]; rfl
  have a0 : Wp.cell? ⟨w.heap.size, 0, none⟩ = some (.bool nn) := by rw [Lib.cell_of_heap HP.out.m]; rfl
  have a1 : Wp.cell? ⟨w.heap.size, 1, none⟩ = some (.slice A (sps ps).length c) := by rw [Lib.cell_of_heap HP.out.m]; rfl
  have o0 : Wp.cell? ⟨W1.heap.size, 0, none⟩ = some (.int .i64 7) := by rw [Lib.cell_of_heap HP.out.o]; rfl
  have o1 : Wp.cell? ⟨W1.heap.size, 1, none⟩ = some (.int .i64 k) := by rw [Lib.cell_of_heap HP.out.o]; rfl
  have o2 : Wp.cell? ⟨W1.heap.size, 2, none⟩ = some (.int .i64 v) := by rw [Lib.cell_of_heap HP.out.o]; rfl
  have u0 : Wp.cell? ⟨W3.heap.size, 0, none⟩ = some (.bool nn) := by rw [Lib.cell_of_heap HP.out.u]; rfl
  have u1 : Wp.cell? ⟨W3.heap.size, 1, none⟩ = some (.slice none 0 0) := by rw [Lib.cell_of_heap HP.out.u]; rfl
  have t0 : Wp.cell? ⟨W2.heap.size, 0, none⟩ = some (.bool false) := by rw [Lib.cell_of_heap HP.out.t]; rfl
  have t1 : Wp.cell? ⟨W2.heap.size, 1, none⟩ = some (.slice none 0 0) := by rw [Lib.cell_of_heap HP.out.t]; rfl
  have tf : ∀ j, Wp.frozen? ⟨W2.heap.size, j, none⟩ = false := fun j => by rw [Lib.frozen_of_heap HP.out.t]
  clear hr hc hl
  go_enter Try.func6, Try.ntmps6
  go_wp2_with (fail)
  obtain ⟨WF, hWF⟩ : ∃ WF, (Wp.setCell ⟨W2.heap.size, 0, none⟩ (.bool nn)).setCell ⟨W2.heap.size, 1, none⟩ (Value.slice A (sps ps).length c) = WF := ⟨_, rfl⟩
  have hfin := fin_came (b := nn) (x := .bool nn) (y := .slice A (sps ps).length c) (T := W2.heap.size) HP.out.bl (by have := HP.out.s2; omega) HA.out.2.1 HA.out.1
  rw [hWF] at hfin ⊢
  have y0 : WF.cell? ⟨W2.heap.size, 0, none⟩ = some (.bool nn) := by rw [← hWF, Lib.cell_of_heap (heap_setCell_same _ W2.heap.size 1 _ 27 _ (heap_setCell_same Wp W2.heap.size 0 _ 27 _ HP.out.t))]; rfl
  have y1 : WF.cell? ⟨W2.heap.size, 1, none⟩ = some (Value.slice A (sps ps).length c) := by rw [← hWF, Lib.cell_of_heap (heap_setCell_same _ W2.heap.size 1 _ 27 _ (heap_setCell_same Wp W2.heap.size 0 _ 27 _ HP.out.t))]; rfl
  refine bodyPost_ret (v := .agg #[.bool nn, Value.slice A (sps ps).length c]) (by simp [results, go_sem, y0, y1]) rfl ?_
  exact hfin
theorem done2 (hr : Kd.C k29 w A (sps ps).length (sps ps)) (hc : (sps ps).length ≤ c) (hl : ps.length ≤ 90000) : Calls Try.prog 6 #[.agg #[.bool nn, .slice A (sps ps).length c], .agg #[.int .i64 2, .int .i64 k, .int .i64 v, .slice A3 l.length c3]] w (Dt w nn ([])) := by
  obtain ⟨W1, hW1⟩ : ∃ W1, w.alloc (.cells #[.bool nn, .slice A (sps ps).length c] 27) = W1 := ⟨_, rfl⟩
  obtain ⟨W2, hW2⟩ : ∃ W2, W1.alloc (.cells #[.int .i64 2, .int .i64 k, .int .i64 v, .slice A3 l.length c3] 32) = W2 := ⟨_, rfl⟩
  obtain ⟨W3, hW3⟩ : ∃ W3, W2.alloc (.cells #[.bool false, .slice none 0 0] 27) = W3 := ⟨_, rfl⟩
  obtain ⟨Wz, hW4⟩ : ∃ Wz, W3.alloc (.cells #[.bool false, .slice none 0 0] 27) = Wz := ⟨_, rfl⟩
  obtain ⟨Wp, hW5⟩ : ∃ Wp, (Wz.setCell ⟨W3.heap.size, 0, none⟩ (.bool nn)).setCell ⟨W3.heap.size, 1, none⟩ (.slice none 0 0) = Wp := ⟨_, rfl⟩
  have uz : Wz.heap[W3.heap.size]? = some (.cells #[.bool false, .slice none 0 0] 27 (0, 0)) := by rw [← hW4]; exact heap_alloc_new W3 _
  have z0 : Wz.cell? ⟨W3.heap.size, 0, none⟩ = some (.bool false) := by rw [Lib.cell_of_heap uz]; rfl
  have z1 : Wz.cell? ⟨W3.heap.size, 1, none⟩ = some (.slice none 0 0) := by rw [Lib.cell_of_heap uz]; rfl
  have zf : ∀ j, Wz.frozen? ⟨W3.heap.size, j, none⟩ = false := fun j => by rw [Lib.frozen_of_heap uz]
  have HP := Aside0.mk (pg w nn A (sps ps).length c 2 k v A3 l c3 hW1 hW2 hW3 hW4 hW5)
  clear uz
  have HA := Aside0.mk (And.intro hr (And.intro hc hl))
  have hu27 := Try.underlying27
  have hu29 := Try.underlying29
  have hu32 := Try.underlying32
  have d20 : W3.cell? ⟨w.heap.size, 0, none⟩ = some (.bool nn) := by rw [Lib.cell_of_heap HP.out.m3]; rfl
  have a0 : Wp.cell? ⟨w.heap.size, 0, none⟩ = some (.bool nn) := by rw [Lib.cell_of_heap HP.out.m]; rfl
  have a1 : Wp.cell? ⟨w.heap.size, 1, none⟩ = some (.slice A (sps ps).length c) := by rw [Lib.cell_of_heap HP.out.m]; rfl
  have o0 : Wp.cell? ⟨W1.heap.size, 0, none⟩ = some (.int .i64 2) := by rw [Lib.cell_of_heap HP.out.o]; rfl
  have o1 : Wp.cell? ⟨W1.heap.size, 1, none⟩ = some (.int .i64 k) := by rw [Lib.cell_of_heap HP.out.o]; rfl
  have o2 : Wp.cell? ⟨W1.heap.size, 2, none⟩ = some (.int .i64 v) := by rw [Lib.cell_of_heap HP.out.o]; rfl
  have u0 : Wp.cell? ⟨W3.heap.size, 0, none⟩ = some (.bool nn) := by rw [Lib.cell_of_heap HP.out.u]; rfl
  have u1 : Wp.cell? ⟨W3.heap.size, 1, none⟩ = some (.slice none 0 0) := by rw [Lib.cell_of_heap HP.out.u]; rfl
  have t0 : Wp.cell? ⟨W2.heap.size, 0, none⟩ = some (.bool false) := by rw [Lib.cell_of_heap HP.out.t]; rfl
  have t1 : Wp.cell? ⟨W2.heap.size, 1, none⟩ = some (.slice none 0 0) := by rw [Lib.cell_of_heap HP.out.t]; rfl
  have tf : ∀ j, Wp.frozen? ⟨W2.heap.size, j, none⟩ = false := fun j => by rw [Lib.frozen_of_heap HP.out.t]
  clear hr hc hl
  go_enter Try.func6, Try.ntmps6
  go_wp2_with (fail)
  obtain ⟨WF, hWF⟩ : ∃ WF, (Wp.setCell ⟨W2.heap.size, 0, none⟩ (.bool nn)).setCell ⟨W2.heap.size, 1, none⟩ (Value.slice none 0 0) = WF := ⟨_, rfl⟩
  have hfin := fin_came (qs := []) (c := 0) (A := none) (b := nn) (x := .bool nn) (y := .slice none 0 0) (T := W2.heap.size) HP.out.bl (by have := HP.out.s2; omega) (Nat.le_refl _) (Kd.C_nil _ _)
  rw [hWF] at hfin ⊢
  have y0 : WF.cell? ⟨W2.heap.size, 0, none⟩ = some (.bool nn) := by rw [← hWF, Lib.cell_of_heap (heap_setCell_same _ W2.heap.size 1 _ 27 _ (heap_setCell_same Wp W2.heap.size 0 _ 27 _ HP.out.t))]; rfl
  have y1 : WF.cell? ⟨W2.heap.size, 1, none⟩ = some (Value.slice none 0 0) := by rw [← hWF, Lib.cell_of_heap (heap_setCell_same _ W2.heap.size 1 _ 27 _ (heap_setCell_same Wp W2.heap.size 0 _ 27 _ HP.out.t))]; rfl
  refine bodyPost_ret (v := .agg #[.bool nn, Value.slice none 0 0]) (by simp [results, go_sem, y0, y1]) rfl ?_
  exact hfin
theorem done0t (hr : Kd.C k29 w A (sps ps).length (sps ps)) (hc : (sps ps).length ≤ c) (hl : ps.length ≤ 90000) (hnn : nn = true) : Calls Try.prog 6 #[.agg #[.bool nn, .slice A (sps ps).length c], .agg #[.int .i64 0, .int .i64 k, .int .i64 v, .slice A3 l.length c3]] w (Dt w nn (ps)) := by
  subst hnn
  obtain ⟨W1, hW1⟩ : ∃ W1, w.alloc (.cells #[.bool true, .slice A (sps ps).length c] 27) = W1 := ⟨_, rfl⟩
  obtain ⟨W2, hW2⟩ : ∃ W2, W1.alloc (.cells #[.int .i64 0, .int .i64 k, .int .i64 v, .slice A3 l.length c3] 32) = W2 := ⟨_, rfl⟩
  obtain ⟨W3, hW3⟩ : ∃ W3, W2.alloc (.cells #[.bool false, .slice none 0 0] 27) = W3 := ⟨_, rfl⟩
  obtain ⟨Wz, hW4⟩ : ∃ Wz, W3.alloc (.cells #[.bool false, .slice none 0 0] 27) = Wz := ⟨_, rfl⟩
  obtain ⟨Wp, hW5⟩ : ∃ Wp, (Wz.setCell ⟨W3.heap.size, 0, none⟩ (.bool true)).setCell ⟨W3.heap.size, 1, none⟩ (.slice none 0 0) = Wp := ⟨_, rfl⟩
  have uz : Wz.heap[W3.heap.size]? = some (.cells #[.bool false, .slice none 0 0] 27 (0, 0)) := by rw [← hW4]; exact heap_alloc_new W3 _
  have z0 : Wz.cell? ⟨W3.heap.size, 0, none⟩ = some (.bool false) := by rw [Lib.cell_of_heap uz]; rfl
  have z1 : Wz.cell? ⟨W3.heap.size, 1, none⟩ = some (.slice none 0 0) := by rw [Lib.cell_of_heap uz]; rfl
  have zf : ∀ j, Wz.frozen? ⟨W3.heap.size, j, none⟩ = false := fun j => by rw [Lib.frozen_of_heap uz]
  have HP := Aside0.mk (pg w true A (sps ps).length c 0 k v A3 l c3 hW1 hW2 hW3 hW4 hW5)
  clear uz
  have HA := Aside0.mk (And.intro hr (And.intro hc hl))
  have hu27 := Try.underlying27
  have hu29 := Try.underlying29
  have hu32 := Try.underlying32
  have d20 : W3.cell? ⟨w.heap.size, 0, none⟩ = some (.bool true) := by rw [Lib.cell_of_heap HP.out.m3]; rfl
  have a0 : Wp.cell? ⟨w.heap.size, 0, none⟩ = some (.bool true) := by rw [Lib.cell_of_heap HP.out.m]; rfl
  have a1 : Wp.cell? ⟨w.heap.size, 1, none⟩ = some (.slice A (sps ps).length c) := by rw [Lib.cell_of_heap HP.out.m]; rfl
  have o0 : Wp.cell? ⟨W1.heap.size, 0, none⟩ = some (.int .i64 0) := by rw [Lib.cell_of_heap HP.out.o]; rfl
  have o1 : Wp.cell? ⟨W1.heap.size, 1, none⟩ = some (.int .i64 k) := by rw [Lib.cell_of_heap HP.out.o]; rfl
  have o2 : Wp.cell? ⟨W1.heap.size, 2, none⟩ = some (.int .i64 v) := by rw [Lib.cell_of_heap HP.out.o]; rfl
  have u0 : Wp.cell? ⟨W3.heap.size, 0, none⟩ = some (.bool true) := by rw [Lib.cell_of_heap HP.out.u]; rfl
  have u1 : Wp.cell? ⟨W3.heap.size, 1, none⟩ = some (.slice none 0 0) := by rw [Lib.cell_of_heap HP.out.u]; rfl
  have t0 : Wp.cell? ⟨W2.heap.size, 0, none⟩ = some (.bool false) := by rw [Lib.cell_of_heap HP.out.t]; rfl
  have t1 : Wp.cell? ⟨W2.heap.size, 1, none⟩ = some (.slice none 0 0) := by rw [Lib.cell_of_heap HP.out.t]; rfl
  have tf : ∀ j, Wp.frozen? ⟨W2.heap.size, j, none⟩ = false := fun j => by rw [Lib.frozen_of_heap HP.out.t]
  clear hr hc hl
  go_enter Try.func6, Try.ntmps6
  go_wp2_with (fail)
  obtain ⟨WF, hWF⟩ : ∃ WF, (Wp.setCell ⟨W2.heap.size, 0, none⟩ (.bool true)).setCell ⟨W2.heap.size, 1, none⟩ (Value.slice A (sps ps).length c) = WF := ⟨_, rfl⟩
  have hfin := fin_came (b := true) (x := .bool true) (y := .slice A (sps ps).length c) (T := W2.heap.size) HP.out.bl (by have := HP.out.s2; omega) HA.out.2.1 HA.out.1
  rw [hWF] at hfin ⊢
  have y0 : WF.cell? ⟨W2.heap.size, 0, none⟩ = some (.bool true) := by rw [← hWF, Lib.cell_of_heap (heap_setCell_same _ W2.heap.size 1 _ 27 _ (heap_setCell_same Wp W2.heap.size 0 _ 27 _ (HP.out.t)))]; rfl
  have y1 : WF.cell? ⟨W2.heap.size, 1, none⟩ = some (Value.slice A (sps ps).length c) := by rw [← hWF, Lib.cell_of_heap (heap_setCell_same _ W2.heap.size 1 _ 27 _ (heap_setCell_same Wp W2.heap.size 0 _ 27 _ (HP.out.t)))]; rfl
  refine bodyPost_ret (v := .agg #[.bool true, Value.slice A (sps ps).length c]) (by simp [results, go_sem, y0, y1]) rfl ?_
  exact hfin
theorem done0f (hr : Kd.C k29 w A (sps ps).length (sps ps)) (hc : (sps ps).length ≤ c) (hl : ps.length ≤ 90000) (hnn : nn = false) (hs : Srt ps) : Calls Try.prog 6 #[.agg #[.bool nn, .slice A (sps ps).length c], .agg #[.int .i64 0, .int .i64 k, .int .i64 v, .slice A3 l.length c3]] w (Dt w nn (ins ps (k, v))) := by
  subst hnn
  obtain ⟨W1, hW1⟩ : ∃ W1, w.alloc (.cells #[.bool false, .slice A (sps ps).length c] 27) = W1 := ⟨_, rfl⟩
  obtain ⟨W2, hW2⟩ : ∃ W2, W1.alloc (.cells #[.int .i64 0, .int .i64 k, .int .i64 v, .slice A3 l.length c3] 32) = W2 := ⟨_, rfl⟩
  obtain ⟨W3, hW3⟩ : ∃ W3, W2.alloc (.cells #[.bool false, .slice none 0 0] 27) = W3 := ⟨_, rfl⟩
  obtain ⟨Wz, hW4⟩ : ∃ Wz, W3.alloc (.cells #[.bool false, .slice none 0 0] 27) = Wz := ⟨_, rfl⟩
  obtain ⟨Wp, hW5⟩ : ∃ Wp, (Wz.setCell ⟨W3.heap.size, 0, none⟩ (.bool false)).setCell ⟨W3.heap.size, 1, none⟩ (.slice none 0 0) = Wp := ⟨_, rfl⟩
  have uz : Wz.heap[W3.heap.size]? = some (.cells #[.bool false, .slice none 0 0] 27 (0, 0)) := by rw [← hW4]; exact heap_alloc_new W3 _
  have z0 : Wz.cell? ⟨W3.heap.size, 0, none⟩ = some (.bool false) := by rw [Lib.cell_of_heap uz]; rfl
  have z1 : Wz.cell? ⟨W3.heap.size, 1, none⟩ = some (.slice none 0 0) := by rw [Lib.cell_of_heap uz]; rfl
  have zf : ∀ j, Wz.frozen? ⟨W3.heap.size, j, none⟩ = false := fun j => by rw [Lib.frozen_of_heap uz]
  have HP := Aside0.mk (pg w false A (sps ps).length c 0 k v A3 l c3 hW1 hW2 hW3 hW4 hW5)
  clear uz
  have HA := Aside0.mk (And.intro hr (And.intro hc hl))
  have hu27 := Try.underlying27
  have hu29 := Try.underlying29
  have hu32 := Try.underlying32
  have d20 : W3.cell? ⟨w.heap.size, 0, none⟩ = some (.bool false) := by rw [Lib.cell_of_heap HP.out.m3]; rfl
  have a0 : Wp.cell? ⟨w.heap.size, 0, none⟩ = some (.bool false) := by rw [Lib.cell_of_heap HP.out.m]; rfl
  have a1 : Wp.cell? ⟨w.heap.size, 1, none⟩ = some (.slice A (sps ps).length c) := by rw [Lib.cell_of_heap HP.out.m]; rfl
  have o0 : Wp.cell? ⟨W1.heap.size, 0, none⟩ = some (.int .i64 0) := by rw [Lib.cell_of_heap HP.out.o]; rfl
  have o1 : Wp.cell? ⟨W1.heap.size, 1, none⟩ = some (.int .i64 k) := by rw [Lib.cell_of_heap HP.out.o]; rfl
  have o2 : Wp.cell? ⟨W1.heap.size, 2, none⟩ = some (.int .i64 v) := by rw [Lib.cell_of_heap HP.out.o]; rfl
  have u0 : Wp.cell? ⟨W3.heap.size, 0, none⟩ = some (.bool false) := by rw [Lib.cell_of_heap HP.out.u]; rfl
  have u1 : Wp.cell? ⟨W3.heap.size, 1, none⟩ = some (.slice none 0 0) := by rw [Lib.cell_of_heap HP.out.u]; rfl
  have t0 : Wp.cell? ⟨W2.heap.size, 0, none⟩ = some (.bool false) := by rw [Lib.cell_of_heap HP.out.t]; rfl
  have t1 : Wp.cell? ⟨W2.heap.size, 1, none⟩ = some (.slice none 0 0) := by rw [Lib.cell_of_heap HP.out.t]; rfl
  have tf : ∀ j, Wp.frozen? ⟨W2.heap.size, j, none⟩ = false := fun j => by rw [Lib.frozen_of_heap HP.out.t]
  obtain ⟨kk, hkk⟩ := with_f false hs hl k v
  have c5 := spec_TwMapped_With.calls kk false A c (sps ps) k v false (sps (ins ps (k, v))) Wp (Kd.C_below hr HP.out.bl) hc hkk
  clear hr hc hl hkk hs
  go_enter Try.func6, Try.ntmps6
  go_wp2_with (fail)
  refine c5.mono ?_
  rintro e w5 ⟨v1, rfl, hR, hb5⟩
  obtain ⟨inner, ho⟩ := Kd.R_own hR
  obtain ⟨A', c', rfl, hc', hr'⟩ := Kd.R_reads hR
  have hlt : W2.heap.size < Wp.heap.size := by have := HP.out.s2; have := HP.out.s4; omega
  have hT := (hb5.block _ hlt).trans HP.out.t
  have t0' : w5.cell? ⟨W2.heap.size, 0, none⟩ = some (.bool false) := by rw [Lib.cell_of_heap hT]; rfl
  have t1' : w5.cell? ⟨W2.heap.size, 1, none⟩ = some (.slice none 0 0) := by rw [Lib.cell_of_heap hT]; rfl
  have tf' : ∀ j, w5.frozen? ⟨W2.heap.size, j, none⟩ = false := fun j => by rw [Lib.frozen_of_heap hT]
  have H5 := Aside0.mk (And.intro hT (And.intro hc' (And.intro hr' (And.intro (fun (ad : Addr) (e : A' = some ad) => show Wp.heap.size ≤ ad.block by subst e; exact (ho.lt ad.block rfl).1) (And.intro hb5 hlt)))))
  clear c5 hR ho hc' hr' hlt hT hb5
  go_wp2_with (fail)
  obtain ⟨WF, hWF⟩ : ∃ WF, (w5.setCell ⟨W2.heap.size, 0, none⟩ (.bool false)).setCell ⟨W2.heap.size, 1, none⟩ (Value.slice A' (sps (ins ps (k, v))).length c') = WF := ⟨_, rfl⟩
  have hfin := fin_own (B := Wp.heap.size) (T := W2.heap.size) (b := false) (x := .bool false) (y := Value.slice A' (sps (ins ps (k, v))).length c') (HP.out.bl.trans (H5.out.2.2.2.2.1.mono (by have := HP.out.s4; omega))) (by have := HP.out.s2; omega) H5.out.2.2.2.2.2 H5.out.2.1 H5.out.2.2.1 H5.out.2.2.2.1
  rw [hWF] at hfin ⊢
  have y0 : WF.cell? ⟨W2.heap.size, 0, none⟩ = some (.bool false) := by rw [← hWF, Lib.cell_of_heap (heap_setCell_same _ W2.heap.size 1 _ 27 _ (heap_setCell_same w5 W2.heap.size 0 _ 27 _ (H5.out.1)))]; rfl
  have y1 : WF.cell? ⟨W2.heap.size, 1, none⟩ = some (Value.slice A' (sps (ins ps (k, v))).length c') := by rw [← hWF, Lib.cell_of_heap (heap_setCell_same _ W2.heap.size 1 _ 27 _ (heap_setCell_same w5 W2.heap.size 0 _ 27 _ (H5.out.1)))]; rfl
  refine bodyPost_ret (v := .agg #[.bool false, Value.slice A' (sps (ins ps (k, v))).length c']) (by simp [results, go_sem, y0, y1]) rfl ?_
  exact hfin
theorem del_snoc_f {ds : List Pr} {e : Pr} {k : Int} (h : e.1 = k) : del (ds ++ [e]) k = del ds k := by unfold del; rw [List.filter_append]; simp [h]
theorem del_snoc_t {ds : List Pr} {e : Pr} {k : Int} (h : ¬ e.1 = k) : del (ds ++ [e]) k = del ds k ++ [e] := by unfold del; rw [List.filter_append]; simp [h]
theorem adds_snoc (ds : List Pr) (e : Pr) (v : Int) : (ds ++ [e]).map (adds v) = ds.map (adds v) ++ [(e.1, wrap64 (e.2 + v))] := by rw [List.map_append]; rfl
theorem done1 (hr : Kd.C k29 w A (sps ps).length (sps ps)) (hc : (sps ps).length ≤ c) (hl : ps.length ≤ 90000) : Calls Try.prog 6 #[.agg #[.bool nn, .slice A (sps ps).length c], .agg #[.int .i64 1, .int .i64 k, .int .i64 v, .slice A3 l.length c3]] w (Dt w nn (del ps k)) := by
  obtain ⟨W1, hW1⟩ : ∃ W1, w.alloc (.cells #[.bool nn, .slice A (sps ps).length c] 27) = W1 := ⟨_, rfl⟩
  obtain ⟨W2, hW2⟩ : ∃ W2, W1.alloc (.cells #[.int .i64 1, .int .i64 k, .int .i64 v, .slice A3 l.length c3] 32) = W2 := ⟨_, rfl⟩
  obtain ⟨W3, hW3⟩ : ∃ W3, W2.alloc (.cells #[.bool false, .slice none 0 0] 27) = W3 := ⟨_, rfl⟩
  obtain ⟨Wz, hW4⟩ : ∃ Wz, W3.alloc (.cells #[.bool false, .slice none 0 0] 27) = Wz := ⟨_, rfl⟩
  obtain ⟨Wp, hW5⟩ : ∃ Wp, (Wz.setCell ⟨W3.heap.size, 0, none⟩ (.bool nn)).setCell ⟨W3.heap.size, 1, none⟩ (.slice none 0 0) = Wp := ⟨_, rfl⟩
  have uz : Wz.heap[W3.heap.size]? = some (.cells #[.bool false, .slice none 0 0] 27 (0, 0)) := by rw [← hW4]; exact heap_alloc_new W3 _
  have z0 : Wz.cell? ⟨W3.heap.size, 0, none⟩ = some (.bool false) := by rw [Lib.cell_of_heap uz]; rfl
  have z1 : Wz.cell? ⟨W3.heap.size, 1, none⟩ = some (.slice none 0 0) := by rw [Lib.cell_of_heap uz]; rfl
  have zf : ∀ j, Wz.frozen? ⟨W3.heap.size, j, none⟩ = false := fun j => by rw [Lib.frozen_of_heap uz]
  have HP := Aside0.mk (pg w nn A (sps ps).length c 1 k v A3 l c3 hW1 hW2 hW3 hW4 hW5)
  clear uz
  have HA := Aside0.mk (And.intro hr (And.intro hc hl))
  have hu27 := Try.underlying27
  have hu29 := Try.underlying29
  have hu32 := Try.underlying32
  have d20 : W3.cell? ⟨w.heap.size, 0, none⟩ = some (.bool nn) := by rw [Lib.cell_of_heap HP.out.m3]; rfl
  have a0 : Wp.cell? ⟨w.heap.size, 0, none⟩ = some (.bool nn) := by rw [Lib.cell_of_heap HP.out.m]; rfl
  have a1 : Wp.cell? ⟨w.heap.size, 1, none⟩ = some (.slice A (sps ps).length c) := by rw [Lib.cell_of_heap HP.out.m]; rfl
  have o0 : Wp.cell? ⟨W1.heap.size, 0, none⟩ = some (.int .i64 1) := by rw [Lib.cell_of_heap HP.out.o]; rfl
  have o1 : Wp.cell? ⟨W1.heap.size, 1, none⟩ = some (.int .i64 k) := by rw [Lib.cell_of_heap HP.out.o]; rfl
  have o2 : Wp.cell? ⟨W1.heap.size, 2, none⟩ = some (.int .i64 v) := by rw [Lib.cell_of_heap HP.out.o]; rfl
  have u0 : Wp.cell? ⟨W3.heap.size, 0, none⟩ = some (.bool nn) := by rw [Lib.cell_of_heap HP.out.u]; rfl
  have u1 : Wp.cell? ⟨W3.heap.size, 1, none⟩ = some (.slice none 0 0) := by rw [Lib.cell_of_heap HP.out.u]; rfl
  have t0 : Wp.cell? ⟨W2.heap.size, 0, none⟩ = some (.bool false) := by rw [Lib.cell_of_heap HP.out.t]; rfl
  have t1 : Wp.cell? ⟨W2.heap.size, 1, none⟩ = some (.slice none 0 0) := by rw [Lib.cell_of_heap HP.out.t]; rfl
  have tf : ∀ j, Wp.frozen? ⟨W2.heap.size, j, none⟩ = false := fun j => by rw [Lib.frozen_of_heap HP.out.t]
  clear hr hc hl
  have HC := Aside0.mk (And.intro hW1 (And.intro hW2 (And.intro hW3 (And.intro hW4 hW5))))
  go_enter Try.func6, Try.ntmps6
  go_wp2_with (fail)
  (try simp only [Act.put, List.setIfInBounds_toArray, List.set_cons_zero, List.set_cons_succ])
  clear a0 a1 o0 o1 o2 u0 u1 t0 t1 tf z0 z1 zf d20 hW1 hW2 hW3 hW4 hW5
  have hD0 : Dn Wp Wp W3.heap.size nn (.slice none 0 0) (del [] k) := ⟨⟨rfl, rfl, rfl, Nat.le_refl _, fun _ _ _ => rfl⟩, HP.out.u, ⟨rfl, .inl ⟨rfl, rfl⟩⟩, by have := HP.out.s3; have := HP.out.s4; omega⟩
  have HD0 := Aside0.mk hD0
  clear hD0
  rw [sps_len] at *
  go_loopg [7, 34] ps.length (fun gk v7 v34 wx => ∃ (j : Nat) (A2 : Option Addr) (n2 c2 : Nat), v34 = .int .i64 (j : Int) ∧ j ≤ ps.length ∧ Dn Wp wx W3.heap.size nn (.slice A2 n2 c2) (del (ps.take j) k) ∧ ps.length - j ≤ gk)
  case atStart => exact ⟨0, none, 0, 0, rfl, Nat.zero_le _, HD0.out, Nat.le_refl _⟩
  case round =>
    obtain ⟨j, A2, n2, c2, rfl, hj, hD, hlen⟩ := hrel
    have hl := HA.out.2.2
    by_cases hd : j < ps.length
    · have q3 : decide ((j : Int) < (ps.length : Int)) = true := decide_eq_true (by omega)
      have p1 := eq_true (show 0 ≤ (j : Int) by omega)
      have q1 := eq_true (show (j : Int) < (ps.length : Int) by omega)
      have hwj := wrap_succ j (by omega)
      have hbw : Below w.heap.size w wr := HP.out.bl.trans (below_grown hD.gr HP.out.bl.size (fun k hk => by injection hk with hk; have := HP.out.s3; omega))
      obtain ⟨ad, e, x0, x1⟩ := at_T29 (Kd.C_below HA.out.1 hbw) (j : Int) (by omega) (by omega)
      cases e
      rw [rd_sps _ _ hd, Int.toNat_natCast] at x0 x1
      obtain ⟨x, hx⟩ : ∃ x, x = ps[j] := ⟨_, rfl⟩
      have htk : ps.take (j + 1) = ps.take j ++ [x] := by rw [hx]; exact List.take_succ_eq_append_getElem hd
      rw [← hx] at x0 x1
      replace x0 : wr.cell? (ad.add (j * 2)) = some (.int .i64 x.1) := x0
      replace x1 : wr.cell? ⟨(ad.add (j * 2)).block, (ad.add (j * 2)).off + 1, none⟩ = some (.int .i64 x.2) := x1
      obtain ⟨w1, hw1⟩ : ∃ w1, wr.alloc (.cells #[.int .i64 x.1, .int .i64 x.2] 29) = w1 := ⟨_, rfl⟩
      have hD1 : Dn Wp w1 W3.heap.size nn (.slice A2 n2 c2) (del (ps.take j) k) := by rw [← hw1]; exact hD.alloc _
      have hp1 : w1.heap[wr.heap.size]? = some (.cells #[.int .i64 x.1, .int .i64 x.2] 29 (0, 0)) := by rw [← hw1]; exact heap_alloc_new wr _
      have b0 : w1.cell? ⟨wr.heap.size, 0, none⟩ = some (.int .i64 x.1) := by rw [Lib.cell_of_heap hp1]; rfl
      have b1 : w1.cell? ⟨wr.heap.size, 1, none⟩ = some (.int .i64 x.2) := by rw [Lib.cell_of_heap hp1]; rfl
      have hO1 : w1.heap[W1.heap.size]? = some (.cells #[.int .i64 1, .int .i64 k, .int .i64 v, .slice A3 l.length c3] 32 (0, 0)) := (hD1.gr.block _ (by have := HP.out.s1; have := HP.out.s4; omega) (fun e => by injection e with e; have := HP.out.s1; have := HP.out.s3; omega)).trans HP.out.o
      have g1 : w1.cell? ⟨W1.heap.size, 1, none⟩ = some (.int .i64 k) := by rw [Lib.cell_of_heap hO1]; rfl
      have g2 : w1.cell? ⟨W1.heap.size, 2, none⟩ = some (.int .i64 v) := by rw [Lib.cell_of_heap hO1]; rfl
      have g3 : w1.cell? ⟨W1.heap.size, 3, none⟩ = some (.slice A3 l.length c3) := by rw [Lib.cell_of_heap hO1]; rfl
      have f1 : w1.cell? ⟨W3.heap.size, 1, none⟩ = some (.slice A2 n2 c2) := by rw [Lib.cell_of_heap hD1.ob]; rfl
      have hlq : (del (ps.take j) k).length ≤ 100000 := Nat.le_trans (List.length_filter_le _ (ps.take j)) (Nat.le_trans (List.length_take_le _ _) (by omega))
      obtain ⟨g', rfl⟩ : ∃ g', gk = g' + 1 := ⟨gk - 1, by omega⟩
      have HQ := Aside0.mk (And.intro hd (And.intro hD1 (And.intro hlen (And.intro hwj (And.intro htk (And.intro hlq (And.intro hbw hp1)))))))
      clear hD hlen hwj htk hx hp1 hO1 hbw hj hl hd
      by_cases hk : x.1 = k
      · have c6 : (x.1 != k) = false := bne_eq_false_iff_eq.mpr hk
        have HK := Aside0.mk hk
        clear hk
        go_wp2_with (fail)
        go_roundg g'
        case measure => exact Nat.lt_succ_self _
        case rel =>
          refine ⟨j + 1, A2, n2, c2, by simp only [HQ.out.2.2.2.1], HQ.out.1, ?_, by have := HQ.out.2.2.1; omega⟩
          rw [HQ.out.2.2.2.2.1, del_snoc_f HK.out]
          exact HQ.out.2.1
      · have c6 : (x.1 != k) = true := bne_iff_ne.mpr hk
        have HK := Aside0.mk hk
        clear hk
        obtain ⟨A4, n4, c4, w6, hrun, h61, h6f, hD6⟩ := HQ.out.2.1.push HQ.out.2.2.2.2.2.1 x
        have H6 := Aside0.mk hD6
        clear hD6
        go_wp2_with (first | (refine Mr.appL_ (some 47) rfl rfl rfl rfl rfl hrun ?_; clear hrun))
        go_roundg g'
        case measure => exact Nat.lt_succ_self _
        case rel =>
          refine ⟨j + 1, A4, n4, c4, by simp only [HQ.out.2.2.2.1], HQ.out.1, ?_, by have := HQ.out.2.2.1; omega⟩
          rw [HQ.out.2.2.2.2.1, del_snoc_t HK.out]
          exact H6.out
    · have q3 : decide ((j : Int) < (ps.length : Int)) = false := decide_eq_false (by omega)
      obtain rfl : j = ps.length := by omega
      rw [List.take_length] at hD
      have hlq : (del ps k).length ≤ 100000 := Nat.le_trans (List.length_filter_le _ ps) (by omega)
      obtain ⟨A', c', e7, hc7, hr7, ha7⟩ := reads29 hD.row hlq
      injection e7 with ea en ec
      subst ea
      subst en
      subst ec
      have hT : wr.heap[W2.heap.size]? = some (.cells #[.bool false, .slice none 0 0] 27 (0, 0)) := (hD.gr.block _ (by have := HP.out.s2; have := HP.out.s4; omega) (fun e => by injection e with e; have := HP.out.s2; have := HP.out.s3; omega)).trans HP.out.t
      have t0 : wr.cell? ⟨W2.heap.size, 0, none⟩ = some (.bool false) := by rw [Lib.cell_of_heap hT]; rfl
      have t1 : wr.cell? ⟨W2.heap.size, 1, none⟩ = some (.slice none 0 0) := by rw [Lib.cell_of_heap hT]; rfl
      have tf : ∀ j, wr.frozen? ⟨W2.heap.size, j, none⟩ = false := fun j => by rw [Lib.frozen_of_heap hT]
      have f0 : wr.cell? ⟨W3.heap.size, 0, none⟩ = some (.bool nn) := by rw [Lib.cell_of_heap hD.ob]; rfl
      have f1 : wr.cell? ⟨W3.heap.size, 1, none⟩ = some (.slice A2 (sps (del ps k)).length c2) := by rw [Lib.cell_of_heap hD.ob]; rfl
      have HQ := Aside0.mk (And.intro hT (And.intro hc7 (And.intro hr7 (And.intro ha7 hD))))
      clear hT hc7 hr7 ha7 hD hj hlen hd hl hlq
      go_wp2_with (fail)
      obtain ⟨WF, hWF⟩ : ∃ WF, (wr.setCell ⟨W2.heap.size, 0, none⟩ (.bool nn)).setCell ⟨W2.heap.size, 1, none⟩ (Value.slice A2 (sps (del ps k)).length c2) = WF := ⟨_, rfl⟩
      have hfin := fin_own (B := Wp.heap.size) (T := W2.heap.size) (b := nn) (x := .bool nn) (y := Value.slice A2 (sps (del ps k)).length c2) (HP.out.bl.trans (below_grown HQ.out.2.2.2.2.gr HP.out.bl.size (fun k hk => by injection hk with hk; have := HP.out.s3; omega))) (by have := HP.out.s2; omega) (by have := HP.out.s2; have := HP.out.s4; omega) HQ.out.2.1 HQ.out.2.2.1 HQ.out.2.2.2.1
      rw [hWF] at hfin ⊢
      have y0 : WF.cell? ⟨W2.heap.size, 0, none⟩ = some (.bool nn) := by rw [← hWF, Lib.cell_of_heap (heap_setCell_same _ W2.heap.size 1 _ 27 _ (heap_setCell_same wr W2.heap.size 0 _ 27 _ (HQ.out.1)))]; rfl
      have y1 : WF.cell? ⟨W2.heap.size, 1, none⟩ = some (Value.slice A2 (sps (del ps k)).length c2) := by rw [← hWF, Lib.cell_of_heap (heap_setCell_same _ W2.heap.size 1 _ 27 _ (heap_setCell_same wr W2.heap.size 0 _ 27 _ (HQ.out.1)))]; rfl
      refine bodyPost_ret (v := .agg #[.bool nn, Value.slice A2 (sps (del ps k)).length c2]) (by simp [results, go_sem, y0, y1]) rfl ?_
      exact hfin
theorem done6 (hr : Kd.C k29 w A (sps ps).length (sps ps)) (hc : (sps ps).length ≤ c) (hl : ps.length ≤ 90000) : Calls Try.prog 6 #[.agg #[.bool nn, .slice A (sps ps).length c], .agg #[.int .i64 6, .int .i64 k, .int .i64 v, .slice A3 l.length c3]] w (Dt w nn ((ps).map (adds v))) := by
  obtain ⟨W1, hW1⟩ : ∃ W1, w.alloc (.cells #[.bool nn, .slice A (sps ps).length c] 27) = W1 := ⟨_, rfl⟩
  obtain ⟨W2, hW2⟩ : ∃ W2, W1.alloc (.cells #[.int .i64 6, .int .i64 k, .int .i64 v, .slice A3 l.length c3] 32) = W2 := ⟨_, rfl⟩
  obtain ⟨W3, hW3⟩ : ∃ W3, W2.alloc (.cells #[.bool false, .slice none 0 0] 27) = W3 := ⟨_, rfl⟩
  obtain ⟨Wz, hW4⟩ : ∃ Wz, W3.alloc (.cells #[.bool false, .slice none 0 0] 27) = Wz := ⟨_, rfl⟩
  obtain ⟨Wp, hW5⟩ : ∃ Wp, (Wz.setCell ⟨W3.heap.size, 0, none⟩ (.bool nn)).setCell ⟨W3.heap.size, 1, none⟩ (.slice none 0 0) = Wp := ⟨_, rfl⟩
  have uz : Wz.heap[W3.heap.size]? = some (.cells #[.bool false, .slice none 0 0] 27 (0, 0)) := by rw [← hW4]; exact heap_alloc_new W3 _
  have z0 : Wz.cell? ⟨W3.heap.size, 0, none⟩ = some (.bool false) := by rw [Lib.cell_of_heap uz]; rfl
  have z1 : Wz.cell? ⟨W3.heap.size, 1, none⟩ = some (.slice none 0 0) := by rw [Lib.cell_of_heap uz]; rfl
  have zf : ∀ j, Wz.frozen? ⟨W3.heap.size, j, none⟩ = false := fun j => by rw [Lib.frozen_of_heap uz]
  have HP := Aside0.mk (pg w nn A (sps ps).length c 6 k v A3 l c3 hW1 hW2 hW3 hW4 hW5)
  clear uz
  have HA := Aside0.mk (And.intro hr (And.intro hc hl))
  have hu27 := Try.underlying27
  have hu29 := Try.underlying29
  have hu32 := Try.underlying32
  have d20 : W3.cell? ⟨w.heap.size, 0, none⟩ = some (.bool nn) := by rw [Lib.cell_of_heap HP.out.m3]; rfl
  have a0 : Wp.cell? ⟨w.heap.size, 0, none⟩ = some (.bool nn) := by rw [Lib.cell_of_heap HP.out.m]; rfl
  have a1 : Wp.cell? ⟨w.heap.size, 1, none⟩ = some (.slice A (sps ps).length c) := by rw [Lib.cell_of_heap HP.out.m]; rfl
  have o0 : Wp.cell? ⟨W1.heap.size, 0, none⟩ = some (.int .i64 6) := by rw [Lib.cell_of_heap HP.out.o]; rfl
  have o1 : Wp.cell? ⟨W1.heap.size, 1, none⟩ = some (.int .i64 k) := by rw [Lib.cell_of_heap HP.out.o]; rfl
  have o2 : Wp.cell? ⟨W1.heap.size, 2, none⟩ = some (.int .i64 v) := by rw [Lib.cell_of_heap HP.out.o]; rfl
  have u0 : Wp.cell? ⟨W3.heap.size, 0, none⟩ = some (.bool nn) := by rw [Lib.cell_of_heap HP.out.u]; rfl
  have u1 : Wp.cell? ⟨W3.heap.size, 1, none⟩ = some (.slice none 0 0) := by rw [Lib.cell_of_heap HP.out.u]; rfl
  have t0 : Wp.cell? ⟨W2.heap.size, 0, none⟩ = some (.bool false) := by rw [Lib.cell_of_heap HP.out.t]; rfl
  have t1 : Wp.cell? ⟨W2.heap.size, 1, none⟩ = some (.slice none 0 0) := by rw [Lib.cell_of_heap HP.out.t]; rfl
  have tf : ∀ j, Wp.frozen? ⟨W2.heap.size, j, none⟩ = false := fun j => by rw [Lib.frozen_of_heap HP.out.t]
  clear hr hc hl
  have HC := Aside0.mk (And.intro hW1 (And.intro hW2 (And.intro hW3 (And.intro hW4 hW5))))
  go_enter Try.func6, Try.ntmps6
  go_wp2_with (fail)
  (try simp only [Act.put, List.setIfInBounds_toArray, List.set_cons_zero, List.set_cons_succ])
  clear a0 a1 o0 o1 o2 u0 u1 t0 t1 tf z0 z1 zf d20 hW1 hW2 hW3 hW4 hW5
  have hD0 : Dn Wp Wp W3.heap.size nn (.slice none 0 0) (([]).map (adds v)) := ⟨⟨rfl, rfl, rfl, Nat.le_refl _, fun _ _ _ => rfl⟩, HP.out.u, ⟨rfl, .inl ⟨rfl, rfl⟩⟩, by have := HP.out.s3; have := HP.out.s4; omega⟩
  have HD0 := Aside0.mk hD0
  clear hD0
  rw [sps_len] at *
  go_loopg [11, 88] ps.length (fun gk v11 v88 wx => ∃ (j : Nat) (A2 : Option Addr) (n2 c2 : Nat), v88 = .int .i64 (j : Int) ∧ j ≤ ps.length ∧ Dn Wp wx W3.heap.size nn (.slice A2 n2 c2) (((ps.take j)).map (adds v)) ∧ ps.length - j ≤ gk)
  case atStart => exact ⟨0, none, 0, 0, rfl, Nat.zero_le _, HD0.out, Nat.le_refl _⟩
  case round =>
    obtain ⟨j, A2, n2, c2, rfl, hj, hD, hlen⟩ := hrel
    have hl := HA.out.2.2
    by_cases hd : j < ps.length
    · have q3 : decide ((j : Int) < (ps.length : Int)) = true := decide_eq_true (by omega)
      have p1 := eq_true (show 0 ≤ (j : Int) by omega)
      have q1 := eq_true (show (j : Int) < (ps.length : Int) by omega)
      have hwj := wrap_succ j (by omega)
      have hbw : Below w.heap.size w wr := HP.out.bl.trans (below_grown hD.gr HP.out.bl.size (fun k hk => by injection hk with hk; have := HP.out.s3; omega))
      obtain ⟨ad, e, x0, x1⟩ := at_T29 (Kd.C_below HA.out.1 hbw) (j : Int) (by omega) (by omega)
      cases e
      rw [rd_sps _ _ hd, Int.toNat_natCast] at x0 x1
      obtain ⟨x, hx⟩ : ∃ x, x = ps[j] := ⟨_, rfl⟩
      have htk : ps.take (j + 1) = ps.take j ++ [x] := by rw [hx]; exact List.take_succ_eq_append_getElem hd
      rw [← hx] at x0 x1
      replace x0 : wr.cell? (ad.add (j * 2)) = some (.int .i64 x.1) := x0
      replace x1 : wr.cell? ⟨(ad.add (j * 2)).block, (ad.add (j * 2)).off + 1, none⟩ = some (.int .i64 x.2) := x1
      obtain ⟨w1, hw1⟩ : ∃ w1, wr.alloc (.cells #[.int .i64 x.1, .int .i64 x.2] 29) = w1 := ⟨_, rfl⟩
      have hD1 : Dn Wp w1 W3.heap.size nn (.slice A2 n2 c2) (((ps.take j)).map (adds v)) := by rw [← hw1]; exact hD.alloc _
      have hp1 : w1.heap[wr.heap.size]? = some (.cells #[.int .i64 x.1, .int .i64 x.2] 29 (0, 0)) := by rw [← hw1]; exact heap_alloc_new wr _
      have b0 : w1.cell? ⟨wr.heap.size, 0, none⟩ = some (.int .i64 x.1) := by rw [Lib.cell_of_heap hp1]; rfl
      have b1 : w1.cell? ⟨wr.heap.size, 1, none⟩ = some (.int .i64 x.2) := by rw [Lib.cell_of_heap hp1]; rfl
      have hO1 : w1.heap[W1.heap.size]? = some (.cells #[.int .i64 6, .int .i64 k, .int .i64 v, .slice A3 l.length c3] 32 (0, 0)) := (hD1.gr.block _ (by have := HP.out.s1; have := HP.out.s4; omega) (fun e => by injection e with e; have := HP.out.s1; have := HP.out.s3; omega)).trans HP.out.o
      have g1 : w1.cell? ⟨W1.heap.size, 1, none⟩ = some (.int .i64 k) := by rw [Lib.cell_of_heap hO1]; rfl
      have g2 : w1.cell? ⟨W1.heap.size, 2, none⟩ = some (.int .i64 v) := by rw [Lib.cell_of_heap hO1]; rfl
      have g3 : w1.cell? ⟨W1.heap.size, 3, none⟩ = some (.slice A3 l.length c3) := by rw [Lib.cell_of_heap hO1]; rfl
      have f1 : w1.cell? ⟨W3.heap.size, 1, none⟩ = some (.slice A2 n2 c2) := by rw [Lib.cell_of_heap hD1.ob]; rfl
      have hlq : (((ps.take j)).map (adds v)).length ≤ 100000 := Nat.le_trans ((Nat.le_of_eq (List.length_map _) : ((ps.take j).map (adds v)).length ≤ (ps.take j).length)) (Nat.le_trans (List.length_take_le _ _) (by omega))
      obtain ⟨g', rfl⟩ : ∃ g', gk = g' + 1 := ⟨gk - 1, by omega⟩
      have HQ := Aside0.mk (And.intro hd (And.intro hD1 (And.intro hlen (And.intro hwj (And.intro htk (And.intro hlq (And.intro hbw hp1)))))))
      clear hD hlen hwj htk hx hp1 hO1 hbw hj hl hd
      obtain ⟨A4, n4, c4, w6, hrun, h61, h6f, hD6⟩ := HQ.out.2.1.push HQ.out.2.2.2.2.2.1 (x.1, wrap64 (x.2 + v))
      have H6 := Aside0.mk hD6
      clear hD6
      go_wp2_with (first | (refine Mr.appL_ (some 103) rfl rfl rfl rfl rfl hrun ?_; clear hrun))
      go_roundg g'
      case measure => exact Nat.lt_succ_self _
      case rel =>
        refine ⟨j + 1, A4, n4, c4, by simp only [HQ.out.2.2.2.1], HQ.out.1, ?_, by have := HQ.out.2.2.1; omega⟩
        rw [HQ.out.2.2.2.2.1, adds_snoc]
        exact H6.out
    · have q3 : decide ((j : Int) < (ps.length : Int)) = false := decide_eq_false (by omega)
      obtain rfl : j = ps.length := by omega
      rw [List.take_length] at hD
      have hlq : ((ps).map (adds v)).length ≤ 100000 := Nat.le_trans ((Nat.le_of_eq (List.length_map _) : (ps.map (adds v)).length ≤ ps.length)) (by omega)
      obtain ⟨A', c', e7, hc7, hr7, ha7⟩ := reads29 hD.row hlq
      injection e7 with ea en ec
      subst ea
      subst en
      subst ec
      have hT : wr.heap[W2.heap.size]? = some (.cells #[.bool false, .slice none 0 0] 27 (0, 0)) := (hD.gr.block _ (by have := HP.out.s2; have := HP.out.s4; omega) (fun e => by injection e with e; have := HP.out.s2; have := HP.out.s3; omega)).trans HP.out.t
      have t0 : wr.cell? ⟨W2.heap.size, 0, none⟩ = some (.bool false) := by rw [Lib.cell_of_heap hT]; rfl
      have t1 : wr.cell? ⟨W2.heap.size, 1, none⟩ = some (.slice none 0 0) := by rw [Lib.cell_of_heap hT]; rfl
      have tf : ∀ j, wr.frozen? ⟨W2.heap.size, j, none⟩ = false := fun j => by rw [Lib.frozen_of_heap hT]
      have f0 : wr.cell? ⟨W3.heap.size, 0, none⟩ = some (.bool nn) := by rw [Lib.cell_of_heap hD.ob]; rfl
      have f1 : wr.cell? ⟨W3.heap.size, 1, none⟩ = some (.slice A2 (sps ((ps).map (adds v))).length c2) := by rw [Lib.cell_of_heap hD.ob]; rfl
      have HQ := Aside0.mk (And.intro hT (And.intro hc7 (And.intro hr7 (And.intro ha7 hD))))
      clear hT hc7 hr7 ha7 hD hj hlen hd hl hlq
      go_wp2_with (fail)
      obtain ⟨WF, hWF⟩ : ∃ WF, (wr.setCell ⟨W2.heap.size, 0, none⟩ (.bool nn)).setCell ⟨W2.heap.size, 1, none⟩ (Value.slice A2 (sps ((ps).map (adds v))).length c2) = WF := ⟨_, rfl⟩
      have hfin := fin_own (B := Wp.heap.size) (T := W2.heap.size) (b := nn) (x := .bool nn) (y := Value.slice A2 (sps ((ps).map (adds v))).length c2) (HP.out.bl.trans (below_grown HQ.out.2.2.2.2.gr HP.out.bl.size (fun k hk => by injection hk with hk; have := HP.out.s3; omega))) (by have := HP.out.s2; omega) (by have := HP.out.s2; have := HP.out.s4; omega) HQ.out.2.1 HQ.out.2.2.1 HQ.out.2.2.2.1
      rw [hWF] at hfin ⊢
      have y0 : WF.cell? ⟨W2.heap.size, 0, none⟩ = some (.bool nn) := by rw [← hWF, Lib.cell_of_heap (heap_setCell_same _ W2.heap.size 1 _ 27 _ (heap_setCell_same wr W2.heap.size 0 _ 27 _ (HQ.out.1)))]; rfl
      have y1 : WF.cell? ⟨W2.heap.size, 1, none⟩ = some (Value.slice A2 (sps ((ps).map (adds v))).length c2) := by rw [← hWF, Lib.cell_of_heap (heap_setCell_same _ W2.heap.size 1 _ 27 _ (heap_setCell_same wr W2.heap.size 0 _ 27 _ (HQ.out.1)))]; rfl
      refine bodyPost_ret (v := .agg #[.bool nn, Value.slice A2 (sps ((ps).map (adds v))).length c2]) (by simp [results, go_sem, y0, y1]) rfl ?_
      exact hfin
theorem done5 (hr : Kd.C k29 w A (sps ps).length (sps ps)) (hc : (sps ps).length ≤ c) (hl : ps.length ≤ 90000) (hr3 : Kd.C (Kd.int .i64) w A3 l.length l) (hc3 : l.length ≤ c3) (hl3 : l.length < 9223372036854775807) : Calls Try.prog 6 #[.agg #[.bool nn, .slice A (sps ps).length c], .agg #[.int .i64 5, .int .i64 k, .int .i64 v, .slice A3 l.length c3]] w (Dt w nn ((ps).filter (lets v l))) := by
  obtain ⟨W1, hW1⟩ : ∃ W1, w.alloc (.cells #[.bool nn, .slice A (sps ps).length c] 27) = W1 := ⟨_, rfl⟩
  obtain ⟨W2, hW2⟩ : ∃ W2, W1.alloc (.cells #[.int .i64 5, .int .i64 k, .int .i64 v, .slice A3 l.length c3] 32) = W2 := ⟨_, rfl⟩
  obtain ⟨W3, hW3⟩ : ∃ W3, W2.alloc (.cells #[.bool false, .slice none 0 0] 27) = W3 := ⟨_, rfl⟩
  obtain ⟨Wz, hW4⟩ : ∃ Wz, W3.alloc (.cells #[.bool false, .slice none 0 0] 27) = Wz := ⟨_, rfl⟩
  obtain ⟨Wp, hW5⟩ : ∃ Wp, (Wz.setCell ⟨W3.heap.size, 0, none⟩ (.bool nn)).setCell ⟨W3.heap.size, 1, none⟩ (.slice none 0 0) = Wp := ⟨_, rfl⟩
  have uz : Wz.heap[W3.heap.size]? = some (.cells #[.bool false, .slice none 0 0] 27 (0, 0)) := by rw [← hW4]; exact heap_alloc_new W3 _
  have z0 : Wz.cell? ⟨W3.heap.size, 0, none⟩ = some (.bool false) := by rw [Lib.cell_of_heap uz]; rfl
  have z1 : Wz.cell? ⟨W3.heap.size, 1, none⟩ = some (.slice none 0 0) := by rw [Lib.cell_of_heap uz]; rfl
  have zf : ∀ j, Wz.frozen? ⟨W3.heap.size, j, none⟩ = false := fun j => by rw [Lib.frozen_of_heap uz]
  have HP := Aside0.mk (pg w nn A (sps ps).length c 5 k v A3 l c3 hW1 hW2 hW3 hW4 hW5)
  clear uz
  have HA := Aside0.mk (And.intro hr (And.intro hc hl))
  have hu27 := Try.underlying27
  have hu29 := Try.underlying29
  have hu32 := Try.underlying32
  have d20 : W3.cell? ⟨w.heap.size, 0, none⟩ = some (.bool nn) := by rw [Lib.cell_of_heap HP.out.m3]; rfl
  have a0 : Wp.cell? ⟨w.heap.size, 0, none⟩ = some (.bool nn) := by rw [Lib.cell_of_heap HP.out.m]; rfl
  have a1 : Wp.cell? ⟨w.heap.size, 1, none⟩ = some (.slice A (sps ps).length c) := by rw [Lib.cell_of_heap HP.out.m]; rfl
  have o0 : Wp.cell? ⟨W1.heap.size, 0, none⟩ = some (.int .i64 5) := by rw [Lib.cell_of_heap HP.out.o]; rfl
  have o1 : Wp.cell? ⟨W1.heap.size, 1, none⟩ = some (.int .i64 k) := by rw [Lib.cell_of_heap HP.out.o]; rfl
  have o2 : Wp.cell? ⟨W1.heap.size, 2, none⟩ = some (.int .i64 v) := by rw [Lib.cell_of_heap HP.out.o]; rfl
  have u0 : Wp.cell? ⟨W3.heap.size, 0, none⟩ = some (.bool nn) := by rw [Lib.cell_of_heap HP.out.u]; rfl
  have u1 : Wp.cell? ⟨W3.heap.size, 1, none⟩ = some (.slice none 0 0) := by rw [Lib.cell_of_heap HP.out.u]; rfl
  have t0 : Wp.cell? ⟨W2.heap.size, 0, none⟩ = some (.bool false) := by rw [Lib.cell_of_heap HP.out.t]; rfl
  have t1 : Wp.cell? ⟨W2.heap.size, 1, none⟩ = some (.slice none 0 0) := by rw [Lib.cell_of_heap HP.out.t]; rfl
  have tf : ∀ j, Wp.frozen? ⟨W2.heap.size, j, none⟩ = false := fun j => by rw [Lib.frozen_of_heap HP.out.t]
  have H3 := Aside0.mk (And.intro hr3 (And.intro hc3 hl3))
  clear hr hc hl hr3 hc3 hl3
  have HC := Aside0.mk (And.intro hW1 (And.intro hW2 (And.intro hW3 (And.intro hW4 hW5))))
  go_enter Try.func6, Try.ntmps6
  go_wp2_with (fail)
  (try simp only [Act.put, List.setIfInBounds_toArray, List.set_cons_zero, List.set_cons_succ])
  clear a0 a1 o0 o1 o2 u0 u1 t0 t1 tf z0 z1 zf d20 hW1 hW2 hW3 hW4 hW5
  have hD0 : Dn Wp Wp W3.heap.size nn (.slice none 0 0) (([]).filter (lets v l)) := ⟨⟨rfl, rfl, rfl, Nat.le_refl _, fun _ _ _ => rfl⟩, HP.out.u, ⟨rfl, .inl ⟨rfl, rfl⟩⟩, by have := HP.out.s3; have := HP.out.s4; omega⟩
  have HD0 := Aside0.mk hD0
  clear hD0
  rw [sps_len] at *
  go_loopg [9, 59] ps.length (fun gk v9 v59 wx => ∃ (j : Nat) (A2 : Option Addr) (n2 c2 : Nat), v59 = .int .i64 (j : Int) ∧ j ≤ ps.length ∧ Dn Wp wx W3.heap.size nn (.slice A2 n2 c2) (((ps.take j)).filter (lets v l)) ∧ ps.length - j ≤ gk)
  case atStart => exact ⟨0, none, 0, 0, rfl, Nat.zero_le _, HD0.out, Nat.le_refl _⟩
  case round =>
    obtain ⟨j, A2, n2, c2, rfl, hj, hD, hlen⟩ := hrel
    have hl := HA.out.2.2
    by_cases hd : j < ps.length
    · have q3 : decide ((j : Int) < (ps.length : Int)) = true := decide_eq_true (by omega)
      have p1 := eq_true (show 0 ≤ (j : Int) by omega)
      have q1 := eq_true (show (j : Int) < (ps.length : Int) by omega)
      have hwj := wrap_succ j (by omega)
      have hbw : Below w.heap.size w wr := HP.out.bl.trans (below_grown hD.gr HP.out.bl.size (fun k hk => by injection hk with hk; have := HP.out.s3; omega))
      obtain ⟨ad, e, x0, x1⟩ := at_T29 (Kd.C_below HA.out.1 hbw) (j : Int) (by omega) (by omega)
      cases e
      rw [rd_sps _ _ hd, Int.toNat_natCast] at x0 x1
      obtain ⟨x, hx⟩ : ∃ x, x = ps[j] := ⟨_, rfl⟩
      have htk : ps.take (j + 1) = ps.take j ++ [x] := by rw [hx]; exact List.take_succ_eq_append_getElem hd
      rw [← hx] at x0 x1
      replace x0 : wr.cell? (ad.add (j * 2)) = some (.int .i64 x.1) := x0
      replace x1 : wr.cell? ⟨(ad.add (j * 2)).block, (ad.add (j * 2)).off + 1, none⟩ = some (.int .i64 x.2) := x1
      obtain ⟨w1, hw1⟩ : ∃ w1, wr.alloc (.cells #[.int .i64 x.1, .int .i64 x.2] 29) = w1 := ⟨_, rfl⟩
      have hD1 : Dn Wp w1 W3.heap.size nn (.slice A2 n2 c2) (((ps.take j)).filter (lets v l)) := by rw [← hw1]; exact hD.alloc _
      have hp1 : w1.heap[wr.heap.size]? = some (.cells #[.int .i64 x.1, .int .i64 x.2] 29 (0, 0)) := by rw [← hw1]; exact heap_alloc_new wr _
      have b0 : w1.cell? ⟨wr.heap.size, 0, none⟩ = some (.int .i64 x.1) := by rw [Lib.cell_of_heap hp1]; rfl
      have b1 : w1.cell? ⟨wr.heap.size, 1, none⟩ = some (.int .i64 x.2) := by rw [Lib.cell_of_heap hp1]; rfl
      have hO1 : w1.heap[W1.heap.size]? = some (.cells #[.int .i64 5, .int .i64 k, .int .i64 v, .slice A3 l.length c3] 32 (0, 0)) := (hD1.gr.block _ (by have := HP.out.s1; have := HP.out.s4; omega) (fun e => by injection e with e; have := HP.out.s1; have := HP.out.s3; omega)).trans HP.out.o
      have g1 : w1.cell? ⟨W1.heap.size, 1, none⟩ = some (.int .i64 k) := by rw [Lib.cell_of_heap hO1]; rfl
      have g2 : w1.cell? ⟨W1.heap.size, 2, none⟩ = some (.int .i64 v) := by rw [Lib.cell_of_heap hO1]; rfl
      have g3 : w1.cell? ⟨W1.heap.size, 3, none⟩ = some (.slice A3 l.length c3) := by rw [Lib.cell_of_heap hO1]; rfl
      have f1 : w1.cell? ⟨W3.heap.size, 1, none⟩ = some (.slice A2 n2 c2) := by rw [Lib.cell_of_heap hD1.ob]; rfl
      have hlq : (((ps.take j)).filter (lets v l)).length ≤ 100000 := Nat.le_trans ((List.length_filter_le (lets v l) (ps.take j))) (Nat.le_trans (List.length_take_le _ _) (by omega))
      obtain ⟨g', rfl⟩ : ∃ g', gk = g' + 1 := ⟨gk - 1, by omega⟩
      have HQ := Aside0.mk (And.intro hd (And.intro hD1 (And.intro hlen (And.intro hwj (And.intro htk (And.intro hlq (And.intro hbw hp1)))))))
      clear hD hlen hwj htk hx hp1 hO1 hbw hj hl hd
      have HLt := Aside0.mk (And.intro (show wr.heap.size < w1.heap.size from (Array.getElem?_eq_some_iff.1 HQ.out.2.2.2.2.2.2.2).1) (And.intro (show W1.heap.size < w1.heap.size by have := HQ.out.2.1.gr.size; have := HP.out.s1; have := HP.out.s4; omega) (show W3.heap.size < w1.heap.size by have := HQ.out.2.1.gr.size; have := HP.out.s3; have := HP.out.s4; omega)))
      obtain ⟨kk0, hkk0⟩ := among_f l x.1 H3.out.2.2
      obtain ⟨kk⟩ : Nonempty {n : Nat // spec_TwAmong.f n l x.1 = some (decide (x.1 ∈ l))} := ⟨⟨kk0, hkk0⟩⟩
      clear kk0 hkk0
      have c12 := spec_TwAmong.calls kk.1 A3 c3 l x.1 (decide (x.1 ∈ l)) w1 (Kd.C_below (Kd.C_below H3.out.1 HQ.out.2.2.2.2.2.2.1) (by rw [← hw1]; exact (Below.refl _ wr).alloc (Nat.le_refl _) _)) H3.out.2.1 kk.2
      cases hb : decide (x.1 ∈ l)
      · rw [hb] at c12
        cases he : (x.2 == v)
        · have HK := Aside0.mk (show lets v l x = false by unfold lets; rw [hb, he]; rfl)
          clear hb kk
          go_wp2_with (first | (go_at_call 12; refine c12.mono ?_; rintro e w2 ⟨rfl, hdr⟩
                                have hb2 := hdr.below
                                have HB2 := Aside0.mk hb2
                                have e0 : w2.cell? ⟨wr.heap.size, 0, none⟩ = some (.int .i64 x.1) := (hb2.cell (p := ⟨wr.heap.size, 0, none⟩) HLt.out.1).trans b0
                                have e1 : w2.cell? ⟨wr.heap.size, 1, none⟩ = some (.int .i64 x.2) := (hb2.cell (p := ⟨wr.heap.size, 1, none⟩) HLt.out.1).trans b1
                                have e2 : w2.cell? ⟨W1.heap.size, 2, none⟩ = some (.int .i64 v) := (hb2.cell (p := ⟨W1.heap.size, 2, none⟩) HLt.out.2.1).trans g2
                                have e3 : w2.cell? ⟨W3.heap.size, 1, none⟩ = some (.slice A2 n2 c2) := (hb2.cell (p := ⟨W3.heap.size, 1, none⟩) HLt.out.2.2).trans f1
                                clear hdr hb2 c12))
          go_roundg g'
          case measure => exact Nat.lt_succ_self _
          case rel =>
            refine ⟨j + 1, A2, n2, c2, by simp only [HQ.out.2.2.2.1], HQ.out.1, ?_, by have := HQ.out.2.2.1; omega⟩
            rw [HQ.out.2.2.2.2.1, filter_snoc_f HK.out]
            exact HQ.out.2.1.below HB2.out
        · have HK := Aside0.mk (show lets v l x = true by unfold lets; rw [hb, he]; rfl)
          clear hb kk
          go_wp2_with (first | (go_at_call 12; refine c12.mono ?_; rintro e w2 ⟨rfl, hdr⟩
                                have hb2 := hdr.below
                                have HB2 := Aside0.mk hb2
                                have e0 : w2.cell? ⟨wr.heap.size, 0, none⟩ = some (.int .i64 x.1) := (hb2.cell (p := ⟨wr.heap.size, 0, none⟩) HLt.out.1).trans b0
                                have e1 : w2.cell? ⟨wr.heap.size, 1, none⟩ = some (.int .i64 x.2) := (hb2.cell (p := ⟨wr.heap.size, 1, none⟩) HLt.out.1).trans b1
                                have e2 : w2.cell? ⟨W1.heap.size, 2, none⟩ = some (.int .i64 v) := (hb2.cell (p := ⟨W1.heap.size, 2, none⟩) HLt.out.2.1).trans g2
                                have e3 : w2.cell? ⟨W3.heap.size, 1, none⟩ = some (.slice A2 n2 c2) := (hb2.cell (p := ⟨W3.heap.size, 1, none⟩) HLt.out.2.2).trans f1
                                clear hdr hb2 c12) | (obtain ⟨A4, n4, c4, w6, hrun, h61, h6f, hD6⟩ := (HQ.out.2.1.below HB2.out).push HQ.out.2.2.2.2.2.1 x; have H6 := Aside0.mk hD6; clear hD6; refine Mr.appL_ (some 79) rfl rfl rfl rfl rfl hrun ?_; clear hrun))
          go_roundg g'
          case measure => exact Nat.lt_succ_self _
          case rel =>
            refine ⟨j + 1, A4, n4, c4, by simp only [HQ.out.2.2.2.1], HQ.out.1, ?_, by have := HQ.out.2.2.1; omega⟩
            rw [HQ.out.2.2.2.2.1, filter_snoc_t HK.out]
            exact H6.out
      · rw [hb] at c12
        have HK := Aside0.mk (show lets v l x = true by unfold lets; rw [hb]; rfl)
        clear hb kk
        go_wp2_with (first | (go_at_call 12; refine c12.mono ?_; rintro e w2 ⟨rfl, hdr⟩
                              have hb2 := hdr.below
                              have HB2 := Aside0.mk hb2
                              have e0 : w2.cell? ⟨wr.heap.size, 0, none⟩ = some (.int .i64 x.1) := (hb2.cell (p := ⟨wr.heap.size, 0, none⟩) HLt.out.1).trans b0
                              have e1 : w2.cell? ⟨wr.heap.size, 1, none⟩ = some (.int .i64 x.2) := (hb2.cell (p := ⟨wr.heap.size, 1, none⟩) HLt.out.1).trans b1
                              have e2 : w2.cell? ⟨W1.heap.size, 2, none⟩ = some (.int .i64 v) := (hb2.cell (p := ⟨W1.heap.size, 2, none⟩) HLt.out.2.1).trans g2
                              have e3 : w2.cell? ⟨W3.heap.size, 1, none⟩ = some (.slice A2 n2 c2) := (hb2.cell (p := ⟨W3.heap.size, 1, none⟩) HLt.out.2.2).trans f1
                              clear hdr hb2 c12) | (obtain ⟨A4, n4, c4, w6, hrun, h61, h6f, hD6⟩ := (HQ.out.2.1.below HB2.out).push HQ.out.2.2.2.2.2.1 x; have H6 := Aside0.mk hD6; clear hD6; refine Mr.appL_ (some 79) rfl rfl rfl rfl rfl hrun ?_; clear hrun))
        go_roundg g'
        case measure => exact Nat.lt_succ_self _
        case rel =>
          refine ⟨j + 1, A4, n4, c4, by simp only [HQ.out.2.2.2.1], HQ.out.1, ?_, by have := HQ.out.2.2.1; omega⟩
          rw [HQ.out.2.2.2.2.1, filter_snoc_t HK.out]
          exact H6.out
    · have q3 : decide ((j : Int) < (ps.length : Int)) = false := decide_eq_false (by omega)
      obtain rfl : j = ps.length := by omega
      rw [List.take_length] at hD
      have hlq : ((ps).filter (lets v l)).length ≤ 100000 := Nat.le_trans ((List.length_filter_le (lets v l) ps)) (by omega)
      obtain ⟨A', c', e7, hc7, hr7, ha7⟩ := reads29 hD.row hlq
      injection e7 with ea en ec
      subst ea
      subst en
      subst ec
      have hT : wr.heap[W2.heap.size]? = some (.cells #[.bool false, .slice none 0 0] 27 (0, 0)) := (hD.gr.block _ (by have := HP.out.s2; have := HP.out.s4; omega) (fun e => by injection e with e; have := HP.out.s2; have := HP.out.s3; omega)).trans HP.out.t
      have t0 : wr.cell? ⟨W2.heap.size, 0, none⟩ = some (.bool false) := by rw [Lib.cell_of_heap hT]; rfl
      have t1 : wr.cell? ⟨W2.heap.size, 1, none⟩ = some (.slice none 0 0) := by rw [Lib.cell_of_heap hT]; rfl
      have tf : ∀ j, wr.frozen? ⟨W2.heap.size, j, none⟩ = false := fun j => by rw [Lib.frozen_of_heap hT]
      have f0 : wr.cell? ⟨W3.heap.size, 0, none⟩ = some (.bool nn) := by rw [Lib.cell_of_heap hD.ob]; rfl
      have f1 : wr.cell? ⟨W3.heap.size, 1, none⟩ = some (.slice A2 (sps ((ps).filter (lets v l))).length c2) := by rw [Lib.cell_of_heap hD.ob]; rfl
      have HQ := Aside0.mk (And.intro hT (And.intro hc7 (And.intro hr7 (And.intro ha7 hD))))
      clear hT hc7 hr7 ha7 hD hj hlen hd hl hlq
      go_wp2_with (fail)
      obtain ⟨WF, hWF⟩ : ∃ WF, (wr.setCell ⟨W2.heap.size, 0, none⟩ (.bool nn)).setCell ⟨W2.heap.size, 1, none⟩ (Value.slice A2 (sps ((ps).filter (lets v l))).length c2) = WF := ⟨_, rfl⟩
      have hfin := fin_own (B := Wp.heap.size) (T := W2.heap.size) (b := nn) (x := .bool nn) (y := Value.slice A2 (sps ((ps).filter (lets v l))).length c2) (HP.out.bl.trans (below_grown HQ.out.2.2.2.2.gr HP.out.bl.size (fun k hk => by injection hk with hk; have := HP.out.s3; omega))) (by have := HP.out.s2; omega) (by have := HP.out.s2; have := HP.out.s4; omega) HQ.out.2.1 HQ.out.2.2.1 HQ.out.2.2.2.1
      rw [hWF] at hfin ⊢
      have y0 : WF.cell? ⟨W2.heap.size, 0, none⟩ = some (.bool nn) := by rw [← hWF, Lib.cell_of_heap (heap_setCell_same _ W2.heap.size 1 _ 27 _ (heap_setCell_same wr W2.heap.size 0 _ 27 _ (HQ.out.1)))]; rfl
      have y1 : WF.cell? ⟨W2.heap.size, 1, none⟩ = some (Value.slice A2 (sps ((ps).filter (lets v l))).length c2) := by rw [← hWF, Lib.cell_of_heap (heap_setCell_same _ W2.heap.size 1 _ 27 _ (heap_setCell_same wr W2.heap.size 0 _ 27 _ (HQ.out.1)))]; rfl
      refine bodyPost_ret (v := .agg #[.bool nn, Value.slice A2 (sps ((ps).filter (lets v l))).length c2]) (by simp [results, go_sem, y0, y1]) rfl ?_
      exact hfin
end Go.Proofs.Ytokdamfalhcnnaa.Se
