/- The walks of the cache's removeNode and addToFront. -/
import Derived.Test.YtjhmcpdnmfhodaaLra
import Derived.Test.YtjhmcpdnmfhodaaWLast
import Derived.Test.YtjhmcpdnmfhodaaWMore
import Derived.Lib.Builder
import Derived.LaidEqlPtr
namespace Go.Proofs.Ytjhmcpdnmfhodaa.Lrw
open Go Go.RowKit Go.Proofs.YtjhmcpdnmfhodaaW.PrintWords Ll Lra

theorem info67 : ∃ j, Try.prog.info? 67 = some j ∧ j.size ≠ 0 := by
  have h : (Try.prog.info? 67).map (fun i => i.size) = some 4 := by kernel_rfl
  cases hj : Try.prog.info? 67 with
  | none => rw [hj] at h; cases h
  | some j => rw [hj] at h; exact ⟨j, rfl, by simp at h; omega⟩
theorem same_mem {L k : Nat} {e : En} {xs ys : List En} (hk : k ∈ L :: blocks (e :: (xs ++ ys))) : k ∈ L :: blocks (xs ++ e :: ys) := by
  rw [List.mem_cons, blocks_cons, List.mem_cons, blocks_app, List.mem_append] at hk
  rw [List.mem_cons, blocks_app, List.mem_append, blocks_cons, List.mem_cons]
  rcases hk with h | h | h | h
  · exact .inl h
  · exact .inr (.inr (.inl h))
  · exact .inr (.inl h)
  · exact .inr (.inr (.inr h))
theorem snocs {α : Type} : ∀ l : List α, l = [] ∨ ∃ m q, l = m ++ [q]
  | [] => .inl rfl
  | a :: t => .inr ⟨(a :: t).dropLast, (a :: t).getLast (by simp), (List.dropLast_concat_getLast _).symm⟩
set_option linter.all false in
set_option maxRecDepth 1000000 in
set_option maxHeartbeats 4000000 in
theorem removeNode {w : World} {L : Nat} {sz hh mm : Int} {mv ev : Value} {xs ys : List En} {e : En} (h : Ls w L sz mv ev hh mm (xs ++ e :: ys)) :
    Calls Try.prog 31 #[ptr L, ptr e.b] w fun r w' => r = .returned (.tuple #[]) ∧ Ls w' L sz mv ev hh mm (xs ++ ys) ∧ w'.heap[e.b]? = some (.cells (ec e.k e.v nil nil) 67 (0, 0)) ∧ Chg w w' (L :: blocks (xs ++ e :: ys)) := by
  have hse := h.se
  have hP := parts h.nd
  obtain ⟨n0, n1, n2, n3, n4, n5, n6, n7, n8⟩ := hP
  have HH := Aside0.mk h
  unfold ptr
  rcases snocs xs with rfl | ⟨xs', q, rfl⟩
  · rcases ys with _ | ⟨z, ys'⟩
    · have e2 : w.cell? ⟨e.b, 2, none⟩ = some (.pointer none) := by rw [Lib.cell_of_heap hse]; rfl
      have e3 : w.cell? ⟨e.b, 3, none⟩ = some (.pointer none) := by rw [Lib.cell_of_heap hse]; rfl
      have ef : ∀ j, w.frozen? ⟨e.b, j, none⟩ = false := fun j => by rw [Lib.frozen_of_heap hse]
      have n1' := n1.symm
      have lf : ∀ j, w.frozen? ⟨L, j, none⟩ = false := fun j => by rw [Lib.frozen_of_heap h.own]
      have l2 : w.cell? ⟨L, 2, none⟩ = some (hd ([] ++ [e]) nil) := by rw [Lib.cell_of_heap h.own]; rfl
      have l3 : w.cell? ⟨L, 3, none⟩ = some (lst nil ([] ++ [e])) := by rw [Lib.cell_of_heap h.own]; rfl
      have FIN := Aside0.mk (Mid2.end_ (w := w) (step2b (step1b HH.out) HH.out.nd) HH.out.nd ((Chg.put ((Chg.refl w _).put L 2 _ (by simp [blocks])) L 3 _ (by simp [blocks]))))
      clear h hse n0 n2 n3 n4 n5 n6 n7 n8 
      go_enter Try.func31, Try.ntmps31
      go_wp2_with (fail)
      go_end0
      have F := FIN.out
      exact ⟨rfl, F.ls, F.en, F.chg⟩
    · have hz : z.b ∈ blocks (z :: ys') := by simp [blocks]
      have e2 : w.cell? ⟨e.b, 2, none⟩ = some (.pointer none) := by rw [Lib.cell_of_heap hse]; rfl
      have e3 : w.cell? ⟨e.b, 3, none⟩ = some (.pointer (some ⟨z.b, 0, none⟩)) := by rw [Lib.cell_of_heap hse]; rfl
      have ef : ∀ j, w.frozen? ⟨e.b, j, none⟩ = false := fun j => by rw [Lib.frozen_of_heap hse]
      obtain ⟨z0, z1, hzh⟩ := h.seg.at_ z (by simp)
      have zf : ∀ j, w.frozen? ⟨z.b, j, none⟩ = false := fun j => by rw [Lib.frozen_of_heap hzh]
      have z2 : w.cell? ⟨z.b, 2, none⟩ = some z0 := by rw [Lib.cell_of_heap hzh]; rfl
      have d2 : z.b ≠ e.b := fun x => n3 (by rw [← x]; exact hz)
      have d2' := d2.symm
      have n1' := n1.symm
      have lf : ∀ j, w.frozen? ⟨L, j, none⟩ = false := fun j => by rw [Lib.frozen_of_heap h.own]
      have l2 : w.cell? ⟨L, 2, none⟩ = some (hd ([] ++ e :: z :: ys') nil) := by rw [Lib.cell_of_heap h.own]; rfl
      have l3 : w.cell? ⟨L, 3, none⟩ = some (lst nil ([] ++ e :: z :: ys')) := by rw [Lib.cell_of_heap h.own]; rfl
      have d5 : z.b ≠ L := fun x => n5 (by rw [← x]; exact hz)
      have d5' := d5.symm
      have FIN := Aside0.mk (Mid2.end_ (w := w) (step2a (step1b HH.out) HH.out.nd) HH.out.nd ((Chg.put ((Chg.refl w _).put L 2 _ (by simp [blocks])) z.b 2 _ (by simp [blocks]))))
      clear h hse hzh n0 n2 n3 n4 n5 n6 n7 n8 hz
      go_enter Try.func31, Try.ntmps31
      go_wp2_with (fail)
      go_region
      go_wp2_with (fail)
      go_end0
      have F := FIN.out.drew
      exact ⟨rfl, F.ls, F.en, F.chg⟩
  · rcases ys with _ | ⟨z, ys'⟩
    · have hq : q.b ∈ blocks (xs' ++ [q]) := by rw [blocks_app]; simp [blocks]
      rw [lst_snoc] at hse
      have e2 : w.cell? ⟨e.b, 2, none⟩ = some (.pointer (some ⟨q.b, 0, none⟩)) := by rw [Lib.cell_of_heap hse]; rfl
      have e3 : w.cell? ⟨e.b, 3, none⟩ = some (.pointer none) := by rw [Lib.cell_of_heap hse]; rfl
      have ef : ∀ j, w.frozen? ⟨e.b, j, none⟩ = false := fun j => by rw [Lib.frozen_of_heap hse]
      obtain ⟨q0, q1, hqh⟩ := h.seg.at_ q (by simp)
      have qf : ∀ j, w.frozen? ⟨q.b, j, none⟩ = false := fun j => by rw [Lib.frozen_of_heap hqh]
      have q3 : w.cell? ⟨q.b, 3, none⟩ = some q1 := by rw [Lib.cell_of_heap hqh]; rfl
      have d1 : q.b ≠ e.b := fun x => n2 (by rw [← x]; exact hq)
      have d1' := d1.symm
      have n1' := n1.symm
      have lf : ∀ j, w.frozen? ⟨L, j, none⟩ = false := fun j => by rw [Lib.frozen_of_heap h.own]
      have l2 : w.cell? ⟨L, 2, none⟩ = some (hd ((xs' ++ [q]) ++ [e]) nil) := by rw [Lib.cell_of_heap h.own]; rfl
      have l3 : w.cell? ⟨L, 3, none⟩ = some (lst nil ((xs' ++ [q]) ++ [e])) := by rw [Lib.cell_of_heap h.own]; rfl
      have d4 : q.b ≠ L := fun x => n4 (by rw [← x]; exact hq)
      have d4' := d4.symm
      have FIN := Aside0.mk (Mid2.end_ (w := w) (step2b (step1a HH.out) HH.out.nd) HH.out.nd ((Chg.put ((Chg.refl w _).put q.b 3 _ (by simp [blocks])) L 3 _ (by simp [blocks]))))
      clear h hse hqh n0 n2 n3 n4 n5 n6 n7 n8 hq 
      go_enter Try.func31, Try.ntmps31
      go_wp2_with (fail)
      go_region
      go_wp2_with (fail)
      go_end0
      have F := FIN.out.drew
      rw [lst_snoc] at F
      exact ⟨rfl, F.ls, F.en, F.chg⟩
    · have hq : q.b ∈ blocks (xs' ++ [q]) := by rw [blocks_app]; simp [blocks]
      have hz : z.b ∈ blocks (z :: ys') := by simp [blocks]
      rw [lst_snoc] at hse
      have e2 : w.cell? ⟨e.b, 2, none⟩ = some (.pointer (some ⟨q.b, 0, none⟩)) := by rw [Lib.cell_of_heap hse]; rfl
      have e3 : w.cell? ⟨e.b, 3, none⟩ = some (.pointer (some ⟨z.b, 0, none⟩)) := by rw [Lib.cell_of_heap hse]; rfl
      have ef : ∀ j, w.frozen? ⟨e.b, j, none⟩ = false := fun j => by rw [Lib.frozen_of_heap hse]
      obtain ⟨q0, q1, hqh⟩ := h.seg.at_ q (by simp)
      have qf : ∀ j, w.frozen? ⟨q.b, j, none⟩ = false := fun j => by rw [Lib.frozen_of_heap hqh]
      have q3 : w.cell? ⟨q.b, 3, none⟩ = some q1 := by rw [Lib.cell_of_heap hqh]; rfl
      have d1 : q.b ≠ e.b := fun x => n2 (by rw [← x]; exact hq)
      have d1' := d1.symm
      obtain ⟨z0, z1, hzh⟩ := h.seg.at_ z (by simp)
      have zf : ∀ j, w.frozen? ⟨z.b, j, none⟩ = false := fun j => by rw [Lib.frozen_of_heap hzh]
      have z2 : w.cell? ⟨z.b, 2, none⟩ = some z0 := by rw [Lib.cell_of_heap hzh]; rfl
      have d2 : z.b ≠ e.b := fun x => n3 (by rw [← x]; exact hz)
      have d2' := d2.symm
      have d3 : q.b ≠ z.b := fun x => n6 _ hq (by rw [x]; exact hz)
      have d3' := d3.symm
      have FIN := Aside0.mk (Mid2.end_ (w := w) (step2a (step1a HH.out) HH.out.nd) HH.out.nd ((Chg.put ((Chg.refl w _).put q.b 3 _ (by simp [blocks])) z.b 2 _ (by simp [blocks]))))
      clear h hse hqh hzh n0 n2 n3 n4 n5 n6 n7 n8 hq hz
      go_enter Try.func31, Try.ntmps31
      go_wp2_with (fail)
      go_region
      go_wp2_with (fail)
      go_region
      go_wp2_with (fail)
      go_end0
      have F := FIN.out.drew.drew
      rw [lst_snoc] at F
      exact ⟨rfl, F.ls, F.en, F.chg⟩
set_option linter.all false in
set_option maxRecDepth 1000000 in
set_option maxHeartbeats 4000000 in
theorem addToFront {w : World} {L : Nat} {sz hh mm : Int} {mv ev : Value} {es : List En} {e : En} {p0 z0 : Value} (h : Ls w L sz mv ev hh mm es) (hb : e.b ∉ L :: blocks es) (he : w.heap[e.b]? = some (.cells (ec e.k e.v p0 z0) 67 (0, 0))) :
    Calls Try.prog 30 #[ptr L, ptr e.b] w fun r w' => r = .returned (.tuple #[]) ∧ Ls w' L sz mv ev hh mm (e :: es) ∧ Chg w w' (L :: blocks (e :: es)) := by
  have FR := front h hb he
  have hb' := hb
  rw [List.mem_cons, not_or] at hb'
  obtain ⟨n1, n2⟩ := hb'
  have n1' : L ≠ e.b := fun x => n1 x.symm
  have e2 : w.cell? ⟨e.b, 2, none⟩ = some p0 := by rw [Lib.cell_of_heap he]; rfl
  have e3 : w.cell? ⟨e.b, 3, none⟩ = some z0 := by rw [Lib.cell_of_heap he]; rfl
  have ef : ∀ j, w.frozen? ⟨e.b, j, none⟩ = false := fun j => by rw [Lib.frozen_of_heap he]
  have lf : ∀ j, w.frozen? ⟨L, j, none⟩ = false := fun j => by rw [Lib.frozen_of_heap h.own]
  have HH := Aside0.mk h
  unfold ptr
  rcases es with _ | ⟨z, t⟩
  · have l2 : w.cell? ⟨L, 2, none⟩ = some (.pointer none) := by rw [Lib.cell_of_heap h.own]; rfl
    have l3 : w.cell? ⟨L, 3, none⟩ = some (.pointer none) := by rw [Lib.cell_of_heap h.own]; rfl
    have FIN := Aside0.mk (FR.2 rfl)
    have CH := Aside0.mk ((((Chg.refl w (L :: blocks [e])).put e.b 2 nil (by simp [blocks])).put e.b 3 nil (by simp [blocks])).put L 2 (ptr e.b) (by simp) |>.put L 3 (ptr e.b) (by simp))
    clear h he hb n2 FR
    go_enter Try.func30, Try.ntmps30
    go_wp2_with (fail)
    go_end0
    exact ⟨rfl, FIN.out, CH.out⟩
  · obtain ⟨m, q, hmq⟩ : ∃ m q, z :: t = m ++ [q] := by rcases snocs (z :: t) with x | x; cases x; exact x
    have hz : z.b ∈ blocks (z :: t) := by simp [blocks]
    have l2 : w.cell? ⟨L, 2, none⟩ = some (.pointer (some ⟨z.b, 0, none⟩)) := by rw [Lib.cell_of_heap h.own]; rfl
    have l3 : w.cell? ⟨L, 3, none⟩ = some (.pointer (some ⟨q.b, 0, none⟩)) := by rw [Lib.cell_of_heap h.own, hmq, lst_snoc]; rfl
    obtain ⟨y0, y1, hzh⟩ := h.seg.at_ z (by simp)
    have zf : ∀ j, w.frozen? ⟨z.b, j, none⟩ = false := fun j => by rw [Lib.frozen_of_heap hzh]
    have z2 : w.cell? ⟨z.b, 2, none⟩ = some y0 := by rw [Lib.cell_of_heap hzh]; rfl
    have d1 : z.b ≠ e.b := fun x => n2 (by rw [← x]; exact hz)
    have d1' := d1.symm
    have d2 : z.b ≠ L := fun x => (List.nodup_cons.1 h.nd).1 (by rw [← x]; exact hz)
    have d2' := d2.symm
    have FIN := Aside0.mk (FR.1 t z rfl)
    have CH := Aside0.mk ((((Chg.refl w (L :: blocks (e :: z :: t))).put e.b 2 nil (by simp [blocks])).put e.b 3 (ptr z.b) (by simp [blocks])).put z.b 2 (ptr e.b) (by simp [blocks]) |>.put L 2 (ptr e.b) (by simp))
    clear h he hb n2 FR hzh hz hmq
    go_enter Try.func30, Try.ntmps30
    go_wp2_with (fail)
    go_end0
    exact ⟨rfl, FIN.out, CH.out⟩
set_option linter.all false in
set_option maxRecDepth 1000000 in
set_option maxHeartbeats 4000000 in
/-- an entry is used -/
theorem moveToFront {w : World} {L : Nat} {sz hh mm : Int} {mv ev : Value} {xs ys : List En} {e : En} (h : Ls w L sz mv ev hh mm (xs ++ e :: ys)) :
    Calls Try.prog 28 #[ptr L, ptr e.b] w fun r w' => r = .returned (.tuple #[]) ∧ Ls w' L sz mv ev hh mm (e :: (xs ++ ys)) ∧ Chg w w' (L :: blocks (xs ++ e :: ys)) := by
  have HH := Aside0.mk h
  have P := parts h.nd
  rcases xs with _ | ⟨x, xs'⟩
  · have l2 : w.cell? ⟨L, 2, none⟩ = some (.pointer (some ⟨e.b, 0, none⟩)) := by rw [Lib.cell_of_heap h.own]; rfl
    obtain ⟨j, hj⟩ : ∃ j, Try.prog.info? 67 = some j := ⟨_, rfl⟩
    have heq := run_eql_ptr_same (P := Try.prog) (w := w) (tp := 62) ⟨e.b, 0, none⟩ Try.underlying62 hj
    clear h P hj
    unfold ptr
    go_enter Try.func28, Try.ntmps28
    go_wp2_with (fail)
    refine bodyPost_ret (results_none rfl _ _ _) rfl ?_
    exact ⟨rfl, HH.out, Chg.refl _ _⟩
  · have l2 : w.cell? ⟨L, 2, none⟩ = some (.pointer (some ⟨x.b, 0, none⟩)) := by rw [Lib.cell_of_heap h.own]; rfl
    have hx : x.b ∈ blocks (x :: xs') := by simp [blocks]
    have d1 : x.b ≠ e.b := fun e2 => P.2.2.1 (by rw [← e2]; exact hx)
    have HP := Aside0.mk P
    obtain ⟨y0, y1, hxh⟩ := h.seg.at_ x (by simp)
    have heh := h.se
    obtain ⟨j, hj, hjs⟩ : ∃ j, Try.prog.info? 67 = some j ∧ j.size ≠ 0 := info67
    have heq := run_eql_ptr_other (P := Try.prog) (w := w) (tp := 62) (a := ⟨x.b, 0, none⟩) (b := ⟨e.b, 0, none⟩) Try.underlying62 hj hjs (fun e2 => d1 (by injection e2)) hxh heh
    clear hxh heh hj hjs
    have c1 := removeNode h
    clear h P hx
    unfold ptr at c1 ⊢
    go_enter Try.func28, Try.ntmps28
    go_wp2_with (first | (go_at_call 31; refine c1.mono ?_; rintro r w1 ⟨rfl, h1, h2, h3⟩; have K1 := Aside0.mk (And.intro h1 (And.intro h2 h3)); have c2 := addToFront h1 (by
        have hp := HP.out
        rw [List.mem_cons, not_or, blocks_app, List.mem_append, not_or]
        exact ⟨hp.2.1, hp.2.2.1, hp.2.2.2.1⟩) h2; unfold ptr at c2; clear h1 h2 h3) | (go_at_call 30; refine c2.mono ?_; rintro r w2 ⟨rfl, h4, h5⟩; have K2 := Aside0.mk (And.intro h4 h5); clear h4 h5))
    go_end0
    exact ⟨rfl, K2.out.1, K1.out.2.2.trans K2.out.2 (fun k hk => same_mem hk)⟩
end Go.Proofs.Ytjhmcpdnmfhodaa.Lrw
