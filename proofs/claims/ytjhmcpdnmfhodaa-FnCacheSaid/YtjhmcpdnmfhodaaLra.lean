/- The cache's list in memory: an entry is taken out, an entry is put ahead. -/
import Derived.Test.YtjhmcpdnmfhodaaLl
import Derived.Test.YtjhmcpdnmfhodaaWWords
namespace Go.Proofs.Ytjhmcpdnmfhodaa.Lra
open Go Go.RowKit Ll

/-- what a call leaves: all blocks beyond S are as they were, and no block is new -/
structure Chg (w w' : World) (S : List Nat) : Prop where
  os : w'.os = w.os
  tape : w'.tape = w.tape
  output : w'.output = w.output
  size : w'.heap.size = w.heap.size
  block : ∀ k, k ∉ S → w'.heap[k]? = w.heap[k]?
theorem Chg.refl (w : World) (S : List Nat) : Chg w w S := ⟨rfl, rfl, rfl, rfl, fun _ _ => rfl⟩
theorem Chg.trans {a b c : World} {S T : List Nat} (h : Chg a b S) (k : Chg b c T) (hs : ∀ x, x ∈ T → x ∈ S) : Chg a c S :=
  ⟨k.os.trans h.os, k.tape.trans h.tape, k.output.trans h.output, k.size.trans h.size, fun x hx => (k.block x (fun e => hx (hs x e))).trans (h.block x hx)⟩
theorem Chg.put {a b : World} {S : List Nat} (h : Chg a b S) (p : Nat) (j : Nat) (u : Value) (hp : p ∈ S) : Chg a (b.setCell ⟨p, j, none⟩ u) S :=
  ⟨h.os, h.tape, h.output, by simpa [World.setCell] using h.size, fun x hx => (set_other b u (fun e => hx (by rw [e]; exact hp))).trans (h.block x hx)⟩
theorem Chg.drewN {a b : World} {S : List Nat} (h : Chg a b S) (n : Nat) : Chg a (b.drewN n) S := ⟨h.os, h.tape, h.output, h.size, h.block⟩
def nil : Value := .pointer none
/-- the cache's block -/
def lc (sz : Int) (mv ev : Value) (hh mm : Int) (a b : Value) : Array Value := #[.int .i64 sz, mv, a, b, ev, .int .i64 hh, .int .i64 mm]
structure Ls (w : World) (L : Nat) (sz : Int) (mv ev : Value) (hh mm : Int) (es : List En) : Prop where
  own : w.heap[L]? = some (.cells (lc sz mv ev hh mm (hd es nil) (lst nil es)) 64 (0, 0))
  seg : Seg 67 w nil es nil
  nd : (L :: blocks es).Nodup
def ec (k v : Int) (p n : Value) : Array Value := #[.int .i64 k, .int .i64 v, p, n]
theorem blocks_app (xs ys : List En) : blocks (xs ++ ys) = blocks xs ++ blocks ys := List.map_append
theorem blocks_cons (e : En) (ys : List En) : blocks (e :: ys) = e.b :: blocks ys := rfl
/-- who stands apart from whom -/
theorem parts {L : Nat} {xs ys : List En} {e : En} (h : (L :: blocks (xs ++ e :: ys)).Nodup) : (L :: blocks (xs ++ ys)).Nodup ∧ e.b ≠ L ∧ e.b ∉ blocks xs ∧ e.b ∉ blocks ys ∧ L ∉ blocks xs ∧ L ∉ blocks ys ∧ (∀ x ∈ blocks xs, x ∉ blocks ys) ∧ (blocks xs).Nodup ∧ (blocks ys).Nodup := by
  rw [blocks_app, blocks_cons, List.nodup_cons, List.nodup_append, List.mem_append, List.mem_cons, List.nodup_cons] at h
  obtain ⟨h0, h1, ⟨h2, h3⟩, h4⟩ := h
  simp only [not_or] at h0
  refine ⟨?_, fun e2 => h0.2.1 e2.symm, fun e2 => ?_, h2, h0.1, h0.2.2, fun x hx hy => h4 x hx x (by simp [hy]) rfl, h1, h3⟩
  · rw [blocks_app, List.nodup_cons, List.nodup_append, List.mem_append]
    exact ⟨fun e2 => e2.elim h0.1 h0.2.2, h1, h3, fun a ha b hb => h4 a ha b (by simp [hb])⟩
  · exact h4 _ e2 e.b (by simp) rfl
variable {w : World} {L : Nat} {sz hh mm : Int} {mv ev : Value} {xs ys : List En} {e : En}
/-- the entry in the midst: its neighbours ahead know its neighbours behind -/
structure Mid1 (w : World) (L : Nat) (sz : Int) (mv ev : Value) (hh mm : Int) (xs : List En) (e : En) (ys : List En) : Prop where
  own : w.heap[L]? = some (.cells (lc sz mv ev hh mm (hd (xs ++ ys) nil) (lst nil (xs ++ e :: ys))) 64 (0, 0))
  sx : Seg 67 w nil xs (hd ys nil)
  se : w.heap[e.b]? = some (.cells (ec e.k e.v (lst nil xs) (hd ys nil)) 67 (0, 0))
  sy : Seg 67 w (ptr e.b) ys nil
structure Mid2 (w : World) (L : Nat) (sz : Int) (mv ev : Value) (hh mm : Int) (xs : List En) (e : En) (ys : List En) : Prop where
  own : w.heap[L]? = some (.cells (lc sz mv ev hh mm (hd (xs ++ ys) nil) (lst nil (xs ++ ys))) 64 (0, 0))
  sx : Seg 67 w nil xs (hd ys nil)
  se : w.heap[e.b]? = some (.cells (ec e.k e.v (lst nil xs) (hd ys nil)) 67 (0, 0))
  sy : Seg 67 w (lst nil xs) ys nil
theorem Ls.se (h : Ls w L sz mv ev hh mm (xs ++ e :: ys)) : w.heap[e.b]? = some (.cells (ec e.k e.v (lst nil xs) (hd ys nil)) 67 (0, 0)) := (Seg.app.1 h.seg).2.1
theorem step1a {q : En} (h : Ls w L sz mv ev hh mm ((xs ++ [q]) ++ e :: ys)) : Mid1 (w.setCell ⟨q.b, 3, none⟩ (hd ys nil)) L sz mv ev hh mm (xs ++ [q]) e ys := by
  obtain ⟨n0, n1, n2, n3, n4, n5, n6, n7, n8⟩ := parts h.nd
  have hs := Seg.app.1 h.seg
  have hq : q.b ∈ blocks (xs ++ [q]) := by rw [blocks_app]; simp [blocks]
  have hqx : q.b ∉ blocks xs := by
    rw [blocks_app, List.nodup_append] at n7
    exact fun e2 => n7.2.2 q.b e2 q.b (by simp [blocks]) rfl
  refine ⟨?_, hs.1.next hqx _, ?_, hs.2.2.put _ (fun e2 => n6 _ hq e2)⟩
  · refine (set_other w _ (fun e2 => n4 (by rw [e2]; exact hq))).trans (h.own.trans ?_)
    rw [hd_app, hd_app, hd_app, hd_app]
    cases xs <;> rfl
  · exact (set_other w _ (fun e2 => n2 (by rw [e2]; exact hq))).trans hs.2.1
theorem step1b (h : Ls w L sz mv ev hh mm ([] ++ e :: ys)) : Mid1 (w.setCell ⟨L, 2, none⟩ (hd ys nil)) L sz mv ev hh mm [] e ys := by
  obtain ⟨n0, n1, n2, n3, n4, n5, n6, n7, n8⟩ := parts h.nd
  have hs := Seg.app.1 h.seg
  exact ⟨(set_same _ h.own).trans rfl, trivial, (set_other w _ n1).trans hs.2.1, hs.2.2.put _ n5⟩
theorem step2a {z : En} (h : Mid1 w L sz mv ev hh mm xs e (z :: ys)) (hn : (L :: blocks (xs ++ e :: z :: ys)).Nodup) : Mid2 (w.setCell ⟨z.b, 2, none⟩ (lst nil xs)) L sz mv ev hh mm xs e (z :: ys) := by
  obtain ⟨n0, n1, n2, n3, n4, n5, n6, n7, n8⟩ := parts hn
  have hz : z.b ∈ blocks (z :: ys) := by simp [blocks]
  rw [blocks_cons, List.nodup_cons] at n8
  refine ⟨?_, h.sx.put _ (fun e2 => n6 _ e2 hz), ?_, h.sy.prev n8.1 _⟩
  · refine (set_other w _ (fun e2 => n5 (by rw [e2]; exact hz))).trans (h.own.trans ?_)
    rw [lst_app, lst_app]
    rfl
  · exact (set_other w _ (fun e2 => n3 (by rw [e2]; exact hz))).trans h.se
theorem step2b (h : Mid1 w L sz mv ev hh mm xs e []) (hn : (L :: blocks (xs ++ [e])).Nodup) : Mid2 (w.setCell ⟨L, 3, none⟩ (lst nil xs)) L sz mv ev hh mm xs e [] := by
  obtain ⟨n0, n1, n2, n3, n4, n5, n6, n7, n8⟩ := parts hn
  refine ⟨?_, h.sx.put _ n4, (set_other w _ n1).trans h.se, trivial⟩
  refine (set_same _ h.own).trans ?_
  rw [List.append_nil]
  rfl
theorem step3 (h : Mid2 w L sz mv ev hh mm xs e ys) (hn : (L :: blocks (xs ++ e :: ys)).Nodup) :
    Ls ((w.setCell ⟨e.b, 2, none⟩ nil).setCell ⟨e.b, 3, none⟩ nil) L sz mv ev hh mm (xs ++ ys) ∧ ((w.setCell ⟨e.b, 2, none⟩ nil).setCell ⟨e.b, 3, none⟩ nil).heap[e.b]? = some (.cells (ec e.k e.v nil nil) 67 (0, 0)) := by
  obtain ⟨n0, n1, n2, n3, n4, n5, n6, n7, n8⟩ := parts hn
  refine ⟨⟨?_, Seg.app.2 ⟨(h.sx.put _ n2).put _ n2, (h.sy.put _ n3).put _ n3⟩, n0⟩, ?_⟩
  · exact (set_other _ _ (fun e2 => n1 e2.symm)).trans ((set_other w _ (fun e2 => n1 e2.symm)).trans h.own)
  · exact (set_same _ ((set_same _ h.se).trans rfl)).trans rfl
/-- an entry that lies by itself -/
theorem front {es : List En} {p0 z0 : Value} (h : Ls w L sz mv ev hh mm es) (hb : e.b ∉ L :: blocks es) (he : w.heap[e.b]? = some (.cells (ec e.k e.v p0 z0) 67 (0, 0))) :
    (∀ t z, es = z :: t → Ls ((((w.setCell ⟨e.b, 2, none⟩ nil).setCell ⟨e.b, 3, none⟩ (ptr z.b)).setCell ⟨z.b, 2, none⟩ (ptr e.b)).setCell ⟨L, 2, none⟩ (ptr e.b)) L sz mv ev hh mm (e :: es)) ∧
    (es = [] → Ls ((((w.setCell ⟨e.b, 2, none⟩ nil).setCell ⟨e.b, 3, none⟩ nil).setCell ⟨L, 2, none⟩ (ptr e.b)).setCell ⟨L, 3, none⟩ (ptr e.b)) L sz mv ev hh mm [e]) := by
  rw [List.mem_cons, not_or] at hb
  have hnd : (L :: blocks (e :: es)).Nodup := by
    have := h.nd
    rw [List.nodup_cons] at this ⊢
    rw [blocks_cons, List.mem_cons, List.nodup_cons]
    exact ⟨fun x => x.elim (fun e2 => hb.1 e2.symm) this.1, hb.2, this.2⟩
  refine ⟨fun t z hes => ?_, fun hes => ?_⟩
  · subst hes
    have hz : z.b ∈ blocks (z :: t) := by simp [blocks]
    have hzl : L ≠ z.b := fun e2 => (List.nodup_cons.1 h.nd).1 (e2 ▸ hz)
    have hez : e.b ≠ z.b := fun e2 => hb.2 (e2 ▸ hz)
    have hLt : L ∉ blocks (z :: t) := (List.nodup_cons.1 h.nd).1
    have hzt : z.b ∉ blocks t := by
      have := (List.nodup_cons.1 h.nd).2
      rw [blocks_cons, List.nodup_cons] at this
      exact this.1
    refine ⟨?_, ⟨?_, ?_⟩, hnd⟩
    · have h1 := (set_other ((w.setCell ⟨e.b, 2, none⟩ nil).setCell ⟨e.b, 3, none⟩ (ptr z.b)) (j := 2) (ptr e.b) hzl).trans ((set_other (w.setCell ⟨e.b, 2, none⟩ nil) (j := 3) (ptr z.b) (fun e2 => hb.1 e2.symm)).trans ((set_other w (j := 2) nil (fun e2 => hb.1 e2.symm)).trans h.own))
      exact (set_same (j := 2) (ptr e.b) h1).trans rfl
    · refine (set_other _ _ hb.1).trans ((set_other _ _ hez).trans ?_)
      exact (set_same _ ((set_same _ he).trans rfl)).trans rfl
    · exact (((h.seg.put _ hb.2).put _ hb.2).prev hzt _).put _ hLt
  · subst hes
    refine ⟨?_, ⟨?_, trivial⟩, hnd⟩
    · have h1 := (set_other (w.setCell ⟨e.b, 2, none⟩ nil) (j := 3) nil (fun e2 => hb.1 e2.symm)).trans ((set_other w (j := 2) nil (fun e2 => hb.1 e2.symm)).trans h.own)
      exact (set_same (j := 3) (ptr e.b) (set_same (j := 2) (ptr e.b) h1)).trans rfl
    · exact (set_other _ _ hb.1).trans ((set_other _ _ hb.1).trans ((set_same _ ((set_same _ he).trans rfl)).trans rfl))
theorem Ls.drew (h : Ls w L sz mv ev hh mm xs) : Ls w.drew L sz mv ev hh mm xs := ⟨h.own, h.seg.kept (fun _ _ => rfl), h.nd⟩
/-- what taking an entry out leaves -/
structure Rm (w W : World) (L : Nat) (sz : Int) (mv ev : Value) (hh mm : Int) (xs : List En) (e : En) (ys : List En) : Prop where
  ls : Ls W L sz mv ev hh mm (xs ++ ys)
  en : W.heap[e.b]? = some (.cells (ec e.k e.v nil nil) 67 (0, 0))
  chg : Chg w W (L :: blocks (xs ++ e :: ys))
theorem Rm.drew {W : World} (h : Rm w W L sz mv ev hh mm xs e ys) : Rm w W.drew L sz mv ev hh mm xs e ys := ⟨h.ls.drew, h.en, ⟨h.chg.os, h.chg.tape, h.chg.output, h.chg.size, h.chg.block⟩⟩
theorem Mid2.end_ {W : World} (h : Mid2 W L sz mv ev hh mm xs e ys) (hn : (L :: blocks (xs ++ e :: ys)).Nodup) (hc : Chg w W (L :: blocks (xs ++ e :: ys))) : Rm w ((W.setCell ⟨e.b, 2, none⟩ nil).setCell ⟨e.b, 3, none⟩ nil) L sz mv ev hh mm xs e ys := by
  have h3 := step3 h hn
  have hm : e.b ∈ L :: blocks (xs ++ e :: ys) := by rw [blocks_app]; simp [blocks]
  exact ⟨h3.1, h3.2, (hc.put _ _ _ hm).put _ _ _ hm⟩
/-- what putting an entry ahead leaves -/
structure Af (w W : World) (L : Nat) (sz : Int) (mv ev : Value) (hh mm : Int) (e : En) (es : List En) : Prop where
  ls : Ls W L sz mv ev hh mm (e :: es)
  chg : Chg w W (L :: blocks (e :: es))
end Go.Proofs.Ytjhmcpdnmfhodaa.Lra
