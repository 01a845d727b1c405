/- What lies in memory while CacheRun runs. -/
import Derived.Test.YtjhmcpdnmfhodaaLcn
import Derived.Test.YtjhmcpdnmfhodaaLcp
import Derived.Deep.LoopGhost
import Derived.Maps.AppendAt
import Derived.Deep.Cut
import Derived.Deep.CutRange
namespace Go.Proofs.Ytjhmcpdnmfhodaa.Lcm
open Go Go.Maps Go.ChangeMaps Go.MapKept Go.RowKit Go.Proofs.YtjhmcpdnmfhodaaW.PrintWords Ll Lra Lrc Lrw Lrx Lrz Lcn Lcp Mp

structure Ot where
  o : O4
  rate : Nat
def oc (x : Ot) : List Value := [.bool x.o.ok, .int .i64 x.o.key, .int .i64 x.o.val, .float .f64 x.rate, .bool x.o.asked, .slice none 0 0]
def ocs (l : List Ot) : List Value := l.flatMap oc
/-- the script lies in memory -/
def Script (w : World) (a : Nat) (ops : List Op3) : Prop := ∃ cs, w.heap[a]? = some (.cells cs 36 (0, 0)) ∧ ∀ (j : Nat) (x : Op3), ops[j]? = some x → cs[3 * j]? = some (.int .i64 x.d) ∧ cs[3 * j + 1]? = some (.int .i64 x.k) ∧ cs[3 * j + 2]? = some (.int .i64 x.v)
/-- the loop's state behind j calls -/
structure Ru (w0 : World) (n : Int) (ops : List Op3) (a G L j : Nat) (v10 : Value) (w : World) : Prop where
  ca : ∃ es M, Ca w0.heap.size w L M .nilFunc n (Lcp.run n ⟨[], 0, 0⟩ (ops.take j)).1.h (Lcp.run n ⟨[], 0, 0⟩ (ops.take j)).1.m es ∧ pl es = (Lcp.run n ⟨[], 0, 0⟩ (ops.take j)).1.l
  out : ∃ os, w.ownsRow w0.heap.size 33 6 v10 os.length (ocs os) ∧ os.map Ot.o = (Lcp.run n ⟨[], 0, 0⟩ (ops.take j)).2
  below : Below w0.heap.size w0 w
  scr : Script w a ops
  gone : w.heap[G]? = some (.cells #[.slice none 0 0] 31 (0, 0))

theorem plain31 (c : Array Value) : Plain (.cells c 31 (0, 0)) := ⟨fun _ _ e => (by cases e), fun _ _ e => (by cases e), fun _ _ e => (by cases e)⟩
theorem own_typed6 {w : World} {B n k : Nat} {v : Value} {xs : List Value} (h : w.ownsRow B 33 6 v n xs) (hk : v.ownBlock = some k) : ∃ c, w.heap[k]? = some (.cells c 33 (0, 0)) := by
  rcases h.2 with ⟨rfl, _⟩ | ⟨g, cap, cur, rfl, _, hg, _⟩
  · simp [Value.ownBlock] at hk
  · simp only [Value.ownBlock, Option.some.injEq] at hk
    subst hk
    exact ⟨cur, hg⟩
/-- a row of the call's own stays where its block does -/
theorem own_heap {w w' : World} {B n : Nat} {v : Value} {xs : List Value} (h : w.ownsRow B 33 6 v n xs) (hk : ∀ k, v.ownBlock = some k → w'.heap[k]? = w.heap[k]?) : w'.ownsRow B 33 6 v n xs := by
  refine ⟨h.1, ?_⟩
  rcases h.2 with h2 | ⟨g, cap, cur, rfl, hb, hg, rest⟩
  · exact .inl h2
  · exact .inr ⟨g, cap, cur, rfl, hb, (hk g rfl).trans hg, rest⟩
structure Md (w0 W : World) (n : Int) (ops : List Op3) (a G L p m : Nat) (x : Op3) (hh mm : Int) (l : List (Int × Int)) (v10 : Value) (os : List Ot) (co : Array Value) : Prop where
  ca : ∃ es M, Ca w0.heap.size W L M .nilFunc n hh mm es ∧ pl es = l
  out : W.ownsRow w0.heap.size 33 6 v10 m (ocs os)
  ob : ∀ k, v10.ownBlock = some k → k < p
  xb : W.heap[p]? = some (.cells #[.int .i64 x.d, .int .i64 x.k, .int .i64 x.v] 36 (0, 0))
  o : W.heap[p + 1]? = some (.cells co 33 (0, 0))
  gn : W.heap[G]? = some (.cells #[.slice none 0 0] 31 (0, 0))
  gp : G < p
  scr : Script W a ops
  ap : a < p
  below : Below w0.heap.size w0 W
  pw : w0.heap.size ≤ p
variable {w0 W w1 : World} {n hh mm : Int} {ops : List Op3} {a G L p m : Nat} {x : Op3} {l : List (Int × Int)} {v10 : Value} {os : List Ot} {co : Array Value}
theorem Md.fx (h : Md w0 W n ops a G L p m x hh mm l v10 os co) {hh' mm' : Int} {l' : List (Int × Int)} {co' : Array Value} (hc : ∃ es M, Ca w0.heap.size w1 L M .nilFunc n hh' mm' es ∧ pl es = l') (hf : Fx (p + 1) w0.heap.size W w1) (ho : w1.heap[p + 1]? = some (.cells co' 33 (0, 0))) :
    Md w0 w1 n ops a G L p m x hh' mm' l' v10 os co' := by
  obtain ⟨cs, hcs, hat⟩ := h.scr
  have hap := h.ap
  have hgp := h.gp
  refine ⟨hc, own_heap h.out (fun k hk => ?_), h.ob, hf.plain p _ (by omega) h.xb (plain36 _), ho, hf.plain G _ (by omega) h.gn (plain31 _), h.gp, ⟨cs, hf.plain a _ (by omega) hcs (plain36 _), hat⟩, h.ap, ?_, h.pw⟩
  · obtain ⟨c, hc⟩ := own_typed6 h.out hk
    have := h.ob k hk
    rw [hc]
    exact hf.plain k _ (by omega) hc (plain33 _)
  · have hb := h.below
    exact ⟨hf.os.trans hb.os, hf.tape.trans hb.tape, hf.output.trans hb.output, Nat.le_trans hb.size hf.size, fun k hk => (hf.old k hk).trans (hb.block k hk)⟩
theorem Md.fr (h : Md w0 W n ops a G L p m x hh mm l v10 os co) {hh' mm' : Int} {l' : List (Int × Int)} (hc : ∃ es M, Ca w0.heap.size w1 L M .nilFunc n hh' mm' es ∧ pl es = l') (hf : Fr w0.heap.size W w1) :
    Md w0 w1 n ops a G L p m x hh' mm' l' v10 os co := h.fx hc hf.fx (hf.plain (p + 1) _ h.o (plain33 _))
theorem Md.put (h : Md w0 W n ops a G L p m x hh mm l v10 os co) (j : Nat) (u : Value) : Md w0 (W.setCell ⟨p + 1, j, none⟩ u) n ops a G L p m x hh mm l v10 os (co.setIfInBounds j u) := by
  obtain ⟨es, M, hc, hl⟩ := h.ca
  exact h.fx ⟨es, M, hc.far u h.o (plain33 _), hl⟩ (Fx.put W j u (by have := h.pw; omega)) (set_same u h.o)
theorem info33 : (Try.prog.info? 33).map (fun i => (i.zero, i.size, i.bytes)) = some (some (.agg #[.bool false, .int .i64 0, .int .i64 0, .float .f64 0, .bool false, .slice none 0 0]), 6, 64) := by kernel_rfl
theorem new6 (w : World) (l : List Value) (e : TypeId) : ∀ (j : Nat) (v : Value), l[j]? = some v → (w.alloc (.cells l.toArray e)).cell? ((⟨w.heap.size, 0, none⟩ : Addr).add j) = some v := fun j v hj => by
  have h := heap_alloc_new w (.cells l.toArray e)
  have : ((⟨w.heap.size, 0, none⟩ : Addr).add j) = ⟨w.heap.size, j, none⟩ := by simp [Addr.add]; exact Eq.symm
  rw [this, Lib.cell_of_heap h]
  simpa using hj
theorem oc_one (y : Ot) : ∀ u ∈ oc y, u.oneCell' = true := by
  intro u hu
  unfold oc at hu
  simp only [List.mem_cons, List.mem_nil_iff, or_false] at hu
  rcases hu with rfl | rfl | rfl | rfl | rfl | rfl <;> rfl
/-- the round's end: the entry goes behind all -/
theorem Md.end_ (y : Ot) (h : Md w0 W n ops a G L p m x hh mm l v10 os (oc y).toArray) (hm : m = os.length) (hm2 : m ≤ 2000) :
    ∃ g2 cap2 w6, (Builtin.append_ #[24, 24] 24 #[v10, .slice (some ⟨W.heap.size, 0, none⟩) 1 1]).run Try.prog (W.alloc (.cells (oc y).toArray 33)) = .ok (.slice (some ⟨g2, 0, none⟩) (m + 1) cap2) w6 ∧
      w6.ownsRow w0.heap.size 33 6 (.slice (some ⟨g2, 0, none⟩) (m + 1) cap2) (m + 1) (ocs (os ++ [y])) ∧ (∃ es M, Ca w0.heap.size w6 L M .nilFunc n hh mm es ∧ pl es = l) ∧ Below w0.heap.size w0 w6 ∧ Script w6 a ops ∧ w6.heap[G]? = some (.cells #[.slice none 0 0] 31 (0, 0)) := by
  obtain ⟨i, hi0⟩ : ∃ i, Try.prog.info? 33 = some i := by
    cases h : Try.prog.info? 33 with
    | none => have := info33; rw [h] at this; cases this
    | some i => exact ⟨i, rfl⟩
  have hinf := info33
  rw [hi0] at hinf
  simp only [Option.map_some, Option.some.injEq, Prod.mk.injEq] at hinf
  obtain ⟨hz0, hsz, hbb⟩ := hinf
  have hb1 : Below W.heap.size W (W.alloc (.cells (oc y).toArray 33)) := (Below.refl _ _).alloc (Nat.le_refl _) _
  have hlt : ∀ k, v10.ownBlock = some k → k < W.heap.size := fun k hk => by
    obtain ⟨c, hc⟩ := own_typed6 h.out hk
    exact (Array.getElem?_eq_some_iff.1 hc).1
  have hout : (W.alloc (.cells (oc y).toArray 33)).ownsRow w0.heap.size 33 6 v10 m (ocs os) := own_heap h.out (fun k hk => hb1.block k (hlt k hk))
  obtain ⟨v2, w6, hrun, hown2, hgr, _, hat⟩ := run_append_own_at (P := Try.prog) (W.alloc (.cells (oc y).toArray 33)) w0.heap.size 24 24 33 i (.agg #[.bool false, .int .i64 0, .int .i64 0, .float .f64 0, .bool false, .slice none 0 0]) 6 64 Try.underlying24 hi0 hz0 hsz hbb rfl (by decide) v10 m (ocs os) hout ⟨W.heap.size, 0, none⟩ 1 1 (oc y) rfl (new6 W (oc y) 33) (oc_one y) (by unfold maxLen; omega) (by omega) (Nat.le_trans h.below.size hb1.size)
  obtain ⟨g2, cap2, rfl⟩ : ∃ g2 cap2, v2 = .slice (some ⟨g2, 0, none⟩) (m + 1) cap2 := by
    rcases hown2.2 with ⟨_, h0⟩ | ⟨g2, cap2, _, hv2, _⟩
    · omega
    · exact ⟨g2, cap2, hv2⟩
  have hkeep : ∀ (k : Nat) (o : Obj), W.heap[k]? = some o → (∀ c, o ≠ .cells c 33 (0, 0)) → w6.heap[k]? = some o := fun k o hk hno => by
    have h1 := (hb1.block k (Array.getElem?_eq_some_iff.1 hk).1).trans hk
    refine (hgr.block k (Array.getElem?_eq_some_iff.1 h1).1 (fun e => ?_)).trans h1
    obtain ⟨c, hc⟩ := own_typed6 h.out e.symm
    rw [hk] at hc
    exact hno c (Option.some.inj hc)
  obtain ⟨es, M, hc, hl⟩ := h.ca
  obtain ⟨cs, hcs, hats⟩ := h.scr
  refine ⟨g2, cap2, w6, hrun, ?_, ⟨es, M, ?_, hl⟩, ?_, ⟨cs, hkeep a _ hcs (fun c e => (by cases e)), hats⟩, hkeep G _ h.gn (fun c e => (by cases e))⟩
  · have : ocs (os ++ [y]) = ocs os ++ oc y := by unfold ocs; rw [List.flatMap_append]; simp
    rw [this]; exact hown2
  · obtain ⟨D, ⟨q0, q1, hM, _⟩, _⟩ := hc.mp
    refine ⟨⟨hkeep L _ hc.ls.own (fun c e => (by cases e)), hc.ls.seg.kept (fun e he => ?_), hc.ls.nd⟩, hc.mp.of_heap ((hkeep M _ hM (fun c e => (by cases e))).trans hM.symm), hc.nk, hc.wk, hc.bL, hc.bM, hc.bs⟩
    obtain ⟨q, z, hq⟩ := hc.ls.seg.at_ e he
    rw [hq]
    exact hkeep _ _ hq (fun c e => (by cases e))
  · have hb := h.below
    have hbase := hb.size
    refine ⟨hgr.os.trans hb.os, hgr.tape.trans hb.tape, hgr.output.trans hb.output, Nat.le_trans hb.size (Nat.le_trans hb1.size hgr.size), fun k hk => ?_⟩
    refine (hgr.block k (by have := hb1.size; omega) (fun e => ?_)).trans ((hb1.block k (by omega)).trans (hb.block k hk))
    rcases h.out.2 with ⟨rfl, _⟩ | ⟨g, _, _, rfl, hg, _⟩
    · cases e
    · injection e with e; simp only at e; omega
theorem Ru.start {j : Nat} {wr : World} {x : Op3} (h : Ru w0 n ops a G L j v10 wr) (hG : w0.heap.size ≤ G) :
    ∃ os, os.map Ot.o = (Lcp.run n ⟨[], 0, 0⟩ (ops.take j)).2 ∧ Md w0 (((wr.setCell ⟨G, 0, none⟩ (.slice none 0 0)).alloc (.cells #[.int .i64 x.d, .int .i64 x.k, .int .i64 x.v] 36)).alloc (.cells #[.bool false, .int .i64 0, .int .i64 0, .float .f64 0, .bool false, .slice none 0 0] 33)) n ops a G L wr.heap.size os.length x
      (Lcp.run n ⟨[], 0, 0⟩ (ops.take j)).1.h (Lcp.run n ⟨[], 0, 0⟩ (ops.take j)).1.m (Lcp.run n ⟨[], 0, 0⟩ (ops.take j)).1.l v10 os #[.bool false, .int .i64 0, .int .i64 0, .float .f64 0, .bool false, .slice none 0 0] := by
  obtain ⟨es, M, hc, hl⟩ := h.ca
  obtain ⟨os, ho, hos⟩ := h.out
  obtain ⟨cs, hcs, hats⟩ := h.scr
  have hb := h.below
  have hGlt : G < wr.heap.size := (Array.getElem?_eq_some_iff.1 h.gone).1
  have halt : a < wr.heap.size := (Array.getElem?_eq_some_iff.1 hcs).1
  have h1 := hc.far (j := 0) (.slice none 0 0) h.gone (plain31 _)
  have f1 : Fx G w0.heap.size wr (wr.setCell ⟨G, 0, none⟩ (.slice none 0 0)) := Fx.put wr 0 _ hG
  obtain ⟨w1, hw1⟩ : ∃ w1, wr.setCell ⟨G, 0, none⟩ (.slice none 0 0) = w1 := ⟨_, rfl⟩
  have hs1 : w1.heap.size = wr.heap.size := by rw [← hw1]; simp [World.setCell]
  have hg1 : w1.heap[G]? = some (.cells #[.slice none 0 0] 31 (0, 0)) := by rw [← hw1]; exact (set_same _ h.gone).trans rfl
  rw [hw1] at h1 f1 ⊢
  have keep : ∀ (k : Nat) (o : Obj), w1.heap[k]? = some o → ((w1.alloc (.cells #[.int .i64 x.d, .int .i64 x.k, .int .i64 x.v] 36)).alloc (.cells #[.bool false, .int .i64 0, .int .i64 0, .float .f64 0, .bool false, .slice none 0 0] 33)).heap[k]? = some o := fun k o hk => by
    have hlt := (Array.getElem?_eq_some_iff.1 hk).1
    exact (Below.heap_alloc _ _ k (by simp; omega)).trans ((Below.heap_alloc _ _ k hlt).trans hk)
  have olt : ∀ k, v10.ownBlock = some k → k < wr.heap.size := fun k hk => by
    obtain ⟨c, hc⟩ := own_typed6 ho hk
    exact (Array.getElem?_eq_some_iff.1 hc).1
  refine ⟨os, hos, ⟨es, M, (h1.born _).born _, hl⟩, own_heap ho (fun k hk => ?_), olt, ?_, ?_, keep _ _ hg1, hGlt, ⟨cs, keep a _ (f1.plain a _ (fun e => ?_) hcs (plain36 _)), hats⟩, halt, ?_, hb.size⟩
  · obtain ⟨c, hc⟩ := own_typed6 ho hk
    have hkG : k ≠ G := fun e => by subst e; rw [h.gone] at hc; cases hc
    rw [hc]
    exact keep k _ (f1.plain k _ hkG hc (plain33 _))
  · rw [← hs1]
    exact (Below.heap_alloc _ _ _ (by simp)).trans (heap_alloc_new w1 _)
  · have := heap_alloc_new (w1.alloc (.cells #[.int .i64 x.d, .int .i64 x.k, .int .i64 x.v] 36)) (.cells #[.bool false, .int .i64 0, .int .i64 0, .float .f64 0, .bool false, .slice none 0 0] 33)
    rw [← hs1]
    simpa using this
  · subst e; rw [h.gone] at hcs; cases hcs
  · have b1 : Below w0.heap.size w0 w1 := ⟨f1.os.trans hb.os, f1.tape.trans hb.tape, f1.output.trans hb.output, Nat.le_trans hb.size f1.size, fun k hk => (f1.old k hk).trans (hb.block k hk)⟩
    exact (b1.alloc b1.size _).alloc (by have := b1.size; simp; omega) _
theorem Ru.next {j : Nat} {w6 : World} {x : Op3} {y : Ot} {v : Value} (hx : ops[j]? = some x) (hos : os.map Ot.o = (Lcp.run n ⟨[], 0, 0⟩ (ops.take j)).2)
    (hst : Lcp.step n (Lcp.run n ⟨[], 0, 0⟩ (ops.take j)).1 x = (⟨l, hh, mm⟩, y.o)) (hown : w6.ownsRow w0.heap.size 33 6 v (os.length + 1) (ocs (os ++ [y]))) (hc : ∃ es M, Ca w0.heap.size w6 L M .nilFunc n hh mm es ∧ pl es = l) (hb : Below w0.heap.size w0 w6) (hs : Script w6 a ops) (hg : w6.heap[G]? = some (.cells #[.slice none 0 0] 31 (0, 0))) : Ru w0 n ops a G L (j + 1) v w6 := by
  have ht : ops.take (j + 1) = ops.take j ++ [x] := by rw [List.take_add_one, hx]; rfl
  have hr : Lcp.run n ⟨[], 0, 0⟩ (ops.take (j + 1)) = (⟨l, hh, mm⟩, (Lcp.run n ⟨[], 0, 0⟩ (ops.take j)).2 ++ [y.o]) := by rw [ht, run_snoc, hst]
  refine ⟨by rw [hr]; exact hc, ⟨os ++ [y], by rw [List.length_append]; exact hown, by rw [hr, List.map_append, hos]; rfl⟩, hb, hs, hg⟩
end Go.Proofs.Ytjhmcpdnmfhodaa.Lcm
