/- Purge, HitRate, NewLRU with or without a callback, of any size. -/
import Derived.Test.YtjhmcpdnmfhodaaLed
import Derived.Test.YtjhmcpdnmfhodaaFlt
import Derived.Test.YtjhmcpdnmfhodaaLcn
import Derived.Test.YtjhmcpdnmfhodaaLcw
import Derived.Test.YtjhmcpdnmfhodaaCcm
section
/- Purge, HitRate, NewLRU with or without a callback, of any size. -/
namespace Go.Proofs.Ytjhmcpdnmfhodaa.Lee
open Go Go.Maps Go.ChangeMaps Go.MapKept Go.RowKit Go.Proofs.YtjhmcpdnmfhodaaW.PrintWords Ll Lra Lrc Lrw Lrx Lry Lrz Mp Lea Leb Lec Led Lcp Flt

theorem purge2 {B : Nat} {w : World} {L M G : Nat} {sz hh mm : Int} {es : List En} (cb : Bool) (h : Ca B w L M (ev cb G) sz hh mm es) (hgv : Gv B w G nil31 []) (hsz : 0 < sz) (hsz2 : sz ≤ 100000) (hB : B ≤ w.heap.size) (hes : es.length ≤ 100000) :
    Calls Try.prog 20 #[ptr L] w fun r w' => r = .returned (.tuple #[]) ∧ ∃ M' gs v', Ca B w' L M' (ev cb G) sz 0 0 [] ∧ Gv B w' G v' gs ∧ gs.Perm (told cb (pl es)) ∧ Fz [G] B w w' := by
  cases cb
  · refine (purge h hsz hsz2 hB).mono ?_
    rintro r w1 ⟨rfl, M', h1, h2⟩
    exact ⟨rfl, M', [], _, h1, hgv.fr h2, List.Perm.refl _, Fz.of_fr h2⟩
  · exact purgeT h hgv hsz hsz2 hB hes
set_option linter.all false in
set_option maxRecDepth 1000000 in
set_option maxHeartbeats 4000000 in
theorem hitRate2 {B : Nat} {w : World} {L M : Nat} {sz hh mm : Int} {es : List En} {ev : Value} (h : Ca B w L M ev sz hh mm es) (h0 : 0 ≤ hh) (m0 : 0 ≤ mm) (hb : hh + mm ≤ 4000) :
    Calls Try.prog 23 #[ptr L] w fun r w' => r = .returned (.float .f64 (rt hh mm)) ∧ w' = w := by
  obtain ⟨c0, c1, c5, c6, lf, c4⟩ := cells h
  clear h
  unfold ptr
  have hw : wrap64 (hh + mm) = hh + mm := by unfold wrap64; omega
  by_cases hz : hh + mm = 0
  · have h1 : (hh + mm == 0) = true := by rw [hz]; rfl
    have HZ := Aside0.mk (show (0 : Nat) = rt hh mm from (if_pos hz).symm)
    clear h0 m0 hb hz
    go_enter Try.func23, Try.ntmps23
    go_wp2_with (fail)
    go_ret
    exact ⟨by rw [← HZ.out]; rfl, rfl⟩
  · have h1 : (hh + mm == 0) = false := by rw [beq_eq_false_iff_ne]; exact hz
    have hd := rt_div h0 m0 hb hz
    have hq : ∀ W : World, (binOp .quo 30 (.float .f64 (floatOfInt .f64 hh)) (.float .f64 (floatOfInt .f64 (hh + mm)))).run Try.prog W = .ok (.float .f64 (rt hh mm)) W := fun W => run_float_arith W .quo 30 .f64 _ _ _ hd
    obtain ⟨R, hR⟩ : ∃ R, rt hh mm = R := ⟨_, rfl⟩
    rw [hR] at hq ⊢
    clear h0 m0 hb hz hd hR
    go_enter Try.func23, Try.ntmps23
    go_wp2_with (fail)
    go_ret
    exact ⟨rfl, rfl⟩
/-- the size that counts -/
def cut (n : Int) : Int := min n 100000
set_option linter.all false in
set_option maxRecDepth 1000000 in
set_option maxHeartbeats 4000000 in
theorem newEvict0 (w : World) (n : Int) (cb : Bool) (G : Nat) (h0 : n ≤ 0) : Calls Try.prog 12 #[.int .i64 n, ev cb G] w fun r w' => r = .returned (.pointer none) ∧ w' = w := by
  have d0 : decide (n ≤ 0) = true := decide_eq_true h0
  obtain ⟨E, hE⟩ : ∃ E, ev cb G = E := ⟨_, rfl⟩
  rw [hE]
  clear hE h0
  go_enter Try.func12, Try.ntmps12
  go_wp2_with (fail)
  go_ret
  exact ⟨rfl, rfl⟩
set_option linter.all false in
set_option maxRecDepth 1000000 in
set_option maxHeartbeats 4000000 in
theorem newEvict2 (w : World) (n : Int) (cb : Bool) (G : Nat) (h0 : 0 < n) :
    Calls Try.prog 12 #[.int .i64 n, ev cb G] w fun r w' => r = .returned (ptr (w.heap.size + 1)) ∧ w' = (w.alloc (.map #[] 0)).alloc (.cells (lc (cut n) (.map (some w.heap.size)) (ev cb G) 0 0 nil nil) 64) := by
  have d0 : decide (n ≤ 0) = false := decide_eq_false (by omega)
  have key : ∀ E : Value, E = .nilFunc ∨ E = cbv G → Calls Try.prog 12 #[.int .i64 n, E] w fun r w' => r = .returned (ptr (w.heap.size + 1)) ∧ w' = (w.alloc (.map #[] 0)).alloc (.cells (lc (cut n) (.map (some w.heap.size)) E 0 0 nil nil) 64) := by
    intro E hE
    by_cases h1 : n ≤ 100000
    · have d1 : decide (n > 100000) = false := decide_eq_false (by omega)
      have d1' : decide (100000 < n) = false := d1
      have hm := makeM n w
      have hc : cut n = n := by unfold cut; omega
      rw [hc]
      clear hc
      rcases hE with rfl | rfl
      · go_enter Try.func12, Try.ntmps12
        go_wp2_with (fail)
        go_ret
        exact ⟨rfl, rfl⟩
      · unfold cbv
        go_enter Try.func12, Try.ntmps12
        go_wp2_with (fail)
        go_ret
        exact ⟨rfl, rfl⟩
    · have d1 : decide (n > 100000) = true := decide_eq_true (by omega)
      have d1' : decide (100000 < n) = true := d1
      have hm := makeM 100000 w
      have hc : cut n = 100000 := by unfold cut; omega
      rw [hc]
      clear hc
      rcases hE with rfl | rfl
      · go_enter Try.func12, Try.ntmps12
        go_wp2_with (fail)
        go_ret
        exact ⟨rfl, rfl⟩
      · unfold cbv
        go_enter Try.func12, Try.ntmps12
        go_wp2_with (fail)
        go_ret
        exact ⟨rfl, rfl⟩
  refine key _ ?_
  cases cb
  · exact .inl rfl
  · exact .inr rfl
set_option linter.all false in
set_option maxRecDepth 1000000 in
set_option maxHeartbeats 4000000 in
theorem new0 (w : World) (n : Int) (h0 : n ≤ 0) : Calls Try.prog 11 #[.int .i64 n] w fun r w' => r = .returned (.pointer none) ∧ w' = w := by
  have c := newEvict0 w n false 0 h0
  unfold ev at c
  rw [if_neg (by decide)] at c
  go_enter Try.func11, Try.ntmps11
  go_wp2_with (first | (go_at_call 12; refine c.mono ?_; rintro r w1 ⟨rfl, hw⟩; rw [hw]; clear hw w1))
  go_ret
  exact ⟨rfl, rfl⟩
set_option linter.all false in
set_option maxRecDepth 1000000 in
set_option maxHeartbeats 4000000 in
theorem new2 (w : World) (n : Int) (h0 : 0 < n) : Calls Try.prog 11 #[.int .i64 n] w fun r w' => r = .returned (ptr (w.heap.size + 1)) ∧ w' = (w.alloc (.map #[] 0)).alloc (.cells (lc (cut n) (.map (some w.heap.size)) .nilFunc 0 0 nil nil) 64) := by
  have c := newEvict2 w n false 0 h0
  unfold ev at c
  rw [if_neg (by decide)] at c
  go_enter Try.func11, Try.ntmps11
  go_wp2_with (first | (go_at_call 12; refine c.mono ?_; rintro r w1 ⟨rfl, hw⟩; rw [hw]; clear hw w1))
  go_ret
  exact ⟨rfl, rfl⟩
theorem made2 {B : Nat} (w : World) (n : Int) (E : Value) (hB : B ≤ w.heap.size) : Ca B ((w.alloc (.map #[] 0)).alloc (.cells (lc n (.map (some w.heap.size)) E 0 0 nil nil) 64)) (w.heap.size + 1) w.heap.size E n 0 0 [] := by
  refine empty ?_ ?_ (by omega) hB
  · have := heap_alloc_new (w.alloc (.map #[] 0)) (.cells (lc n (.map (some w.heap.size)) E 0 0 nil nil) 64)
    simpa using this
  · refine (Below.heap_alloc _ _ _ (by simp)).trans (heap_alloc_new w _)
end Go.Proofs.Ytjhmcpdnmfhodaa.Lee
end

section
/- What lies in memory while CacheRun runs, with or without a callback; what its results are. -/
namespace Go.Proofs.Ytjhmcpdnmfhodaa.Lef
open Go Go.Maps Go.ChangeMaps Go.MapKept Go.RowKit Go.Proofs.YtjhmcpdnmfhodaaW.PrintWords Ll Lra Lrc Lrw Lrx Lrz Lcp Mp Spm Lea Leb Lec Lee Flt
open Lcm (own_typed6 own_heap new6)

/-- a result: what the call says, the rate, what the callback was told, and where that lies -/
structure Oz where
  o : O4
  rate : Nat
  gone : List (Int × Int)
  gv : Value
def oz (x : Oz) : List Value := [.bool x.o.ok, .int .i64 x.o.key, .int .i64 x.o.val, .float .f64 x.rate, .bool x.o.asked, x.gv]
def ozs (l : List Oz) : List Value := l.flatMap oz
theorem oz_one (y : Oz) (h : ∃ A n c, y.gv = .slice A n c) : ∀ u ∈ oz y, u.oneCell' = true := by
  intro u hu
  obtain ⟨A, n, c, hv⟩ := h
  unfold oz at hu
  rw [hv] at hu
  simp only [List.mem_cons, List.mem_nil_iff, or_false] at hu
  rcases hu with rfl | rfl | rfl | rfl | rfl | rfl <;> rfl
def goneOf (n : Int) (s : St) (x : Op3) : List (Int × Int) :=
  if x.d = 0 ∨ x.d = 2 then (match find s.l x.k with
    | some _ => []
    | none => if (s.l.length : Int) < n then [] else s.l.getLast?.toList)
  else if x.d = 4 then s.l.getLast?.toList else if x.d = 5 then s.l else []
def rateOf (s : St) (x : Op3) : Nat := if x.d = 8 then rt s.h s.m else 0
structure Ok2 (n : Int) (cb : Bool) (s : St) (x : Op3) (y : Oz) : Prop where
  o : y.o = (Lcp.step n s x).2
  r : y.rate = rateOf s x
  g : y.gone.Perm (told cb (goneOf n s x))
  e : x.d ≠ 5 → y.gone = told cb (goneOf n s x)
abbrev stAt (n : Int) (ops : List Op3) (i : Nat) : St := (Lcp.run n ⟨[], 0, 0⟩ (ops.take i)).1
structure Good (n : Int) (cb : Bool) (ops : List Op3) (j : Nat) (os : List Oz) : Prop where
  len : os.length = j
  ok : ∀ (i : Nat) (x : Op3) (y : Oz), ops[i]? = some x → os[i]? = some y → Ok2 n cb (stAt n ops i) x y
structure Ru2 (w0 : World) (n : Int) (cb : Bool) (ops : List Op3) (G L j : Nat) (v10 : Value) (w : World) : Prop where
  ca : ∃ es M, Ca w0.heap.size w L M (ev cb G) n (stAt n ops j).h (stAt n ops j).m es ∧ pl es = (stAt n ops j).l
  out : ∃ os, w.ownsRow w0.heap.size 33 6 v10 os.length (ozs os) ∧ Good n cb ops j os ∧ ∀ y ∈ os, w.ownsRow w0.heap.size 44 2 y.gv y.gone.length (pcs y.gone)
  below : Below w0.heap.size w0 w
  gone : ∃ v, w.heap[G]? = some (.cells #[v] 31 (0, 0))
structure Md2 (w0 W : World) (n : Int) (cb : Bool) (ops : List Op3) (G L p m : Nat) (x : Op3) (hh mm : Int) (l : List (Int × Int)) (v10 : Value) (os : List Oz) (co : Array Value) (v : Value) (gs : List (Int × Int)) : Prop where
  ca : ∃ es M, Ca w0.heap.size W L M (ev cb G) n hh mm es ∧ pl es = l
  out : W.ownsRow w0.heap.size 33 6 v10 m (ozs os)
  rows : ∀ y ∈ os, W.ownsRow w0.heap.size 44 2 y.gv y.gone.length (pcs y.gone)
  ob : ∀ k, v10.ownBlock = some k → k < p
  xb : W.heap[p]? = some (.cells #[.int .i64 x.d, .int .i64 x.k, .int .i64 x.v] 36 (0, 0))
  o : W.heap[p + 1]? = some (.cells co 33 (0, 0))
  gn : Gv w0.heap.size W G v gs
  gp : G < p
  below : Below w0.heap.size w0 W
  pw : w0.heap.size ≤ p
variable {w0 W w1 : World} {n hh mm : Int} {cb : Bool} {ops : List Op3} {G L p m : Nat} {x : Op3} {l : List (Int × Int)} {v10 v : Value} {os : List Oz} {co : Array Value} {gs : List (Int × Int)}
theorem Md2.fz (h : Md2 w0 W n cb ops G L p m x hh mm l v10 os co v gs) {hh' mm' : Int} {l' : List (Int × Int)} {co' : Array Value} {v' : Value} {gs' : List (Int × Int)} (hc : ∃ es M, Ca w0.heap.size w1 L M (ev cb G) n hh' mm' es ∧ pl es = l') (hf : Fz [p + 1, G] w0.heap.size W w1) (ho : w1.heap[p + 1]? = some (.cells co' 33 (0, 0))) (hg : Gv w0.heap.size w1 G v' gs') :
    Md2 w0 w1 n cb ops G L p m x hh' mm' l' v10 os co' v' gs' := by
  have hgp := h.gp
  have nG : ∀ k c t, W.heap[k]? = some (.cells c t (0, 0)) → t ≠ 31 → k ≠ G := fun k c t hk ht e => by rw [e, h.gn.own] at hk; injection hk with hk; injection hk with _ hk _; exact ht hk.symm
  have nP : ∀ k c t, W.heap[k]? = some (.cells c t (0, 0)) → t ≠ 33 → k ≠ p + 1 := fun k c t hk ht e => by rw [e, h.o] at hk; injection hk with hk; injection hk with _ hk _; exact ht hk.symm
  have nn : ∀ {k : Nat}, k ≠ p + 1 → k ≠ G → k ∉ [p + 1, G] := fun h1 h2 => by simp [h1, h2]
  refine ⟨hc, own_heap h.out (fun k hk => ?_), fun y hy => rowKept (h.rows y hy) (fun k c _ hk => hf.plain k _ (nn (nP k c 44 hk (by decide)) (nG k c 44 hk (by decide))) hk (plain44 c)), h.ob, hf.plain p _ (nn (by omega) (by omega)) h.xb (plain36 _), ho, hg, h.gp, ?_, h.pw⟩
  · obtain ⟨c, hc⟩ := own_typed6 h.out hk
    have := h.ob k hk
    rw [hc]
    exact hf.plain k _ (nn (by omega) (nG k c 33 hc (by decide))) hc (plain33 _)
  · have hb := h.below
    exact ⟨hf.os.trans hb.os, hf.tape.trans hb.tape, hf.output.trans hb.output, Nat.le_trans hb.size hf.size, fun k hk => (hf.old k hk).trans (hb.block k hk)⟩
theorem Md2.fr (h : Md2 w0 W n cb ops G L p m x hh mm l v10 os co v gs) {hh' mm' : Int} {l' : List (Int × Int)} (hc : ∃ es M, Ca w0.heap.size w1 L M (ev cb G) n hh' mm' es ∧ pl es = l') (hf : Fr w0.heap.size W w1) :
    Md2 w0 w1 n cb ops G L p m x hh' mm' l' v10 os co v gs := h.fz hc (Fz.of_fr hf) (hf.plain (p + 1) _ h.o (plain33 _)) (h.gn.fr hf)
theorem Md2.fg (h : Md2 w0 W n cb ops G L p m x hh mm l v10 os co v gs) {hh' mm' : Int} {l' : List (Int × Int)} {v' : Value} {gs' : List (Int × Int)} (hc : ∃ es M, Ca w0.heap.size w1 L M (ev cb G) n hh' mm' es ∧ pl es = l') (hf : Fz [G] w0.heap.size W w1) (hg : Gv w0.heap.size w1 G v' gs') :
    Md2 w0 w1 n cb ops G L p m x hh' mm' l' v10 os co v' gs' := h.fz hc (hf.mono (fun x hx => by simp at hx; simp [hx])) (hf.plain (p + 1) _ (by have := h.gp; simp; omega) h.o (plain33 _)) hg
theorem Md2.put (h : Md2 w0 W n cb ops G L p m x hh mm l v10 os co v gs) (j : Nat) (u : Value) : Md2 w0 (W.setCell ⟨p + 1, j, none⟩ u) n cb ops G L p m x hh mm l v10 os (co.setIfInBounds j u) v gs := by
  obtain ⟨es, M, hc, hl⟩ := h.ca
  have hx := Fx.put (B := w0.heap.size) W j u (show w0.heap.size ≤ p + 1 by have := h.pw; omega)
  exact h.fz ⟨es, M, hc.far u h.o (plain33 _), hl⟩ (Fz.of_fx hx (by simp)) (set_same u h.o) (h.gn.fx hx h.o)
/-- the round's end: the entry goes behind all -/
theorem Md2.end_ (y : Oz) (h : Md2 w0 W n cb ops G L p m x hh mm l v10 os (oz y).toArray v gs) (hyv : y.gv = v) (hyg : y.gone = gs) (hs : ∃ A n c, v = .slice A n c) (hm : m = os.length) (hm2 : m ≤ 4000) :
    ∃ g2 cap2 w6, (Builtin.append_ #[24, 24] 24 #[v10, .slice (some ⟨W.heap.size, 0, none⟩) 1 1]).run Try.prog (W.alloc (.cells (oz y).toArray 33)) = .ok (.slice (some ⟨g2, 0, none⟩) (m + 1) cap2) w6 ∧
      w6.ownsRow w0.heap.size 33 6 (.slice (some ⟨g2, 0, none⟩) (m + 1) cap2) (m + 1) (ozs (os ++ [y])) ∧ (∃ es M, Ca w0.heap.size w6 L M (ev cb G) n hh mm es ∧ pl es = l) ∧ (∀ z ∈ os ++ [y], w6.ownsRow w0.heap.size 44 2 z.gv z.gone.length (pcs z.gone)) ∧ Below w0.heap.size w0 w6 ∧ ∃ v, w6.heap[G]? = some (.cells #[v] 31 (0, 0)) := by
  obtain ⟨i, hi0⟩ : ∃ i, Try.prog.info? 33 = some i := by
    cases h : Try.prog.info? 33 with
    | none => have := Lcm.info33; rw [h] at this; cases this
    | some i => exact ⟨i, rfl⟩
  have hinf := Lcm.info33
  rw [hi0] at hinf
  simp only [Option.map_some, Option.some.injEq, Prod.mk.injEq] at hinf
  obtain ⟨hz0, hsz, hbb⟩ := hinf
  have hb1 : Below W.heap.size W (W.alloc (.cells (oz y).toArray 33)) := (Below.refl _ _).alloc (Nat.le_refl _) _
  have hlt : ∀ k, v10.ownBlock = some k → k < W.heap.size := fun k hk => by
    obtain ⟨c, hc⟩ := own_typed6 h.out hk
    exact (Array.getElem?_eq_some_iff.1 hc).1
  have hout : (W.alloc (.cells (oz y).toArray 33)).ownsRow w0.heap.size 33 6 v10 m (ozs os) := own_heap h.out (fun k hk => hb1.block k (hlt k hk))
  obtain ⟨v2, w6, hrun, hown2, hgr, _, hat⟩ := run_append_own_at (P := Try.prog) (W.alloc (.cells (oz y).toArray 33)) w0.heap.size 24 24 33 i (.agg #[.bool false, .int .i64 0, .int .i64 0, .float .f64 0, .bool false, .slice none 0 0]) 6 64 Try.underlying24 hi0 hz0 hsz hbb rfl (by decide) v10 m (ozs os) hout ⟨W.heap.size, 0, none⟩ 1 1 (oz y) rfl (new6 W (oz y) 33) (oz_one y (by rw [hyv]; exact hs)) (by unfold maxLen; omega) (by omega) (by have := h.below.size; have := hb1.size; omega)
  obtain ⟨g2, cap2, rfl⟩ : ∃ g2 cap2, v2 = .slice (some ⟨g2, 0, none⟩) (m + 1) cap2 := by
    rcases hown2.2 with ⟨_, h0⟩ | ⟨g2, cap2, _, hv2, _⟩
    · omega
    · exact ⟨g2, cap2, hv2⟩
  have hkeep : ∀ (k : Nat) (o : Obj), W.heap[k]? = some o → (∀ c, o ≠ .cells c 33 (0, 0)) → w6.heap[k]? = some o := fun k o hk hno => by
    have h1 := (hb1.block k (Array.getElem?_eq_some_iff.1 hk).1).trans hk
    refine (hgr.block k (Array.getElem?_eq_some_iff.1 h1).1 (fun e => ?_)).trans h1
    obtain ⟨c, hc⟩ := own_typed6 h.out e.symm
    rw [hk] at hc
    exact hno c (Option.some.inj hc)
  obtain ⟨es, M, hc, hl⟩ := h.ca
  refine ⟨g2, cap2, w6, hrun, ?_, ⟨es, M, ?_, hl⟩, fun z hz => ?_, ?_, v, hkeep G _ h.gn.own (fun c e => (by cases e))⟩
  · have : ozs (os ++ [y]) = ozs os ++ oz y := by unfold ozs; rw [List.flatMap_append]; simp
    rw [this]; exact hown2
  · obtain ⟨D, ⟨q0, q1, hM, _⟩, _⟩ := hc.mp
    refine ⟨⟨hkeep L _ hc.ls.own (fun c e => (by cases e)), hc.ls.seg.kept (fun e he => ?_), hc.ls.nd⟩, hc.mp.of_heap ((hkeep M _ hM (fun c e => (by cases e))).trans hM.symm), hc.nk, hc.wk, hc.bL, hc.bM, hc.bs⟩
    obtain ⟨q, z, hq⟩ := hc.ls.seg.at_ e he
    rw [hq]
    exact hkeep _ _ hq (fun c e => (by cases e))
  · have hrow : W.ownsRow w0.heap.size 44 2 z.gv z.gone.length (pcs z.gone) := by
      rcases List.mem_append.1 hz with hz | hz
      · exact h.rows z hz
      · obtain rfl : z = y := by simpa using hz
        rw [hyv, hyg]; exact h.gn.row
    exact rowKept hrow (fun k c _ hk => hkeep k _ hk (fun c e => (by cases e)))
  · have hb := h.below
    have hbase := hb.size
    refine ⟨hgr.os.trans hb.os, hgr.tape.trans hb.tape, hgr.output.trans hb.output, Nat.le_trans hb.size (Nat.le_trans hb1.size hgr.size), fun k hk => ?_⟩
    refine (hgr.block k (by have := hb1.size; omega) (fun e => ?_)).trans ((hb1.block k (by omega)).trans (hb.block k hk))
    rcases h.out.2 with ⟨rfl, _⟩ | ⟨g, _, _, rfl, hg, _⟩
    · cases e
    · injection e with e; simp only at e; omega
theorem Ru2.start {j : Nat} {wr : World} {x : Op3} (h : Ru2 w0 n cb ops G L j v10 wr) (hG : w0.heap.size ≤ G) :
    ∃ os, Good n cb ops j os ∧ Md2 w0 (((wr.setCell ⟨G, 0, none⟩ (.slice none 0 0)).alloc (.cells #[.int .i64 x.d, .int .i64 x.k, .int .i64 x.v] 36)).alloc (.cells #[.bool false, .int .i64 0, .int .i64 0, .float .f64 0, .bool false, .slice none 0 0] 33)) n cb ops G L wr.heap.size os.length x
      (stAt n ops j).h (stAt n ops j).m (stAt n ops j).l v10 os #[.bool false, .int .i64 0, .int .i64 0, .float .f64 0, .bool false, .slice none 0 0] nil31 [] := by
  obtain ⟨es, M, hc, hl⟩ := h.ca
  obtain ⟨os, ho, hos, hrows⟩ := h.out
  obtain ⟨vg, hgone⟩ := h.gone
  have hb := h.below
  have hGlt : G < wr.heap.size := (Array.getElem?_eq_some_iff.1 hgone).1
  have h1 := hc.far (j := 0) (.slice none 0 0) hgone (plain31 _)
  have f1 : Fx G w0.heap.size wr (wr.setCell ⟨G, 0, none⟩ (.slice none 0 0)) := Fx.put wr 0 _ hG
  obtain ⟨w1, hw1⟩ : ∃ w1, wr.setCell ⟨G, 0, none⟩ (.slice none 0 0) = w1 := ⟨_, rfl⟩
  have hs1 : w1.heap.size = wr.heap.size := by rw [← hw1]; simp [World.setCell]
  have hg1 : w1.heap[G]? = some (.cells #[.slice none 0 0] 31 (0, 0)) := by rw [← hw1]; exact (set_same _ hgone).trans rfl
  rw [hw1] at h1 f1 ⊢
  have keep : ∀ (k : Nat) (o : Obj), w1.heap[k]? = some o → ((w1.alloc (.cells #[.int .i64 x.d, .int .i64 x.k, .int .i64 x.v] 36)).alloc (.cells #[.bool false, .int .i64 0, .int .i64 0, .float .f64 0, .bool false, .slice none 0 0] 33)).heap[k]? = some o := fun k o hk => by
    have hlt := (Array.getElem?_eq_some_iff.1 hk).1
    exact (Below.heap_alloc _ _ k (by simp; omega)).trans ((Below.heap_alloc _ _ k hlt).trans hk)
  have olt : ∀ k, v10.ownBlock = some k → k < wr.heap.size := fun k hk => by
    obtain ⟨c, hc⟩ := own_typed6 ho hk
    exact (Array.getElem?_eq_some_iff.1 hc).1
  have nG : ∀ k c t, wr.heap[k]? = some (.cells c t (0, 0)) → t ≠ 31 → k ≠ G := fun k c t hk ht e => by rw [e, hgone] at hk; injection hk with hk; injection hk with _ hk _; exact ht hk.symm
  refine ⟨os, hos, ⟨es, M, (h1.born _).born _, hl⟩, own_heap ho (fun k hk => ?_), fun y hy => rowKept (hrows y hy) (fun k c _ hk => keep k _ (f1.plain k _ (nG k c 44 hk (by decide)) hk (plain44 c))), olt, ?_, ?_, ⟨keep _ _ hg1, ⟨rfl, .inl ⟨rfl, rfl⟩⟩, hG⟩, hGlt, ?_, hb.size⟩
  · obtain ⟨c, hc⟩ := own_typed6 ho hk
    rw [hc]
    exact keep k _ (f1.plain k _ (nG k c 33 hc (by decide)) hc (plain33 _))
  · rw [← hs1]
    exact (Below.heap_alloc _ _ _ (by simp)).trans (heap_alloc_new w1 _)
  · have := heap_alloc_new (w1.alloc (.cells #[.int .i64 x.d, .int .i64 x.k, .int .i64 x.v] 36)) (.cells #[.bool false, .int .i64 0, .int .i64 0, .float .f64 0, .bool false, .slice none 0 0] 33)
    rw [← hs1]
    simpa using this
  · have b1 : Below w0.heap.size w0 w1 := ⟨f1.os.trans hb.os, f1.tape.trans hb.tape, f1.output.trans hb.output, Nat.le_trans hb.size f1.size, fun k hk => (f1.old k hk).trans (hb.block k hk)⟩
    exact (b1.alloc b1.size _).alloc (by have := b1.size; simp; omega) _
theorem Good.next {j : Nat} {y : Oz} (h : Good n cb ops j os) (hx : ops[j]? = some x) (hy : Ok2 n cb (stAt n ops j) x y) : Good n cb ops (j + 1) (os ++ [y]) := by
  refine ⟨by rw [List.length_append, h.len]; rfl, fun i x' y' hx' hy' => ?_⟩
  by_cases hi : i < os.length
  · rw [List.getElem?_append_left hi] at hy'
    exact h.ok i x' y' hx' hy'
  · rw [List.getElem?_append_right (by omega)] at hy'
    have h0 : i - os.length = 0 := by
      have := (List.getElem?_eq_some_iff.1 hy').1
      simp at this; omega
    rw [h0] at hy'
    obtain rfl : i = j := by have := h.len; omega
    rw [hx] at hx'
    cases hx'
    cases hy'
    exact hy
theorem Ru2.next {j : Nat} {w6 : World} {y : Oz} {v : Value} (hx : ops[j]? = some x) (hos : Good n cb ops j os) (hy : Ok2 n cb (stAt n ops j) x y)
    (hst : (Lcp.step n (stAt n ops j) x).1 = ⟨l, hh, mm⟩) (hown : w6.ownsRow w0.heap.size 33 6 v (os.length + 1) (ozs (os ++ [y]))) (hc : ∃ es M, Ca w0.heap.size w6 L M (ev cb G) n hh mm es ∧ pl es = l) (hrows : ∀ z ∈ os ++ [y], w6.ownsRow w0.heap.size 44 2 z.gv z.gone.length (pcs z.gone)) (hb : Below w0.heap.size w0 w6) (hg : ∃ v, w6.heap[G]? = some (.cells #[v] 31 (0, 0))) : Ru2 w0 n cb ops G L (j + 1) v w6 := by
  have ht : ops.take (j + 1) = ops.take j ++ [x] := by rw [List.take_add_one, hx]; rfl
  have hr : stAt n ops (j + 1) = ⟨l, hh, mm⟩ := by
    show (Lcp.run n ⟨[], 0, 0⟩ (ops.take (j + 1))).1 = _
    rw [ht, run_snoc]; exact hst
  exact ⟨by rw [hr]; exact hc, ⟨os ++ [y], by rw [List.length_append]; exact hown, hos.next hx hy, hrows⟩, hb, hg⟩
end Go.Proofs.Ytjhmcpdnmfhodaa.Lef
end

section
/- Each call of the cache, as the script's step tells it, with or without a callback. -/
namespace Go.Proofs.Ytjhmcpdnmfhodaa.Leg
open Go Go.Maps Go.ChangeMaps Go.MapKept Go.RowKit Go.Proofs.YtjhmcpdnmfhodaaW.PrintWords Ll Lra Lrc Lrw Lrx Lrz Lcp Mp Spm Lea Leb Lec Lee Lef Flt

theorem slG {B : Nat} {w : World} {G : Nat} {v : Value} {gs : List (Int × Int)} (h : Gv B w G v gs) : ∃ A n c, v = .slice A n c := by
  rcases row_cases h.row with ⟨h1, _⟩ | ⟨g, c, h1⟩
  · exact ⟨_, _, _, h1⟩
  · exact ⟨_, _, _, h1⟩
theorem slN : ∃ A n c, nil31 = .slice A n c := ⟨_, _, _, rfl⟩
theorem told_nil (cb : Bool) : told cb [] = [] := by cases cb <;> rfl
theorem last_pl (xs : List En) (e : En) : (pl (xs ++ [e])).getLast? = some (e.k, e.v) := by
  have : pl (xs ++ [e]) = pl xs ++ [(e.k, e.v)] := by unfold pl; rw [List.map_append]; rfl
  rw [this, List.getLast?_concat]
variable {w0 W : World} {n hh mm : Int} {cb : Bool} {ops : List Op3} {G L p m : Nat} {x : Op3} {l : List (Int × Int)} {v10 : Value} {os : List Oz} {co : Array Value}
theorem gone_hit {y : Int} (hd : x.d = 0 ∨ x.d = 2) (hf : find l x.k = some y) : goneOf n ⟨l, hh, mm⟩ x = [] := by
  unfold goneOf; rw [if_pos hd]; simp only [hf]
theorem gone_lt (hd : x.d = 0 ∨ x.d = 2) (hf : find l x.k = none) (hlt : (l.length : Int) < n) : goneOf n ⟨l, hh, mm⟩ x = [] := by
  unfold goneOf; rw [if_pos hd]; simp only [hf]; rw [if_pos hlt]
theorem gone_ge (hd : x.d = 0 ∨ x.d = 2) (hf : find l x.k = none) (hge : n ≤ (l.length : Int)) : goneOf n ⟨l, hh, mm⟩ x = l.getLast?.toList := by
  unfold goneOf; rw [if_pos hd]; simp only [hf]; rw [if_neg (by omega)]
theorem gone_other (hd : x.d = 1 ∨ x.d = 3 ∨ x.d = 6 ∨ x.d = 7 ∨ x.d = 8) (s : St) : goneOf n s x = [] := by
  unfold goneOf; rw [if_neg (by omega), if_neg (by omega), if_neg (by omega)]
theorem cAdd (h : Md2 w0 W n cb ops G L p m x hh mm l v10 os co nil31 []) (hd : x.d = 0) (h0 : 0 < n) (hk : In64 x.k) (hl : l.length ≤ 100000) :
    Calls Try.prog 14 #[.pointer (some ⟨L, 0, none⟩), .int .i64 x.k, .int .i64 x.v] W fun r w1 => ∃ b l' A q c gs, r = .returned (.bool b) ∧ Lcp.step n ⟨l, hh, mm⟩ x = (⟨l', hh, mm⟩, ⟨b, 0, 0, false⟩) ∧ gs = told cb (goneOf n ⟨l, hh, mm⟩ x) ∧ Md2 w0 w1 n cb ops G L p m x hh mm l' v10 os co (.slice A q c) gs := by
  obtain ⟨es, M, hc, rfl⟩ := h.ca
  rw [pl_len] at hl
  refine (Lec.add (v := x.v) cb hc h.gn h.below.size hk h0 (by omega)).mono ?_
  rintro r w1 (⟨xs, e, ys, rfl, he, rfl, hc1, hf⟩ | ⟨hno, hlt, rfl, b, hc1, hf⟩ | ⟨hno, hge, rfl, xs, e, b, rfl, hc1, ⟨v', hg1⟩, hf⟩)
  · have hfd : find (pl (xs ++ e :: ys)) x.k = some e.v := by rw [← he]; exact find_split_ hc.nk
    refine ⟨false, _, _, _, _, _, rfl, ?_, by rw [gone_hit (.inl hd) hfd, told_nil], h.fr ⟨_, M, hc1, rfl⟩ hf⟩
    unfold Lcp.step
    rw [if_pos hd, ← he, find_split_ hc.nk, pl_cons, but_split hc.nk]
    rw [he]; rfl
  · refine ⟨false, _, _, _, _, _, rfl, ?_, by rw [gone_lt (.inl hd) (find_none_ hno) (by rw [pl_len]; exact hlt), told_nil], h.fr ⟨_, M, hc1, rfl⟩ hf⟩
    unfold Lcp.step
    rw [if_pos hd, find_none_ hno, pl_cons, pl_len]
    simp only [ins_lt hlt, decide_eq_false (show ¬ n ≤ (es.length : Int) by omega)]
  · obtain ⟨A, q, c, rfl⟩ := slG hg1
    refine ⟨true, _, _, _, _, _, rfl, ?_, by rw [gone_ge (.inl hd) (find_none_ hno) (by rw [pl_len]; exact hge), last_pl]; rfl, h.fg ⟨_, M, hc1, rfl⟩ hf hg1⟩
    unfold Lcp.step
    rw [if_pos hd, find_none_ hno, pl_cons, pl_len]
    simp only [ins_ge hge, decide_eq_true hge]
theorem cGet (h : Md2 w0 W n cb ops G L p m x hh mm l v10 os co nil31 []) (hd : x.d = 1) (h0 : 0 < n) (hk : In64 x.k) :
    Calls Try.prog 15 #[.pointer (some ⟨L, 0, none⟩), .int .i64 x.k] W fun r w1 => ∃ v b l' h' m', r = .returned (.tuple #[.int .i64 v, .bool b]) ∧ Lcp.step n ⟨l, hh, mm⟩ x = (⟨l', h', m'⟩, ⟨b, 0, v, false⟩) ∧ Md2 w0 w1 n cb ops G L p m x h' m' l' v10 os co nil31 [] := by
  obtain ⟨es, M, hc, rfl⟩ := h.ca
  refine (get hc hk h0).mono ?_
  rintro r w1 (⟨hno, rfl, hc1, hf⟩ | ⟨xs, e, ys, rfl, he, rfl, hc1, hf⟩)
  · refine ⟨0, false, _, _, _, rfl, ?_, h.fr ⟨_, M, hc1, rfl⟩ hf⟩
    unfold Lcp.step
    rw [if_neg (by omega), if_pos hd, find_none_ hno]; rfl
  · refine ⟨e.v, true, _, _, _, rfl, ?_, h.fr ⟨_, M, hc1, rfl⟩ hf⟩
    unfold Lcp.step
    rw [if_neg (by omega), if_pos hd, ← he, find_split_ hc.nk, pl_cons, but_split hc.nk]
theorem cOr (h : Md2 w0 W n cb ops G L p m x hh mm l v10 os co nil31 []) (hd : x.d = 2) (h0 : 0 < n) (hk : In64 x.k) (hl : l.length ≤ 100000) (h4 : 4 < co.size) (hq : co[4]? = some (.bool false)) :
    Calls Try.prog 16 #[.pointer (some ⟨L, 0, none⟩), .int .i64 x.k, .func (.func 17) #[] #[.pointer (some ⟨p + 1, 0, none⟩), .pointer (some ⟨p, 0, none⟩)]] W fun r w1 => ∃ v b l' h' m' A q c gs, r = .returned (.int .i64 v) ∧ Lcp.step n ⟨l, hh, mm⟩ x = (⟨l', h', m'⟩, ⟨false, 0, v, b⟩) ∧ gs = told cb (goneOf n ⟨l, hh, mm⟩ x) ∧ Md2 w0 w1 n cb ops G L p m x h' m' l' v10 os (co.setIfInBounds 4 (.bool b)) (.slice A q c) gs := by
  obtain ⟨es, M, hc, rfl⟩ := h.ca
  rw [pl_len] at hl
  have hpw := h.pw
  refine (Lec.getOr (v := x.v) cb hc h.gn h.below.size hk h0 (by omega) h.o h.xb h4 rfl (by omega)).mono ?_
  rintro r w1 (⟨xs, e, ys, rfl, he, rfl, hc1, hf⟩ | ⟨hno, rfl, hf, ho, hcase⟩)
  · have hset : co.setIfInBounds 4 (.bool false) = co := by
      apply Array.ext_getElem?
      intro i
      rw [Array.getElem?_setIfInBounds]
      split
      · rename_i hi; subst hi; exact hq.symm
      · rfl
    have hfd : find (pl (xs ++ e :: ys)) x.k = some e.v := by rw [← he]; exact find_split_ hc.nk
    refine ⟨e.v, false, pl (e :: (xs ++ ys)), wrap64 (hh + 1), mm, _, _, _, _, rfl, ?_, by rw [gone_hit (.inr hd) hfd, told_nil], by rw [hset]; exact h.fr ⟨_, M, hc1, rfl⟩ hf⟩
    unfold Lcp.step
    rw [if_neg (by omega), if_neg (by omega), if_pos hd, ← he, find_split_ hc.nk, pl_cons, but_split hc.nk]
  · rcases hcase with ⟨hlt, hg1, b, hc1⟩ | ⟨hge, xs, e, b, rfl, ⟨v', hg1⟩, hc1⟩
    · refine ⟨x.v, true, _, _, _, _, _, _, _, rfl, ?_, by rw [gone_lt (.inr hd) (find_none_ hno) (by rw [pl_len]; exact hlt), told_nil], h.fz ⟨_, M, hc1, rfl⟩ hf ho hg1⟩
      unfold Lcp.step
      rw [if_neg (by omega), if_neg (by omega), if_pos hd, find_none_ hno, pl_cons]
      simp only [ins_lt hlt]
    · obtain ⟨A, q, c, rfl⟩ := slG hg1
      refine ⟨x.v, true, _, _, _, _, _, _, _, rfl, ?_, by rw [gone_ge (.inr hd) (find_none_ hno) (by rw [pl_len]; exact hge), last_pl]; rfl, h.fz ⟨_, M, hc1, rfl⟩ hf ho hg1⟩
      unfold Lcp.step
      rw [if_neg (by omega), if_neg (by omega), if_pos hd, find_none_ hno, pl_cons]
      simp only [ins_ge hge]
theorem cRemove (h : Md2 w0 W n cb ops G L p m x hh mm l v10 os co nil31 []) (hd : x.d = 3) (h0 : 0 < n) (hk : In64 x.k) :
    Calls Try.prog 18 #[.pointer (some ⟨L, 0, none⟩), .int .i64 x.k] W fun r w1 => ∃ b l', r = .returned (.bool b) ∧ Lcp.step n ⟨l, hh, mm⟩ x = (⟨l', hh, mm⟩, ⟨b, 0, 0, false⟩) ∧ Md2 w0 w1 n cb ops G L p m x hh mm l' v10 os co nil31 [] := by
  obtain ⟨es, M, hc, rfl⟩ := h.ca
  refine (remove hc hk h0).mono ?_
  rintro r w1 (⟨hno, rfl, rfl⟩ | ⟨xs, e, ys, rfl, he, rfl, hc1, hf⟩)
  · refine ⟨false, _, rfl, ?_, h⟩
    unfold Lcp.step
    rw [if_neg (by omega), if_neg (by omega), if_neg (by omega), if_pos hd, find_none_ hno]; rfl
  · refine ⟨true, _, rfl, ?_, h.fr ⟨_, M, hc1, rfl⟩ hf⟩
    unfold Lcp.step
    rw [if_neg (by omega), if_neg (by omega), if_neg (by omega), if_pos hd, ← he, find_split_ hc.nk, but_split hc.nk]
theorem cOldest (h : Md2 w0 W n cb ops G L p m x hh mm l v10 os co nil31 []) (hd : x.d = 4) (h0 : 0 < n) :
    Calls Try.prog 19 #[.pointer (some ⟨L, 0, none⟩)] W fun r w1 => ∃ k v b l' A q c gs, r = .returned (.tuple #[.int .i64 k, .int .i64 v, .bool b]) ∧ Lcp.step n ⟨l, hh, mm⟩ x = (⟨l', hh, mm⟩, ⟨b, k, v, false⟩) ∧ gs = told cb (goneOf n ⟨l, hh, mm⟩ x) ∧ Md2 w0 w1 n cb ops G L p m x hh mm l' v10 os co (.slice A q c) gs := by
  obtain ⟨es, M, hc, rfl⟩ := h.ca
  have hg : goneOf n ⟨pl es, hh, mm⟩ x = (pl es).getLast?.toList := by unfold goneOf; rw [if_neg (by omega), if_pos hd]
  refine (Lec.oldest cb hc h.gn h0).mono ?_
  rintro r w1 (⟨rfl, rfl, rfl⟩ | ⟨xs, e, rfl, rfl, hc1, ⟨v', hg1⟩, hf⟩)
  · refine ⟨0, 0, false, _, _, _, _, _, rfl, ?_, by rw [hg]; exact (told_nil cb).symm, h⟩
    unfold Lcp.step
    rw [if_neg (by omega), if_neg (by omega), if_neg (by omega), if_neg (by omega), if_pos hd]; rfl
  · obtain ⟨A, q, c, rfl⟩ := slG hg1
    refine ⟨e.k, e.v, true, _, _, _, _, _, rfl, ?_, by rw [hg, last_pl]; rfl, h.fg ⟨_, M, hc1, rfl⟩ hf hg1⟩
    unfold Lcp.step
    have : pl (xs ++ [e]) = pl xs ++ [(e.k, e.v)] := by unfold pl; rw [List.map_append]; rfl
    rw [if_neg (by omega), if_neg (by omega), if_neg (by omega), if_neg (by omega), if_pos hd]
    simp only [this, List.getLast?_concat, List.dropLast_concat]
theorem cPurge (h : Md2 w0 W n cb ops G L p m x hh mm l v10 os co nil31 []) (hd : x.d = 5) (h0 : 0 < n) (h1 : n ≤ 100000) (hl : l.length ≤ 100000) :
    Calls Try.prog 20 #[.pointer (some ⟨L, 0, none⟩)] W fun r w1 => r = .returned (.tuple #[]) ∧ Lcp.step n ⟨l, hh, mm⟩ x = (⟨[], 0, 0⟩, o0) ∧ ∃ A q c gs, gs.Perm (told cb (goneOf n ⟨l, hh, mm⟩ x)) ∧ Md2 w0 w1 n cb ops G L p m x 0 0 [] v10 os co (.slice A q c) gs := by
  obtain ⟨es, M, hc, rfl⟩ := h.ca
  rw [pl_len] at hl
  have hg : goneOf n ⟨pl es, hh, mm⟩ x = pl es := by unfold goneOf; rw [if_neg (by omega), if_neg (by omega), if_pos hd]
  refine (purge2 cb hc h.gn h0 h1 h.below.size hl).mono ?_
  rintro r w1 ⟨rfl, M', gs, v', hc1, hg1, hp, hf⟩
  obtain ⟨A, q, c, rfl⟩ := slG hg1
  refine ⟨rfl, ?_, A, q, c, gs, by rw [hg]; exact hp, h.fg ⟨[], M', hc1, rfl⟩ hf hg1⟩
  unfold Lcp.step
  rw [if_neg (by omega), if_neg (by omega), if_neg (by omega), if_neg (by omega), if_neg (by omega), if_pos hd]
theorem cLen (h : Md2 w0 W n cb ops G L p m x hh mm l v10 os co nil31 []) (hd : x.d = 6) (h0 : 0 < n) :
    Calls Try.prog 21 #[.pointer (some ⟨L, 0, none⟩)] W fun r w1 => ∃ v, r = .returned (.int .i64 v) ∧ Lcp.step n ⟨l, hh, mm⟩ x = (⟨l, hh, mm⟩, ⟨false, 0, v, false⟩) ∧ Md2 w0 w1 n cb ops G L p m x hh mm l v10 os co nil31 [] := by
  obtain ⟨es, M, hc, rfl⟩ := h.ca
  refine (len hc h0).mono ?_
  rintro r w1 ⟨rfl, rfl⟩
  refine ⟨_, rfl, ?_, h⟩
  unfold Lcp.step
  rw [if_neg (by omega), if_neg (by omega), if_neg (by omega), if_neg (by omega), if_neg (by omega), if_neg (by omega), if_pos hd, pl_len]
theorem cCap (h : Md2 w0 W n cb ops G L p m x hh mm l v10 os co nil31 []) (hd : x.d = 7) :
    Calls Try.prog 22 #[.pointer (some ⟨L, 0, none⟩)] W fun r w1 => ∃ v, r = .returned (.int .i64 v) ∧ Lcp.step n ⟨l, hh, mm⟩ x = (⟨l, hh, mm⟩, ⟨false, 0, v, false⟩) ∧ Md2 w0 w1 n cb ops G L p m x hh mm l v10 os co nil31 [] := by
  obtain ⟨es, M, hc, rfl⟩ := h.ca
  refine (cap hc).mono ?_
  rintro r w1 ⟨rfl, rfl⟩
  refine ⟨_, rfl, ?_, h⟩
  unfold Lcp.step
  rw [if_neg (by omega), if_neg (by omega), if_neg (by omega), if_neg (by omega), if_neg (by omega), if_neg (by omega), if_neg (by omega), if_pos hd]
theorem cRate (h : Md2 w0 W n cb ops G L p m x hh mm l v10 os co nil31 []) (hd : x.d = 8) (h0 : 0 ≤ hh) (m0 : 0 ≤ mm) (hb : hh + mm ≤ 4000) :
    Calls Try.prog 23 #[.pointer (some ⟨L, 0, none⟩)] W fun r w1 => r = .returned (.float .f64 (rt hh mm)) ∧ Lcp.step n ⟨l, hh, mm⟩ x = (⟨l, hh, mm⟩, o0) ∧ Md2 w0 w1 n cb ops G L p m x hh mm l v10 os co nil31 [] := by
  obtain ⟨es, M, hc, rfl⟩ := h.ca
  refine (hitRate2 hc h0 m0 hb).mono ?_
  rintro r w1 ⟨rfl, rfl⟩
  refine ⟨rfl, ?_, h⟩
  unfold Lcp.step
  rw [if_neg (by omega), if_neg (by omega), if_neg (by omega), if_neg (by omega), if_neg (by omega), if_neg (by omega), if_neg (by omega), if_neg (by omega)]
/-- hits and misses are few -/
theorem step_hm (n : Int) (s : St) (x : Op3) (h0 : 0 ≤ s.h) (m0 : 0 ≤ s.m) (hb : s.h + s.m ≤ 100000) : 0 ≤ (Lcp.step n s x).1.h ∧ 0 ≤ (Lcp.step n s x).1.m ∧ (Lcp.step n s x).1.h + (Lcp.step n s x).1.m ≤ s.h + s.m + 1 := by
  have e1 : wrap64 (s.h + 1) = s.h + 1 := by unfold wrap64; omega
  have e2 : wrap64 (s.m + 1) = s.m + 1 := by unfold wrap64; omega
  unfold Lcp.step
  repeat' split
  all_goals (simp only [e1, e2]; omega)
theorem stAt_hm (n : Int) (ops : List Op3) (hl : ops.length ≤ 2000) : ∀ i, i ≤ ops.length → 0 ≤ (stAt n ops i).h ∧ 0 ≤ (stAt n ops i).m ∧ (stAt n ops i).h + (stAt n ops i).m ≤ i
  | 0, _ => by
    show 0 ≤ (Lcp.run n ⟨[], 0, 0⟩ (ops.take 0)).1.h ∧ 0 ≤ (Lcp.run n ⟨[], 0, 0⟩ (ops.take 0)).1.m ∧ (Lcp.run n ⟨[], 0, 0⟩ (ops.take 0)).1.h + (Lcp.run n ⟨[], 0, 0⟩ (ops.take 0)).1.m ≤ _
    rw [List.take_zero]
    exact ⟨Int.le_refl _, Int.le_refl _, Int.le_refl _⟩
  | i + 1, h => by
    obtain ⟨a1, a2, a3⟩ := stAt_hm n ops hl i (by omega)
    obtain ⟨x, hx⟩ : ∃ x, ops[i]? = some x := ⟨_, List.getElem?_eq_getElem (by omega)⟩
    have ht : ops.take (i + 1) = ops.take i ++ [x] := by rw [List.take_add_one, hx]; rfl
    have hr : stAt n ops (i + 1) = (Lcp.step n (stAt n ops i) x).1 := by
      show (Lcp.run n ⟨[], 0, 0⟩ (ops.take (i + 1))).1 = _
      rw [ht, run_snoc]
    rw [hr]
    have := step_hm n (stAt n ops i) x a1 a2 (by omega)
    refine ⟨this.1, this.2.1, ?_⟩
    have h3 := this.2.2
    push_cast
    omega
end Go.Proofs.Ytjhmcpdnmfhodaa.Leg
end

section
/- What CacheRun's walks need: the start, a round's results. -/
namespace Go.Proofs.Ytjhmcpdnmfhodaa.Lej
open Go Go.Maps Go.ChangeMaps Go.MapKept Go.RowKit Go.Proofs.YtjhmcpdnmfhodaaW.PrintWords Ll Lra Lrc Lrw Lrx Lrz Lcp Mp Spm Lea Leb Lec Lee Lef Leg Flt
open Go.Proofs.Ytjhmcpdnmfhodaa.GCfBody (S36)
open Ccm (toOp)

/-- what CacheRun gives -/
def Post (w : World) (n : Int) (cb : Bool) (l : List S36) : Ending → World → Prop := fun r w' =>
  ∃ v os, r = .returned (.tuple #[v, .bool true]) ∧ w'.ownsRow w.heap.size 33 6 v os.length (ozs os) ∧ Lef.Good (cut n) cb (l.map toOp) l.length os ∧ (∀ y ∈ os, w'.ownsRow w.heap.size 44 2 y.gv y.gone.length (pcs y.gone)) ∧ Below w.heap.size w w'
variable {w0 W w1 : World} {n hh mm : Int} {cb : Bool} {ops : List Op3} {G L p m : Nat} {x : Op3} {l : List (Int × Int)} {v10 v : Value} {os : List Oz} {co : Array Value} {gs : List (Int × Int)}
theorem tail (h : Md2 w0 W n cb ops G L p m x hh mm l v10 os co v gs) : W.cell? ⟨G, 0, none⟩ = some v ∧ (∀ j, W.cell? ⟨p + 1, j, none⟩ = co[j]?) ∧ (∀ j, W.frozen? ⟨p + 1, j, none⟩ = false) :=
  ⟨by rw [Lib.cell_of_heap h.gn.own]; rfl, fun j => by rw [Lib.cell_of_heap h.o], fun j => by rw [Lib.frozen_of_heap h.o]⟩
theorem rate0 {s : St} (h : x.d ≠ 8) : rateOf s x = 0 := if_neg h
theorem okE {s s' : St} {o : O4} {rate : Nat} {gv : Value} (hst : Lcp.step n s x = (s', o)) (hr : rate = rateOf s x) (hg : gs = told cb (goneOf n s x)) : Ok2 n cb s x ⟨o, rate, gs, gv⟩ :=
  ⟨by rw [hst], hr, by rw [hg], fun _ => hg⟩
theorem okP {s s' : St} {o : O4} {rate : Nat} {gv : Value} (hd : x.d = 5) (hst : Lcp.step n s x = (s', o)) (hr : rate = rateOf s x) (hg : gs.Perm (told cb (goneOf n s x))) : Ok2 n cb s x ⟨o, rate, gs, gv⟩ :=
  ⟨by rw [hst], hr, hg, fun h => absurd hd h⟩
theorem start {w V : World} (hc : ∃ M, Ca w.heap.size V L M (ev cb w.heap.size) n 0 0 []) (hb : Below w.heap.size w V) (hg : V.heap[w.heap.size]? = some (.cells #[.slice none 0 0] 31 (0, 0))) (hs : w.heap.size ≤ V.heap.size) :
    Ru2 w n cb ops w.heap.size L 0 (.slice (some ⟨V.heap.size, 0, none⟩) 0 0) (V.alloc (.cells #[] 33)) := by
  obtain ⟨M, hC⟩ := hc
  refine ⟨⟨[], M, hC.born _, rfl⟩, ⟨[], ⟨rfl, .inr ⟨V.heap.size, 0, #[], rfl, hs, heap_alloc_new V _, Nat.le_refl _, by decide, rfl, rfl⟩⟩, ⟨rfl, fun i x y _ hy => by simp at hy⟩, by simp⟩, hb.alloc hs _, _, (Below.heap_alloc _ _ _ (Array.getElem?_eq_some_iff.1 hg).1).trans hg⟩
theorem startF {w : World} (N : Int) (ops : List Op3) (W0 : World) (hz : W0.heap.size = w.heap.size + 1) (hb : Below w.heap.size w W0) (hg : W0.heap[w.heap.size]? = some (.cells #[.slice none 0 0] 31 (0, 0))) :
    Ru2 w N false ops w.heap.size (w.heap.size + 1 + 1) 0 (.slice (some ⟨w.heap.size + 1 + 1 + 1, 0, none⟩) 0 0) (((W0.alloc (.map #[] 0)).alloc (.cells (lc N (.map (some (w.heap.size + 1))) .nilFunc 0 0 nil nil) 64)).alloc (.cells #[] 33)) := by
  have hC := made2 (B := w.heap.size) W0 N (ev false w.heap.size) (by omega)
  rw [hz] at hC
  have hb1 := hb.alloc (by omega) (.map #[] 0)
  have hb2 := hb1.alloc (by simp; omega) (.cells (lc N (.map (some (w.heap.size + 1))) .nilFunc 0 0 nil nil) 64)
  have h := start (n := N) (ops := ops) (cb := false) ⟨_, hC⟩ hb2 ((Below.heap_alloc _ _ _ (by simp; omega)).trans ((Below.heap_alloc _ _ _ (by omega)).trans hg)) (by simp; omega)
  have hs : ((W0.alloc (.map #[] 0)).alloc (.cells (lc N (.map (some (w.heap.size + 1))) (ev false w.heap.size) 0 0 nil nil) 64)).heap.size = w.heap.size + 1 + 1 + 1 := by simp [hz]
  rw [hs] at h
  exact h
theorem startT {w : World} (N : Int) (ops : List Op3) (W0 : World) (hz : W0.heap.size = w.heap.size + 1) (hb : Below w.heap.size w W0) (hg : W0.heap[w.heap.size]? = some (.cells #[.slice none 0 0] 31 (0, 0))) :
    Ru2 w N true ops w.heap.size (w.heap.size + 1 + 1 + 1 + 1) 0 (.slice (some ⟨w.heap.size + 1 + 1 + 1 + 1 + 1, 0, none⟩) 0 0) (((((W0.alloc (.map #[] 0)).alloc (.cells (lc N (.map (some (w.heap.size + 1))) .nilFunc 0 0 nil nil) 64)).alloc (.map #[] 0)).alloc (.cells (lc N (.map (some (w.heap.size + 1 + 1 + 1))) (cbv w.heap.size) 0 0 nil nil) 64)).alloc (.cells #[] 33)) := by
  have hb1 := hb.alloc (by omega) (.map #[] 0)
  have hb2 := hb1.alloc (by simp; omega) (.cells (lc N (.map (some (w.heap.size + 1))) .nilFunc 0 0 nil nil) 64)
  have hg2 : ((W0.alloc (.map #[] 0)).alloc (.cells (lc N (.map (some (w.heap.size + 1))) .nilFunc 0 0 nil nil) 64)).heap[w.heap.size]? = some (.cells #[.slice none 0 0] 31 (0, 0)) := (Below.heap_alloc _ _ _ (by simp; omega)).trans ((Below.heap_alloc _ _ _ (by omega)).trans hg)
  have hz2 : ((W0.alloc (.map #[] 0)).alloc (.cells (lc N (.map (some (w.heap.size + 1))) .nilFunc 0 0 nil nil) 64)).heap.size = w.heap.size + 1 + 1 + 1 := by simp [hz]
  generalize ((W0.alloc (.map #[] 0)).alloc (.cells (lc N (.map (some (w.heap.size + 1))) .nilFunc 0 0 nil nil) 64)) = W2 at hb2 hg2 hz2 ⊢
  have hC := made2 (B := w.heap.size) W2 N (ev true w.heap.size) (by omega)
  rw [hz2] at hC
  have hb3 := hb2.alloc (by omega) (.map #[] 0)
  have hb4 := hb3.alloc (by simp; omega) (.cells (lc N (.map (some (w.heap.size + 1 + 1 + 1))) (cbv w.heap.size) 0 0 nil nil) 64)
  have h := start (n := N) (ops := ops) (cb := true) ⟨_, hC⟩ hb4 ((Below.heap_alloc _ _ _ (by simp; omega)).trans ((Below.heap_alloc _ _ _ (by omega)).trans hg2)) (by simp; omega)
  have hs : ((W2.alloc (.map #[] 0)).alloc (.cells (lc N (.map (some (w.heap.size + 1 + 1 + 1))) (ev true w.heap.size) 0 0 nil nil) 64)).heap.size = w.heap.size + 1 + 1 + 1 + 1 + 1 := by simp [hz2]
  rw [hs] at h
  exact h
end Go.Proofs.Ytjhmcpdnmfhodaa.Lej
end
