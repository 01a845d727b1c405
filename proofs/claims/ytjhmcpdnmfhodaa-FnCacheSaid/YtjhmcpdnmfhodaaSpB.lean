/- The walk of the specification's Step. -/
import Derived.Test.YtjhmcpdnmfhodaaSpA
import Derived.Test.YtjhmcpdnmfhodaaFlt
section
/- The walk of the specification's Step. -/
namespace Go.Proofs.Ytjhmcpdnmfhodaa.Sps
open Go Go.RowKit Go.Proofs.YtjhmcpdnmfhodaaW.PrintWords Go.Proofs.YtjhmcpdnmfhodaaW.PrintLast Go.Proofs.YtjhmcpdnmfhodaaW.PrintMore Spm Spt Spu Spg Lra Ll Lcw Lcp Flt

structure Sp where
  l : List (Int × Int)
  h : Int
  m : Int
structure So where
  ok : Bool
  key : Int
  val : Int
  rate : Nat
  asked : Bool
  gone : List (Int × Int)
def so0 : So := ⟨false, 0, 0, 0, false, []⟩
def sstep (sz : Int) (s : Sp) (x : Op3) : Sp × So :=
  if x.d = 0 then (⟨put1 sz s.l x.k x.v, s.h, s.m⟩, ⟨decide (0 < (gone1 sz s.l x.k).length), 0, 0, 0, false, gone1 sz s.l x.k⟩)
  else if x.d = 1 then (if 0 ≤ place s.l x.k s.l.length then (⟨s.l.eraseIdx (place s.l x.k s.l.length).toNat ++ [s.l.getD (place s.l x.k s.l.length).toNat (0, 0)], wrap64 (s.h + 1), s.m⟩, ⟨true, 0, (s.l.getD (place s.l x.k s.l.length).toNat (0, 0)).2, 0, false, []⟩)
    else (⟨s.l, s.h, wrap64 (s.m + 1)⟩, so0))
  else if x.d = 2 then (if 0 ≤ place s.l x.k s.l.length then (⟨s.l.eraseIdx (place s.l x.k s.l.length).toNat ++ [s.l.getD (place s.l x.k s.l.length).toNat (0, 0)], wrap64 (s.h + 1), s.m⟩, ⟨false, 0, (s.l.getD (place s.l x.k s.l.length).toNat (0, 0)).2, 0, false, []⟩)
    else (⟨put1 sz s.l x.k x.v, s.h, wrap64 (s.m + 1)⟩, ⟨false, 0, x.v, 0, true, gone1 sz s.l x.k⟩))
  else if x.d = 3 then (if 0 ≤ place s.l x.k s.l.length then (⟨s.l.eraseIdx (place s.l x.k s.l.length).toNat, s.h, s.m⟩, ⟨true, 0, 0, 0, false, []⟩) else (s, so0))
  else if x.d = 4 then (if s.l.length = 0 then (s, so0) else (⟨s.l.eraseIdx 0, s.h, s.m⟩, ⟨true, (s.l.getD 0 (0, 0)).1, (s.l.getD 0 (0, 0)).2, 0, false, [s.l.getD 0 (0, 0)]⟩))
  else if x.d = 5 then (⟨[], 0, 0⟩, ⟨false, 0, 0, 0, false, s.l⟩)
  else if x.d = 6 then (s, ⟨false, 0, s.l.length, 0, false, []⟩)
  else if x.d = 7 then (s, ⟨false, 0, sz, 0, false, []⟩)
  else (s, ⟨false, 0, 0, rt s.h s.m, false, []⟩)
/-- a result as the machine has it -/
def sov (o : So) (gv : Value) : Value := .agg #[.bool o.ok, .int .i64 o.key, .int .i64 o.val, .float .f64 o.rate, .bool o.asked, gv]
def Post (B : Nat) (w : World) (S : Nat) (sz : Int) (o : Sp × So) : Ending → World → Prop := fun r w' =>
  ∃ gv, r = .returned (sov o.2 gv) ∧ w'.ownsRow B 44 2 gv o.2.gone.length (pcs o.2.gone) ∧ Bt B w w' ∧ ∃ v', Cs B w' S sz v' o.1.h o.1.m o.1.l
/-- the call's own two blocks: the argument's box, the result -/
structure En0 (B : Nat) (w W : World) (S : Nat) (sz hh mm : Int) (v : Value) (ps : List (Int × Int)) (d k u : Int) (c : Array Value) : Prop where
  b0 : W.heap[w.heap.size]? = some (.cells #[.int .i64 d, .int .i64 k, .int .i64 u] 36 (0, 0))
  b1 : W.heap[w.heap.size + 1]? = some (.cells c 33 (0, 0))
  cs : Cs B W S sz v hh mm ps
  bt : Bt B w W
def z33 : Array Value := #[.bool false, .int .i64 0, .int .i64 0, .float .f64 0, .bool false, .slice none 0 0]
theorem En0.start {B : Nat} {w : World} {S : Nat} {sz hh mm : Int} {v : Value} {ps : List (Int × Int)} (h : Cs B w S sz v hh mm ps) (d k u : Int) :
    En0 B w ((w.alloc (.cells #[.int .i64 d, .int .i64 k, .int .i64 u] 36)).alloc (.cells z33 33)) S sz hh mm v ps d k u z33 := by
  have hS : S < w.heap.size := (Array.getElem?_eq_some_iff.1 h.own).1
  have hBw : B ≤ w.heap.size := Nat.le_trans h.bS (Nat.le_of_lt hS)
  have hb : Below w.heap.size w ((w.alloc (.cells #[.int .i64 d, .int .i64 k, .int .i64 u] 36)).alloc (.cells z33 33)) := ((Below.refl _ w).alloc (Nat.le_refl _) _).alloc (by simp) _
  refine ⟨(Below.heap_alloc _ _ _ (by simp)).trans (heap_alloc_new w _), ?_, h.kept hb, Bt.far hb hBw⟩
  have := heap_alloc_new (w.alloc (.cells #[.int .i64 d, .int .i64 k, .int .i64 u] 36)) (.cells z33 33)
  simpa using this
variable {B : Nat} {w W W1 : World} {S : Nat} {sz hh mm hh' mm' : Int} {v v' : Value} {ps ps' : List (Int × Int)} {d k u : Int} {c : Array Value}
theorem En0.next (h : En0 B w W S sz hh mm v ps d k u c) (hb : Bt B W W1) (hc : Cs B W1 S sz v' hh' mm' ps') : En0 B w W1 S sz hh' mm' v' ps' d k u c :=
  ⟨hb.ty _ _ _ _ h.b0 (by decide) (by decide), hb.ty _ _ _ _ h.b1 (by decide) (by decide), hc, h.bt.trans hb⟩
theorem En0.read (h : En0 B w W S sz hh mm v ps d k u c) : W.cell? ⟨w.heap.size, 0, none⟩ = some (.int .i64 d) ∧ W.cell? ⟨w.heap.size, 1, none⟩ = some (.int .i64 k) ∧ W.cell? ⟨w.heap.size, 2, none⟩ = some (.int .i64 u) ∧ (∀ j, W.cell? ⟨w.heap.size + 1, j, none⟩ = c[j]?) ∧ (∀ j, W.frozen? ⟨w.heap.size + 1, j, none⟩ = false) :=
  ⟨by rw [Lib.cell_of_heap h.b0]; rfl, by rw [Lib.cell_of_heap h.b0]; rfl, by rw [Lib.cell_of_heap h.b0]; rfl, fun j => by rw [Lib.cell_of_heap h.b1], fun j => by rw [Lib.frozen_of_heap h.b1]⟩
/-- what the result's cell is read as behind the last store -/
theorem En0.z (h : En0 B w W S sz hh mm v ps d k u z33) : W.cell? ⟨w.heap.size + 1, 0, none⟩ = some (.bool false) ∧ W.cell? ⟨w.heap.size + 1, 1, none⟩ = some (.int .i64 0) ∧ W.cell? ⟨w.heap.size + 1, 2, none⟩ = some (.int .i64 0) ∧ W.cell? ⟨w.heap.size + 1, 3, none⟩ = some (.float .f64 0) ∧ W.cell? ⟨w.heap.size + 1, 4, none⟩ = some (.bool false) ∧ W.cell? ⟨w.heap.size + 1, 5, none⟩ = some (.slice none 0 0) := by
  refine ⟨?_, ?_, ?_, ?_, ?_, ?_⟩ <;> (rw [Lib.cell_of_heap h.b1]; rfl)
/-- the result is written -/
def put6 (W : World) (q : Nat) (o : So) (gv : Value) : World := (((((W.setCell ⟨q, 0, none⟩ (.bool o.ok)).setCell ⟨q, 1, none⟩ (.int .i64 o.key)).setCell ⟨q, 2, none⟩ (.int .i64 o.val)).setCell ⟨q, 3, none⟩ (.float .f64 o.rate)).setCell ⟨q, 4, none⟩ (.bool o.asked)).setCell ⟨q, 5, none⟩ gv
theorem put6_at {W : World} {q : Nat} (o : So) (gv : Value) (h : W.heap[q]? = some (.cells z33 33 (0, 0))) : (put6 W q o gv).heap[q]? = some (.cells #[.bool o.ok, .int .i64 o.key, .int .i64 o.val, .float .f64 o.rate, .bool o.asked, gv] 33 (0, 0)) := by
  have h0 := set_same (j := 0) (.bool o.ok) h
  have h1 := set_same (j := 1) (.int .i64 o.key) h0
  have h2 := set_same (j := 2) (.int .i64 o.val) h1
  have h3 := set_same (j := 3) (.float .f64 o.rate) h2
  have h4 := set_same (j := 4) (.bool o.asked) h3
  have h5 := set_same (j := 5) gv h4
  exact h5.trans rfl
theorem put6_other {W : World} {q k : Nat} (o : So) (gv : Value) (h : k ≠ q) : (put6 W q o gv).heap[k]? = W.heap[k]? :=
  (set_other _ _ h).trans ((set_other _ _ h).trans ((set_other _ _ h).trans ((set_other _ _ h).trans ((set_other _ _ h).trans (set_other _ _ h)))))
theorem put6_os {W : World} {q : Nat} (o : So) (gv : Value) : (put6 W q o gv).os = W.os ∧ (put6 W q o gv).tape = W.tape ∧ (put6 W q o gv).output = W.output ∧ (put6 W q o gv).heap.size = W.heap.size := by
  have hs : ∀ (V : World) (p : Addr) (u : Value), (V.setCell p u).os = V.os ∧ (V.setCell p u).tape = V.tape ∧ (V.setCell p u).output = V.output ∧ (V.setCell p u).heap.size = V.heap.size := fun V p u => ⟨rfl, rfl, rfl, put_size V p u⟩
  unfold put6
  refine ⟨?_, ?_, ?_, ?_⟩
  · simp only [fun V p u => (hs V p u).1]
  · simp only [fun V p u => (hs V p u).2.1]
  · simp only [fun V p u => (hs V p u).2.2.1]
  · simp only [fun V p u => (hs V p u).2.2.2]
theorem own44 {w : World} {B n k : Nat} {v : Value} {xs : List Value} (h : w.ownsRow B 44 2 v n xs) (e : v.ownBlock = some k) : ∃ c, w.heap[k]? = some (.cells c 44 (0, 0)) := by
  rcases h.2 with ⟨rfl, _⟩ | ⟨g2, cap, cur, rfl, _, hg, _⟩
  · cases e
  · obtain rfl : g2 = k := by simpa [Value.ownBlock] using e
    exact ⟨cur, hg⟩
theorem En0.fin {gv : Value} {m : Nat} {xs : List Value} (h : En0 B w W S sz hh mm v ps d k u z33) (o : So) (hg : W.ownsRow B 44 2 gv m xs) :
    (put6 W (w.heap.size + 1) o gv).heap[w.heap.size + 1]? = some (.cells #[.bool o.ok, .int .i64 o.key, .int .i64 o.val, .float .f64 o.rate, .bool o.asked, gv] 33 (0, 0)) ∧
      (put6 W (w.heap.size + 1) o gv).ownsRow B 44 2 gv m xs ∧ Bt B w (put6 W (w.heap.size + 1) o gv) ∧ Cs B (put6 W (w.heap.size + 1) o gv) S sz v hh mm ps := by
  have hk : W.grownBy (put6 W (w.heap.size + 1) o gv) (some (w.heap.size + 1)) := ⟨(put6_os o gv).1, (put6_os o gv).2.1, (put6_os o gv).2.2.1, Nat.le_of_eq (put6_os o gv).2.2.2.symm, fun k _ hk => put6_other o gv (fun e => hk (by rw [e]))⟩
  have hno : ∀ {v2 : Value} {n2 : Nat} {ys : List Value}, W.ownsRow B 44 2 v2 n2 ys → v2.ownBlock ≠ some (w.heap.size + 1) := fun h2 e => by
    obtain ⟨c3, hc3⟩ := own44 h2 e
    rw [h.b1] at hc3
    injection hc3 with hc3; injection hc3 with _ hc3 _; cases hc3
  have hSne : S ≠ w.heap.size + 1 := fun e => by
    have h1 := h.cs.own
    rw [e, h.b1] at h1
    injection h1 with h1; injection h1 with _ h1 _; cases h1
  have hsz := h.bt.b.size
  have hBw : B ≤ w.heap.size + 1 := by
    rcases Nat.lt_or_ge (w.heap.size + 1) B with hlt | hge
    · have h1 := h.bt.b.block (w.heap.size + 1) hlt
      rw [h.b1] at h1
      have := (Array.getElem?_eq_some_iff.1 h1.symm).1
      omega
    · exact hge
  refine ⟨put6_at o gv h.b1, hg.kept hk (.inr (hno hg)), ⟨⟨hk.os.trans h.bt.b.os, hk.tape.trans h.bt.b.tape, hk.output.trans h.bt.b.output, Nat.le_trans hsz hk.size, fun k hk2 => (put6_other o gv (by omega)).trans (h.bt.b.block k hk2)⟩, fun k c t f hk2 h1 h2 => ?_⟩, ⟨(put6_other o gv hSne).trans h.cs.own, h.cs.row.kept hk (.inr (hno h.cs.row)), h.cs.bS⟩⟩
  have := (Array.getElem?_eq_some_iff.1 hk2).1
  exact (put6_other o gv (by omega)).trans (h.bt.ty k c t f hk2 h1 h2)
theorem six {W : World} {q : Nat} {o : So} {gv : Value} (h : W.heap[q]? = some (.cells #[.bool o.ok, .int .i64 o.key, .int .i64 o.val, .float .f64 o.rate, .bool o.asked, gv] 33 (0, 0))) :
    W.cell? ⟨q, 0, none⟩ = some (.bool o.ok) ∧ W.cell? ⟨q, 1, none⟩ = some (.int .i64 o.key) ∧ W.cell? ⟨q, 2, none⟩ = some (.int .i64 o.val) ∧ W.cell? ⟨q, 3, none⟩ = some (.float .f64 o.rate) ∧ W.cell? ⟨q, 4, none⟩ = some (.bool o.asked) ∧ W.cell? ⟨q, 5, none⟩ = some gv := by
  refine ⟨?_, ?_, ?_, ?_, ?_, ?_⟩ <;> (rw [Lib.cell_of_heap h]; rfl)
set_option linter.all false in
set_option maxRecDepth 1000000 in
set_option maxHeartbeats 4000000 in
theorem cAdd {B : Nat} {w : World} {S : Nat} {sz hh mm : Int} {v : Value} {ps : List (Int × Int)} (h : Cs B w S sz v hh mm ps) (h0 : 0 < sz) (hl : ps.length ≤ 100000) (k u : Int) :
    Calls Try.prog 8 #[.pointer (some ⟨S, 0, none⟩), .agg #[.int .i64 0, .int .i64 k, .int .i64 u]] w (Post B w S sz (sstep sz ⟨ps, hh, mm⟩ ⟨0, k, u⟩)) := by
  have hE := En0.start h 0 k u
  obtain ⟨W, hW⟩ : ∃ W, (w.alloc (.cells #[.int .i64 0, .int .i64 k, .int .i64 u] 36)).alloc (.cells #[.bool false, .int .i64 0, .int .i64 0, .float .f64 0, .bool false, .slice none 0 0] 33) = W := ⟨_, rfl⟩
  obtain ⟨Q, hQ⟩ : ∃ Q, Post B w S sz (sstep sz ⟨ps, hh, mm⟩ ⟨0, k, u⟩) = Q := ⟨_, rfl⟩
  rw [hQ]
  unfold z33 at hE
  rw [hW] at hE
  obtain ⟨x0, x1, x2, _, xf⟩ := hE.read
  have cP := cPut hE.cs h0 hl k u
  have hsf : ∀ (W : World) (ad : Addr) (b : Nat), (store ad (.float .f64 b)).run Try.prog W = stored Try.prog W ad (.float .f64 b) .plain := fun W ad b => run_store Try.prog W ad _ .plain rfl
  have HQ := Aside0.mk hQ
  have HE := Aside0.mk hE
  clear h h0 hl hE hQ
  go_enter Try.func8, Try.ntmps8
  go_wp2_with (first | (
    go_at_call 24
    refine cP.mono ?_
    rintro e w1 ⟨gv, rfl, hg, hb, v1, hC1⟩
    have hE1 := HE.out.next hb hC1
    obtain ⟨_, _, _, _, xf1⟩ := hE1.read
    obtain ⟨z0, z1, z2, z3, z4, z5⟩ := hE1.z
    obtain ⟨A, n, cc, hv, hn⟩ : ∃ A n cc, gv = .slice A n cc ∧ (gone1 sz ps k).length = n := by
      rcases row_cases hg with ⟨h1, h2⟩ | ⟨g, c, h1⟩
      · exact ⟨_, _, _, h1, h2⟩
      · exact ⟨_, _, _, h1, rfl⟩
    have K := Aside0.mk (And.intro (hE1.fin ⟨decide (0 < n), 0, 0, 0, false, gone1 sz ps k⟩ hg) hn)
    subst hv
    clear hE1 hg hn hb hC1 cP hW x0 x1 x2 xf))
  obtain ⟨⟨f0, f1, f2, f3⟩, hn⟩ := K.out
  simp only [put6] at f0 f1 f2 f3
  refine bodyPost_ret (v := sov (⟨decide (0 < n), 0, 0, 0, false, gone1 sz ps k⟩ : So) (.slice A n cc)) ?_ rfl ?_
  · obtain ⟨q0, q1, q2, q3, q4, q5⟩ := six (o := (⟨decide (0 < n), 0, 0, 0, false, gone1 sz ps k⟩ : So)) (gv := (.slice A n cc)) f0
    simp [results, go_sem, q0, q1, q2, q3, q4, q5, Try.f8, sov]
  subst hn
  rw [← HQ.out, show sstep sz ⟨ps, hh, mm⟩ ⟨0, k, u⟩ = (⟨put1 sz ps k u, hh, mm⟩, ⟨decide (0 < (gone1 sz ps k).length), 0, 0, 0, false, gone1 sz ps k⟩) from rfl]
  exact ⟨_, rfl, f1, f2, _, f3⟩
theorem gotMiss {B : Nat} {w : World} {S : Nat} {sz hh mm : Int} {v : Value} {ps : List (Int × Int)} (h : Cs B w S sz v hh mm ps) (hl : ps.length ≤ 100000) {k : Int} (hp : ¬ 0 ≤ place ps k ps.length) :
    Calls Try.prog 25 #[.pointer (some ⟨S, 0, none⟩), .int .i64 k] w fun r w' => r = .returned (.tuple #[.int .i64 0, .bool false]) ∧ Bt B w w' ∧ Cs B w' S sz v hh (wrap64 (mm + 1)) ps :=
  (cGot h hl k).mono fun r w' hr => by
    rcases hr with hr | ⟨i, hi, _⟩
    · exact hr.2
    · omega
theorem gotHit {B : Nat} {w : World} {S : Nat} {sz hh mm : Int} {v : Value} {ps : List (Int × Int)} (h : Cs B w S sz v hh mm ps) (hl : ps.length ≤ 100000) {k : Int} (hp : 0 ≤ place ps k ps.length) :
    Calls Try.prog 25 #[.pointer (some ⟨S, 0, none⟩), .int .i64 k] w fun r w' => r = .returned (.tuple #[.int .i64 (ps.getD (place ps k ps.length).toNat (0, 0)).2, .bool true]) ∧ Bt B w w' ∧ ∃ v', Cs B w' S sz v' (wrap64 (hh + 1)) mm (ps.eraseIdx (place ps k ps.length).toNat ++ [ps.getD (place ps k ps.length).toNat (0, 0)]) :=
  (cGot h hl k).mono fun r w' hr => by
    rcases hr with hr | ⟨i, hi, hr⟩
    · omega
    · rw [hi, Int.toNat_natCast]; exact hr
set_option linter.all false in
set_option maxRecDepth 1000000 in
set_option maxHeartbeats 4000000 in
theorem cGet {B : Nat} {w : World} {S : Nat} {sz hh mm : Int} {v : Value} {ps : List (Int × Int)} (h : Cs B w S sz v hh mm ps) (hl : ps.length ≤ 100000) (k u : Int) :
    Calls Try.prog 8 #[.pointer (some ⟨S, 0, none⟩), .agg #[.int .i64 1, .int .i64 k, .int .i64 u]] w (Post B w S sz (sstep sz ⟨ps, hh, mm⟩ ⟨1, k, u⟩)) := by
  have hE := En0.start h 1 k u
  obtain ⟨W, hW⟩ : ∃ W, (w.alloc (.cells #[.int .i64 1, .int .i64 k, .int .i64 u] 36)).alloc (.cells #[.bool false, .int .i64 0, .int .i64 0, .float .f64 0, .bool false, .slice none 0 0] 33) = W := ⟨_, rfl⟩
  obtain ⟨Q, hQ⟩ : ∃ Q, Post B w S sz (sstep sz ⟨ps, hh, mm⟩ ⟨1, k, u⟩) = Q := ⟨_, rfl⟩
  rw [hQ]
  unfold z33 at hE
  rw [hW] at hE
  obtain ⟨x0, x1, x2, _, xf⟩ := hE.read
  have hsf : ∀ (W : World) (ad : Addr) (b : Nat), (store ad (.float .f64 b)).run Try.prog W = stored Try.prog W ad (.float .f64 b) .plain := fun W ad b => run_store Try.prog W ad _ .plain rfl
  have HQ := Aside0.mk hQ
  have HE := Aside0.mk hE
  by_cases hp : 0 ≤ place ps k ps.length
  · have cG := gotHit hE.cs hl hp
    have hst : sstep sz ⟨ps, hh, mm⟩ ⟨1, k, u⟩ = (⟨ps.eraseIdx (place ps k ps.length).toNat ++ [ps.getD (place ps k ps.length).toNat (0, 0)], wrap64 (hh + 1), mm⟩, ⟨true, 0, (ps.getD (place ps k ps.length).toNat (0, 0)).2, 0, false, []⟩) := if_pos hp
    obtain ⟨y, hy⟩ : ∃ y, ps.getD (place ps k ps.length).toNat (0, 0) = y := ⟨_, rfl⟩
    obtain ⟨q, hq⟩ : ∃ q, ps.eraseIdx (place ps k ps.length).toNat ++ [y] = q := ⟨_, rfl⟩
    rw [hy] at cG hst
    rw [hq] at cG hst
    have HS := Aside0.mk hst
    clear h hl hE hQ hst hy hq hp
    go_enter Try.func8, Try.ntmps8
    go_wp2_with (first | (
      go_at_call 25
      refine cG.mono ?_
      rintro e w1 ⟨rfl, hb, v1, hC1⟩
      have hE1 := HE.out.next hb hC1
      obtain ⟨_, _, _, _, xf1⟩ := hE1.read
      obtain ⟨z0, z1, z2, z3, z4, z5⟩ := hE1.z
      have K := Aside0.mk (And.intro (hE1.fin ⟨true, 0, y.2, 0, false, []⟩ (nilRow B w1)) HS.out)
      clear hE1 hb hC1 cG hW x0 x1 x2 xf))
    obtain ⟨⟨f0, f1, f2, f3⟩, hst⟩ := K.out
    simp only [put6] at f0 f1 f2 f3
    refine bodyPost_ret (v := sov (⟨true, 0, y.2, 0, false, []⟩ : So) (.slice none 0 0)) ?_ rfl ?_
    · obtain ⟨q0, q1, q2, q3, q4, q5⟩ := six (o := (⟨true, 0, y.2, 0, false, []⟩ : So)) (gv := (.slice none 0 0)) f0
      simp [results, go_sem, q0, q1, q2, q3, q4, q5, Try.f8, sov]
    rw [← HQ.out, hst]
    exact ⟨_, rfl, f1, f2, _, f3⟩
  · have cG := gotMiss hE.cs hl hp
    have HS := Aside0.mk (show sstep sz ⟨ps, hh, mm⟩ ⟨1, k, u⟩ = (⟨ps, hh, wrap64 (mm + 1)⟩, ⟨false, 0, 0, 0, false, []⟩) from if_neg hp)
    clear h hl hE hQ hp
    go_enter Try.func8, Try.ntmps8
    go_wp2_with (first | (
      go_at_call 25
      refine cG.mono ?_
      rintro e w1 ⟨rfl, hb, hC1⟩
      have hE1 := HE.out.next hb hC1
      obtain ⟨_, _, _, _, xf1⟩ := hE1.read
      obtain ⟨z0, z1, z2, z3, z4, z5⟩ := hE1.z
      have K := Aside0.mk (And.intro (hE1.fin ⟨false, 0, 0, 0, false, []⟩ (nilRow B w1)) HS.out)
      clear hE1 hb hC1 cG hW x0 x1 x2 xf))
    obtain ⟨⟨f0, f1, f2, f3⟩, hst⟩ := K.out
    simp only [put6] at f0 f1 f2 f3
    refine bodyPost_ret (v := sov (⟨false, 0, 0, 0, false, []⟩ : So) (.slice none 0 0)) ?_ rfl ?_
    · obtain ⟨q0, q1, q2, q3, q4, q5⟩ := six (o := (⟨false, 0, 0, 0, false, []⟩ : So)) (gv := (.slice none 0 0)) f0
      simp [results, go_sem, q0, q1, q2, q3, q4, q5, Try.f8, sov]
    rw [← HQ.out, hst]
    exact ⟨_, rfl, f1, f2, _, f3⟩
end Go.Proofs.Ytjhmcpdnmfhodaa.Sps
end

section
/- The walk of the specification's Step: what takes out, tells the size and the rate. -/
namespace Go.Proofs.Ytjhmcpdnmfhodaa.Spr
open Go Go.RowKit Go.Proofs.YtjhmcpdnmfhodaaW.PrintWords Go.Proofs.YtjhmcpdnmfhodaaW.PrintLast Go.Proofs.YtjhmcpdnmfhodaaW.PrintMore Spm Spt Spu Spg Sps Lra Ll Lcw Lcp Flt

variable {B : Nat} {w : World} {S : Nat} {sz hh mm : Int} {v : Value} {ps : List (Int × Int)}
set_option linter.all false in
set_option maxRecDepth 1000000 in
set_option maxHeartbeats 4000000 in
theorem cRemove (h : Cs B w S sz v hh mm ps) (hl : ps.length ≤ 100000) (k u : Int) :
    Calls Try.prog 8 #[.pointer (some ⟨S, 0, none⟩), .agg #[.int .i64 3, .int .i64 k, .int .i64 u]] w (Post B w S sz (sstep sz ⟨ps, hh, mm⟩ ⟨3, k, u⟩)) := by
  have hE := En0.start h 3 k u
  obtain ⟨W, hW⟩ : ∃ W, (w.alloc (.cells #[.int .i64 3, .int .i64 k, .int .i64 u] 36)).alloc (.cells #[.bool false, .int .i64 0, .int .i64 0, .float .f64 0, .bool false, .slice none 0 0] 33) = W := ⟨_, rfl⟩
  obtain ⟨Q, hQ⟩ : ∃ Q, Post B w S sz (sstep sz ⟨ps, hh, mm⟩ ⟨3, k, u⟩) = Q := ⟨_, rfl⟩
  rw [hQ]
  unfold z33 at hE
  rw [hW] at hE
  obtain ⟨x0, x1, x2, _, xf⟩ := hE.read
  have hsf : ∀ (W : World) (ad : Addr) (b : Nat), (store ad (.float .f64 b)).run Try.prog W = stored Try.prog W ad (.float .f64 b) .plain := fun W ad b => run_store Try.prog W ad _ .plain rfl
  have HQ := Aside0.mk hQ
  have HE := Aside0.mk hE
  have cP := cPlace hE.cs k (by omega)
  have hpr := place_range ps k ps.length (Nat.le_refl _)
  by_cases hp : 0 ≤ place ps k ps.length
  · have hst : sstep sz ⟨ps, hh, mm⟩ ⟨3, k, u⟩ = (⟨ps.eraseIdx (place ps k ps.length).toNat, hh, mm⟩, ⟨true, 0, 0, 0, false, []⟩) := if_pos hp
    obtain ⟨i, hi⟩ : ∃ i : Nat, place ps k ps.length = i := ⟨(place ps k ps.length).toNat, by omega⟩
    rw [hi] at cP hst hpr
    rw [Int.toNat_natCast] at hst
    have hd : decide ((i : Int) < 0) = false := decide_eq_false (by omega)
    have cT := cTaken hE.cs i (by omega) hl
    have HS := Aside0.mk hst
    clear h hl hE hQ hst hp hpr hi
    go_enter Try.func8, Try.ntmps8
    go_wp2_with (first | (go_at_call 26; refine cP.mono ?_; rintro e w1 ⟨rfl, hw1⟩; rw [hw1]; clear hw1 w1) | (
      go_at_call 27
      refine cT.mono ?_
      rintro e w1 ⟨rfl, hb, v1, hC1⟩
      have hE1 := HE.out.next hb hC1
      obtain ⟨_, _, _, _, xf1⟩ := hE1.read
      obtain ⟨z0, z1, z2, z3, z4, z5⟩ := hE1.z
      have K := Aside0.mk (And.intro (hE1.fin ⟨true, 0, 0, 0, false, []⟩ (nilRow B w1)) HS.out)
      clear hE1 hb hC1 cT cP hW x0 x1 x2 xf))
    obtain ⟨⟨f0, f1, f2, f3⟩, hst⟩ := K.out
    simp only [put6] at f0 f1 f2 f3
    refine bodyPost_ret (v := sov (⟨true, 0, 0, 0, false, []⟩ : So) (.slice none 0 0)) ?_ rfl ?_
    · obtain ⟨q0, q1, q2, q3, q4, q5⟩ := six (o := (⟨true, 0, 0, 0, false, []⟩ : So)) (gv := (.slice none 0 0)) f0
      simp [results, go_sem, q0, q1, q2, q3, q4, q5, Try.f8, sov]
    rw [← HQ.out, hst]
    exact ⟨_, rfl, f1, f2, _, f3⟩
  · have hd : decide (place ps k ps.length < 0) = true := decide_eq_true (by omega)
    obtain ⟨P, hP⟩ : ∃ P, place ps k ps.length = P := ⟨_, rfl⟩
    have hst : sstep sz ⟨ps, hh, mm⟩ ⟨3, k, u⟩ = (⟨ps, hh, mm⟩, ⟨false, 0, 0, 0, false, []⟩) := if_neg hp
    rw [hP] at cP hd
    obtain ⟨z0, z1, z2, z3, z4, z5⟩ := hE.z
    have K := Aside0.mk (And.intro (hE.fin ⟨false, 0, 0, 0, false, []⟩ (nilRow B W)) hst)
    clear h hl hE hQ hp hpr hP hst
    go_enter Try.func8, Try.ntmps8
    go_wp2_with (first | (go_at_call 26; refine cP.mono ?_; rintro e w1 ⟨rfl, hw1⟩; rw [hw1]; clear hw1 w1))
    obtain ⟨⟨f0, f1, f2, f3⟩, hst⟩ := K.out
    simp only [put6] at f0 f1 f2 f3
    refine bodyPost_ret (v := sov (⟨false, 0, 0, 0, false, []⟩ : So) (.slice none 0 0)) ?_ rfl ?_
    · obtain ⟨q0, q1, q2, q3, q4, q5⟩ := six (o := (⟨false, 0, 0, 0, false, []⟩ : So)) (gv := (.slice none 0 0)) f0
      simp [results, go_sem, q0, q1, q2, q3, q4, q5, Try.f8, sov]
    rw [← HQ.out, hst]
    exact ⟨_, rfl, f1, f2, _, f3⟩
set_option linter.all false in
set_option maxRecDepth 1000000 in
set_option maxHeartbeats 4000000 in
theorem cLen (h : Cs B w S sz v hh mm ps) (k u : Int) :
    Calls Try.prog 8 #[.pointer (some ⟨S, 0, none⟩), .agg #[.int .i64 6, .int .i64 k, .int .i64 u]] w (Post B w S sz (sstep sz ⟨ps, hh, mm⟩ ⟨6, k, u⟩)) := by
  have hE := En0.start h 6 k u
  obtain ⟨W, hW⟩ : ∃ W, (w.alloc (.cells #[.int .i64 6, .int .i64 k, .int .i64 u] 36)).alloc (.cells #[.bool false, .int .i64 0, .int .i64 0, .float .f64 0, .bool false, .slice none 0 0] 33) = W := ⟨_, rfl⟩
  obtain ⟨Q, hQ⟩ : ∃ Q, Post B w S sz (sstep sz ⟨ps, hh, mm⟩ ⟨6, k, u⟩) = Q := ⟨_, rfl⟩
  rw [hQ]
  unfold z33 at hE
  rw [hW] at hE
  obtain ⟨x0, x1, x2, _, xf⟩ := hE.read
  have hsf : ∀ (W : World) (ad : Addr) (b : Nat), (store ad (.float .f64 b)).run Try.prog W = stored Try.prog W ad (.float .f64 b) .plain := fun W ad b => run_store Try.prog W ad _ .plain rfl
  have HQ := Aside0.mk hQ
  have HE := Aside0.mk hE
  obtain ⟨A, n, cc, rfl, hn⟩ := sl hE.cs (rfl : ps = ps)
  have c1 : W.cell? ⟨S, 1, none⟩ = some (.slice A n cc) := by rw [Lib.cell_of_heap hE.cs.own]; rfl
  have hst : sstep sz ⟨ps, hh, mm⟩ ⟨6, k, u⟩ = (⟨ps, hh, mm⟩, ⟨false, 0, n, 0, false, []⟩) := by rw [← hn]; rfl
  obtain ⟨z0, z1, z2, z3, z4, z5⟩ := hE.z
  have K := Aside0.mk (And.intro (hE.fin ⟨false, 0, n, 0, false, []⟩ (nilRow B W)) hst)
  clear h hE hQ hst hn
  go_enter Try.func8, Try.ntmps8
  go_wp2_with (fail)
  obtain ⟨⟨f0, f1, f2, f3⟩, hst⟩ := K.out
  simp only [put6] at f0 f1 f2 f3
  refine bodyPost_ret (v := sov (⟨false, 0, n, 0, false, []⟩ : So) (.slice none 0 0)) ?_ rfl ?_
  · obtain ⟨q0, q1, q2, q3, q4, q5⟩ := six (o := (⟨false, 0, n, 0, false, []⟩ : So)) (gv := (.slice none 0 0)) f0
    simp [results, go_sem, q0, q1, q2, q3, q4, q5, Try.f8, sov]
  rw [← HQ.out, hst]
  exact ⟨_, rfl, f1, f2, _, f3⟩
set_option linter.all false in
set_option maxRecDepth 1000000 in
set_option maxHeartbeats 4000000 in
theorem cCap (h : Cs B w S sz v hh mm ps) (k u : Int) :
    Calls Try.prog 8 #[.pointer (some ⟨S, 0, none⟩), .agg #[.int .i64 7, .int .i64 k, .int .i64 u]] w (Post B w S sz (sstep sz ⟨ps, hh, mm⟩ ⟨7, k, u⟩)) := by
  have hE := En0.start h 7 k u
  obtain ⟨W, hW⟩ : ∃ W, (w.alloc (.cells #[.int .i64 7, .int .i64 k, .int .i64 u] 36)).alloc (.cells #[.bool false, .int .i64 0, .int .i64 0, .float .f64 0, .bool false, .slice none 0 0] 33) = W := ⟨_, rfl⟩
  obtain ⟨Q, hQ⟩ : ∃ Q, Post B w S sz (sstep sz ⟨ps, hh, mm⟩ ⟨7, k, u⟩) = Q := ⟨_, rfl⟩
  rw [hQ]
  unfold z33 at hE
  rw [hW] at hE
  obtain ⟨x0, x1, x2, _, xf⟩ := hE.read
  have hsf : ∀ (W : World) (ad : Addr) (b : Nat), (store ad (.float .f64 b)).run Try.prog W = stored Try.prog W ad (.float .f64 b) .plain := fun W ad b => run_store Try.prog W ad _ .plain rfl
  have HQ := Aside0.mk hQ
  have HE := Aside0.mk hE
  have c0 : W.cell? ⟨S, 0, none⟩ = some (.int .i64 sz) := by rw [Lib.cell_of_heap hE.cs.own]; rfl
  obtain ⟨z0, z1, z2, z3, z4, z5⟩ := hE.z
  have K := Aside0.mk (And.intro (hE.fin ⟨false, 0, sz, 0, false, []⟩ (nilRow B W)) (show sstep sz ⟨ps, hh, mm⟩ ⟨7, k, u⟩ = (⟨ps, hh, mm⟩, ⟨false, 0, sz, 0, false, []⟩) from rfl))
  clear h hE hQ
  go_enter Try.func8, Try.ntmps8
  go_wp2_with (fail)
  obtain ⟨⟨f0, f1, f2, f3⟩, hst⟩ := K.out
  simp only [put6] at f0 f1 f2 f3
  refine bodyPost_ret (v := sov (⟨false, 0, sz, 0, false, []⟩ : So) (.slice none 0 0)) ?_ rfl ?_
  · obtain ⟨q0, q1, q2, q3, q4, q5⟩ := six (o := (⟨false, 0, sz, 0, false, []⟩ : So)) (gv := (.slice none 0 0)) f0
    simp [results, go_sem, q0, q1, q2, q3, q4, q5, Try.f8, sov]
  rw [← HQ.out, hst]
  exact ⟨_, rfl, f1, f2, _, f3⟩
end Go.Proofs.Ytjhmcpdnmfhodaa.Spr
end

section
/- The walk of the specification's Step: the oldest, Purge, the rate. -/
namespace Go.Proofs.Ytjhmcpdnmfhodaa.Spo
open Go Go.RowKit Go.Proofs.YtjhmcpdnmfhodaaW.PrintWords Go.Proofs.YtjhmcpdnmfhodaaW.PrintLast Go.Proofs.YtjhmcpdnmfhodaaW.PrintMore Spm Spt Spu Spg Sps Lra Ll Lcw Lcp Flt

variable {B : Nat} {w : World} {S : Nat} {sz hh mm : Int} {v : Value} {ps : List (Int × Int)}
set_option linter.all false in
set_option maxRecDepth 1000000 in
set_option maxHeartbeats 4000000 in
theorem cOldest (h : Cs B w S sz v hh mm ps) (hl : ps.length ≤ 100000) (k u : Int) :
    Calls Try.prog 8 #[.pointer (some ⟨S, 0, none⟩), .agg #[.int .i64 4, .int .i64 k, .int .i64 u]] w (Post B w S sz (sstep sz ⟨ps, hh, mm⟩ ⟨4, k, u⟩)) := by
  have hE := En0.start h 4 k u
  obtain ⟨W, hW⟩ : ∃ W, (w.alloc (.cells #[.int .i64 4, .int .i64 k, .int .i64 u] 36)).alloc (.cells #[.bool false, .int .i64 0, .int .i64 0, .float .f64 0, .bool false, .slice none 0 0] 33) = W := ⟨_, rfl⟩
  obtain ⟨Q, hQ⟩ : ∃ Q, Post B w S sz (sstep sz ⟨ps, hh, mm⟩ ⟨4, k, u⟩) = Q := ⟨_, rfl⟩
  rw [hQ]
  unfold z33 at hE
  rw [hW] at hE
  obtain ⟨x0, x1, x2, _, xf⟩ := hE.read
  have hsf : ∀ (W : World) (ad : Addr) (b : Nat), (store ad (.float .f64 b)).run Try.prog W = stored Try.prog W ad (.float .f64 b) .plain := fun W ad b => run_store Try.prog W ad _ .plain rfl
  have HQ := Aside0.mk hQ
  have HE := Aside0.mk hE
  obtain ⟨A, n, cc, rfl, hn⟩ := sl hE.cs (rfl : ps = ps)
  have c1 : W.cell? ⟨S, 1, none⟩ = some (.slice A n cc) := by rw [Lib.cell_of_heap hE.cs.own]; rfl
  by_cases h0 : n = 0
  · subst h0
    have hst : sstep sz ⟨ps, hh, mm⟩ ⟨4, k, u⟩ = (⟨ps, hh, mm⟩, ⟨false, 0, 0, 0, false, []⟩) := if_pos hn
    obtain ⟨z0, z1, z2, z3, z4, z5⟩ := hE.z
    have K := Aside0.mk (And.intro (hE.fin ⟨false, 0, 0, 0, false, []⟩ (nilRow B W)) hst)
    clear h hl hE hQ hn hst
    go_enter Try.func8, Try.ntmps8
    go_wp2_with (fail)
    obtain ⟨⟨f0, f1, f2, f3⟩, hst⟩ := K.out
    simp only [put6] at f0 f1 f2 f3
    refine bodyPost_ret (v := sov (⟨false, 0, 0, 0, false, []⟩ : So) (.slice none 0 0)) ?_ rfl ?_
    · obtain ⟨q0, q1, q2, q3, q4, q5⟩ := six (o := (⟨false, 0, 0, 0, false, []⟩ : So)) (gv := (.slice none 0 0)) f0
      simp [results, go_sem, q0, q1, q2, q3, q4, q5, Try.f8, sov]
    rw [← HQ.out, hst]
    exact ⟨_, rfl, f1, f2, _, f3⟩
  · have hst : sstep sz ⟨ps, hh, mm⟩ ⟨4, k, u⟩ = (⟨ps.eraseIdx 0, hh, mm⟩, ⟨true, (ps.getD 0 (0, 0)).1, (ps.getD 0 (0, 0)).2, 0, false, [ps.getD 0 (0, 0)]⟩) := if_neg (show ¬ ps.length = 0 by rw [hn]; exact h0)
    have hd : ((n : Int) == 0) = false := by rw [beq_eq_false_iff_ne]; omega
    have cT := cTaken hE.cs 0 (by omega) hl
    obtain ⟨y, hy⟩ : ∃ y, ps.getD 0 (0, 0) = y := ⟨_, rfl⟩
    rw [hy] at cT hst
    have HS := Aside0.mk hst
    clear h hl hE hQ hst hy hn h0
    go_enter Try.func8, Try.ntmps8
    go_wp2_with (first | (
      go_at_call 27
      refine cT.mono ?_
      rintro e w1 ⟨rfl, hb, v1, hC1⟩
      have hE1 := HE.out.next hb hC1
      obtain ⟨X, hX⟩ : ∃ X, (w1.alloc (.cells #[.int .i64 y.1, .int .i64 y.2] 44)).alloc (.cells #[.int .i64 y.1, .int .i64 y.2] 44) = X := ⟨_, rfl⟩
      have hB1 : B ≤ w1.heap.size := by have h1 := hC1.bS; have := (Array.getElem?_eq_some_iff.1 hC1.own).1; omega
      have hXb : Below w1.heap.size w1 X := by rw [← hX]; exact ((Below.refl _ w1).alloc (Nat.le_refl _) _).alloc (by simp) _
      have hg : X.ownsRow B 44 2 (.slice (some ⟨w1.heap.size + 1, 0, none⟩) 1 1) 1 (pcs [y]) := by
        have h9 := World.ownsRow_lit (base := B) (w1.alloc (.cells #[.int .i64 y.1, .int .i64 y.2] 44)) #[.int .i64 y.1, .int .i64 y.2] 1 (e := 44) (size := 2) (by simp; omega) (by decide) rfl
        rw [hX] at h9
        have h10 : (w1.alloc (.cells #[.int .i64 y.1, .int .i64 y.2] 44)).heap.size = w1.heap.size + 1 := by simp
        rw [h10] at h9
        exact h9
      have hE2 := hE1.next (Bt.far hXb hB1) (hC1.kept hXb)
      obtain ⟨_, _, _, _, xf1⟩ := hE2.read
      obtain ⟨z0, z1, z2, z3, z4, z5⟩ := hE2.z
      have K := Aside0.mk (And.intro (hE2.fin ⟨true, y.1, y.2, 0, false, [y]⟩ hg) HS.out)
      clear hE1 hE2 hb hC1 cT hW x0 x1 x2 xf c1 hXb hB1 hg))
    obtain ⟨⟨f0, f1, f2, f3⟩, hst⟩ := K.out
    simp only [put6] at f0 f1 f2 f3
    refine bodyPost_ret (v := sov (⟨true, y.1, y.2, 0, false, [y]⟩ : So) (.slice (some ⟨w1.heap.size + 1, 0, none⟩) 1 1)) ?_ rfl ?_
    · obtain ⟨q0, q1, q2, q3, q4, q5⟩ := six (o := (⟨true, y.1, y.2, 0, false, [y]⟩ : So)) (gv := (.slice (some ⟨w1.heap.size + 1, 0, none⟩) 1 1)) f0
      simp [results, go_sem, q0, q1, q2, q3, q4, q5, Try.f8, sov]
    rw [← HQ.out, hst]
    exact ⟨_, rfl, f1, f2, _, f3⟩
/-- the cache of the specification is emptied -/
theorem emptied {B : Nat} {w W : World} {S : Nat} {sz hh mm : Int} {v : Value} {ps : List (Int × Int)} {d k u : Int} {m : Nat} {xs : List Value} {gv : Value} (h : En0 B w W S sz hh mm v ps d k u z33) (hg : W.ownsRow B 44 2 gv m xs) :
    ((((W.setCell ⟨S, 0, none⟩ (.int .i64 sz)).setCell ⟨S, 1, none⟩ (.slice none 0 0)).setCell ⟨S, 2, none⟩ (.int .i64 0)).setCell ⟨S, 3, none⟩ (.int .i64 0)).ownsRow B 44 2 gv m xs ∧
      En0 B w ((((W.setCell ⟨S, 0, none⟩ (.int .i64 sz)).setCell ⟨S, 1, none⟩ (.slice none 0 0)).setCell ⟨S, 2, none⟩ (.int .i64 0)).setCell ⟨S, 3, none⟩ (.int .i64 0)) S sz 0 0 (.slice none 0 0) [] d k u z33 := by
  have h0 := set_same (j := 0) (.int .i64 sz) h.cs.own
  have h1 := set_same (j := 1) (.slice none 0 0) h0
  have h2 := set_same (j := 2) (.int .i64 0) h1
  have h3 := set_same (j := 3) (.int .i64 0) h2
  have ho : ∀ k, k ≠ S → ((((W.setCell ⟨S, 0, none⟩ (.int .i64 sz)).setCell ⟨S, 1, none⟩ (.slice none 0 0)).setCell ⟨S, 2, none⟩ (.int .i64 0)).setCell ⟨S, 3, none⟩ (.int .i64 0)).heap[k]? = W.heap[k]? := fun k hk =>
    (set_other _ _ hk).trans ((set_other _ _ hk).trans ((set_other _ _ hk).trans (set_other _ _ hk)))
  have hs : ∀ (V : World) (p : Addr) (u : Value), (V.setCell p u).os = V.os ∧ (V.setCell p u).tape = V.tape ∧ (V.setCell p u).output = V.output := fun V p u => ⟨rfl, rfl, rfl⟩
  have hz : ((((W.setCell ⟨S, 0, none⟩ (.int .i64 sz)).setCell ⟨S, 1, none⟩ (.slice none 0 0)).setCell ⟨S, 2, none⟩ (.int .i64 0)).setCell ⟨S, 3, none⟩ (.int .i64 0)).heap.size = W.heap.size := by simp only [put_size]
  have hk : W.grownBy ((((W.setCell ⟨S, 0, none⟩ (.int .i64 sz)).setCell ⟨S, 1, none⟩ (.slice none 0 0)).setCell ⟨S, 2, none⟩ (.int .i64 0)).setCell ⟨S, 3, none⟩ (.int .i64 0)) (some S) := ⟨by simp only [fun V p u => (hs V p u).1], by simp only [fun V p u => (hs V p u).2.1], by simp only [fun V p u => (hs V p u).2.2], Nat.le_of_eq hz.symm, fun k _ hk => ho k (fun e => hk (by rw [e]))⟩
  refine ⟨hg.kept hk (.inr (fun e => ?_)), h.next ⟨⟨hk.os, hk.tape, hk.output, hk.size, fun k hk2 => ho k (by have := h.cs.bS; omega)⟩, fun k c t f hk2 h1 h2 => (ho k (fun e => ?_)).trans hk2⟩ ⟨h3.trans rfl, nilRow _ _, h.cs.bS⟩⟩
  · obtain ⟨c3, hc3⟩ := own44 hg e
    rw [h.cs.own] at hc3
    injection hc3 with hc3; injection hc3 with _ hc3 _; cases hc3
  · rw [e, h.cs.own] at hk2
    exact h2 (by injection hk2 with hk2; injection hk2 with _ hk2 _; exact hk2.symm)
set_option linter.all false in
set_option maxRecDepth 1000000 in
set_option maxHeartbeats 4000000 in
theorem cPurge (h : Cs B w S sz v hh mm ps) (k u : Int) :
    Calls Try.prog 8 #[.pointer (some ⟨S, 0, none⟩), .agg #[.int .i64 5, .int .i64 k, .int .i64 u]] w (Post B w S sz (sstep sz ⟨ps, hh, mm⟩ ⟨5, k, u⟩)) := by
  have hE := En0.start h 5 k u
  obtain ⟨W, hW⟩ : ∃ W, (w.alloc (.cells #[.int .i64 5, .int .i64 k, .int .i64 u] 36)).alloc (.cells #[.bool false, .int .i64 0, .int .i64 0, .float .f64 0, .bool false, .slice none 0 0] 33) = W := ⟨_, rfl⟩
  obtain ⟨Q, hQ⟩ : ∃ Q, Post B w S sz (sstep sz ⟨ps, hh, mm⟩ ⟨5, k, u⟩) = Q := ⟨_, rfl⟩
  rw [hQ]
  unfold z33 at hE
  rw [hW] at hE
  obtain ⟨x0, x1, x2, _, xf⟩ := hE.read
  have hsf : ∀ (W : World) (ad : Addr) (b : Nat), (store ad (.float .f64 b)).run Try.prog W = stored Try.prog W ad (.float .f64 b) .plain := fun W ad b => run_store Try.prog W ad _ .plain rfl
  have HQ := Aside0.mk hQ
  have HE := Aside0.mk hE
  obtain ⟨A, n, cc, rfl, hn⟩ := sl hE.cs (rfl : ps = ps)
  have c1 : W.cell? ⟨S, 1, none⟩ = some (.slice A n cc) := by rw [Lib.cell_of_heap hE.cs.own]; rfl
  have hst : sstep sz ⟨ps, hh, mm⟩ ⟨5, k, u⟩ = (⟨[], 0, 0⟩, ⟨false, 0, 0, 0, false, ps⟩) := rfl
  have hS : S < W.heap.size := (Array.getElem?_eq_some_iff.1 hE.cs.own).1
  have hp1 : w.heap.size + 1 < W.heap.size := (Array.getElem?_eq_some_iff.1 hE.b1).1
  obtain ⟨X, hX⟩ : ∃ X, W.alloc (.cells #[.bool false, .int .i64 0, .int .i64 0, .float .f64 0, .bool false, .slice A n cc] 33) = X := ⟨_, rfl⟩
  have hXb : Below W.heap.size W X := by rw [← hX]; exact (Below.refl _ W).alloc (Nat.le_refl _) _
  have hB1 : B ≤ W.heap.size := by have h1 := hE.cs.bS; omega
  have hX1 : X.heap[W.heap.size]? = some (.cells #[.bool false, .int .i64 0, .int .i64 0, .float .f64 0, .bool false, .slice A n cc] 33 (0, 0)) := by rw [← hX]; exact heap_alloc_new W _
  have hE1 := hE.next (Bt.far hXb hB1) (hE.cs.kept hXb)
  have c0 : X.cell? ⟨S, 0, none⟩ = some (.int .i64 sz) := by rw [Lib.cell_of_heap hE1.cs.own]; rfl
  have d1 : X.cell? ⟨S, 1, none⟩ = some (.slice A n cc) := by rw [Lib.cell_of_heap hE1.cs.own]; rfl
  have d2 : X.cell? ⟨S, 2, none⟩ = some (.int .i64 hh) := by rw [Lib.cell_of_heap hE1.cs.own]; rfl
  have d3 : X.cell? ⟨S, 3, none⟩ = some (.int .i64 mm) := by rw [Lib.cell_of_heap hE1.cs.own]; rfl
  have df : ∀ j, X.frozen? ⟨S, j, none⟩ = false := fun j => by rw [Lib.frozen_of_heap hE1.cs.own]
  obtain ⟨y0, y1, y2, y3, y4, y5⟩ := six (o := ⟨false, 0, 0, 0, false, []⟩) hX1
  obtain ⟨_, _, _, _, xf1⟩ := hE1.read
  obtain ⟨z0, z1, z2, z3, z4, z5⟩ := hE1.z
  obtain ⟨g1, g2⟩ := emptied hE1 hE1.cs.row
  have K := Aside0.mk (And.intro (g2.fin ⟨false, 0, 0, 0, false, ps⟩ g1) hst)
  have n1 : S ≠ W.heap.size := by omega
  have n2 : W.heap.size ≠ S := by omega
  have n3 : S ≠ w.heap.size + 1 := fun e => by
    have h1 := hE.cs.own
    rw [e, hE.b1] at h1
    injection h1 with h1; injection h1 with _ h1 _; cases h1
  have n4 : w.heap.size + 1 ≠ S := fun e => n3 e.symm
  have n5 : W.heap.size ≠ w.heap.size + 1 := by omega
  have n6 : w.heap.size + 1 ≠ W.heap.size := by omega
  have HX := Aside0.mk (And.intro hS hp1)
  clear h hE hQ hst hXb hX1 hE1 g1 g2 hB1 hn hS hp1
  go_enter Try.func8, Try.ntmps8
  go_wp2_with (fail)
  obtain ⟨⟨f0, f1, f2, f3⟩, hst⟩ := K.out
  simp only [put6] at f0 f1 f2 f3
  refine bodyPost_ret (v := sov (⟨false, 0, 0, 0, false, ps⟩ : So) (.slice A n cc)) ?_ rfl ?_
  · obtain ⟨q0, q1, q2, q3, q4, q5⟩ := six (o := (⟨false, 0, 0, 0, false, ps⟩ : So)) (gv := (.slice A n cc)) f0
    simp [results, go_sem, q0, q1, q2, q3, q4, q5, Try.f8, sov]
  rw [← HQ.out, hst]
  exact ⟨_, rfl, f1, f2, _, f3⟩
end Go.Proofs.Ytjhmcpdnmfhodaa.Spo
end

section
/- The walk of the specification's Step: the rate. -/
namespace Go.Proofs.Ytjhmcpdnmfhodaa.Spv
open Go Go.RowKit Go.Proofs.YtjhmcpdnmfhodaaW.PrintWords Go.Proofs.YtjhmcpdnmfhodaaW.PrintLast Go.Proofs.YtjhmcpdnmfhodaaW.PrintMore Spm Spt Spu Spg Sps Lra Ll Lcw Lcp Flt

-- TABLES
def T34 : Bool × List (List Nat × List Nat) := (true, [([], []), ([0], [0]), ([1], [1]), ([2], [2]), ([3], [3]), ([], []), ([5], [5]), ([6], [6]), ([7], [7]), ([], []), ([9], [9]), ([10], [10]), ([11], [11]), ([8, 12], [8, 12]), ([13], [13]), ([4, 14], [4, 14]), ([15], [15]), ([16, 0, 1, 2, 3, 4, 5, 6, 7, 8, 9, 10, 11, 12, 13, 14, 15, 16], [16])])
def B34 : List Nat := [0, 1, 3, 7, 15, 0, 32, 96, 224, 0, 512, 1536, 3584, 8160, 16352, 32767, 65535, 131071]
theorem tab34 : rtab .any (opsOf Try.f8 34) = T34 := by kernel_rfl
theorem bits34 : waitsOk T34.2 B34 = true := by kernel_rfl
-- END TABLES
variable {B : Nat} {w : World} {S : Nat} {sz hh mm : Int} {v : Value} {ps : List (Int × Int)}
theorem En0.drewN {B : Nat} {w W : World} {S : Nat} {sz hh mm : Int} {v : Value} {ps : List (Int × Int)} {d k u : Int} {c : Array Value} (h : En0 B w W S sz hh mm v ps d k u c) (n : Nat) : En0 B w (W.drewN n) S sz hh mm v ps d k u c := ⟨h.b0, h.b1, h.cs.drewN n, h.bt.drewN n⟩
theorem En0.drew {B : Nat} {w W : World} {S : Nat} {sz hh mm : Int} {v : Value} {ps : List (Int × Int)} {d k u : Int} {c : Array Value} (h : En0 B w W S sz hh mm v ps d k u c) : En0 B w W.drew S sz hh mm v ps d k u c := ⟨h.b0, h.b1, h.cs.drew, ⟨h.bt.b.drew, h.bt.ty⟩⟩
set_option linter.all false in
set_option maxRecDepth 1000000 in
set_option maxHeartbeats 4000000 in
theorem cRate0 (h : Cs B w S sz v hh mm ps) (h0 : hh + mm = 0) (k u : Int) :
    Calls Try.prog 8 #[.pointer (some ⟨S, 0, none⟩), .agg #[.int .i64 8, .int .i64 k, .int .i64 u]] w (Post B w S sz (sstep sz ⟨ps, hh, mm⟩ ⟨8, k, u⟩)) := by
  have hE := En0.start h 8 k u
  obtain ⟨W, hW⟩ : ∃ W, (w.alloc (.cells #[.int .i64 8, .int .i64 k, .int .i64 u] 36)).alloc (.cells #[.bool false, .int .i64 0, .int .i64 0, .float .f64 0, .bool false, .slice none 0 0] 33) = W := ⟨_, rfl⟩
  obtain ⟨Q, hQ⟩ : ∃ Q, Post B w S sz (sstep sz ⟨ps, hh, mm⟩ ⟨8, k, u⟩) = Q := ⟨_, rfl⟩
  rw [hQ]
  unfold z33 at hE
  rw [hW] at hE
  obtain ⟨x0, x1, x2, _, xf⟩ := hE.read
  have hsf : ∀ (W : World) (ad : Addr) (b : Nat), (store ad (.float .f64 b)).run Try.prog W = stored Try.prog W ad (.float .f64 b) .plain := fun W ad b => run_store Try.prog W ad _ .plain rfl
  have HQ := Aside0.mk hQ
  have HE := Aside0.mk hE
  have c2 : W.cell? ⟨S, 2, none⟩ = some (.int .i64 hh) := by rw [Lib.cell_of_heap hE.cs.own]; rfl
  have c3 : W.cell? ⟨S, 3, none⟩ = some (.int .i64 mm) := by rw [Lib.cell_of_heap hE.cs.own]; rfl
  have hst : sstep sz ⟨ps, hh, mm⟩ ⟨8, k, u⟩ = (⟨ps, hh, mm⟩, ⟨false, 0, 0, 0, false, []⟩) := by
    show (_, (⟨false, 0, 0, rt hh mm, false, []⟩ : So)) = _
    rw [show rt hh mm = 0 from if_pos h0]
  have hw : wrap64 (hh + mm) = 0 := by rw [h0]; unfold wrap64; omega
  have hd : (wrap64 (hh + mm) == 0) = true := by rw [hw]; rfl
  have HS := Aside0.mk hst
  clear h hE hQ hst hw h0
  go_enter Try.func8, Try.ntmps8
  go_wp2_with (fail)
  go_quiet (fail)
  have hE1 := En0.drewN HE.out nq
  obtain ⟨_, _, _, _, xf1⟩ := hE1.read
  obtain ⟨z0, z1, z2, z3, z4, z5⟩ := hE1.z
  have K := Aside0.mk (And.intro (hE1.fin ⟨false, 0, 0, 0, false, []⟩ (nilRow B _)) HS.out)
  clear hE1 c2 c3 hW
  obtain ⟨W1, hW1⟩ : ∃ W1, W.drewN nq = W1 := ⟨_, rfl⟩
  rw [hW1] at K xf1 z0 z1 z2 z3 z4 z5 ⊢
  clear hW1
  go_wp2_with (fail)
  obtain ⟨⟨f0, f1, f2, f3⟩, hst⟩ := K.out
  simp only [put6] at f0 f1 f2 f3
  refine bodyPost_ret (v := sov (⟨false, 0, 0, 0, false, []⟩ : So) (.slice none 0 0)) ?_ rfl ?_
  · obtain ⟨q0, q1, q2, q3, q4, q5⟩ := six (o := (⟨false, 0, 0, 0, false, []⟩ : So)) (gv := (.slice none 0 0)) f0
    simp [results, go_sem, q0, q1, q2, q3, q4, q5, Try.f8, sov]
  rw [← HQ.out, hst]
  exact ⟨_, rfl, f1, f2, _, f3⟩
set_option linter.all false in
set_option maxRecDepth 1000000 in
set_option maxHeartbeats 4000000 in
theorem cRate1 (h : Cs B w S sz v hh mm ps) (hh0 : 0 ≤ hh) (mm0 : 0 ≤ mm) (hb : hh + mm ≤ 4000) (h0 : hh + mm ≠ 0) (k u : Int) :
    Calls Try.prog 8 #[.pointer (some ⟨S, 0, none⟩), .agg #[.int .i64 8, .int .i64 k, .int .i64 u]] w (Post B w S sz (sstep sz ⟨ps, hh, mm⟩ ⟨8, k, u⟩)) := by
  have hE := En0.start h 8 k u
  obtain ⟨W, hW⟩ : ∃ W, (w.alloc (.cells #[.int .i64 8, .int .i64 k, .int .i64 u] 36)).alloc (.cells #[.bool false, .int .i64 0, .int .i64 0, .float .f64 0, .bool false, .slice none 0 0] 33) = W := ⟨_, rfl⟩
  obtain ⟨Q, hQ⟩ : ∃ Q, Post B w S sz (sstep sz ⟨ps, hh, mm⟩ ⟨8, k, u⟩) = Q := ⟨_, rfl⟩
  rw [hQ]
  unfold z33 at hE
  rw [hW] at hE
  obtain ⟨x0, x1, x2, _, xf⟩ := hE.read
  have hsf : ∀ (W : World) (ad : Addr) (b : Nat), (store ad (.float .f64 b)).run Try.prog W = stored Try.prog W ad (.float .f64 b) .plain := fun W ad b => run_store Try.prog W ad _ .plain rfl
  have HQ := Aside0.mk hQ
  have HE := Aside0.mk hE
  have c2 : W.cell? ⟨S, 2, none⟩ = some (.int .i64 hh) := by rw [Lib.cell_of_heap hE.cs.own]; rfl
  have c3 : W.cell? ⟨S, 3, none⟩ = some (.int .i64 mm) := by rw [Lib.cell_of_heap hE.cs.own]; rfl
  have hst : sstep sz ⟨ps, hh, mm⟩ ⟨8, k, u⟩ = (⟨ps, hh, mm⟩, ⟨false, 0, 0, rt hh mm, false, []⟩) := rfl
  have hw : wrap64 (hh + mm) = hh + mm := by unfold wrap64; omega
  have hd : (hh + mm == 0) = false := by rw [beq_eq_false_iff_ne]; exact h0
  have hdiv := rt_div hh0 mm0 hb h0
  obtain ⟨R, hR⟩ : ∃ R, rt hh mm = R := ⟨_, rfl⟩
  rw [hR] at hdiv hst
  have hq : ∀ W : World, (binOp .quo 30 (.float .f64 (floatOfInt .f64 hh)) (.float .f64 (floatOfInt .f64 (hh + mm)))).run Try.prog W = .ok (.float .f64 R) W := fun W => run_float_arith W .quo 30 .f64 _ _ R hdiv
  have HS := Aside0.mk hst
  clear h hE hQ hst h0 hdiv hR hh0 mm0 hb
  go_enter Try.func8, Try.ntmps8
  go_wp2_with (fail)
  go_quiet (fail)
  go_wp2_with (fail)
  have hE1 := En0.drewN HE.out nq
  have hE2 := En0.drew hE1
  obtain ⟨_, _, _, _, xf1⟩ := hE1.read
  obtain ⟨z0, z1, z2, z3, z4, z5⟩ := hE1.z
  have hF := hE2.fin ⟨false, 0, 0, R, false, []⟩ (nilRow B _)
  obtain ⟨X, hX⟩ : ∃ X, W.drewN nq = X := ⟨_, rfl⟩
  rw [hX] at hF xf1 z0 z1 z2 z3 z4 z5 ⊢
  have S0 : Aside0 (X.cell? ⟨S, 2, none⟩ = some (.int .i64 hh) ∧ X.cell? ⟨S, 3, none⟩ = some (.int .i64 mm)) := ⟨by rw [← hX]; exact ⟨c2, c3⟩⟩
  clear hE1 hE2 c2 c3 hW hX
  obtain ⟨w3, hw3⟩ : ∃ w3, w3 = put6 X.drew (w.heap.size + 1) ⟨false, 0, 0, R, false, []⟩ (.slice none 0 0) := ⟨_, rfl⟩
  rw [← hw3] at hF
  have K := Aside0.mk (And.intro hF HS.out)
  simp only [put6] at hw3
  have HW3 := Aside0.mk hw3
  clear hw3 hF
  -- REGION 34
  refine start_ (n := 18) (S := fun w' => w'.cell? ⟨S, 2, none⟩ = some (.int .i64 hh) ∧ w'.cell? ⟨S, 3, none⟩ = some (.int .i64 mm)) (ds := [17]) #[false, false, false, false, false, false, false, false, false, false, false, false, false, false, false, false, false, false] (by kernel_rfl) rfl rfl S0.out (fun hHeld => ?_); refine with_tabW tab34 bits34 (fun HT_ HW_ => ?_)
  refine pure_ (i := 0) (N := some 133) (v := ?_) (a' := ?_) #[true, false, false, false, false, false, false, false, false, false, false, false, false, false, false, false, false, false] rfl rfl (any_of HT_.out (by kernel_rfl)) (fun _ _ _ h => h) (Or.inl ⟨by rfl, ?_⟩) ?_ ?_
  rotate_left
  · intro w'
    go_simp
    with_reducible rfl
  rotate_left
  · simp only [Act.put, List.setIfInBounds_toArray, List.set_cons_zero, List.set_cons_succ, i64_w, i32_w]
    rfl
  refine pure_ (i := 1) (N := some 134) (v := ?_) (a' := ?_) #[true, true, false, false, false, false, false, false, false, false, false, false, false, false, false, false, false, false] rfl rfl (any_of HT_.out (by kernel_rfl)) (fun _ _ _ h => h) (Or.inl ⟨by rfl, ?_⟩) ?_ ?_
  rotate_left
  · intro w'
    go_simp
    with_reducible rfl
  rotate_left
  · simp only [Act.put, List.setIfInBounds_toArray, List.set_cons_zero, List.set_cons_succ, i64_w, i32_w]
    rfl
  refine pure_ (i := 2) (N := some 135) (v := ?_) (a' := ?_) #[true, true, true, false, false, false, false, false, false, false, false, false, false, false, false, false, false, false] rfl rfl (any_of HT_.out (by kernel_rfl)) (fun _ _ _ h => h) (Or.inl ⟨by rfl, ?_⟩) ?_ ?_
  rotate_left
  · intro w'
    go_simp
    with_reducible rfl
  rotate_left
  · simp only [Act.put, List.setIfInBounds_toArray, List.set_cons_zero, List.set_cons_succ, i64_w, i32_w]
    rfl
  refine take_ (i := 3) (N := some 136) (v := ?_) (a' := ?_) #[true, true, true, true, false, false, false, false, false, false, false, false, false, false, false, false, false, false] rfl rfl (take_ofW HT_.out HW_.out (by kernel_rfl)) (fun _ _ _ h => h) (Or.inl ⟨by rfl, ?_⟩) hHeld ?_ ?_
  rotate_left
  · rintro w' ⟨s0, s1⟩
    go_simp
    with_reducible rfl
  rotate_left
  · simp only [Act.put, List.setIfInBounds_toArray, List.set_cons_zero, List.set_cons_succ, i64_w, i32_w]
    rfl
  refine pure_ (i := 4) (N := some 137) (v := ?_) (a' := ?_) #[true, true, true, true, true, false, false, false, false, false, false, false, false, false, false, false, false, false] rfl rfl (any_of HT_.out (by kernel_rfl)) (fun _ _ _ h => h) (Or.inl ⟨by rfl, ?_⟩) ?_ ?_
  rotate_left
  · intro w'
    go_simp
    with_reducible rfl
  rotate_left
  · simp only [Act.put, List.setIfInBounds_toArray, List.set_cons_zero, List.set_cons_succ, i64_w, i32_w]
    rfl
  refine pure_ (i := 5) (N := some 138) (v := ?_) (a' := ?_) #[true, true, true, true, true, true, false, false, false, false, false, false, false, false, false, false, false, false] rfl rfl (any_of HT_.out (by kernel_rfl)) (fun _ _ _ h => h) (Or.inl ⟨by rfl, ?_⟩) ?_ ?_
  rotate_left
  · intro w'
    go_simp
    with_reducible rfl
  rotate_left
  · simp only [Act.put, List.setIfInBounds_toArray, List.set_cons_zero, List.set_cons_succ, i64_w, i32_w]
    rfl
  refine pure_ (i := 6) (N := some 139) (v := ?_) (a' := ?_) #[true, true, true, true, true, true, true, false, false, false, false, false, false, false, false, false, false, false] rfl rfl (any_of HT_.out (by kernel_rfl)) (fun _ _ _ h => h) (Or.inl ⟨by rfl, ?_⟩) ?_ ?_
  rotate_left
  · intro w'
    go_simp
    with_reducible rfl
  rotate_left
  · simp only [Act.put, List.setIfInBounds_toArray, List.set_cons_zero, List.set_cons_succ, i64_w, i32_w]
    rfl
  refine pure_ (i := 7) (N := some 140) (v := ?_) (a' := ?_) #[true, true, true, true, true, true, true, true, false, false, false, false, false, false, false, false, false, false] rfl rfl (any_of HT_.out (by kernel_rfl)) (fun _ _ _ h => h) (Or.inl ⟨by rfl, ?_⟩) ?_ ?_
  rotate_left
  · intro w'
    go_simp
    with_reducible rfl
  rotate_left
  · simp only [Act.put, List.setIfInBounds_toArray, List.set_cons_zero, List.set_cons_succ, i64_w, i32_w]
    rfl
  refine take_ (i := 8) (N := some 141) (v := ?_) (a' := ?_) #[true, true, true, true, true, true, true, true, true, false, false, false, false, false, false, false, false, false] rfl rfl (take_ofW HT_.out HW_.out (by kernel_rfl)) (fun _ _ _ h => h) (Or.inl ⟨by rfl, ?_⟩) hHeld ?_ ?_
  rotate_left
  · rintro w' ⟨s0, s1⟩
    go_simp
    with_reducible rfl
  rotate_left
  · simp only [Act.put, List.setIfInBounds_toArray, List.set_cons_zero, List.set_cons_succ, i64_w, i32_w]
    rfl
  refine pure_ (i := 9) (N := some 142) (v := ?_) (a' := ?_) #[true, true, true, true, true, true, true, true, true, true, false, false, false, false, false, false, false, false] rfl rfl (any_of HT_.out (by kernel_rfl)) (fun _ _ _ h => h) (Or.inl ⟨by rfl, ?_⟩) ?_ ?_
  rotate_left
  · intro w'
    go_simp
    with_reducible rfl
  rotate_left
  · simp only [Act.put, List.setIfInBounds_toArray, List.set_cons_zero, List.set_cons_succ, i64_w, i32_w]
    rfl
  refine pure_ (i := 10) (N := some 143) (v := ?_) (a' := ?_) #[true, true, true, true, true, true, true, true, true, true, true, false, false, false, false, false, false, false] rfl rfl (any_of HT_.out (by kernel_rfl)) (fun _ _ _ h => h) (Or.inl ⟨by rfl, ?_⟩) ?_ ?_
  rotate_left
  · intro w'
    go_simp
    with_reducible rfl
  rotate_left
  · simp only [Act.put, List.setIfInBounds_toArray, List.set_cons_zero, List.set_cons_succ, i64_w, i32_w]
    rfl
  refine pure_ (i := 11) (N := some 144) (v := ?_) (a' := ?_) #[true, true, true, true, true, true, true, true, true, true, true, true, false, false, false, false, false, false] rfl rfl (any_of HT_.out (by kernel_rfl)) (fun _ _ _ h => h) (Or.inl ⟨by rfl, ?_⟩) ?_ ?_
  rotate_left
  · intro w'
    go_simp
    with_reducible rfl
  rotate_left
  · simp only [Act.put, List.setIfInBounds_toArray, List.set_cons_zero, List.set_cons_succ, i64_w, i32_w]
    rfl
  refine take_ (i := 12) (N := some 145) (v := ?_) (a' := ?_) #[true, true, true, true, true, true, true, true, true, true, true, true, true, false, false, false, false, false] rfl rfl (take_ofW HT_.out HW_.out (by kernel_rfl)) (fun _ _ _ h => h) (Or.inl ⟨by rfl, ?_⟩) hHeld ?_ ?_
  rotate_left
  · rintro w' ⟨s0, s1⟩
    go_simp
    with_reducible rfl
  rotate_left
  · simp only [Act.put, List.setIfInBounds_toArray, List.set_cons_zero, List.set_cons_succ, i64_w, i32_w]
    rfl
  refine pure_ (i := 13) (N := some 146) (v := ?_) (a' := ?_) #[true, true, true, true, true, true, true, true, true, true, true, true, true, true, false, false, false, false] rfl rfl (any_of HT_.out (by kernel_rfl)) (fun _ _ _ h => h) (Or.inl ⟨by rfl, ?_⟩) ?_ ?_
  rotate_left
  · intro w'
    go_simp
    with_reducible rfl
  rotate_left
  · simp only [Act.put, List.setIfInBounds_toArray, List.set_cons_zero, List.set_cons_succ, i64_w, i32_w]
    rfl
  refine pure_ (i := 14) (N := some 147) (v := ?_) (a' := ?_) #[true, true, true, true, true, true, true, true, true, true, true, true, true, true, true, false, false, false] rfl rfl (any_of HT_.out (by kernel_rfl)) (fun _ _ _ h => h) (Or.inl ⟨by rfl, ?_⟩) ?_ ?_
  rotate_left
  · intro w'
    go_simp
    with_reducible rfl
  rotate_left
  · simp only [Act.put, List.setIfInBounds_toArray, List.set_cons_zero, List.set_cons_succ, i64_w, i32_w]
    rfl
  refine pure_ (i := 15) (N := some 148) (v := ?_) (a' := ?_) #[true, true, true, true, true, true, true, true, true, true, true, true, true, true, true, true, false, false] rfl rfl (any_of HT_.out (by kernel_rfl)) (fun _ _ _ h => h) (Or.inl ⟨by rfl, ?_⟩) ?_ ?_
  rotate_left
  · intro w'
    go_simp
    with_reducible rfl
  rotate_left
  · simp only [Act.put, List.setIfInBounds_toArray, List.set_cons_zero, List.set_cons_succ, i64_w, i32_w]
    rfl
  refine pure_ (i := 16) (N := some 149) (v := ?_) (a' := ?_) #[true, true, true, true, true, true, true, true, true, true, true, true, true, true, true, true, true, false] rfl rfl (any_of HT_.out (by kernel_rfl)) (fun _ _ _ h => h) (Or.inl ⟨by rfl, ?_⟩) ?_ ?_
  rotate_left
  · intro w'
    go_simp
    with_reducible rfl
  rotate_left
  · simp only [Act.put, List.setIfInBounds_toArray, List.set_cons_zero, List.set_cons_succ, i64_w, i32_w]
    rfl
  refine last_ (i := 17) (N := none) #[true, true, true, true, true, true, true, true, true, true, true, true, true, true, true, true, true, true] rfl rfl (one_of HT_.out (by kernel_rfl)) (by decide) (fun Kc hKc => ?_)
  refine skip_ (w1 := w3) (by rfl) rfl ?_ ?_
  · rw [HW3.out]; go_simp
    try rfl
  refine hKc.out _ _ ?_
  clear hKc Kc
  refine done_ (done_of HT_.out (by kernel_rfl)) ?_
  -- END REGION 34
  clear hHeld
  go_wp2_with (fail)
  clear HW3
  obtain ⟨⟨f0, f1, f2, f3⟩, hst⟩ := K.out
  refine bodyPost_ret (v := sov (⟨false, 0, 0, R, false, []⟩ : So) (.slice none 0 0)) ?_ rfl ?_
  · obtain ⟨q0, q1, q2, q3, q4, q5⟩ := six (o := (⟨false, 0, 0, R, false, []⟩ : So)) (gv := (.slice none 0 0)) f0
    simp [results, go_sem, q0, q1, q2, q3, q4, q5, Try.f8, sov]
  rw [← HQ.out, hst]
  exact ⟨_, rfl, f1, f2, _, f3⟩
end Go.Proofs.Ytjhmcpdnmfhodaa.Spv
end

section
/- The walk of the specification's Step: GetOrCompute; and all its cases. -/
namespace Go.Proofs.Ytjhmcpdnmfhodaa.Spq
open Go Go.RowKit Go.Proofs.YtjhmcpdnmfhodaaW.PrintWords Go.Proofs.YtjhmcpdnmfhodaaW.PrintLast Go.Proofs.YtjhmcpdnmfhodaaW.PrintMore Spm Spt Spu Spg Sps Spr Spo Spv Lra Ll Lcw Lcp Flt

-- TABLES
def T12 : Bool × List (List Nat × List Nat) := (true, [([], []), ([0], [0]), ([], []), ([], []), ([3], [3]), ([], []), ([5], [5]), ([2, 4, 6], [2, 4, 6]), ([1, 7], [1, 7]), ([8, 7, 0, 1, 2, 3, 4, 5, 6, 7, 8], [8])])
def B12 : List Nat := [0, 1, 0, 0, 8, 0, 32, 124, 255, 511]
theorem tab12 : rtab .any (opsOf Try.f8 12) = T12 := by kernel_rfl
theorem bits12 : waitsOk T12.2 B12 = true := by kernel_rfl
-- END TABLES
variable {B : Nat} {w : World} {S : Nat} {sz hh mm : Int} {v : Value} {ps : List (Int × Int)}
set_option linter.all false in
set_option maxRecDepth 1000000 in
set_option maxHeartbeats 4000000 in
theorem cComp1 (h : Cs B w S sz v hh mm ps) (hl : ps.length ≤ 100000) (k u : Int) (hp : 0 ≤ place ps k ps.length) :
    Calls Try.prog 8 #[.pointer (some ⟨S, 0, none⟩), .agg #[.int .i64 2, .int .i64 k, .int .i64 u]] w (Post B w S sz (sstep sz ⟨ps, hh, mm⟩ ⟨2, k, u⟩)) := by
  have hE := En0.start h 2 k u
  obtain ⟨W, hW⟩ : ∃ W, (w.alloc (.cells #[.int .i64 2, .int .i64 k, .int .i64 u] 36)).alloc (.cells #[.bool false, .int .i64 0, .int .i64 0, .float .f64 0, .bool false, .slice none 0 0] 33) = W := ⟨_, rfl⟩
  obtain ⟨Q, hQ⟩ : ∃ Q, Post B w S sz (sstep sz ⟨ps, hh, mm⟩ ⟨2, k, u⟩) = Q := ⟨_, rfl⟩
  rw [hQ]
  unfold z33 at hE
  rw [hW] at hE
  obtain ⟨x0, x1, x2, _, xf⟩ := hE.read
  have hsf : ∀ (W : World) (ad : Addr) (b : Nat), (store ad (.float .f64 b)).run Try.prog W = stored Try.prog W ad (.float .f64 b) .plain := fun W ad b => run_store Try.prog W ad _ .plain rfl
  have HQ := Aside0.mk hQ
  have HE := Aside0.mk hE
  have cG := gotHit hE.cs hl hp
  have hst : sstep sz ⟨ps, hh, mm⟩ ⟨2, k, u⟩ = (⟨ps.eraseIdx (place ps k ps.length).toNat ++ [ps.getD (place ps k ps.length).toNat (0, 0)], wrap64 (hh + 1), mm⟩, ⟨false, 0, (ps.getD (place ps k ps.length).toNat (0, 0)).2, 0, false, []⟩) := if_pos hp
  obtain ⟨y, hy⟩ : ∃ y, ps.getD (place ps k ps.length).toNat (0, 0) = y := ⟨_, rfl⟩
  obtain ⟨q, hq⟩ : ∃ q, ps.eraseIdx (place ps k ps.length).toNat ++ [y] = q := ⟨_, rfl⟩
  rw [hy] at cG hst
  rw [hq] at cG hst
  have HS := Aside0.mk hst
  clear h hl hE hQ hst hy hq hp
  go_enter Try.func8, Try.ntmps8
  go_wp2_with (first | (
    go_at_call 25
    refine cG.mono ?_
    rintro e w1 ⟨rfl, hb, v1, hC1⟩
    have hE1 := HE.out.next hb hC1
    obtain ⟨_, _, _, _, xf1⟩ := hE1.read
    obtain ⟨z0, z1, z2, z3, z4, z5⟩ := hE1.z
    have K := Aside0.mk (And.intro (hE1.fin ⟨false, 0, y.2, 0, false, []⟩ (nilRow B w1)) HS.out)
    clear hE1 hb hC1 cG hW x0 x1 x2 xf))
  obtain ⟨⟨f0, f1, f2, f3⟩, hst⟩ := K.out
  simp only [put6] at f0 f1 f2 f3
  refine bodyPost_ret (v := sov (⟨false, 0, y.2, 0, false, []⟩ : So) (.slice none 0 0)) ?_ rfl ?_
  · obtain ⟨q0, q1, q2, q3, q4, q5⟩ := six (o := (⟨false, 0, y.2, 0, false, []⟩ : So)) (gv := (.slice none 0 0)) f0
    simp [results, go_sem, q0, q1, q2, q3, q4, q5, Try.f8, sov]
  rw [← HQ.out, hst]
  exact ⟨_, rfl, f1, f2, _, f3⟩
set_option linter.all false in
set_option maxRecDepth 1000000 in
set_option maxHeartbeats 4000000 in
theorem cComp2 (h : Cs B w S sz v hh mm ps) (h0 : 0 < sz) (hl : ps.length ≤ 100000) (k u : Int) (hp : ¬ 0 ≤ place ps k ps.length) :
    Calls Try.prog 8 #[.pointer (some ⟨S, 0, none⟩), .agg #[.int .i64 2, .int .i64 k, .int .i64 u]] w (Post B w S sz (sstep sz ⟨ps, hh, mm⟩ ⟨2, k, u⟩)) := by
  have hE := En0.start h 2 k u
  obtain ⟨W, hW⟩ : ∃ W, (w.alloc (.cells #[.int .i64 2, .int .i64 k, .int .i64 u] 36)).alloc (.cells #[.bool false, .int .i64 0, .int .i64 0, .float .f64 0, .bool false, .slice none 0 0] 33) = W := ⟨_, rfl⟩
  obtain ⟨Q, hQ⟩ : ∃ Q, Post B w S sz (sstep sz ⟨ps, hh, mm⟩ ⟨2, k, u⟩) = Q := ⟨_, rfl⟩
  rw [hQ]
  unfold z33 at hE
  rw [hW] at hE
  obtain ⟨x0, x1, x2, _, xf⟩ := hE.read
  have hsf : ∀ (W : World) (ad : Addr) (b : Nat), (store ad (.float .f64 b)).run Try.prog W = stored Try.prog W ad (.float .f64 b) .plain := fun W ad b => run_store Try.prog W ad _ .plain rfl
  have HQ := Aside0.mk hQ
  have HE := Aside0.mk hE
  have cG := gotMiss hE.cs hl hp
  have HS := Aside0.mk (show sstep sz ⟨ps, hh, mm⟩ ⟨2, k, u⟩ = (⟨put1 sz ps k u, hh, wrap64 (mm + 1)⟩, ⟨false, 0, u, 0, true, gone1 sz ps k⟩) from if_neg hp)
  have H0 := Aside0.mk (And.intro h0 hl)
  clear h hl hE hQ hp h0
  go_enter Try.func8, Try.ntmps8
  go_wp2_with (first | (
    go_at_call 25
    refine cG.mono ?_
    rintro e w1 ⟨rfl, hb, hC1⟩
    have HE1 := Aside0.mk (HE.out.next hb hC1)
    clear hb hC1 cG hW x0 x1 x2 xf))
  have cP := cPut HE1.out.cs.drew H0.out.1 H0.out.2 k u
  obtain ⟨x0, x1, x2, _, _⟩ := HE1.out.read
  have S0 : Aside0 (w1.cell? ⟨w.heap.size, 1, none⟩ = some (.int .i64 k) ∧ w1.cell? ⟨w.heap.size, 2, none⟩ = some (.int .i64 u)) := ⟨⟨x1, x2⟩⟩
  clear x0 x1 x2
  -- REGION 12
  refine start_ (n := 10) (S := fun w' => w'.cell? ⟨w.heap.size, 1, none⟩ = some (.int .i64 k) ∧ w'.cell? ⟨w.heap.size, 2, none⟩ = some (.int .i64 u)) (ds := [9]) #[false, false, false, false, false, false, false, false, false, false] (by kernel_rfl) rfl rfl S0.out (fun hHeld => ?_); refine with_tabW tab12 bits12 (fun HT_ HW_ => ?_)
  refine pure_ (i := 0) (N := some 52) (v := ?_) (a' := ?_) #[true, false, false, false, false, false, false, false, false, false] rfl rfl (any_of HT_.out (by kernel_rfl)) (fun _ _ _ h => h) (Or.inl ⟨by rfl, ?_⟩) ?_ ?_
  rotate_left
  · intro w'
    go_simp
    with_reducible rfl
  rotate_left
  · simp only [Act.put, List.setIfInBounds_toArray, List.set_cons_zero, List.set_cons_succ, i64_w, i32_w]
    rfl
  refine take_ (i := 1) (N := some 53) (v := ?_) (a' := ?_) #[true, true, false, false, false, false, false, false, false, false] rfl rfl (take_ofW HT_.out HW_.out (by kernel_rfl)) (fun _ _ _ h => h) (Or.inl ⟨by rfl, ?_⟩) hHeld ?_ ?_
  rotate_left
  · rintro w' ⟨s1, s2⟩
    go_simp
    with_reducible rfl
  rotate_left
  · simp only [Act.put, List.setIfInBounds_toArray, List.set_cons_zero, List.set_cons_succ, i64_w, i32_w]
    rfl
  refine pure_ (i := 2) (N := some 54) (v := ?_) (a' := ?_) #[true, true, true, false, false, false, false, false, false, false] rfl rfl (any_of HT_.out (by kernel_rfl)) (fun _ _ _ h => h) (Or.inl ⟨by rfl, ?_⟩) ?_ ?_
  rotate_left
  · intro w'
    go_simp
    with_reducible rfl
  rotate_left
  · simp only [Act.put, List.setIfInBounds_toArray, List.set_cons_zero, List.set_cons_succ, i64_w, i32_w]
    rfl
  refine pure_ (i := 3) (N := some 55) (v := ?_) (a' := ?_) #[true, true, true, true, false, false, false, false, false, false] rfl rfl (any_of HT_.out (by kernel_rfl)) (fun _ _ _ h => h) (Or.inl ⟨by rfl, ?_⟩) ?_ ?_
  rotate_left
  · intro w'
    go_simp
    with_reducible rfl
  rotate_left
  · simp only [Act.put, List.setIfInBounds_toArray, List.set_cons_zero, List.set_cons_succ, i64_w, i32_w]
    rfl
  refine take_ (i := 4) (N := some 56) (v := ?_) (a' := ?_) #[true, true, true, true, true, false, false, false, false, false] rfl rfl (take_ofW HT_.out HW_.out (by kernel_rfl)) (fun _ _ _ h => h) (Or.inl ⟨by rfl, ?_⟩) hHeld ?_ ?_
  rotate_left
  · rintro w' ⟨s1, s2⟩
    go_simp
    with_reducible rfl
  rotate_left
  · simp only [Act.put, List.setIfInBounds_toArray, List.set_cons_zero, List.set_cons_succ, i64_w, i32_w]
    rfl
  refine pure_ (i := 5) (N := some 57) (v := ?_) (a' := ?_) #[true, true, true, true, true, true, false, false, false, false] rfl rfl (any_of HT_.out (by kernel_rfl)) (fun _ _ _ h => h) (Or.inl ⟨by rfl, ?_⟩) ?_ ?_
  rotate_left
  · intro w'
    go_simp
    with_reducible rfl
  rotate_left
  · simp only [Act.put, List.setIfInBounds_toArray, List.set_cons_zero, List.set_cons_succ, i64_w, i32_w]
    rfl
  refine take_ (i := 6) (N := some 58) (v := ?_) (a' := ?_) #[true, true, true, true, true, true, true, false, false, false] rfl rfl (take_ofW HT_.out HW_.out (by kernel_rfl)) (fun _ _ _ h => h) (Or.inl ⟨by rfl, ?_⟩) hHeld ?_ ?_
  rotate_left
  · rintro w' ⟨s1, s2⟩
    go_simp
    with_reducible rfl
  rotate_left
  · simp only [Act.put, List.setIfInBounds_toArray, List.set_cons_zero, List.set_cons_succ, i64_w, i32_w]
    rfl
  refine one_ (i := 7) (N := some 59) #[true, true, true, true, true, true, true, true, false, false] rfl rfl (one_of HT_.out (by kernel_rfl)) (by decide) (fun Kc hKc => ?_)
  refine goes_ Try.func24 (by kernel_rfl) rfl #[.pointer (some ⟨S, 0, none⟩), .int .i64 k, .int .i64 u] (by rfl) rfl rfl (by (try simp only [List.map_toArray, List.map_cons, List.map_nil]); first | done | rfl) ?_
  refine (cP).mono ?_
  rintro e w2 ⟨gv, rfl, hg, hb, v3, hC3⟩
  refine ⟨_, rfl, ?_⟩
  have hE3 := HE1.out.next (Bt.of_drew hb) hC3
  obtain ⟨y0, y1, y2, _, xf3⟩ := hE3.read
  obtain ⟨z0, z1, z2, z3, z4, z5⟩ := hE3.z
  obtain ⟨A, n, cc, hv, hn⟩ : ∃ A n cc, gv = .slice A n cc ∧ (gone1 sz ps k).length = n := by
    rcases row_cases hg with ⟨h1, h2⟩ | ⟨g, c, h1⟩
    · exact ⟨_, _, _, h1, h2⟩
    · exact ⟨_, _, _, h1, rfl⟩
  have hF := hE3.fin ⟨false, 0, u, 0, true, gone1 sz ps k⟩ hg
  subst hv
  have SB : Aside0 (w2.cell? ⟨w.heap.size, 1, none⟩ = some (.int .i64 k) ∧ w2.cell? ⟨w.heap.size, 2, none⟩ = some (.int .i64 u)) := ⟨⟨y1, y2⟩⟩
  obtain ⟨w3, hw3⟩ : ∃ w3, w3 = put6 w2 (w.heap.size + 1) ⟨false, 0, u, 0, true, gone1 sz ps k⟩ (.slice A n cc) := ⟨_, rfl⟩
  rw [← hw3] at hF
  have K := Aside0.mk (And.intro hF HS.out)
  simp only [put6] at hw3
  have HW3 := Aside0.mk hw3
  clear hw3 hF hE3 hg hn hb hC3 y0 y1 y2
  refine hKc.out _ _ SB.out (fun hHeld => ?_)
  clear hKc Kc
  refine norm_ (a' := ?_) ?_ ?_
  rotate_left
  · show Act.put _ (some 59) _ = _
    simp only [Act.put, List.setIfInBounds_toArray, List.set_cons_zero, List.set_cons_succ, i64_w, i32_w]
    rfl
  refine pure_ (i := 8) (N := some 60) (v := ?_) (a' := ?_) #[true, true, true, true, true, true, true, true, true, false] rfl rfl (any_of HT_.out (by kernel_rfl)) (fun _ _ _ h => h) (Or.inl ⟨by rfl, ?_⟩) ?_ ?_
  rotate_left
  · intro w'
    go_simp
    with_reducible rfl
  rotate_left
  · simp only [Act.put, List.setIfInBounds_toArray, List.set_cons_zero, List.set_cons_succ, i64_w, i32_w]
    rfl
  refine last_ (i := 9) (N := none) #[true, true, true, true, true, true, true, true, true, true] rfl rfl (one_of HT_.out (by kernel_rfl)) (by decide) (fun Kc hKc => ?_)
  refine skip_ (w1 := w3) (by rfl) rfl ?_ ?_
  · rw [HW3.out]; go_simp
    try rfl
  refine hKc.out _ _ ?_
  clear hKc Kc
  refine done_ (done_of HT_.out (by kernel_rfl)) ?_
  -- END REGION 12
  clear hHeld
  go_wp2_with (fail)
  clear HW3
  obtain ⟨⟨f0, f1, f2, f3⟩, hst⟩ := K.out
  refine bodyPost_ret (v := sov (⟨false, 0, u, 0, true, gone1 sz ps k⟩ : So) (.slice A n cc)) ?_ rfl ?_
  · obtain ⟨q0, q1, q2, q3, q4, q5⟩ := six (o := (⟨false, 0, u, 0, true, gone1 sz ps k⟩ : So)) (gv := (.slice A n cc)) f0
    simp [results, go_sem, q0, q1, q2, q3, q4, q5, Try.f8, sov]
  rw [← HQ.out, hst]
  exact ⟨_, rfl, f1, f2, _, f3⟩
/-- each call of the specification's cache -/
theorem cStep (h : Cs B w S sz v hh mm ps) (h0 : 0 < sz) (hl : ps.length ≤ 100000) (hh0 : 0 ≤ hh) (mm0 : 0 ≤ mm) (hb : hh + mm ≤ 4000) (x : Op3) (hd : 0 ≤ x.d ∧ x.d ≤ 8) :
    Calls Try.prog 8 #[.pointer (some ⟨S, 0, none⟩), .agg #[.int .i64 x.d, .int .i64 x.k, .int .i64 x.v]] w (Post B w S sz (sstep sz ⟨ps, hh, mm⟩ x)) := by
  obtain ⟨d, k, u⟩ := x
  simp only at hd ⊢
  obtain rfl | rfl | rfl | rfl | rfl | rfl | rfl | rfl | rfl : d = 0 ∨ d = 1 ∨ d = 2 ∨ d = 3 ∨ d = 4 ∨ d = 5 ∨ d = 6 ∨ d = 7 ∨ d = 8 := by omega
  · exact cAdd h h0 hl k u
  · exact cGet h hl k u
  · by_cases hp : 0 ≤ place ps k ps.length
    · exact cComp1 h hl k u hp
    · exact cComp2 h h0 hl k u hp
  · exact cRemove h hl k u
  · exact cOldest h hl k u
  · exact cPurge h k u
  · exact cLen h k u
  · exact cCap h k u
  · by_cases hz : hh + mm = 0
    · exact cRate0 h hz k u
    · exact cRate1 h hh0 mm0 hb hz k u
end Go.Proofs.Ytjhmcpdnmfhodaa.Spq
end
