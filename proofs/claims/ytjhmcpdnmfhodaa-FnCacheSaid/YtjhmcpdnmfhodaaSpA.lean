/- The walk of the specification's 'taken'. -/
import Derived.Test.YtjhmcpdnmfhodaaSpm
import Derived.Test.YtjhmcpdnmfhodaaWTab
section
/- The walk of the specification's 'taken'. -/
namespace Go.Proofs.Ytjhmcpdnmfhodaa.Spt
open Go Go.RowKit Go.Proofs.YtjhmcpdnmfhodaaW.PrintWords Go.Proofs.YtjhmcpdnmfhodaaW.PrintLast Go.Proofs.YtjhmcpdnmfhodaaW.PrintMore Spm Lra Ll

theorem place_none {k : Int} : ∀ (ys xs : List (Int × Int)), (∀ p ∈ ys, p.1 ≠ k) → place (xs ++ ys) k ys.length = -1
  | [], _, _ => rfl
  | y :: t, xs, h => by
    show (if ((xs ++ y :: t).getD ((xs ++ y :: t).length - (t.length + 1)) (0, 0)).1 = k then _ else place (xs ++ y :: t) k t.length) = _
    have e : (xs ++ y :: t).length - (t.length + 1) = xs.length := by simp
    rw [e, List.getD_eq_getElem?_getD, List.getElem?_append_right (Nat.le_refl _), Nat.sub_self]
    rw [if_neg (show ¬ (((y :: t) : List (Int × Int))[0]?.getD (0, 0)).1 = k from h y (by simp))]
    have := place_none t (xs ++ [y]) (fun p hp => h p (by simp [hp]))
    rwa [List.append_assoc] at this
theorem place_some {k : Int} (p : Int × Int) (hp : p.1 = k) (zs : List (Int × Int)) : ∀ (ys xs : List (Int × Int)), (∀ q ∈ ys, q.1 ≠ k) → place (xs ++ (ys ++ p :: zs)) k (ys ++ p :: zs).length = ((xs.length + ys.length : Nat) : Int)
  | [], xs, _ => by
    show (if ((xs ++ p :: zs).getD ((xs ++ p :: zs).length - (zs.length + 1)) (0, 0)).1 = k then (((xs ++ p :: zs).length - (zs.length + 1) : Nat) : Int) else _) = _
    have e : (xs ++ p :: zs).length - (zs.length + 1) = xs.length := by simp
    rw [e, List.getD_eq_getElem?_getD, List.getElem?_append_right (Nat.le_refl _), Nat.sub_self]
    rw [if_pos (show (((p :: zs) : List (Int × Int))[0]?.getD (0, 0)).1 = k from hp)]
    rfl
  | y :: t, xs, h => by
    show (if ((xs ++ y :: (t ++ p :: zs)).getD ((xs ++ y :: (t ++ p :: zs)).length - ((t ++ p :: zs).length + 1)) (0, 0)).1 = k then _ else place (xs ++ y :: (t ++ p :: zs)) k (t ++ p :: zs).length) = _
    have e : (xs ++ y :: (t ++ p :: zs)).length - ((t ++ p :: zs).length + 1) = xs.length := by simp
    rw [e, List.getD_eq_getElem?_getD, List.getElem?_append_right (Nat.le_refl _), Nat.sub_self]
    rw [if_neg (show ¬ (((y :: (t ++ p :: zs)) : List (Int × Int))[0]?.getD (0, 0)).1 = k from h y (by simp))]
    have := place_some p hp zs t (xs ++ [y]) (fun q hq => h q (by simp [hq]))
    rw [List.append_assoc] at this
    rw [show (xs ++ y :: (t ++ p :: zs)) = xs ++ ([y] ++ (t ++ p :: zs)) from rfl, this]
    rw [List.length_append, List.length_singleton, List.length_cons]
    congr 1
    omega
theorem info44 : (Try.prog.info? 44).map (fun i => (i.zero, i.size, i.bytes)) = some (some (.agg #[.int .i64 0, .int .i64 0]), 2, 16) := by kernel_rfl
/-- an append of pairs -/
theorem app2 (B : Nat) (W : World) (v : Value) (n : Nat) (xs : List Value) (hown : W.ownsRow B 44 2 v n xs) (hB : B ≤ W.heap.size) (A : Addr) (m c : Nat) (ex : List (Int × Int)) (hm : ex.length = m) (hnews : ∀ j u, (pcs ex)[j]? = some u → W.cell? (A.add j) = some u) (hn : n + m ≤ 1000000) :
    ∃ v' w', (Builtin.append_ #[31, 31] 31 #[v, .slice (some A) m c]).run Try.prog W = .ok v' w' ∧ w'.ownsRow B 44 2 v' (n + m) (xs ++ pcs ex) ∧ W.grownBy w' v.ownBlock ∧ (v'.ownBlock = v.ownBlock ∨ v'.ownBlock = some W.heap.size) := by
  obtain ⟨i, hi0⟩ : ∃ i, Try.prog.info? 44 = some i := by
    cases h : Try.prog.info? 44 with
    | none => have := info44; rw [h] at this; cases this
    | some i => exact ⟨i, rfl⟩
  have hinf := info44
  rw [hi0] at hinf
  simp only [Option.map_some, Option.some.injEq, Prod.mk.injEq] at hinf
  obtain ⟨hz0, hsz, hbb⟩ := hinf
  obtain ⟨v2, w6, hrun, hown2, hgr, _, hat⟩ := run_append_own_at (P := Try.prog) W B 31 31 44 i (.agg #[.int .i64 0, .int .i64 0]) 2 16 Try.underlying31 hi0 hz0 hsz hbb rfl (by decide) v n xs hown A m c (pcs ex) (by rw [pcs_len, hm]) hnews (pcs_one ex) (by unfold maxLen; omega) (by omega) hB
  exact ⟨v2, w6, hrun, hown2, hgr, hat⟩
theorem app_ {P : Program} {oi : Oper} {a : Act} {w w' : World} {v v' x : Value} {s y : Operand} {t : TypeId} (hop : oi.op = .call { callee := .builtin .append, args := #[s, y], argTypes := #[t, t] }) (hs : a.eval s = v) (hx : a.eval y = x)
    (hr : (Builtin.append_ #[t, t] oi.type #[v, x]).run P w = .ok v' w') : (execOp a.eval oi).run P w = .ok (.value v') w' := by
  unfold execOp
  simp only [hop, resolve, invoke, builtin, Sem.run_bind, Sem.run_pure, Result.andThen_ok, List.map_toArray, List.map_cons, List.map_nil, hs, hx, hr]
/-- the two appends of 'taken': what stands ahead of place i, then what stands behind it -/
theorem two {B : Nat} {D : World} {g n c i : Nat} {ps : List (Int × Int)} (hrow : D.ownsRow B 44 2 (.slice (some ⟨g, 0, none⟩) n c) n (pcs ps)) (hn : ps.length = n) (hi : i < n) (hl : n ≤ 100000) (hB : B ≤ D.heap.size) (A2 : Addr) (hA : A2 = ⟨g, (i + 1) * 2, none⟩ ∨ (n = i + 1)) :
    ∃ v1 w1, (Builtin.append_ #[31, 31] 31 #[.slice (some ⟨D.heap.size, 0, none⟩) 0 0, .slice (some ⟨g, 0, none⟩) i c]).run Try.prog (D.alloc (.cells #[] 44)) = .ok v1 w1 ∧
      ∃ v2 w2, (Builtin.append_ #[31, 31] 31 #[v1, .slice (some A2) (n - (i + 1)) (c - (i + 1))]).run Try.prog w1 = .ok v2 w2 ∧ w2.ownsRow D.heap.size 44 2 v2 (ps.eraseIdx i).length (pcs (ps.eraseIdx i)) ∧ Below D.heap.size D w1 ∧ Below D.heap.size D w2 := by
  have hb1 : Below D.heap.size D (D.alloc (.cells #[] 44)) := (Below.refl _ _).alloc (Nat.le_refl _) _
  have hE : (D.alloc (.cells #[] 44)).ownsRow D.heap.size 44 2 (.slice (some ⟨D.heap.size, 0, none⟩) 0 0) 0 [] := World.ownsRow_lit D #[] 0 (Nat.le_refl _) (by decide) rfl
  have hcell : ∀ (V : World), Below D.heap.size D V → ∀ j, j < n * 2 → V.cell? ⟨g, j, none⟩ = (pcs ps)[j]? := fun V hV j hj => by
    have hg : g < D.heap.size := (hrow.lt g rfl).2
    rw [← hrow.cellAt j hj]
    exact hV.cell hg
  obtain ⟨v1, w1, r1, o1, g1, _⟩ := app2 D.heap.size _ _ 0 [] hE (by simp) ⟨g, 0, none⟩ i c (ps.take i) (by rw [List.length_take]; omega) (fun j u hj => by
    have hjl := (List.getElem?_eq_some_iff.1 hj).1
    rw [pcs_len, List.length_take] at hjl
    have e : ((⟨g, 0, none⟩ : Addr).add j) = ⟨g, j, none⟩ := by simp [Addr.add]; exact Eq.symm
    rw [e, hcell _ hb1 j (by omega), ← hj, flat2, flat2, List.getElem?_take, if_pos (by omega)]) (by omega)
  have hb2 : Below D.heap.size D w1 := ⟨g1.os, g1.tape, g1.output, Nat.le_trans hb1.size g1.size, fun k hk => (g1.block k (by simp; omega) (fun e => by simp [Value.ownBlock] at e; omega)).trans (hb1.block k hk)⟩
  obtain ⟨v2, w2, r2, o2, g2, _⟩ := app2 D.heap.size w1 v1 i _ (by simpa using o1) hb2.size A2 (n - (i + 1)) (c - (i + 1)) (ps.drop (i + 1)) (by rw [List.length_drop]; omega) (fun j u hj => by
    have hjl := (List.getElem?_eq_some_iff.1 hj).1
    rw [pcs_len, List.length_drop] at hjl
    rcases hA with rfl | hA
    · have e : ((⟨g, (i + 1) * 2, none⟩ : Addr).add j) = ⟨g, (i + 1) * 2 + j, none⟩ := by simp [Addr.add]
      rw [e, hcell _ hb2 _ (by omega), ← hj, flat2, flat2, List.getElem?_drop, show ((i + 1) * 2 + j) / 2 = i + 1 + j / 2 by omega, show ((i + 1) * 2 + j) % 2 = j % 2 by omega]
    · omega) (by omega)
  refine ⟨v1, w1, r1, v2, w2, r2, ?_, hb2, ?_⟩
  · rw [← pcs_app, ← List.eraseIdx_eq_take_drop_succ] at o2
    have hlen : i + (n - (i + 1)) = (ps.eraseIdx i).length := by rw [List.length_eraseIdx, if_pos (by omega)]; omega
    rw [hlen] at o2
    exact o2
  · exact ⟨g2.os.trans hb2.os, g2.tape.trans hb2.tape, g2.output.trans hb2.output, Nat.le_trans hb2.size g2.size, fun k hk => (g2.block k (by have := hb2.size; omega) (fun e => by have := (o1.lt k e.symm).1; omega)).trans (hb2.block k hk)⟩
-- TABLES
def T2 : Bool × List (List Nat × List Nat) := (true, [([], []), ([], []), ([], []), ([2], [2]), ([3], [3]), ([4], [4]), ([], []), ([5, 6], [5, 6]), ([1, 7], [1, 7]), ([], []), ([9], [9]), ([10], [10]), ([11], [11]), ([], []), ([13], [13]), ([12, 14], [12, 14]), ([8, 15, 8], [8, 15]), ([0, 0, 1, 2, 3, 4, 5, 6, 7, 8, 9, 10, 11, 12, 13, 14, 15, 16], [0]), ([17, 0, 1, 2, 3, 4, 5, 6, 7, 8, 9, 10, 11, 12, 13, 14, 15, 16], [17]), ([18, 16, 16, 0, 1, 2, 3, 4, 5, 6, 7, 8, 9, 10, 11, 12, 13, 14, 15, 16], [16, 18])])
def B2 : List Nat := [0, 0, 0, 4, 12, 28, 0, 124, 254, 0, 512, 1536, 3584, 0, 8192, 32256, 65534, 131071, 262143, 524287]
theorem tab2 : rtab .any (opsOf Try.f27 2) = T2 := by kernel_rfl
theorem bits2 : waitsOk T2.2 B2 = true := by kernel_rfl
-- END TABLES
/-- blocks that are no rows of pairs and no caches of the specification stay -/
def Ty (w w' : World) : Prop := ∀ (k : Nat) (c : Array Value) (t : TypeId) (f : Nat × Nat), w.heap[k]? = some (.cells c t f) → t ≠ 44 → t ≠ 56 → w'.heap[k]? = some (.cells c t f)
structure Bt (B : Nat) (w w' : World) : Prop where
  b : Below B w w'
  ty : Ty w w'
theorem Bt.refl (B : Nat) (w : World) : Bt B w w := ⟨Below.refl _ _, fun _ _ _ _ h _ _ => h⟩
theorem Bt.trans {B : Nat} {a b c : World} (h : Bt B a b) (k : Bt B b c) : Bt B a c := ⟨h.b.trans k.b, fun x c t f hx h1 h2 => k.ty x c t f (h.ty x c t f hx h1 h2) h1 h2⟩
theorem Bt.mono {B B' : Nat} {a b : World} (h : Bt B a b) (hb : B' ≤ B) : Bt B' a b := ⟨h.b.mono hb, h.ty⟩
theorem Bt.drewN {B : Nat} {a b : World} (h : Bt B a b) (n : Nat) : Bt B a (b.drewN n) := ⟨⟨h.b.os, h.b.tape, h.b.output, h.b.size, h.b.block⟩, h.ty⟩
theorem Bt.of_drew {B : Nat} {a b : World} (h : Bt B a.drew b) : Bt B a b := ⟨⟨h.b.os, h.b.tape, h.b.output, h.b.size, h.b.block⟩, h.ty⟩
theorem Bt.far {B : Nat} {a b : World} (h : Below a.heap.size a b) (hB : B ≤ a.heap.size) : Bt B a b := ⟨h.mono hB, fun k c t f hk _ _ => (h.block k (Array.getElem?_eq_some_iff.1 hk).1).trans hk⟩
set_option linter.all false in
set_option maxRecDepth 1000000 in
set_option maxHeartbeats 4000000 in
theorem cTaken {B : Nat} {w : World} {S : Nat} {sz hh mm : Int} {v : Value} {ps : List (Int × Int)} (h : Cs B w S sz v hh mm ps) (i : Nat) (hi : i < ps.length) (hl : ps.length ≤ 100000) :
    Calls Try.prog 27 #[.pointer (some ⟨S, 0, none⟩), .int .i64 i] w fun r w' => r = .returned (.agg #[.int .i64 (ps.getD i (0, 0)).1, .int .i64 (ps.getD i (0, 0)).2]) ∧ Bt B w w' ∧ ∃ v', Cs B w' S sz v' hh mm (ps.eraseIdx i) := by
  have c1 : w.cell? ⟨S, 1, none⟩ = some v := by rw [Lib.cell_of_heap h.own]; rfl
  obtain ⟨n, hn⟩ : ∃ n, ps.length = n := ⟨_, rfl⟩
  have hrow := h.row
  rw [hn] at hrow
  obtain ⟨g, c, rfl⟩ : ∃ g c, v = .slice (some ⟨g, 0, none⟩) n c := by
    rcases row_cases hrow with ⟨_, h0⟩ | ⟨g, c, h0⟩
    · omega
    · rcases hrow.2 with ⟨_, h1⟩ | ⟨g2, c2, _, hv, _⟩
      · omega
      · exact ⟨g2, c2, hv⟩
  have hnc : n ≤ c := by
    rcases hrow.2 with ⟨h', _⟩ | ⟨g2, c2, _, hv, _, _, hnc, _⟩
    · cases h'
    · injection hv with _ _ h3; omega
  obtain ⟨q0, q1⟩ := cell2 hrow hn.symm i (by omega)
  obtain ⟨y, hy⟩ : ∃ y, ps.getD i (0, 0) = y := ⟨_, rfl⟩
  rw [hy] at q0 q1 ⊢
  have HH := Aside0.mk (And.intro h (And.intro hrow hn))
  have hi2 : (i : Int) < (n : Int) := by omega
  have hgl : g < w.heap.size := (hrow.lt g rfl).2
  have hSl : S < w.heap.size := (Array.getElem?_eq_some_iff.1 h.own).1
  clear hy hn h hrow
  go_enter Try.func27, Try.ntmps27
  go_wp2_with (fail)
  have HQ := Aside0.mk (And.intro q0 q1)
  have hcl0 : w.heap.size < w.heap.size + 1 := by omega
  obtain ⟨W0, hW0⟩ : ∃ W0, (w.alloc (.cells #[.int .i64 0, .int .i64 0] 44)).alloc (.cells #[.int .i64 y.1, .int .i64 y.2] 44) = W0 := ⟨_, rfl⟩
  have hz0 : W0.heap.size = w.heap.size + 1 + 1 := by rw [← hW0]; simp
  have hbw0 : Below w.heap.size w W0 := by rw [← hW0]; exact ((Below.refl _ w).alloc (Nat.le_refl _) _).alloc (by simp) _
  have hR0 : W0.heap[w.heap.size]? = some (.cells #[.int .i64 0, .int .i64 0] 44 (0, 0)) := by rw [← hW0]; exact (Below.heap_alloc _ _ _ (by simp)).trans (heap_alloc_new w _)
  have hE0 : W0.heap[w.heap.size + 1]? = some (.cells #[.int .i64 y.1, .int .i64 y.2] 44 (0, 0)) := by
    rw [← hW0]
    have := heap_alloc_new (w.alloc (.cells #[.int .i64 0, .int .i64 0] 44)) (.cells #[.int .i64 y.1, .int .i64 y.2] 44)
    simpa using this
  rw [hW0]
  have hown0 : W0.heap[S]? = some (.cells #[.int .i64 sz, .slice (some ⟨g, 0, none⟩) n c, .int .i64 hh, .int .i64 mm] 56 (0, 0)) := (hbw0.block S hSl).trans HH.out.1.own
  have hrow0 : W0.drew.ownsRow B 44 2 (.slice (some ⟨g, 0, none⟩) n c) n (pcs ps) := ⟨HH.out.2.1.1, by
    rcases HH.out.2.1.2 with h | ⟨g2, cap, cur, hv, hb, hg, rest⟩
    · exact .inl h
    · refine .inr ⟨g2, cap, cur, hv, hb, (hbw0.block g2 (Array.getElem?_eq_some_iff.1 hg).1).trans hg, rest⟩⟩
  have hBw : B ≤ w.heap.size := Nat.le_trans HH.out.1.bS (Nat.le_of_lt hSl)
  obtain ⟨A2, hA2⟩ : ∃ A2 : Addr, A2 = if c = i + 1 then ⟨g, 0, none⟩ else ⟨g, (i + 1) * 2, none⟩ := ⟨_, rfl⟩
  obtain ⟨v1, w1, hrun1, v2, w2, hrun2, ho2, hb1, hb2⟩ := two (i := i) hrow0 HH.out.2.2 (by omega) (by have := HH.out.2.2; omega) (by show B ≤ W0.heap.size; omega) A2 (by
    rw [hA2]
    by_cases hc : c = i + 1
    · exact .inr (by omega)
    · rw [if_neg hc]; exact .inl rfl)
  obtain ⟨Av, nv, cv, rfl⟩ : ∃ Av nv cv, v2 = .slice Av nv cv := by
    rcases row_cases ho2 with ⟨h, _⟩ | ⟨g2, c2, h⟩
    · exact ⟨_, _, _, h⟩
    · exact ⟨_, _, _, h⟩
  have hS1 : S < W0.heap.size := by omega
  have s0 : W0.cell? ⟨S, 1, none⟩ = some (.slice (some ⟨g, 0, none⟩) n c) := by rw [Lib.cell_of_heap hown0]; rfl
  have s1 : w1.cell? ⟨S, 1, none⟩ = some (.slice (some ⟨g, 0, none⟩) n c) := (hb1.cell hS1).trans s0
  have s2 : w2.cell? ⟨S, 1, none⟩ = some (.slice (some ⟨g, 0, none⟩) n c) := (hb2.cell hS1).trans s0
  have f2 : w2.frozen? ⟨S, 1, none⟩ = false := (hb2.frozen hS1).trans (show W0.frozen? ⟨S, 1, none⟩ = false by rw [Lib.frozen_of_heap hown0])
  have sa : (W0.drew.alloc (.cells #[] 44)).cell? ⟨S, 1, none⟩ = some (.slice (some ⟨g, 0, none⟩) n c) := (((Below.refl _ W0.drew).alloc (Nat.le_refl _) _).cell hS1).trans s0
  obtain ⟨w3, hw3⟩ : ∃ w3, w3 = w2.setCell ⟨S, 1, none⟩ (.slice Av nv cv) := ⟨_, rfl⟩
  have hR2 := (hb2.block w.heap.size (show w.heap.size < W0.heap.size by omega)).trans hR0
  have hE2 := (hb2.block (w.heap.size + 1) (show w.heap.size + 1 < W0.heap.size by omega)).trans hE0
  have hown2 := (hb2.block S hS1).trans hown0
  have hR3 : w3.heap[w.heap.size]? = some (.cells #[.int .i64 0, .int .i64 0] 44 (0, 0)) := by rw [hw3]; exact (set_other w2 (.slice Av nv cv) (by omega)).trans hR2
  have hE3 : w3.heap[w.heap.size + 1]? = some (.cells #[.int .i64 y.1, .int .i64 y.2] 44 (0, 0)) := by rw [hw3]; exact (set_other w2 (.slice Av nv cv) (by omega)).trans hE2
  have hown3 : w3.heap[S]? = some (.cells #[.int .i64 sz, (.slice Av nv cv), .int .i64 hh, .int .i64 mm] 56 (0, 0)) := by rw [hw3]; exact (set_same (.slice Av nv cv) hown2).trans rfl
  have hgb : w2.grownBy w3 (some S) := by rw [hw3]; exact ⟨rfl, rfl, rfl, by simp [World.setCell], fun k _ hk => set_other w2 (.slice Av nv cv) (fun e => hk (by rw [e]))⟩
  have ho3 : w3.ownsRow W0.drew.heap.size 44 2 (.slice Av nv cv) (ps.eraseIdx i).length (pcs (ps.eraseIdx i)) := ho2.kept hgb (by
    cases hv : (Value.slice Av nv cv).ownBlock with
    | none => exact .inl rfl
    | some q =>
      refine .inr (fun e => ?_)
      obtain rfl := Option.some.inj e
      rcases ho2.2 with ⟨h0, _⟩ | ⟨g2, cap, cur, h0, _, hg, _⟩
      · rw [h0] at hv; cases hv
      · rw [h0] at hv
        obtain rfl := Option.some.inj hv
        have hg2 : w2.heap[g2]? = some (.cells cur 44 (0, 0)) := hg
        have hw2 : w2.heap[g2]? = some _ := hown2
        rw [hg2] at hw2
        cases hw2)
  have HK3 : Aside0 (∀ k, k < w.heap.size → k ≠ S → w3.heap[k]? = w.heap[k]?) := ⟨fun k hk hs => (hgb.block k (by have h1 := hb2.size; have h2 : W0.drew.heap.size = W0.heap.size := rfl; omega) (fun e => hs (Option.some.inj e))).trans ((hb2.block k (show k < W0.heap.size by omega)).trans (hbw0.block k (by omega)))⟩
  have hB3 : Below B w w3 := ⟨hgb.os.trans (hb2.os.trans hbw0.os), hgb.tape.trans (hb2.tape.trans hbw0.tape), hgb.output.trans (hb2.output.trans hbw0.output), Nat.le_trans hbw0.size (Nat.le_trans hb2.size hgb.size), fun k hk => (hgb.block k (by have h1 := hb2.size; have h2 : W0.drew.heap.size = W0.heap.size := rfl; omega) (fun e => by have := HH.out.1.bS; injection e with e; omega)).trans ((hb2.block k (show k < W0.heap.size by omega)).trans (hbw0.block k (by omega)))⟩
  have r0 : w3.cell? ⟨w.heap.size, 0, none⟩ = some (.int .i64 0) := by rw [Lib.cell_of_heap hR3]; rfl
  have r1 : w3.cell? ⟨w.heap.size, 1, none⟩ = some (.int .i64 0) := by rw [Lib.cell_of_heap hR3]; rfl
  have rf : ∀ j, w3.frozen? ⟨w.heap.size, j, none⟩ = false := fun j => by rw [Lib.frozen_of_heap hR3]
  have e0 : w3.cell? ⟨w.heap.size + 1, 0, none⟩ = some (.int .i64 y.1) := by rw [Lib.cell_of_heap hE3]; rfl
  have e1 : w3.cell? ⟨w.heap.size + 1, 1, none⟩ = some (.int .i64 y.2) := by rw [Lib.cell_of_heap hE3]; rfl
  have hwi : wrap64 ((i : Int) + 1) = ((i + 1 : Nat) : Int) := by unfold wrap64; have := HH.out.2.2; omega
  have hin : i + 1 ≤ n := by omega
  have hin2 : (i : Int) + 1 ≤ (n : Int) := by omega
  have hi0 : (0 : Int) ≤ (i : Int) + 1 := by omega
  have hic : i ≤ c := by omega
  have HF := Aside0.mk (And.intro hown3 (And.intro ho3 (And.intro hB3 (And.intro hR3 (And.intro hBw hSl)))))
  have HW3 := Aside0.mk hw3
  have S0 := Aside0.mk s0
  have SA := Aside0.mk sa
  have SB := Aside0.mk s1
  have SC := Aside0.mk s2
  clear hw3 hown3 ho3 hB3 hR3 hE3 hgb hown2 hR2 hE2 s0 s1 sa hb1 hb2 ho2 hrow0 hown0 hE0 hR0 hbw0 hW0 q0 q1 hcl0 hi hl c1 hBw
  by_cases hc : c = i + 1
  · rw [if_pos hc] at hA2
    subst hA2
    have hn2 : n = i + 1 := by omega
    subst hc
    subst hn2
    simp only [Nat.sub_self] at hrun2
    have hii : (i : Int) ≤ (i : Int) + 1 := by omega
    have hi0' : (0 : Int) ≤ (i : Int) + 1 := by omega
    -- REGION 2
    refine start_ (n := 20) (S := fun w' => w'.cell? ⟨S, 1, none⟩ = some (.slice (some ⟨g, 0, none⟩) (i + 1) (i + 1))) (ds := [19]) #[false, false, false, false, false, false, false, false, false, false, false, false, false, false, false, false, false, false, false, false] (by kernel_rfl) rfl rfl S0.out (fun hHeld => ?_); refine with_tabW tab2 bits2 (fun HT_ HW_ => ?_)
    refine pure_ (i := 0) (N := some 13) (v := ?_) (a' := ?_) #[true, false, false, false, false, false, false, false, false, false, false, false, false, false, false, false, false, false, false, false] rfl rfl (any_of HT_.out (by kernel_rfl)) (fun _ _ _ h => h) (Or.inl ⟨by rfl, ?_⟩) ?_ ?_
    rotate_left
    · intro w'
      go_simp
      with_reducible rfl
    rotate_left
    · simp only [Act.put, List.setIfInBounds_toArray, List.set_cons_zero, List.set_cons_succ, i64_w, i32_w]
      rfl
    refine pure_ (i := 2) (N := some 15) (v := ?_) (a' := ?_) #[true, false, true, false, false, false, false, false, false, false, false, false, false, false, false, false, false, false, false, false] rfl rfl (any_of HT_.out (by kernel_rfl)) (fun _ _ _ h => h) (Or.inl ⟨by rfl, ?_⟩) ?_ ?_
    rotate_left
    · intro w'
      go_simp
      with_reducible rfl
    rotate_left
    · simp only [Act.put, List.setIfInBounds_toArray, List.set_cons_zero, List.set_cons_succ, i64_w, i32_w]
      rfl
    refine pure_ (i := 3) (N := some 16) (v := ?_) (a' := ?_) #[true, false, true, true, false, false, false, false, false, false, false, false, false, false, false, false, false, false, false, false] rfl rfl (any_of HT_.out (by kernel_rfl)) (fun _ _ _ h => h) (Or.inl ⟨by rfl, ?_⟩) ?_ ?_
    rotate_left
    · intro w'
      go_simp
      with_reducible rfl
    rotate_left
    · simp only [Act.put, List.setIfInBounds_toArray, List.set_cons_zero, List.set_cons_succ, i64_w, i32_w]
      rfl
    refine pure_ (i := 4) (N := some 17) (v := ?_) (a' := ?_) #[true, false, true, true, true, false, false, false, false, false, false, false, false, false, false, false, false, false, false, false] rfl rfl (any_of HT_.out (by kernel_rfl)) (fun _ _ _ h => h) (Or.inl ⟨by rfl, ?_⟩) ?_ ?_
    rotate_left
    · intro w'
      go_simp
      with_reducible rfl
    rotate_left
    · simp only [Act.put, List.setIfInBounds_toArray, List.set_cons_zero, List.set_cons_succ, i64_w, i32_w]
      rfl
    refine take_ (i := 5) (N := some 18) (v := ?_) (a' := ?_) #[true, false, true, true, true, true, false, false, false, false, false, false, false, false, false, false, false, false, false, false] rfl rfl (take_ofW HT_.out HW_.out (by kernel_rfl)) (fun _ _ _ h => h) (Or.inl ⟨by rfl, ?_⟩) hHeld ?_ ?_
    rotate_left
    · rintro w' s0
      go_simp
      with_reducible rfl
    rotate_left
    · simp only [Act.put, List.setIfInBounds_toArray, List.set_cons_zero, List.set_cons_succ, i64_w, i32_w]
      rfl
    refine pure_ (i := 6) (N := some 19) (v := ?_) (a' := ?_) #[true, false, true, true, true, true, true, false, false, false, false, false, false, false, false, false, false, false, false, false] rfl rfl (any_of HT_.out (by kernel_rfl)) (fun _ _ _ h => h) (Or.inl ⟨by rfl, ?_⟩) ?_ ?_
    rotate_left
    · intro w'
      go_simp
      with_reducible rfl
    rotate_left
    · simp only [Act.put, List.setIfInBounds_toArray, List.set_cons_zero, List.set_cons_succ, i64_w, i32_w]
      rfl
    refine pure_ (i := 7) (N := some 20) (v := ?_) (a' := ?_) #[true, false, true, true, true, true, true, true, false, false, false, false, false, false, false, false, false, false, false, false] rfl rfl (any_of HT_.out (by kernel_rfl)) (fun _ _ _ h => h) (Or.inl ⟨by rfl, ?_⟩) ?_ ?_
    rotate_left
    · intro w'
      go_simp
      with_reducible rfl
    rotate_left
    · simp only [Act.put, List.setIfInBounds_toArray, List.set_cons_zero, List.set_cons_succ, i64_w, i32_w]
      rfl
    refine pure_ (i := 9) (N := some 22) (v := ?_) (a' := ?_) #[true, false, true, true, true, true, true, true, false, true, false, false, false, false, false, false, false, false, false, false] rfl rfl (any_of HT_.out (by kernel_rfl)) (fun _ _ _ h => h) (Or.inl ⟨by rfl, ?_⟩) ?_ ?_
    rotate_left
    · intro w'
      go_simp
      with_reducible rfl
    rotate_left
    · simp only [Act.put, List.setIfInBounds_toArray, List.set_cons_zero, List.set_cons_succ, i64_w, i32_w]
      rfl
    refine pure_ (i := 10) (N := some 23) (v := ?_) (a' := ?_) #[true, false, true, true, true, true, true, true, false, true, true, false, false, false, false, false, false, false, false, false] rfl rfl (any_of HT_.out (by kernel_rfl)) (fun _ _ _ h => h) (Or.inl ⟨by rfl, ?_⟩) ?_ ?_
    rotate_left
    · intro w'
      go_simp
      with_reducible rfl
    rotate_left
    · simp only [Act.put, List.setIfInBounds_toArray, List.set_cons_zero, List.set_cons_succ, i64_w, i32_w]
      rfl
    refine pure_ (i := 11) (N := some 24) (v := ?_) (a' := ?_) #[true, false, true, true, true, true, true, true, false, true, true, true, false, false, false, false, false, false, false, false] rfl rfl (any_of HT_.out (by kernel_rfl)) (fun _ _ _ h => h) (Or.inl ⟨by rfl, ?_⟩) ?_ ?_
    rotate_left
    · intro w'
      go_simp
      with_reducible rfl
    rotate_left
    · simp only [Act.put, List.setIfInBounds_toArray, List.set_cons_zero, List.set_cons_succ, i64_w, i32_w]
      rfl
    refine take_ (i := 12) (N := some 25) (v := ?_) (a' := ?_) #[true, false, true, true, true, true, true, true, false, true, true, true, true, false, false, false, false, false, false, false] rfl rfl (take_ofW HT_.out HW_.out (by kernel_rfl)) (fun _ _ _ h => h) (Or.inl ⟨by rfl, ?_⟩) hHeld ?_ ?_
    rotate_left
    · rintro w' s0
      go_simp
      with_reducible rfl
    rotate_left
    · simp only [Act.put, List.setIfInBounds_toArray, List.set_cons_zero, List.set_cons_succ, i64_w, i32_w]
      rfl
    refine pure_ (i := 13) (N := some 26) (v := ?_) (a' := ?_) #[true, false, true, true, true, true, true, true, false, true, true, true, true, true, false, false, false, false, false, false] rfl rfl (any_of HT_.out (by kernel_rfl)) (fun _ _ _ h => h) (Or.inl ⟨by rfl, ?_⟩) ?_ ?_
    rotate_left
    · intro w'
      go_simp
      with_reducible rfl
    rotate_left
    · simp only [Act.put, List.setIfInBounds_toArray, List.set_cons_zero, List.set_cons_succ, i64_w, i32_w]
      rfl
    refine pure_ (i := 14) (N := some 27) (v := ?_) (a' := ?_) #[true, false, true, true, true, true, true, true, false, true, true, true, true, true, true, false, false, false, false, false] rfl rfl (any_of HT_.out (by kernel_rfl)) (fun _ _ _ h => h) (Or.inl ⟨by rfl, ?_⟩) ?_ ?_
    rotate_left
    · intro w'
      go_simp
      with_reducible rfl
    rotate_left
    · simp only [Act.put, List.setIfInBounds_toArray, List.set_cons_zero, List.set_cons_succ, i64_w, i32_w]
      rfl
    refine pure_ (i := 15) (N := some 28) (v := ?_) (a' := ?_) #[true, false, true, true, true, true, true, true, false, true, true, true, true, true, true, true, false, false, false, false] rfl rfl (any_of HT_.out (by kernel_rfl)) (fun _ _ _ h => h) (Or.inl ⟨by rfl, ?_⟩) ?_ ?_
    rotate_left
    · intro w'
      go_simp
      with_reducible rfl
    rotate_left
    · simp only [Act.put, List.setIfInBounds_toArray, List.set_cons_zero, List.set_cons_succ, i64_w, i32_w]
      rfl
    refine one_ (i := 1) (N := some 14) #[true, true, true, true, true, true, true, true, false, true, true, true, true, true, true, true, false, false, false, false] rfl rfl (one_of HT_.out (by kernel_rfl)) (by decide) (fun Kc hKc => ?_)
    refine value_ (w1 := W0.drew.alloc (.cells #[] 44)) (v := .slice (some ⟨W0.heap.size, 0, none⟩) 0 0) (by rfl) rfl ?_ ?_
    · go_simp
      try rfl
    refine hKc.out _ _ SA.out (fun hHeld => ?_)
    clear hKc Kc
    refine norm_ (a' := ?_) ?_ ?_
    rotate_left
    · show Act.put _ (some 14) _ = _
      simp only [Act.put, List.setIfInBounds_toArray, List.set_cons_zero, List.set_cons_succ, i64_w, i32_w]
      rfl
    refine one_ (i := 8) (N := some 21) #[true, true, true, true, true, true, true, true, true, true, true, true, true, true, true, true, false, false, false, false] rfl rfl (one_of HT_.out (by kernel_rfl)) (by decide) (fun Kc hKc => ?_)
    refine value_ (w1 := w1) (v := v1) (by rfl) rfl ?_ ?_
    · exact app_ (s := .tmp 14) (y := .tmp 20) rfl rfl rfl hrun1
    refine hKc.out _ _ SB.out (fun hHeld => ?_)
    clear hKc Kc
    refine norm_ (a' := ?_) ?_ ?_
    rotate_left
    · show Act.put _ (some 21) _ = _
      simp only [Act.put, List.setIfInBounds_toArray, List.set_cons_zero, List.set_cons_succ, i64_w, i32_w]
      rfl
    refine one_ (i := 16) (N := some 29) #[true, true, true, true, true, true, true, true, true, true, true, true, true, true, true, true, true, false, false, false] rfl rfl (one_of HT_.out (by kernel_rfl)) (by decide) (fun Kc hKc => ?_)
    refine value_ (w1 := w2) (v := .slice Av nv cv) (by rfl) rfl ?_ ?_
    · exact app_ (s := .tmp 21) (y := .tmp 28) rfl rfl rfl hrun2
    refine hKc.out _ _ SC.out (fun hHeld => ?_)
    clear hKc Kc
    refine norm_ (a' := ?_) ?_ ?_
    rotate_left
    · show Act.put _ (some 29) _ = _
      simp only [Act.put, List.setIfInBounds_toArray, List.set_cons_zero, List.set_cons_succ, i64_w, i32_w]
      rfl
    refine pure_ (i := 17) (N := some 30) (v := ?_) (a' := ?_) #[true, true, true, true, true, true, true, true, true, true, true, true, true, true, true, true, true, true, false, false] rfl rfl (any_of HT_.out (by kernel_rfl)) (fun _ _ _ h => h) (Or.inl ⟨by rfl, ?_⟩) ?_ ?_
    rotate_left
    · intro w'
      go_simp
      with_reducible rfl
    rotate_left
    · simp only [Act.put, List.setIfInBounds_toArray, List.set_cons_zero, List.set_cons_succ, i64_w, i32_w]
      rfl
    refine pure_ (i := 18) (N := some 31) (v := ?_) (a' := ?_) #[true, true, true, true, true, true, true, true, true, true, true, true, true, true, true, true, true, true, true, false] rfl rfl (any_of HT_.out (by kernel_rfl)) (fun _ _ _ h => h) (Or.inl ⟨by rfl, ?_⟩) ?_ ?_
    rotate_left
    · intro w'
      go_simp
      with_reducible rfl
    rotate_left
    · simp only [Act.put, List.setIfInBounds_toArray, List.set_cons_zero, List.set_cons_succ, i64_w, i32_w]
      rfl
    refine last_ (i := 19) (N := none) #[true, true, true, true, true, true, true, true, true, true, true, true, true, true, true, true, true, true, true, true] rfl rfl (one_of HT_.out (by kernel_rfl)) (by decide) (fun Kc hKc => ?_)
    refine skip_ (w1 := w3) (by rfl) rfl ?_ ?_
    · rw [HW3.out]; go_simp
      try rfl
    refine hKc.out _ _ ?_
    clear hKc Kc
    refine done_ (done_of HT_.out (by kernel_rfl)) ?_
    -- END REGION 2
    go_wp2_with (fail)
    refine bodyPost_ret (v := .agg #[.int .i64 y.1, .int .i64 y.2]) (by simp [results, go_sem, r0, r1, Try.f27]) rfl ⟨rfl, ?_, .slice Av nv cv, ?_⟩
    · have hb := HF.out.2.2.1
      have hB := HF.out.2.2.2.2.1
      refine ⟨⟨hb.os, hb.tape, hb.output, by simpa [World.setCell] using hb.size, fun k hk => (set_other _ _ (show k ≠ w.heap.size by omega)).trans ((set_other _ _ (show k ≠ w.heap.size by omega)).trans (hb.block k hk))⟩, fun k c2 t f hk h1 h2 => ?_⟩
      have hkl : k < w.heap.size := (Array.getElem?_eq_some_iff.1 hk).1
      refine (set_other _ _ (show k ≠ w.heap.size by omega)).trans ((set_other _ _ (show k ≠ w.heap.size by omega)).trans ((HK3.out k hkl (fun e => ?_)).trans hk))
      rw [e, HH.out.1.own] at hk
      exact h2 (by injection hk with hk; injection hk with _ hk _; exact hk.symm)
    · have hS := HF.out.2.2.2.2.2
      have hne : S ≠ w.heap.size := by omega
      have hown := HF.out.1
      have ho := HF.out.2.1
      have hkk : ∀ (V : World) (j : Nat) (u : Value), V.grownBy (V.setCell ⟨w.heap.size, j, none⟩ u) (some w.heap.size) := fun V j u => ⟨rfl, rfl, rfl, by simp [World.setCell], fun k _ hk => set_other V u (fun e => hk (by rw [e]))⟩
      have hno : (Value.slice Av nv cv).ownBlock = none ∨ (Value.slice Av nv cv).ownBlock ≠ some w.heap.size := by
        cases hv : (Value.slice Av nv cv).ownBlock with
        | none => exact .inl rfl
        | some q =>
          refine .inr (fun e => ?_)
          obtain rfl := Option.some.inj e
          have h1 := (ho.lt _ hv).1
          have h2 : W0.drew.heap.size = W0.heap.size := rfl
          omega
      have ho4 := (ho.kept (hkk w3 0 (.int .i64 y.1)) hno).kept (hkk _ 1 (.int .i64 y.2)) hno
      refine ⟨(set_other _ _ hne).trans ((set_other _ _ hne).trans hown), ⟨ho4.1, ?_⟩, HH.out.1.bS⟩
      rcases ho4.2 with h | ⟨g3, cap3, cur3, hv, hb, rest⟩
      · exact .inl h
      · refine .inr ⟨g3, cap3, cur3, hv, ?_, rest⟩
        have hB := HF.out.2.2.2.2.1
        have h2 : W0.drew.heap.size = W0.heap.size := rfl
        omega
  · rw [if_neg hc] at hA2
    subst hA2
    have hc2 : ¬ (c = i + 1) := hc
    -- REGION 2
    refine start_ (n := 20) (S := fun w' => w'.cell? ⟨S, 1, none⟩ = some (.slice (some ⟨g, 0, none⟩) n c)) (ds := [19]) #[false, false, false, false, false, false, false, false, false, false, false, false, false, false, false, false, false, false, false, false] (by kernel_rfl) rfl rfl S0.out (fun hHeld => ?_); refine with_tabW tab2 bits2 (fun HT_ HW_ => ?_)
    refine pure_ (i := 0) (N := some 13) (v := ?_) (a' := ?_) #[true, false, false, false, false, false, false, false, false, false, false, false, false, false, false, false, false, false, false, false] rfl rfl (any_of HT_.out (by kernel_rfl)) (fun _ _ _ h => h) (Or.inl ⟨by rfl, ?_⟩) ?_ ?_
    rotate_left
    · intro w'
      go_simp
      with_reducible rfl
    rotate_left
    · simp only [Act.put, List.setIfInBounds_toArray, List.set_cons_zero, List.set_cons_succ, i64_w, i32_w]
      rfl
    refine pure_ (i := 2) (N := some 15) (v := ?_) (a' := ?_) #[true, false, true, false, false, false, false, false, false, false, false, false, false, false, false, false, false, false, false, false] rfl rfl (any_of HT_.out (by kernel_rfl)) (fun _ _ _ h => h) (Or.inl ⟨by rfl, ?_⟩) ?_ ?_
    rotate_left
    · intro w'
      go_simp
      with_reducible rfl
    rotate_left
    · simp only [Act.put, List.setIfInBounds_toArray, List.set_cons_zero, List.set_cons_succ, i64_w, i32_w]
      rfl
    refine pure_ (i := 3) (N := some 16) (v := ?_) (a' := ?_) #[true, false, true, true, false, false, false, false, false, false, false, false, false, false, false, false, false, false, false, false] rfl rfl (any_of HT_.out (by kernel_rfl)) (fun _ _ _ h => h) (Or.inl ⟨by rfl, ?_⟩) ?_ ?_
    rotate_left
    · intro w'
      go_simp
      with_reducible rfl
    rotate_left
    · simp only [Act.put, List.setIfInBounds_toArray, List.set_cons_zero, List.set_cons_succ, i64_w, i32_w]
      rfl
    refine pure_ (i := 4) (N := some 17) (v := ?_) (a' := ?_) #[true, false, true, true, true, false, false, false, false, false, false, false, false, false, false, false, false, false, false, false] rfl rfl (any_of HT_.out (by kernel_rfl)) (fun _ _ _ h => h) (Or.inl ⟨by rfl, ?_⟩) ?_ ?_
    rotate_left
    · intro w'
      go_simp
      with_reducible rfl
    rotate_left
    · simp only [Act.put, List.setIfInBounds_toArray, List.set_cons_zero, List.set_cons_succ, i64_w, i32_w]
      rfl
    refine take_ (i := 5) (N := some 18) (v := ?_) (a' := ?_) #[true, false, true, true, true, true, false, false, false, false, false, false, false, false, false, false, false, false, false, false] rfl rfl (take_ofW HT_.out HW_.out (by kernel_rfl)) (fun _ _ _ h => h) (Or.inl ⟨by rfl, ?_⟩) hHeld ?_ ?_
    rotate_left
    · rintro w' s0
      go_simp
      with_reducible rfl
    rotate_left
    · simp only [Act.put, List.setIfInBounds_toArray, List.set_cons_zero, List.set_cons_succ, i64_w, i32_w]
      rfl
    refine pure_ (i := 6) (N := some 19) (v := ?_) (a' := ?_) #[true, false, true, true, true, true, true, false, false, false, false, false, false, false, false, false, false, false, false, false] rfl rfl (any_of HT_.out (by kernel_rfl)) (fun _ _ _ h => h) (Or.inl ⟨by rfl, ?_⟩) ?_ ?_
    rotate_left
    · intro w'
      go_simp
      with_reducible rfl
    rotate_left
    · simp only [Act.put, List.setIfInBounds_toArray, List.set_cons_zero, List.set_cons_succ, i64_w, i32_w]
      rfl
    refine pure_ (i := 7) (N := some 20) (v := ?_) (a' := ?_) #[true, false, true, true, true, true, true, true, false, false, false, false, false, false, false, false, false, false, false, false] rfl rfl (any_of HT_.out (by kernel_rfl)) (fun _ _ _ h => h) (Or.inl ⟨by rfl, ?_⟩) ?_ ?_
    rotate_left
    · intro w'
      go_simp
      with_reducible rfl
    rotate_left
    · simp only [Act.put, List.setIfInBounds_toArray, List.set_cons_zero, List.set_cons_succ, i64_w, i32_w]
      rfl
    refine pure_ (i := 9) (N := some 22) (v := ?_) (a' := ?_) #[true, false, true, true, true, true, true, true, false, true, false, false, false, false, false, false, false, false, false, false] rfl rfl (any_of HT_.out (by kernel_rfl)) (fun _ _ _ h => h) (Or.inl ⟨by rfl, ?_⟩) ?_ ?_
    rotate_left
    · intro w'
      go_simp
      with_reducible rfl
    rotate_left
    · simp only [Act.put, List.setIfInBounds_toArray, List.set_cons_zero, List.set_cons_succ, i64_w, i32_w]
      rfl
    refine pure_ (i := 10) (N := some 23) (v := ?_) (a' := ?_) #[true, false, true, true, true, true, true, true, false, true, true, false, false, false, false, false, false, false, false, false] rfl rfl (any_of HT_.out (by kernel_rfl)) (fun _ _ _ h => h) (Or.inl ⟨by rfl, ?_⟩) ?_ ?_
    rotate_left
    · intro w'
      go_simp
      with_reducible rfl
    rotate_left
    · simp only [Act.put, List.setIfInBounds_toArray, List.set_cons_zero, List.set_cons_succ, i64_w, i32_w]
      rfl
    refine pure_ (i := 11) (N := some 24) (v := ?_) (a' := ?_) #[true, false, true, true, true, true, true, true, false, true, true, true, false, false, false, false, false, false, false, false] rfl rfl (any_of HT_.out (by kernel_rfl)) (fun _ _ _ h => h) (Or.inl ⟨by rfl, ?_⟩) ?_ ?_
    rotate_left
    · intro w'
      go_simp
      with_reducible rfl
    rotate_left
    · simp only [Act.put, List.setIfInBounds_toArray, List.set_cons_zero, List.set_cons_succ, i64_w, i32_w]
      rfl
    refine take_ (i := 12) (N := some 25) (v := ?_) (a' := ?_) #[true, false, true, true, true, true, true, true, false, true, true, true, true, false, false, false, false, false, false, false] rfl rfl (take_ofW HT_.out HW_.out (by kernel_rfl)) (fun _ _ _ h => h) (Or.inl ⟨by rfl, ?_⟩) hHeld ?_ ?_
    rotate_left
    · rintro w' s0
      go_simp
      with_reducible rfl
    rotate_left
    · simp only [Act.put, List.setIfInBounds_toArray, List.set_cons_zero, List.set_cons_succ, i64_w, i32_w]
      rfl
    refine pure_ (i := 13) (N := some 26) (v := ?_) (a' := ?_) #[true, false, true, true, true, true, true, true, false, true, true, true, true, true, false, false, false, false, false, false] rfl rfl (any_of HT_.out (by kernel_rfl)) (fun _ _ _ h => h) (Or.inl ⟨by rfl, ?_⟩) ?_ ?_
    rotate_left
    · intro w'
      go_simp
      with_reducible rfl
    rotate_left
    · simp only [Act.put, List.setIfInBounds_toArray, List.set_cons_zero, List.set_cons_succ, i64_w, i32_w]
      rfl
    refine pure_ (i := 14) (N := some 27) (v := ?_) (a' := ?_) #[true, false, true, true, true, true, true, true, false, true, true, true, true, true, true, false, false, false, false, false] rfl rfl (any_of HT_.out (by kernel_rfl)) (fun _ _ _ h => h) (Or.inl ⟨by rfl, ?_⟩) ?_ ?_
    rotate_left
    · intro w'
      go_simp
      with_reducible rfl
    rotate_left
    · simp only [Act.put, List.setIfInBounds_toArray, List.set_cons_zero, List.set_cons_succ, i64_w, i32_w]
      rfl
    refine pure_ (i := 15) (N := some 28) (v := ?_) (a' := ?_) #[true, false, true, true, true, true, true, true, false, true, true, true, true, true, true, true, false, false, false, false] rfl rfl (any_of HT_.out (by kernel_rfl)) (fun _ _ _ h => h) (Or.inl ⟨by rfl, ?_⟩) ?_ ?_
    rotate_left
    · intro w'
      go_simp
      with_reducible rfl
    rotate_left
    · simp only [Act.put, List.setIfInBounds_toArray, List.set_cons_zero, List.set_cons_succ, i64_w, i32_w]
      rfl
    refine one_ (i := 1) (N := some 14) #[true, true, true, true, true, true, true, true, false, true, true, true, true, true, true, true, false, false, false, false] rfl rfl (one_of HT_.out (by kernel_rfl)) (by decide) (fun Kc hKc => ?_)
    refine value_ (w1 := W0.drew.alloc (.cells #[] 44)) (v := .slice (some ⟨W0.heap.size, 0, none⟩) 0 0) (by rfl) rfl ?_ ?_
    · go_simp
      try rfl
    refine hKc.out _ _ SA.out (fun hHeld => ?_)
    clear hKc Kc
    refine norm_ (a' := ?_) ?_ ?_
    rotate_left
    · show Act.put _ (some 14) _ = _
      simp only [Act.put, List.setIfInBounds_toArray, List.set_cons_zero, List.set_cons_succ, i64_w, i32_w]
      rfl
    refine one_ (i := 8) (N := some 21) #[true, true, true, true, true, true, true, true, true, true, true, true, true, true, true, true, false, false, false, false] rfl rfl (one_of HT_.out (by kernel_rfl)) (by decide) (fun Kc hKc => ?_)
    refine value_ (w1 := w1) (v := v1) (by rfl) rfl ?_ ?_
    · exact app_ (s := .tmp 14) (y := .tmp 20) rfl rfl rfl hrun1
    refine hKc.out _ _ SB.out (fun hHeld => ?_)
    clear hKc Kc
    refine norm_ (a' := ?_) ?_ ?_
    rotate_left
    · show Act.put _ (some 21) _ = _
      simp only [Act.put, List.setIfInBounds_toArray, List.set_cons_zero, List.set_cons_succ, i64_w, i32_w]
      rfl
    refine one_ (i := 16) (N := some 29) #[true, true, true, true, true, true, true, true, true, true, true, true, true, true, true, true, true, false, false, false] rfl rfl (one_of HT_.out (by kernel_rfl)) (by decide) (fun Kc hKc => ?_)
    refine value_ (w1 := w2) (v := .slice Av nv cv) (by rfl) rfl ?_ ?_
    · exact app_ (s := .tmp 21) (y := .tmp 28) rfl rfl rfl hrun2
    refine hKc.out _ _ SC.out (fun hHeld => ?_)
    clear hKc Kc
    refine norm_ (a' := ?_) ?_ ?_
    rotate_left
    · show Act.put _ (some 29) _ = _
      simp only [Act.put, List.setIfInBounds_toArray, List.set_cons_zero, List.set_cons_succ, i64_w, i32_w]
      rfl
    refine pure_ (i := 17) (N := some 30) (v := ?_) (a' := ?_) #[true, true, true, true, true, true, true, true, true, true, true, true, true, true, true, true, true, true, false, false] rfl rfl (any_of HT_.out (by kernel_rfl)) (fun _ _ _ h => h) (Or.inl ⟨by rfl, ?_⟩) ?_ ?_
    rotate_left
    · intro w'
      go_simp
      with_reducible rfl
    rotate_left
    · simp only [Act.put, List.setIfInBounds_toArray, List.set_cons_zero, List.set_cons_succ, i64_w, i32_w]
      rfl
    refine pure_ (i := 18) (N := some 31) (v := ?_) (a' := ?_) #[true, true, true, true, true, true, true, true, true, true, true, true, true, true, true, true, true, true, true, false] rfl rfl (any_of HT_.out (by kernel_rfl)) (fun _ _ _ h => h) (Or.inl ⟨by rfl, ?_⟩) ?_ ?_
    rotate_left
    · intro w'
      go_simp
      with_reducible rfl
    rotate_left
    · simp only [Act.put, List.setIfInBounds_toArray, List.set_cons_zero, List.set_cons_succ, i64_w, i32_w]
      rfl
    refine last_ (i := 19) (N := none) #[true, true, true, true, true, true, true, true, true, true, true, true, true, true, true, true, true, true, true, true] rfl rfl (one_of HT_.out (by kernel_rfl)) (by decide) (fun Kc hKc => ?_)
    refine skip_ (w1 := w3) (by rfl) rfl ?_ ?_
    · rw [HW3.out]; go_simp
      try rfl
    refine hKc.out _ _ ?_
    clear hKc Kc
    refine done_ (done_of HT_.out (by kernel_rfl)) ?_
    -- END REGION 2
    go_wp2_with (fail)
    refine bodyPost_ret (v := .agg #[.int .i64 y.1, .int .i64 y.2]) (by simp [results, go_sem, r0, r1, Try.f27]) rfl ⟨rfl, ?_, .slice Av nv cv, ?_⟩
    · have hb := HF.out.2.2.1
      have hB := HF.out.2.2.2.2.1
      refine ⟨⟨hb.os, hb.tape, hb.output, by simpa [World.setCell] using hb.size, fun k hk => (set_other _ _ (show k ≠ w.heap.size by omega)).trans ((set_other _ _ (show k ≠ w.heap.size by omega)).trans (hb.block k hk))⟩, fun k c2 t f hk h1 h2 => ?_⟩
      have hkl : k < w.heap.size := (Array.getElem?_eq_some_iff.1 hk).1
      refine (set_other _ _ (show k ≠ w.heap.size by omega)).trans ((set_other _ _ (show k ≠ w.heap.size by omega)).trans ((HK3.out k hkl (fun e => ?_)).trans hk))
      rw [e, HH.out.1.own] at hk
      exact h2 (by injection hk with hk; injection hk with _ hk _; exact hk.symm)
    · have hS := HF.out.2.2.2.2.2
      have hne : S ≠ w.heap.size := by omega
      have hown := HF.out.1
      have ho := HF.out.2.1
      have hkk : ∀ (V : World) (j : Nat) (u : Value), V.grownBy (V.setCell ⟨w.heap.size, j, none⟩ u) (some w.heap.size) := fun V j u => ⟨rfl, rfl, rfl, by simp [World.setCell], fun k _ hk => set_other V u (fun e => hk (by rw [e]))⟩
      have hno : (Value.slice Av nv cv).ownBlock = none ∨ (Value.slice Av nv cv).ownBlock ≠ some w.heap.size := by
        cases hv : (Value.slice Av nv cv).ownBlock with
        | none => exact .inl rfl
        | some q =>
          refine .inr (fun e => ?_)
          obtain rfl := Option.some.inj e
          have h1 := (ho.lt _ hv).1
          have h2 : W0.drew.heap.size = W0.heap.size := rfl
          omega
      have ho4 := (ho.kept (hkk w3 0 (.int .i64 y.1)) hno).kept (hkk _ 1 (.int .i64 y.2)) hno
      refine ⟨(set_other _ _ hne).trans ((set_other _ _ hne).trans hown), ⟨ho4.1, ?_⟩, HH.out.1.bS⟩
      rcases ho4.2 with h | ⟨g3, cap3, cur3, hv, hb, rest⟩
      · exact .inl h
      · refine .inr ⟨g3, cap3, cur3, hv, ?_, rest⟩
        have hB := HF.out.2.2.2.2.1
        have h2 : W0.drew.heap.size = W0.heap.size := rfl
        omega
end Go.Proofs.Ytjhmcpdnmfhodaa.Spt
end

section
/- The walk of the specification's CacheMade. -/
namespace Go.Proofs.Ytjhmcpdnmfhodaa.Spn
open Go Go.RowKit Go.Proofs.YtjhmcpdnmfhodaaW.PrintWords Go.Proofs.YtjhmcpdnmfhodaaW.PrintLast Go.Proofs.YtjhmcpdnmfhodaaW.PrintMore Spm
attribute [local go_sem] max2_int min2_int max_two min_two

set_option linter.all false in
set_option maxRecDepth 1000000 in
set_option maxHeartbeats 4000000 in
theorem cMade (w : World) (n : Int) (h0 : 0 < n) : Calls Try.prog 7 #[.int .i64 n] w fun r w' => r = .returned (.tuple #[.pointer (some ⟨w.heap.size, 0, none⟩), .bool true]) ∧ w' = w.alloc (.cells #[.int .i64 (min n 100000), .slice none 0 0, .int .i64 0, .int .i64 0] 56) := by
  have d0 : decide (n ≤ 0) = false := decide_eq_false (by omega)
  go_enter Try.func7, Try.ntmps7
  go_wp2_with (fail)
  · go_ret2
    exact ⟨rfl, by rw [show min n 100000 = 100000 by omega]⟩
  · go_ret2
    exact ⟨rfl, by rw [show min n 100000 = n by omega]⟩
theorem made {w : World} (sz : Int) : Cs w.heap.size (w.alloc (.cells #[.int .i64 sz, .slice none 0 0, .int .i64 0, .int .i64 0] 56)) w.heap.size sz (.slice none 0 0) 0 0 [] :=
  ⟨heap_alloc_new w _, ⟨rfl, .inl ⟨rfl, rfl⟩⟩, Nat.le_refl _⟩
end Go.Proofs.Ytjhmcpdnmfhodaa.Spn
end

section
/- The walk of the specification's 'put'. -/
namespace Go.Proofs.Ytjhmcpdnmfhodaa.Spm
open Go Go.RowKit
theorem Cs.drewN {B : Nat} {w : World} {S : Nat} {sz hh mm : Int} {v : Value} {ps : List (Int × Int)} (h : Cs B w S sz v hh mm ps) (n : Nat) : Cs B (w.drewN n) S sz v hh mm ps := ⟨h.own, h.row, h.bS⟩
theorem Cs.drew {B : Nat} {w : World} {S : Nat} {sz hh mm : Int} {v : Value} {ps : List (Int × Int)} (h : Cs B w S sz v hh mm ps) : Cs B w.drew S sz v hh mm ps := ⟨h.own, h.row, h.bS⟩
theorem Cs.kept {B : Nat} {w w' : World} {S : Nat} {sz hh mm : Int} {v : Value} {ps : List (Int × Int)} (h : Cs B w S sz v hh mm ps) (hb : Below w.heap.size w w') : Cs B w' S sz v hh mm ps :=
  ⟨(hb.block S (Array.getElem?_eq_some_iff.1 h.own).1).trans h.own, ⟨h.row.1, by
    rcases h.row.2 with h1 | ⟨g2, cap, cur, hv, hb2, hg, rest⟩
    · exact .inl h1
    · exact .inr ⟨g2, cap, cur, hv, hb2, (hb.block g2 (Array.getElem?_eq_some_iff.1 hg).1).trans hg, rest⟩⟩, h.bS⟩
end Go.Proofs.Ytjhmcpdnmfhodaa.Spm
namespace Go.Proofs.Ytjhmcpdnmfhodaa.Spu
open Go Go.RowKit Go.Proofs.YtjhmcpdnmfhodaaW.PrintWords Go.Proofs.YtjhmcpdnmfhodaaW.PrintLast Go.Proofs.YtjhmcpdnmfhodaaW.PrintMore Spm Spt Lra Ll Lcw

theorem place_range (ps : List (Int × Int)) (k : Int) : ∀ m, m ≤ ps.length → -1 ≤ place ps k m ∧ place ps k m < ps.length
  | 0, _ => ⟨Int.le_refl _, by show (-1 : Int) < _; omega⟩
  | m + 1, h => by
    show -1 ≤ (if (ps.getD (ps.length - (m + 1)) (0, 0)).1 = k then ((ps.length - (m + 1) : Nat) : Int) else place ps k m) ∧ (if (ps.getD (ps.length - (m + 1)) (0, 0)).1 = k then ((ps.length - (m + 1) : Nat) : Int) else place ps k m) < _
    split
    · omega
    · exact place_range ps k m (by omega)
def cut1 (ps : List (Int × Int)) (k : Int) : List (Int × Int) := if 0 ≤ place ps k ps.length then ps.eraseIdx (place ps k ps.length).toNat else ps
def put1 (sz : Int) (ps : List (Int × Int)) (k u : Int) : List (Int × Int) := (if sz ≤ (cut1 ps k).length then (cut1 ps k).eraseIdx 0 else cut1 ps k) ++ [(k, u)]
def gone1 (sz : Int) (ps : List (Int × Int)) (k : Int) : List (Int × Int) := if sz ≤ (cut1 ps k).length then [(cut1 ps k).getD 0 (0, 0)] else []
theorem own_ne {B : Nat} {w : World} {S : Nat} {sz hh mm : Int} {v : Value} {ps : List (Int × Int)} (h : Cs B w S sz v hh mm ps) : v.ownBlock ≠ some S := by
  intro e
  rcases h.row.2 with ⟨rfl, _⟩ | ⟨g2, cap, cur, rfl, _, hg, _⟩
  · cases e
  · obtain rfl : g2 = S := by simpa [Value.ownBlock] using e
    rw [h.own] at hg
    injection hg with hg
    injection hg with _ hg _
    cases hg
theorem own_t {B : Nat} {w : World} {S : Nat} {sz hh mm : Int} {v : Value} {ps : List (Int × Int)} (h : Cs B w S sz v hh mm ps) {k : Nat} (e : v.ownBlock = some k) : ∃ c, w.heap[k]? = some (.cells c 44 (0, 0)) := by
  rcases h.row.2 with ⟨rfl, _⟩ | ⟨g2, cap, cur, rfl, _, hg, _⟩
  · cases e
  · obtain rfl : g2 = k := by simpa [Value.ownBlock] using e
    exact ⟨cur, hg⟩
/-- one more entry -/
theorem push {B : Nat} {W : World} {S : Nat} {sz hh mm : Int} {v : Value} {ps : List (Int × Int)} (h : Cs B W S sz v hh mm ps) (hl : ps.length ≤ 200000) (p : Int × Int) :
    ∃ A2 n2 c2 v' w6, v' = .slice A2 n2 c2 ∧ (Builtin.append_ #[31, 31] 31 #[v, .slice (some ⟨W.heap.size, 0, none⟩) 1 1]).run Try.prog (W.alloc (.cells #[.int .i64 p.1, .int .i64 p.2] 44)) = .ok v' w6 ∧ w6.cell? ⟨S, 1, none⟩ = some v ∧ w6.frozen? ⟨S, 1, none⟩ = false ∧
      Cs B (w6.setCell ⟨S, 1, none⟩ v') S sz v' hh mm (ps ++ [p]) ∧ Bt B W (w6.setCell ⟨S, 1, none⟩ v') ∧ ∀ k, k < W.heap.size → k ≠ S → v.ownBlock ≠ some k → (w6.setCell ⟨S, 1, none⟩ v').heap[k]? = W.heap[k]? := by
  have hSl : S < W.heap.size := (Array.getElem?_eq_some_iff.1 h.own).1
  have hB : B ≤ W.heap.size := Nat.le_trans h.bS (Nat.le_of_lt hSl)
  have ha : W.grownBy (W.alloc (.cells #[.int .i64 p.1, .int .i64 p.2] 44)) none := World.grownBy_alloc _ _ _
  have hh1 : Cs B (W.alloc (.cells #[.int .i64 p.1, .int .i64 p.2] 44)) S sz v hh mm ps := h.kept ((Below.refl _ W).alloc (Nat.le_refl _) _)
  obtain ⟨v', w6, hr, ho, hg, hat⟩ := app2 B _ v ps.length (pcs ps) hh1.row (by simp; omega) ⟨W.heap.size, 0, none⟩ 1 1 [p] rfl (fun j u hj => by
    have := Lcm.new6 W (pc p) 44 j u (by rw [← hj]; simp [pcs])
    exact this) (by omega)
  have hgS : some S ≠ v.ownBlock := fun e => own_ne h e.symm
  have hS6 : w6.heap[S]? = some (.cells #[.int .i64 sz, v, .int .i64 hh, .int .i64 mm] 56 (0, 0)) := (hg.block S (by simp; omega) hgS).trans hh1.own
  have hne : v'.ownBlock ≠ some S := by
    rcases hat with e | e
    · rw [e]; exact own_ne h
    · rw [e]; intro e2; have := Option.some.inj e2; simp at this; omega
  have hb6 : ∀ k, k < W.heap.size → v.ownBlock ≠ some k → w6.heap[k]? = W.heap[k]? := fun k hk hn => (hg.block k (by simp; omega) (fun e => hn e.symm)).trans (Below.heap_alloc _ _ k hk)
  have hz6 : W.heap.size ≤ w6.heap.size := by have := hg.size; simp at this; omega
  obtain ⟨A2, n2, c2, hv2⟩ : ∃ A2 n2 c2, v' = .slice A2 n2 c2 := by
    rcases row_cases ho with ⟨h1, _⟩ | ⟨g2, c2, h1⟩
    · exact ⟨_, _, _, h1⟩
    · exact ⟨_, _, _, h1⟩
  refine ⟨A2, n2, c2, v', w6, hv2, hr, by rw [Lib.cell_of_heap hS6]; rfl, by rw [Lib.frozen_of_heap hS6], ⟨?_, ?_, h.bS⟩, ⟨⟨hg.os, hg.tape, hg.output, by simpa [World.setCell] using hz6, fun k hk => (Below.heap_setCell _ _ _ k (show k ≠ S by have := h.bS; omega)).trans (hb6 k (by omega) (fun e => by
    have := (h.row.lt k e).1
    omega))⟩, fun k c t f hk h1 h2 => (Below.heap_setCell _ _ _ k (show k ≠ S from fun e => by
      rw [e, h.own] at hk
      exact h2 (by injection hk with hk; injection hk with _ hk _; exact hk.symm))).trans ((hb6 k (Array.getElem?_eq_some_iff.1 hk).1 (fun e => by
        obtain ⟨c3, hc3⟩ := own_t h e
        rw [hc3] at hk
        exact h1 (by injection hk with hk; injection hk with _ hk _; exact hk.symm))).trans hk)⟩, fun k hk hkS hn => (Below.heap_setCell _ _ _ k hkS).trans (hb6 k hk hn)⟩
  · exact (set_same v' hS6).trans rfl
  · have hk : w6.grownBy (w6.setCell ⟨S, 1, none⟩ v') (some S) := ⟨rfl, rfl, rfl, by simp [World.setCell], fun k _ hk => Below.heap_setCell _ _ _ k (fun e => hk (by rw [e]))⟩
    have ho' : w6.ownsRow B 44 2 v' (ps ++ [p]).length (pcs (ps ++ [p])) := by rw [pcs_app, List.length_append]; exact ho
    exact ho'.kept hk (.inr hne)
theorem sl {B : Nat} {w : World} {S : Nat} {sz hh mm : Int} {v : Value} {ps qs : List (Int × Int)} (h : Cs B w S sz v hh mm ps) (hq : qs = ps) : ∃ A n c, v = .slice A n c ∧ qs.length = n := by
  subst hq
  rcases row_cases h.row with ⟨h1, h2⟩ | ⟨g, c, h1⟩
  · exact ⟨_, _, _, h1, h2⟩
  · exact ⟨_, _, _, h1, rfl⟩
theorem nilRow (B : Nat) (w : World) : w.ownsRow B 44 2 (.slice none 0 0) 0 [] := ⟨rfl, .inl ⟨rfl, rfl⟩⟩
/-- a fresh row of one pair -/
theorem fresh1 (B : Nat) (W : World) (hB : B ≤ W.heap.size) (p : Int × Int) :
    ∃ gv w4, (Builtin.append_ #[31, 31] 31 #[.slice none 0 0, .slice (some ⟨W.heap.size, 0, none⟩) 1 1]).run Try.prog (W.alloc (.cells #[.int .i64 p.1, .int .i64 p.2] 44)) = .ok gv w4 ∧ w4.ownsRow B 44 2 gv 1 (pcs [p]) ∧ Below W.heap.size W w4 ∧ (∀ g, gv.ownBlock = some g → W.heap.size ≤ g) := by
  obtain ⟨v', w6, hr, ho, hg, hat⟩ := app2 B (W.alloc (.cells #[.int .i64 p.1, .int .i64 p.2] 44)) (.slice none 0 0) 0 [] (nilRow _ _) (by simp; omega) ⟨W.heap.size, 0, none⟩ 1 1 [p] rfl (fun j u hj => Lcm.new6 W (pc p) 44 j u (by rw [← hj]; simp [pcs])) (by omega)
  have hb1 : Below W.heap.size W (W.alloc (.cells #[.int .i64 p.1, .int .i64 p.2] 44)) := (Below.refl _ W).alloc (Nat.le_refl _) _
  refine ⟨v', w6, hr, by simpa using ho, ⟨hg.os.trans hb1.os, hg.tape.trans hb1.tape, hg.output.trans hb1.output, Nat.le_trans hb1.size hg.size, fun k hk => (hg.block k (by simp; omega) (fun e => by cases e)).trans (hb1.block k hk)⟩, fun g e => ?_⟩
  rcases hat with h | h
  · rw [h] at e; cases e
  · rw [h] at e
    have := Option.some.inj e
    simp at this
    omega
set_option linter.all false in
set_option maxRecDepth 1000000 in
set_option maxHeartbeats 4000000 in
theorem cPut {B : Nat} {w : World} {S : Nat} {sz hh mm : Int} {v : Value} {ps : List (Int × Int)} (h : Cs B w S sz v hh mm ps) (h0 : 0 < sz) (hl : ps.length ≤ 100000) (k u : Int) :
    Calls Try.prog 24 #[.pointer (some ⟨S, 0, none⟩), .int .i64 k, .int .i64 u] w fun r w' => ∃ gv, r = .returned gv ∧ w'.ownsRow B 44 2 gv (gone1 sz ps k).length (pcs (gone1 sz ps k)) ∧ Bt B w w' ∧ ∃ v', Cs B w' S sz v' hh mm (put1 sz ps k u) := by
  have HH := Aside0.mk (And.intro h (And.intro h0 hl))
  have cP := cPlace h k (by omega)
  have hpr := place_range ps k ps.length (Nat.le_refl _)
  have hcut : cut1 ps k = if 0 ≤ place ps k ps.length then ps.eraseIdx (place ps k ps.length).toNat else ps := rfl
  obtain ⟨P, hP⟩ : ∃ P, place ps k ps.length = P := ⟨_, rfl⟩
  rw [hP] at cP hpr hcut
  clear hP
  have hlc : (cut1 ps k).length ≤ 100000 := by unfold cut1; split; (have := List.length_eraseIdx_le ps (place ps k ps.length).toNat; omega); exact hl
  have HL := Aside0.mk (And.intro h0 hlc)
  clear hlc
  rcases Int.lt_or_le P 0 with hq | hq
  · have hq1 : decide (0 ≤ P) = false := decide_eq_false (by omega)
    rw [if_neg (by omega)] at hcut
    have HP := Aside0.mk (And.intro hcut h)
    clear hpr hcut hq h h0 hl
    go_enter Try.func24, Try.ntmps24
    go_wp2_with (first | (go_at_call 26; refine cP.mono ?_; rintro e w1 ⟨rfl, hw1⟩; rw [hw1]; clear hw1 w1))
    have hb : Bt B w w := Bt.refl _ _
    obtain ⟨hpc, vc, hC⟩ : cut1 ps k = ps ∧ ∃ vc, Cs B w S sz vc hh mm ps := ⟨HP.out.1, v, HP.out.2⟩
    clear HP
    obtain ⟨A, n, c, rfl, hn⟩ : ∃ A n c, vc = .slice A n c ∧ (cut1 ps k).length = n := sl hC hpc
    have c0 : World.cell? w ⟨S, 0, none⟩ = some (.int .i64 sz) := by rw [Lib.cell_of_heap hC.own]; rfl
    have c1 : World.cell? w ⟨S, 1, none⟩ = some (.slice A n c) := by rw [Lib.cell_of_heap hC.own]; rfl
    rw [← hpc] at hC
    by_cases hge : sz ≤ (n : Int)
    · have d1 : decide ((n : Int) ≥ sz) = true := decide_eq_true hge
      have HC := Aside0.mk (And.intro hC (And.intro hn hge))
      have HB := Aside0.mk hb
      clear hC hb hpc hn hge
      go_quiet (fail)
      obtain ⟨W2, hW2⟩ : ∃ W2, World.drewN w nq = W2 := ⟨_, rfl⟩
      have hC2 : Cs B W2 S sz (.slice A n c) hh mm (cut1 ps k) := by rw [← hW2]; exact HC.out.1.drewN nq
      have HB2 : Aside0 (Bt B w W2) := ⟨by rw [← hW2]; exact HB.out.drewN nq⟩
      rw [hW2]
      have cT2 := cTaken hC2 0 (by have := HC.out.2.1; have := HC.out.2.2; have := HL.out.1; omega) HL.out.2
      obtain ⟨y, hy⟩ : ∃ y, (cut1 ps k).getD 0 (0, 0) = y := ⟨_, rfl⟩
      rw [hy] at cT2
      have HY := Aside0.mk hy
      clear hW2 c0 c1 hC2 hy
      go_wp2_with (first | (refine appL_ (some 31) rfl rfl rfl rfl rfl hr1 ?_; clear hr1) | (refine appL_ (some 41) rfl rfl rfl rfl rfl hr2 ?_; clear hr2) | (
          go_at_call 27
          refine cT2.mono ?_
          rintro e w3 ⟨rfl, hb3, v3, hC3⟩
          obtain ⟨A3, n3, cc3, rfl, hn3⟩ := sl hC3 rfl
          have hS3 : S < w3.heap.size := (Array.getElem?_eq_some_iff.1 hC3.own).1
          obtain ⟨gv, w4, hr1, og4, hb4, hg4⟩ := fresh1 B w3 (Nat.le_trans hC3.bS (Nat.le_of_lt hS3)) y
          have hC4 := hC3.kept hb4
          have c4 : w4.cell? ⟨S, 1, none⟩ = some (.slice A3 n3 cc3) := by rw [Lib.cell_of_heap hC4.own]; rfl
          obtain ⟨A2, n2, cc2, v', w6, rfl, hr2, a1, a2, hC6, hb6, hk6⟩ := push hC4 (by have := HL.out.2; have h9 := List.length_eraseIdx_le (cut1 ps k) 0; omega) (k, u)
          have K := Aside0.mk (And.intro hb3 (And.intro hC3 (And.intro og4 (And.intro hb4 (And.intro hg4 (And.intro hC6 (And.intro hb6 hk6)))))))
          clear hb3 hC3 hn3 hS3 og4 hb4 hg4 hC4 hC6 hb6 hk6 cT2))
      go_ret
      obtain ⟨hb3, hC3, og4, hb4, hg4, hC6, hb6, hk6⟩ := K.out
      have hle : sz ≤ ((cut1 ps k).length : Int) := by rw [HC.out.2.1]; exact HC.out.2.2
      refine ⟨gv, rfl, ?_, (HB2.out.trans hb3).trans ((Bt.far hb4 (Nat.le_trans hC3.bS (Nat.le_of_lt (Array.getElem?_eq_some_iff.1 hC3.own).1))).trans hb6), .slice A2 n2 cc2, ?_⟩
      · rw [show gone1 sz ps k = [y] by unfold gone1; rw [if_pos hle, HY.out]]
        refine ⟨og4.1, ?_⟩
        rcases og4.2 with h1 | ⟨g2, cap, cur, hv, hb2, hg, rest⟩
        · exact .inl h1
        · refine .inr ⟨g2, cap, cur, hv, hb2, (hk6 g2 (Array.getElem?_eq_some_iff.1 hg).1 (fun e => ?_) (fun e => ?_)).trans hg, rest⟩
          · have h1 := hg4 g2 (by rw [hv]; rfl)
            have h2 := (Array.getElem?_eq_some_iff.1 hC3.own).1
            omega
          · have h1 := hg4 g2 (by rw [hv]; rfl)
            have h2 := (hC3.row.lt g2 e).2
            omega
      · rw [show put1 sz ps k u = (cut1 ps k).eraseIdx 0 ++ [(k, u)] by unfold put1; rw [if_pos hle]]; exact hC6
    · have d1 : decide ((n : Int) ≥ sz) = false := decide_eq_false hge
      have HC := Aside0.mk (And.intro hC (And.intro hn hge))
      have HB := Aside0.mk hb
      clear hC hb hpc hn hge
      go_quiet (fail)
      obtain ⟨W2, hW2⟩ : ∃ W2, World.drewN w nq = W2 := ⟨_, rfl⟩
      have hC2 : Cs B W2 S sz (.slice A n c) hh mm (cut1 ps k) := by rw [← hW2]; exact HC.out.1.drewN nq
      have hB2 : Bt B w W2 := by rw [← hW2]; exact HB.out.drewN nq
      rw [hW2]
      have c2 : W2.cell? ⟨S, 1, none⟩ = some (.slice A n c) := by rw [Lib.cell_of_heap hC2.own]; rfl
      obtain ⟨A2, n2, cc2, v', w6, rfl, hr, a1, a2, hC6, hb6, hk6⟩ := push hC2 (by have := HL.out.2; omega) (k, u)
      have K := Aside0.mk (And.intro hC6 (And.intro hb6 hB2))
      clear hW2 c0 c1 hC2 hB2 hC6 hb6 hk6
      go_wp2_with (first | (refine appL_ (some 41) rfl rfl rfl rfl rfl hr ?_))
      go_ret
      refine ⟨_, rfl, ?_, K.out.2.2.trans K.out.2.1, .slice A2 n2 cc2, ?_⟩
      · rw [show gone1 sz ps k = [] from if_neg (by rw [HC.out.2.1]; exact Int.not_le.2 HC.out.2.2)]; exact nilRow _ _
      · rw [show put1 sz ps k u = cut1 ps k ++ [(k, u)] by unfold put1; rw [if_neg (by rw [HC.out.2.1]; exact Int.not_le.2 HC.out.2.2)]]; exact K.out.1
  · have hq1 : decide (0 ≤ P) = true := decide_eq_true hq
    obtain ⟨i, rfl⟩ : ∃ i : Nat, P = i := ⟨P.toNat, by omega⟩
    rw [if_pos (by omega), Int.toNat_natCast] at hcut
    have cT := cTaken h i (by omega) hl
    have HP := Aside0.mk hcut
    clear hpr hcut hq h h0 hl
    go_enter Try.func24, Try.ntmps24
    go_wp2_with (first | (go_at_call 26; refine cP.mono ?_; rintro e w1 ⟨rfl, hw1⟩; rw [hw1]; clear hw1 w1) | (go_at_call 27; refine cT.mono ?_; rintro e w1 ⟨rfl, hb, vc, hC⟩))
    have hpc := HP.out
    clear HP
    obtain ⟨A, n, c, rfl, hn⟩ : ∃ A n c, vc = .slice A n c ∧ (cut1 ps k).length = n := sl hC hpc
    have c0 : World.cell? w1 ⟨S, 0, none⟩ = some (.int .i64 sz) := by rw [Lib.cell_of_heap hC.own]; rfl
    have c1 : World.cell? w1 ⟨S, 1, none⟩ = some (.slice A n c) := by rw [Lib.cell_of_heap hC.own]; rfl
    rw [← hpc] at hC
    by_cases hge : sz ≤ (n : Int)
    · have d1 : decide ((n : Int) ≥ sz) = true := decide_eq_true hge
      have HC := Aside0.mk (And.intro hC (And.intro hn hge))
      have HB := Aside0.mk hb
      clear hC hb hpc hn hge
      go_quiet (fail)
      obtain ⟨W2, hW2⟩ : ∃ W2, World.drewN w1 nq = W2 := ⟨_, rfl⟩
      have hC2 : Cs B W2 S sz (.slice A n c) hh mm (cut1 ps k) := by rw [← hW2]; exact HC.out.1.drewN nq
      have HB2 : Aside0 (Bt B w W2) := ⟨by rw [← hW2]; exact HB.out.drewN nq⟩
      rw [hW2]
      have cT2 := cTaken hC2 0 (by have := HC.out.2.1; have := HC.out.2.2; have := HL.out.1; omega) HL.out.2
      obtain ⟨y, hy⟩ : ∃ y, (cut1 ps k).getD 0 (0, 0) = y := ⟨_, rfl⟩
      rw [hy] at cT2
      have HY := Aside0.mk hy
      clear hW2 c0 c1 hC2 hy
      go_wp2_with (first | (refine appL_ (some 31) rfl rfl rfl rfl rfl hr1 ?_; clear hr1) | (refine appL_ (some 41) rfl rfl rfl rfl rfl hr2 ?_; clear hr2) | (
          go_at_call 27
          refine cT2.mono ?_
          rintro e w3 ⟨rfl, hb3, v3, hC3⟩
          obtain ⟨A3, n3, cc3, rfl, hn3⟩ := sl hC3 rfl
          have hS3 : S < w3.heap.size := (Array.getElem?_eq_some_iff.1 hC3.own).1
          obtain ⟨gv, w4, hr1, og4, hb4, hg4⟩ := fresh1 B w3 (Nat.le_trans hC3.bS (Nat.le_of_lt hS3)) y
          have hC4 := hC3.kept hb4
          have c4 : w4.cell? ⟨S, 1, none⟩ = some (.slice A3 n3 cc3) := by rw [Lib.cell_of_heap hC4.own]; rfl
          obtain ⟨A2, n2, cc2, v', w6, rfl, hr2, a1, a2, hC6, hb6, hk6⟩ := push hC4 (by have := HL.out.2; have h9 := List.length_eraseIdx_le (cut1 ps k) 0; omega) (k, u)
          have K := Aside0.mk (And.intro hb3 (And.intro hC3 (And.intro og4 (And.intro hb4 (And.intro hg4 (And.intro hC6 (And.intro hb6 hk6)))))))
          clear hb3 hC3 hn3 hS3 og4 hb4 hg4 hC4 hC6 hb6 hk6 cT2))
      go_ret
      obtain ⟨hb3, hC3, og4, hb4, hg4, hC6, hb6, hk6⟩ := K.out
      have hle : sz ≤ ((cut1 ps k).length : Int) := by rw [HC.out.2.1]; exact HC.out.2.2
      refine ⟨gv, rfl, ?_, (HB2.out.trans hb3).trans ((Bt.far hb4 (Nat.le_trans hC3.bS (Nat.le_of_lt (Array.getElem?_eq_some_iff.1 hC3.own).1))).trans hb6), .slice A2 n2 cc2, ?_⟩
      · rw [show gone1 sz ps k = [y] by unfold gone1; rw [if_pos hle, HY.out]]
        refine ⟨og4.1, ?_⟩
        rcases og4.2 with h1 | ⟨g2, cap, cur, hv, hb2, hg, rest⟩
        · exact .inl h1
        · refine .inr ⟨g2, cap, cur, hv, hb2, (hk6 g2 (Array.getElem?_eq_some_iff.1 hg).1 (fun e => ?_) (fun e => ?_)).trans hg, rest⟩
          · have h1 := hg4 g2 (by rw [hv]; rfl)
            have h2 := (Array.getElem?_eq_some_iff.1 hC3.own).1
            omega
          · have h1 := hg4 g2 (by rw [hv]; rfl)
            have h2 := (hC3.row.lt g2 e).2
            omega
      · rw [show put1 sz ps k u = (cut1 ps k).eraseIdx 0 ++ [(k, u)] by unfold put1; rw [if_pos hle]]; exact hC6
    · have d1 : decide ((n : Int) ≥ sz) = false := decide_eq_false hge
      have HC := Aside0.mk (And.intro hC (And.intro hn hge))
      have HB := Aside0.mk hb
      clear hC hb hpc hn hge
      go_quiet (fail)
      obtain ⟨W2, hW2⟩ : ∃ W2, World.drewN w1 nq = W2 := ⟨_, rfl⟩
      have hC2 : Cs B W2 S sz (.slice A n c) hh mm (cut1 ps k) := by rw [← hW2]; exact HC.out.1.drewN nq
      have hB2 : Bt B w W2 := by rw [← hW2]; exact HB.out.drewN nq
      rw [hW2]
      have c2 : W2.cell? ⟨S, 1, none⟩ = some (.slice A n c) := by rw [Lib.cell_of_heap hC2.own]; rfl
      obtain ⟨A2, n2, cc2, v', w6, rfl, hr, a1, a2, hC6, hb6, hk6⟩ := push hC2 (by have := HL.out.2; omega) (k, u)
      have K := Aside0.mk (And.intro hC6 (And.intro hb6 hB2))
      clear hW2 c0 c1 hC2 hB2 hC6 hb6 hk6
      go_wp2_with (first | (refine appL_ (some 41) rfl rfl rfl rfl rfl hr ?_))
      go_ret
      refine ⟨_, rfl, ?_, K.out.2.2.trans K.out.2.1, .slice A2 n2 cc2, ?_⟩
      · rw [show gone1 sz ps k = [] from if_neg (by rw [HC.out.2.1]; exact Int.not_le.2 HC.out.2.2)]; exact nilRow _ _
      · rw [show put1 sz ps k u = cut1 ps k ++ [(k, u)] by unfold put1; rw [if_neg (by rw [HC.out.2.1]; exact Int.not_le.2 HC.out.2.2)]]; exact K.out.1
end Go.Proofs.Ytjhmcpdnmfhodaa.Spu
end

section
/- The walk of the specification's 'got'. -/
namespace Go.Proofs.Ytjhmcpdnmfhodaa.Spg
open Go Go.RowKit Go.Proofs.YtjhmcpdnmfhodaaW.PrintWords Go.Proofs.YtjhmcpdnmfhodaaW.PrintLast Go.Proofs.YtjhmcpdnmfhodaaW.PrintMore Spm Spt Spu Lra Ll Lcw

/-- a counter of the specification's cache is turned -/
theorem cnt {B : Nat} {w : World} {S : Nat} {sz hh mm hh' mm' : Int} {v : Value} {ps : List (Int × Int)} (h : Cs B w S sz v hh mm ps) (j : Nat) (u : Value) (hj : (#[.int .i64 sz, v, .int .i64 hh, .int .i64 mm] : Array Value).setIfInBounds j u = #[.int .i64 sz, v, .int .i64 hh', .int .i64 mm']) :
    Cs B (w.setCell ⟨S, j, none⟩ u) S sz v hh' mm' ps ∧ Bt B w (w.setCell ⟨S, j, none⟩ u) := by
  have hk : w.grownBy (w.setCell ⟨S, j, none⟩ u) (some S) := ⟨rfl, rfl, rfl, by simp [World.setCell], fun k _ hk => Below.heap_setCell _ _ _ k (fun e => hk (by rw [e]))⟩
  exact ⟨⟨by rw [← hj]; exact (set_same u h.own), h.row.kept hk (.inr (own_ne h)), h.bS⟩, ⟨(Below.refl B w).setCell h.bS u, fun k c t f hk h1 h2 => (set_other w u (fun e => by
    rw [e, h.own] at hk
    exact h2 (by injection hk with hk; injection hk with _ hk _; exact hk.symm))).trans hk⟩⟩
-- TABLES
def T7 : Bool × List (List Nat × List Nat) := (true, [([], []), ([], []), ([1], [1]), ([2], [2]), ([3], [3]), ([], []), ([5], [5]), ([4, 6], [4, 6]), ([0, 0, 1, 2, 3, 4, 5, 6, 7], [0]), ([8, 0, 1, 2, 3, 4, 5, 6, 7], [8]), ([9, 7, 7, 0, 1, 2, 3, 4, 5, 6, 7], [7, 9])])
def B7 : List Nat := [0, 0, 2, 6, 14, 0, 32, 126, 255, 511, 1023]
theorem tab7 : rtab .any (opsOf Try.f25 7) = T7 := by kernel_rfl
theorem bits7 : waitsOk T7.2 B7 = true := by kernel_rfl
-- END TABLES
set_option linter.all false in
set_option maxRecDepth 1000000 in
set_option maxHeartbeats 4000000 in
theorem cGot {B : Nat} {w : World} {S : Nat} {sz hh mm : Int} {v : Value} {ps : List (Int × Int)} (h : Cs B w S sz v hh mm ps) (hl : ps.length ≤ 100000) (k : Int) :
    Calls Try.prog 25 #[.pointer (some ⟨S, 0, none⟩), .int .i64 k] w fun r w' =>
      (place ps k ps.length < 0 ∧ r = .returned (.tuple #[.int .i64 0, .bool false]) ∧ Bt B w w' ∧ Cs B w' S sz v hh (wrap64 (mm + 1)) ps) ∨
      (∃ i : Nat, place ps k ps.length = i ∧ r = .returned (.tuple #[.int .i64 (ps.getD i (0, 0)).2, .bool true]) ∧ Bt B w w' ∧ ∃ v', Cs B w' S sz v' (wrap64 (hh + 1)) mm (ps.eraseIdx i ++ [ps.getD i (0, 0)])) := by
  have cP := cPlace h k (by omega)
  have hpr := place_range ps k ps.length (Nat.le_refl _)
  obtain ⟨P, hP⟩ : ∃ P, place ps k ps.length = P := ⟨_, rfl⟩
  rw [hP] at cP hpr ⊢
  clear hP
  have c2 : w.cell? ⟨S, 2, none⟩ = some (.int .i64 hh) := by rw [Lib.cell_of_heap h.own]; rfl
  have c3 : w.cell? ⟨S, 3, none⟩ = some (.int .i64 mm) := by rw [Lib.cell_of_heap h.own]; rfl
  have fr : ∀ j, w.frozen? ⟨S, j, none⟩ = false := fun j => by rw [Lib.frozen_of_heap h.own]
  rcases Int.lt_or_le P 0 with hq | hq
  · have hq1 : decide (P < 0) = true := decide_eq_true hq
    have K := Aside0.mk (And.intro hq (cnt h 3 (.int .i64 (wrap64 (mm + 1))) rfl))
    clear hpr hq h hl
    go_enter Try.func25, Try.ntmps25
    go_wp2_with (first | (go_at_call 26; refine cP.mono ?_; rintro e w1 ⟨rfl, hw1⟩; rw [hw1]; clear hw1 w1))
    go_ret2
    exact .inl ⟨K.out.1, rfl, K.out.2.2, K.out.2.1⟩
  · have hq1 : decide (P < 0) = false := decide_eq_false (by omega)
    obtain ⟨i, rfl⟩ : ∃ i : Nat, P = i := ⟨P.toNat, by omega⟩
    have hcn := cnt h 2 (.int .i64 (wrap64 (hh + 1))) rfl
    have cT := cTaken hcn.1 i (by omega) hl
    obtain ⟨y, hy⟩ : ∃ y, ps.getD i (0, 0) = y := ⟨_, rfl⟩
    rw [hy] at cT
    suffices hs : Calls Try.prog 25 #[.pointer (some ⟨S, 0, none⟩), .int .i64 k] w fun r w' => r = .returned (.tuple #[.int .i64 y.2, .bool true]) ∧ Bt B w w' ∧ ∃ v', Cs B w' S sz v' (wrap64 (hh + 1)) mm (ps.eraseIdx i ++ [y]) from
      hs.mono (fun r w' h => .inr ⟨i, rfl, by rw [hy]; exact h.1, h.2.1, by rw [hy]; exact h.2.2⟩)
    have HY := Aside0.mk hy
    clear hy
    have HC := Aside0.mk hcn.2
    have HL := Aside0.mk hl
    clear hpr hq h hl hcn
    go_enter Try.func25, Try.ntmps25
    go_wp2_with (first | (go_at_call 26; refine cP.mono ?_; rintro e w1 ⟨rfl, hw1⟩; rw [hw1]; clear hw1 w1) | (
        go_at_call 27
        refine cT.mono ?_
        rintro e w1 ⟨rfl, hb1, v1, hC1⟩
        obtain ⟨p, hp⟩ : ∃ p, w1.heap.size = p := ⟨_, rfl⟩
        have K1 := Aside0.mk (And.intro hb1 (And.intro hC1 hp))
        have hpp : p < p + 1 := by omega
        have hz : w1.heap.size = p := hp
        clear hb1 hC1 cT c2 c3 fr cP))
    obtain ⟨X, hX⟩ : ∃ X, w1.alloc (.cells #[.int .i64 y.1, .int .i64 y.2] 44) = X := ⟨_, rfl⟩
    have hXs : X.heap.size = p + 1 := by rw [← hX]; simp [hz]
    have hXp : X.heap[p]? = some (.cells #[.int .i64 y.1, .int .i64 y.2] 44 (0, 0)) := by rw [← hX, ← hz]; exact heap_alloc_new w1 _
    have hXb : Below w1.heap.size w1 X := by rw [← hX]; exact (Below.refl _ w1).alloc (Nat.le_refl _) _
    have hCX := K1.out.2.1.kept hXb
    have hSp : S < p := by have := (Array.getElem?_eq_some_iff.1 K1.out.2.1.own).1; omega
    rw [hX]
    obtain ⟨A1, n1, cc1, rfl, hn1⟩ := sl hCX rfl
    obtain ⟨A2, n2, cc2, v2, w6, rfl, hr, a1, a2, hC6, hb6, hk6⟩ := push hCX.drew (by have := HL.out; have h9 := List.length_eraseIdx_le ps i; omega) y
    have hr' : (Builtin.append_ #[31, 31] 31 #[.slice A1 n1 cc1, .slice (some ⟨X.heap.size, 0, none⟩) 1 1]).run Try.prog (X.drew.alloc (.cells #[.int .i64 y.1, .int .i64 y.2] 44)) = .ok (.slice A2 n2 cc2) w6 := hr
    have hY6 : (w6.setCell ⟨S, 1, none⟩ (.slice A2 n2 cc2)).heap[p]? = some (.cells #[.int .i64 y.1, .int .i64 y.2] 44 (0, 0)) := (hk6 p (show p < X.heap.size by omega) (by omega) (fun e => by
      have := (K1.out.2.1.row.lt p e).2
      omega)).trans hXp
    have h6p : w6.heap[p]? = some (.cells #[.int .i64 y.1, .int .i64 y.2] 44 (0, 0)) := (set_other w6 (.slice A2 n2 cc2) (show p ≠ S by omega)).symm.trans hY6
    have SB : Aside0 (w6.cell? ⟨S, 1, none⟩ = some (.slice A1 n1 cc1) ∧ w6.cell? ⟨p, 0, none⟩ = some (.int .i64 y.1) ∧ w6.cell? ⟨p, 1, none⟩ = some (.int .i64 y.2)) := ⟨⟨a1, by rw [Lib.cell_of_heap h6p]; rfl, by rw [Lib.cell_of_heap h6p]; rfl⟩⟩
    obtain ⟨w3, hw3⟩ : ∃ w3, w3 = w6.setCell ⟨S, 1, none⟩ (.slice A2 n2 cc2) := ⟨_, rfl⟩
    rw [← hw3] at hY6 hC6 hb6
    have q1 : w3.cell? ⟨p, 1, none⟩ = some (.int .i64 y.2) := by rw [Lib.cell_of_heap hY6]; rfl
    have s0 : X.cell? ⟨S, 1, none⟩ = some (.slice A1 n1 cc1) := by rw [Lib.cell_of_heap hCX.own]; rfl
    have s1 : X.cell? ⟨p, 0, none⟩ = some (.int .i64 y.1) := by rw [Lib.cell_of_heap hXp]; rfl
    have s2 : X.cell? ⟨p, 1, none⟩ = some (.int .i64 y.2) := by rw [Lib.cell_of_heap hXp]; rfl
    have S0 : Aside0 (X.cell? ⟨S, 1, none⟩ = some (.slice A1 n1 cc1) ∧ X.cell? ⟨p, 0, none⟩ = some (.int .i64 y.1) ∧ X.cell? ⟨p, 1, none⟩ = some (.int .i64 y.2)) := ⟨⟨s0, s1, s2⟩⟩
    have HX := Aside0.mk (And.intro hXb (And.intro hCX (And.intro hC6 hb6)))
    have HW3 := Aside0.mk hw3
    have hpx : p < X.heap.size := by omega
    have SA : Aside0 ((X.drew.alloc (.cells #[.int .i64 y.1, .int .i64 y.2] 44)).cell? ⟨S, 1, none⟩ = some (.slice A1 n1 cc1) ∧ (X.drew.alloc (.cells #[.int .i64 y.1, .int .i64 y.2] 44)).cell? ⟨p, 0, none⟩ = some (.int .i64 y.1) ∧ (X.drew.alloc (.cells #[.int .i64 y.1, .int .i64 y.2] 44)).cell? ⟨p, 1, none⟩ = some (.int .i64 y.2)) := by
      have hbb : Below X.heap.size X.drew (X.drew.alloc (.cells #[.int .i64 y.1, .int .i64 y.2] 44)) := (Below.refl _ X.drew).alloc (Nat.le_refl _) _
      exact ⟨⟨(hbb.cell (show S < X.heap.size by omega)).trans s0, (hbb.cell hpx).trans s1, (hbb.cell hpx).trans s2⟩⟩
    clear hX hXs hXp hXb hCX hSp hn1 hr hY6 hC6 hb6 hk6 hw3 h6p s0 s1 s2 hpx hz hpp
    -- REGION 7
    refine start_ (n := 11) (S := fun w' => w'.cell? ⟨S, 1, none⟩ = some (.slice A1 n1 cc1) ∧ w'.cell? ⟨p, 0, none⟩ = some (.int .i64 y.1) ∧ w'.cell? ⟨p, 1, none⟩ = some (.int .i64 y.2)) (ds := [10]) #[false, false, false, false, false, false, false, false, false, false, false] (by kernel_rfl) rfl rfl S0.out (fun hHeld => ?_); refine with_tabW tab7 bits7 (fun HT_ HW_ => ?_)
    refine pure_ (i := 0) (N := some 30) (v := ?_) (a' := ?_) #[true, false, false, false, false, false, false, false, false, false, false] rfl rfl (any_of HT_.out (by kernel_rfl)) (fun _ _ _ h => h) (Or.inl ⟨by rfl, ?_⟩) ?_ ?_
    rotate_left
    · intro w'
      go_simp
      with_reducible rfl
    rotate_left
    · simp only [Act.put, List.setIfInBounds_toArray, List.set_cons_zero, List.set_cons_succ, i64_w, i32_w]
      rfl
    refine pure_ (i := 1) (N := some 31) (v := ?_) (a' := ?_) #[true, true, false, false, false, false, false, false, false, false, false] rfl rfl (any_of HT_.out (by kernel_rfl)) (fun _ _ _ h => h) (Or.inl ⟨by rfl, ?_⟩) ?_ ?_
    rotate_left
    · intro w'
      go_simp
      with_reducible rfl
    rotate_left
    · simp only [Act.put, List.setIfInBounds_toArray, List.set_cons_zero, List.set_cons_succ, i64_w, i32_w]
      rfl
    refine pure_ (i := 2) (N := some 32) (v := ?_) (a' := ?_) #[true, true, true, false, false, false, false, false, false, false, false] rfl rfl (any_of HT_.out (by kernel_rfl)) (fun _ _ _ h => h) (Or.inl ⟨by rfl, ?_⟩) ?_ ?_
    rotate_left
    · intro w'
      go_simp
      with_reducible rfl
    rotate_left
    · simp only [Act.put, List.setIfInBounds_toArray, List.set_cons_zero, List.set_cons_succ, i64_w, i32_w]
      rfl
    refine pure_ (i := 3) (N := some 33) (v := ?_) (a' := ?_) #[true, true, true, true, false, false, false, false, false, false, false] rfl rfl (any_of HT_.out (by kernel_rfl)) (fun _ _ _ h => h) (Or.inl ⟨by rfl, ?_⟩) ?_ ?_
    rotate_left
    · intro w'
      go_simp
      with_reducible rfl
    rotate_left
    · simp only [Act.put, List.setIfInBounds_toArray, List.set_cons_zero, List.set_cons_succ, i64_w, i32_w]
      rfl
    refine take_ (i := 4) (N := some 34) (v := ?_) (a' := ?_) #[true, true, true, true, true, false, false, false, false, false, false] rfl rfl (take_ofW HT_.out HW_.out (by kernel_rfl)) (fun _ _ _ h => h) (Or.inl ⟨by rfl, ?_⟩) hHeld ?_ ?_
    rotate_left
    · rintro w' ⟨s0, s1, s2⟩
      go_simp
      with_reducible rfl
    rotate_left
    · simp only [Act.put, List.setIfInBounds_toArray, List.set_cons_zero, List.set_cons_succ, i64_w, i32_w]
      rfl
    refine take_ (i := 5) (N := some 35) (v := ?_) (a' := ?_) #[true, true, true, true, true, true, false, false, false, false, false] rfl rfl (take_ofW HT_.out HW_.out (by kernel_rfl)) (fun _ _ _ h => h) (Or.inl ⟨by rfl, ?_⟩) hHeld ?_ ?_
    rotate_left
    · rintro w' ⟨s0, s1, s2⟩
      go_simp
      with_reducible rfl
    rotate_left
    · simp only [Act.put, List.setIfInBounds_toArray, List.set_cons_zero, List.set_cons_succ, i64_w, i32_w]
      rfl
    refine one_ (i := 6) (N := some 36) #[true, true, true, true, true, true, true, false, false, false, false] rfl rfl (one_of HT_.out (by kernel_rfl)) (by decide) (fun Kc hKc => ?_)
    refine value_ (w1 := X.drew.alloc (.cells #[.int .i64 y.1, .int .i64 y.2] 44)) (v := .slice (some ⟨X.heap.size, 0, none⟩) 1 1) (by rfl) rfl ?_ ?_
    · go_simp
      try rfl
    refine hKc.out _ _ SA.out (fun hHeld => ?_)
    clear hKc Kc
    refine norm_ (a' := ?_) ?_ ?_
    rotate_left
    · show Act.put _ (some 36) _ = _
      simp only [Act.put, List.setIfInBounds_toArray, List.set_cons_zero, List.set_cons_succ, i64_w, i32_w]
      rfl
    refine one_ (i := 7) (N := some 37) #[true, true, true, true, true, true, true, true, false, false, false] rfl rfl (one_of HT_.out (by kernel_rfl)) (by decide) (fun Kc hKc => ?_)
    refine value_ (w1 := w6) (v := .slice A2 n2 cc2) (by rfl) rfl ?_ ?_
    · exact app_ (s := .tmp 34) (y := .tmp 36) rfl rfl rfl hr'
    refine hKc.out _ _ SB.out (fun hHeld => ?_)
    clear hKc Kc
    refine norm_ (a' := ?_) ?_ ?_
    rotate_left
    · show Act.put _ (some 37) _ = _
      simp only [Act.put, List.setIfInBounds_toArray, List.set_cons_zero, List.set_cons_succ, i64_w, i32_w]
      rfl
    refine pure_ (i := 8) (N := some 38) (v := ?_) (a' := ?_) #[true, true, true, true, true, true, true, true, true, false, false] rfl rfl (any_of HT_.out (by kernel_rfl)) (fun _ _ _ h => h) (Or.inl ⟨by rfl, ?_⟩) ?_ ?_
    rotate_left
    · intro w'
      go_simp
      with_reducible rfl
    rotate_left
    · simp only [Act.put, List.setIfInBounds_toArray, List.set_cons_zero, List.set_cons_succ, i64_w, i32_w]
      rfl
    refine pure_ (i := 9) (N := some 39) (v := ?_) (a' := ?_) #[true, true, true, true, true, true, true, true, true, true, false] rfl rfl (any_of HT_.out (by kernel_rfl)) (fun _ _ _ h => h) (Or.inl ⟨by rfl, ?_⟩) ?_ ?_
    rotate_left
    · intro w'
      go_simp
      with_reducible rfl
    rotate_left
    · simp only [Act.put, List.setIfInBounds_toArray, List.set_cons_zero, List.set_cons_succ, i64_w, i32_w]
      rfl
    refine last_ (i := 10) (N := none) #[true, true, true, true, true, true, true, true, true, true, true] rfl rfl (one_of HT_.out (by kernel_rfl)) (by decide) (fun Kc hKc => ?_)
    refine skip_ (w1 := w3) (by rfl) rfl ?_ ?_
    · rw [HW3.out]; go_simp
      try rfl
    refine hKc.out _ _ ?_
    clear hKc Kc
    refine done_ (done_of HT_.out (by kernel_rfl)) ?_
    -- END REGION 7
    go_wp2_with (fail)
    go_ret2
    have hB : B ≤ w1.heap.size := by have h1 := K1.out.2.1.bS; have := (Array.getElem?_eq_some_iff.1 K1.out.2.1.own).1; omega
    exact ⟨rfl, (HC.out.trans (K1.out.1.trans (Bt.far HX.out.1 hB))).trans (Bt.of_drew HX.out.2.2.2), _, HX.out.2.2.1⟩
end Go.Proofs.Ytjhmcpdnmfhodaa.Spg
end
