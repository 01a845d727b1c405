/- spec.Facts: the walk. -/
import Derived.Test.YtokdamfalhcnnaaFa
import Derived.Test.YtokdamfalhcnnaaGMpBodyx2
import Derived.Deep.QuietTactic
import Derived.BigQuiet
namespace Go.Proofs.Ytokdamfalhcnnaa.Fb
open Go Go.Maps Go.ChangeMaps Go.MapKept Go.RowKit Go.Proofs.YtokdamfalhcnnaaW.PrintWords Go.Proofs.YtokdamfalhcnnaaW.PrintLast Go.Proofs.YtokdamfalhcnnaaW.PrintMore GMpBody Mp Mq Ms Mt Mu Small Mv Mo Mw Mx Pa Pb Pc Pe Pf Sd Sw Se Ri Sl Fa

set_option linter.all false
set_option maxRecDepth 1000000
set_option maxHeartbeats 8000000
-- TABLES
def T9 : Bool × List (List Nat × List Nat) := (true, [([], []), ([0], [0]), ([], []), ([], []), ([1, 2, 3], [1, 2, 3]), ([], []), ([5], [5]), ([6], [6]), ([], []), ([8], [8]), ([], []), ([9, 10], [9, 10]), ([7, 11], [7, 11]), ([4, 12, 12], [4, 12]), ([0, 1, 2, 3, 4, 5, 6, 7, 8, 9, 10, 11, 12, 13], []), ([14, 13, 13, 0, 1, 2, 3, 4, 5, 6, 7, 8, 9, 10, 11, 12, 13], [13, 14])])
def B9 : List Nat := [0, 1, 0, 0, 15, 0, 32, 96, 0, 256, 0, 1792, 4064, 8191, 16383, 32767]
theorem tab9 : rtab .any (opsOf Try.f9 9) = T9 := by kernel_rfl
theorem bits9 : waitsOk T9.2 B9 = true := by kernel_rfl
def T14 : Bool × List (List Nat × List Nat) := (true, [([], []), ([0], [0]), ([], []), ([1, 2], [1, 2]), ([3], [3]), ([4], [4]), ([], []), ([6], [6]), ([], []), ([7, 8], [7, 8]), ([9], [9]), ([10], [10]), ([0, 1, 2, 3, 4, 5], []), ([12, 5, 0, 1, 2, 3, 4, 5], [5, 12]), ([0, 1, 2, 3, 4, 5, 6, 7, 8, 9, 10, 11, 12, 13], []), ([14, 11, 13, 0, 1, 2, 3, 4, 5, 6, 7, 8, 9, 10, 11, 12, 13], [11, 14]), ([0, 1, 2, 3, 4, 5, 6, 7, 8, 9, 10, 11, 12, 13, 14, 15], []), ([16, 15, 0, 1, 2, 3, 4, 5, 6, 7, 8, 9, 10, 11, 12, 13, 14, 15], [16]), ([0, 1, 2, 3, 4, 5, 6, 7, 8, 9, 10, 11, 12, 13, 14, 15, 16, 17], []), ([18, 17, 0, 1, 2, 3, 4, 5, 6, 7, 8, 9, 10, 11, 12, 13, 14, 15, 16, 17], [18])])
def B14 : List Nat := [0, 1, 0, 7, 15, 31, 0, 64, 0, 448, 960, 1984, 63, 4159, 16383, 32767, 65535, 131071, 262143, 524287]
theorem tab14 : rtab .any (opsOf Try.f9 14) = T14 := by kernel_rfl
theorem bits14 : waitsOk T14.2 B14 = true := by kernel_rfl
-- END TABLES
theorem app_ {P : Program} {oi : Oper} {a : Act} {w w' : World} {v v' x : Value} {s y : Operand} {t : TypeId} (hop : oi.op = .call { callee := .builtin .append, args := #[s, y], argTypes := #[t, t] }) (hs : a.eval s = v) (hx : a.eval y = x)
    (hr : (Builtin.append_ #[t, t] oi.type #[v, x]).run P w = .ok v' w') : (execOp a.eval oi).run P w = .ok (.value v') w' := by
  unfold execOp
  simp only [hop, resolve, invoke, builtin, Sem.run_bind, Sem.run_pure, Result.andThen_ok, List.map_toArray, List.map_cons, List.map_nil, hs, hx, hr]
theorem insS_mid {x : Int} : ∀ {xs ys : List Int}, (∀ e ∈ xs, e ≤ x) → (∀ e, ys.head? = some e → x < e) → insS (xs ++ ys) x = xs ++ x :: ys
  | [], [], _, _ => rfl
  | [], y :: t, _, h => by
    have := h y rfl
    show (if y ≤ x then _ else _) = _
    rw [if_neg (by omega)]; rfl
  | a :: t, ys, h, k => by
    show (if a ≤ x then a :: insS (t ++ ys) x else _) = _
    rw [if_pos (h a (by simp)), insS_mid (fun e he => h e (by simp [he])) k]; rfl
theorem keys_snoc (ps : List Pr) (x : Pr) : keys (ps ++ [x]) = keys ps ++ [x.1] := by unfold keys; rw [List.map_append]; rfl
theorem vals_snoc (ps : List Pr) (x : Pr) : vals (ps ++ [x]) = vals ps ++ [x.2] := by unfold vals; rw [List.map_append]; rfl
def vsF (ps : List Pr) : List Int := (vals ps).foldl insS []
theorem vsF_snoc (ps : List Pr) (x : Pr) : vsF (ps ++ [x]) = insS (vsF ps) x.2 := by unfold vsF; rw [vals_snoc, List.foldl_append]; rfl
theorem vsF_len (ps : List Pr) : (vsF ps).length = ps.length := by
  unfold vsF
  rw [fold_is, List.length_mergeSort]; unfold vals; simp
theorem _root_.Go.Proofs.Ytokdamfalhcnnaa.Fa.Fk.drews {Wp w : World} {F n : Nat} {mp kv vv : Value} {ks vs : List Int} (h : Fk Wp w F n mp kv vv ks vs) (q : Nat) : Fk Wp (w.drewN q).drew F n mp kv vv ks vs := ⟨⟨h.gr.os, h.gr.tape, h.gr.output, h.gr.size, h.gr.block⟩, h.fb, h.rk, h.rv, h.ap, h.fW⟩
theorem set10 (W : World) (R : Nat) (a0 a1 a2 a3 a4 a5 a6 a7 a8 a9 : Value) (hr : W.heap[R]? = some (.cells zero36 36 (0, 0))) : ((((((((((W.setCell ⟨R, 0, none⟩ a0).setCell ⟨R, 1, none⟩ a1).setCell ⟨R, 2, none⟩ a2).setCell ⟨R, 3, none⟩ a3).setCell ⟨R, 4, none⟩ a4).setCell ⟨R, 5, none⟩ a5).setCell ⟨R, 6, none⟩ a6).setCell ⟨R, 7, none⟩ a7).setCell ⟨R, 8, none⟩ a8).setCell ⟨R, 9, none⟩ a9).heap[R]? = some (.cells #[a0, a1, a2, a3, a4, a5, a6, a7, a8, a9] 36 (0, 0)) ∧
    W.grownBy ((((((((((W.setCell ⟨R, 0, none⟩ a0).setCell ⟨R, 1, none⟩ a1).setCell ⟨R, 2, none⟩ a2).setCell ⟨R, 3, none⟩ a3).setCell ⟨R, 4, none⟩ a4).setCell ⟨R, 5, none⟩ a5).setCell ⟨R, 6, none⟩ a6).setCell ⟨R, 7, none⟩ a7).setCell ⟨R, 8, none⟩ a8).setCell ⟨R, 9, none⟩ a9) (some R) := by
  have r0 := heap_setCell_same W R 0 _ 36 a0 hr
  have r1 := heap_setCell_same _ R 1 _ 36 a1 r0
  have r2 := heap_setCell_same _ R 2 _ 36 a2 r1
  have r3 := heap_setCell_same _ R 3 _ 36 a3 r2
  have r4 := heap_setCell_same _ R 4 _ 36 a4 r3
  have r5 := heap_setCell_same _ R 5 _ 36 a5 r4
  have r6 := heap_setCell_same _ R 6 _ 36 a6 r5
  have r7 := heap_setCell_same _ R 7 _ 36 a7 r6
  have r8 := heap_setCell_same _ R 8 _ 36 a8 r7
  have r9 := heap_setCell_same _ R 9 _ 36 a9 r8
  simp only [zero36, List.setIfInBounds_toArray, List.set_cons_zero, List.set_cons_succ] at r9
  have ht : ∀ {a b c : World}, a.grownBy b (some R) → b.grownBy c (some R) → a.grownBy c (some R) := fun h k => h.andThen k (fun j hj => .inr hj)
  exact ⟨r9, ht (ht (ht (ht (ht (ht (ht (ht (ht (setF _ R _ _) (setF _ R _ _)) (setF _ R _ _)) (setF _ R _ _)) (setF _ R _ _)) (setF _ R _ _)) (setF _ R _ _)) (setF _ R _ _)) (setF _ R _ _)) (setF _ R _ _)⟩
theorem find_hit {ps xs t : List Pr} {y : Pr} {key : Int} (hps : ps = xs ++ y :: t) (hx : ∀ e ∈ xs, e.1 < key) (hy : y.1 = key) : ps.find? (fun e => decide (e.1 = key)) = some y := by
  rw [hps, List.find?_append, find_none (fun e he => by have := hx e he; omega), List.find?_cons, decide_eq_true hy]
  rfl
theorem find_miss {ps xs ys : List Pr} {key : Int} (hps : ps = xs ++ ys) (hx : ∀ e ∈ xs, e.1 < key) (hy : ∀ e ∈ ys, key ≤ e.1) (hs : Srt ps) (hi : isAt ys key = false) : ps.find? (fun e => decide (e.1 = key)) = none := by
  refine find_none (fun e he hk => ?_)
  rw [hps] at he
  rcases List.mem_append.1 he with he | he
  · have := hx e he; omega
  · cases ys with
    | nil => cases he
    | cons y t =>
      have hyk : ¬ y.1 = key := by simpa [isAt] using hi
      rcases List.mem_cons.1 he with rfl | he
      · exact hyk hk
      · rw [hps] at hs
        have h1 := (List.pairwise_cons.1 (List.pairwise_append.1 hs).2.1).1 e he
        have h2 := hy y (by simp)
        omega
variable {w : World} {nn : Bool} {ps : List Pr} {A : Option Addr} {c : Nat}
theorem factsT (hr : Kd.C k29 w A (sps ps).length (sps ps)) (hc : (sps ps).length ≤ c) (hl : ps.length ≤ 90000) (hs : Srt ps) (key : Int) : Calls Try.prog 9 #[.agg #[.bool nn, .slice A (sps ps).length c], .int .i64 key] w fun r w' => Pf.Told w w' ps key r := by
  obtain ⟨W1, hW1⟩ : ∃ W1, w.alloc (.cells #[.bool nn, .slice A (sps ps).length c] 27) = W1 := ⟨_, rfl⟩
  obtain ⟨W2, hW2⟩ : ∃ W2, W1.alloc (.cells zero36 36) = W2 := ⟨_, rfl⟩
  obtain ⟨mp, hmp⟩ : ∃ mp : Value, mp = .slice A (sps ps).length c := ⟨_, rfl⟩
  obtain ⟨Wp, hWp⟩ : ∃ Wp, W2.alloc (.cells (fc ps.length mp (.slice none 0 0) (.slice none 0 0)) 36) = Wp := ⟨_, rfl⟩
  have s1 : W1.heap.size = w.heap.size + 1 := by rw [← hW1]; simp
  have s2 : W2.heap.size = w.heap.size + 2 := by rw [← hW2]; simp; omega
  have s3 : Wp.heap.size = w.heap.size + 3 := by rw [← hWp]; simp; omega
  have m1 : W1.heap[w.heap.size]? = some (.cells #[.bool nn, .slice A (sps ps).length c] 27 (0, 0)) := by rw [← hW1]; exact heap_alloc_new w _
  have m2 : W2.heap[w.heap.size]? = some (.cells #[.bool nn, .slice A (sps ps).length c] 27 (0, 0)) := by rw [← hW2]; exact (Below.heap_alloc W1 _ _ (by omega)).trans m1
  have m3 : Wp.heap[w.heap.size]? = some (.cells #[.bool nn, .slice A (sps ps).length c] 27 (0, 0)) := by rw [← hWp]; exact (Below.heap_alloc W2 _ _ (by omega)).trans m2
  have r2 : W2.heap[W1.heap.size]? = some (.cells zero36 36 (0, 0)) := by rw [← hW2]; exact heap_alloc_new W1 _
  have r3 : Wp.heap[W1.heap.size]? = some (.cells zero36 36 (0, 0)) := by rw [← hWp]; exact (Below.heap_alloc W2 _ _ (by omega)).trans r2
  have f3 : Wp.heap[W2.heap.size]? = some (.cells (fc ps.length mp (.slice none 0 0) (.slice none 0 0)) 36 (0, 0)) := by rw [← hWp]; exact heap_alloc_new W2 _
  have b3 : Below w.heap.size w Wp := by
    rw [← hWp, ← hW2, ← hW1]
    exact (((Below.refl _ w).alloc (Nat.le_refl _) _).alloc (by simp) _).alloc (by simp; omega) _
  have hu27 := Try.underlying27
  have hu29 := Try.underlying29
  have hu36 := Try.underlying36
  have d0 : W2.cell? ⟨w.heap.size, 0, none⟩ = some (.bool nn) := by rw [Lib.cell_of_heap m2]; rfl
  have d1 : W2.cell? ⟨w.heap.size, 1, none⟩ = some (.slice A (sps ps).length c) := by rw [Lib.cell_of_heap m2]; rfl
  have e0 : Wp.cell? ⟨w.heap.size, 0, none⟩ = some (.bool nn) := by rw [Lib.cell_of_heap m3]; rfl
  have e1 : Wp.cell? ⟨w.heap.size, 1, none⟩ = some (.slice A (sps ps).length c) := by rw [Lib.cell_of_heap m3]; rfl
  have hD0 : Fk Wp Wp W2.heap.size ps.length mp (.slice none 0 0) (.slice none 0 0) (keys (ps.take 0)) (vsF (ps.take 0)) := ⟨⟨rfl, rfl, rfl, Nat.le_refl _, fun _ _ _ => rfl⟩, f3, ⟨rfl, .inl ⟨rfl, rfl⟩⟩, ⟨rfl, .inl ⟨rfl, rfl⟩⟩, (fun k e => by cases e), by omega⟩
  have hWp' : W2.alloc (.cells #[.int .i64 ps.length, .slice none 0 0, .slice none 0 0, .int .i64 0, .int .i64 0, .bool false, .bool false, .slice A (sps ps).length c, .slice A (sps ps).length c, .slice none 0 0] 36) = Wp := by rw [← hWp, hmp]; rfl
  have HP := Aside0.mk (And.intro s1 (And.intro s2 (And.intro s3 (And.intro m3 (And.intro r3 (And.intro b3 (And.intro hmp hWp')))))))
  have HA := Aside0.mk (And.intro hr (And.intro hc (And.intro hl (And.intro hs hD0))))
  unfold zero36 at hW2
  rw [sps_len] at *
  clear hr hc hl hs s1 s2 s3 m1 m2 m3 r2 r3 f3 b3 hmp hD0 hWp hWp'
  have hlt : w.heap.size < W2.heap.size := by have := HP.out.2.1; omega
  have hne : w.heap.size ≠ W2.heap.size := by omega
  have hne' := hne.symm
  go_enter Try.func9, Try.ntmps9
  go_wp2_with (fail)
  rw [HP.out.2.2.2.2.2.2.2]
  (try simp only [Act.put, List.setIfInBounds_toArray, List.set_cons_zero, List.set_cons_succ])
  clear d0 d1 hW1 hW2 hlt hne hne'
  go_loopg [7, 8, 22] ps.length (fun gk v7 v8 v22 wx => ∃ (j : Nat) (A1 : Option Addr) (n1 c1 : Nat) (A9 : Option Addr) (n9 c9 : Nat), v22 = .int .i64 (j : Int) ∧ j ≤ ps.length ∧ Fk Wp wx W2.heap.size ps.length mp (.slice A1 n1 c1) (.slice A9 n9 c9) (keys (ps.take j)) (vsF (ps.take j)) ∧ ps.length - j ≤ gk)
  case atStart => exact ⟨0, none, 0, 0, none, 0, 0, rfl, Nat.zero_le _, HA.out.2.2.2.2, Nat.le_refl _⟩
  case round =>
    obtain ⟨j, A1, n1, c1, A9, n9, c9, rfl, hj, hD, hlen⟩ := hrel
    have hl := HA.out.2.2.1
    by_cases hd : j < ps.length
    · have q3 : decide ((j : Int) < (ps.length : Int)) = true := decide_eq_true (by omega)
      have p1 := eq_true (show 0 ≤ (j : Int) by omega)
      have q1 := eq_true (show (j : Int) < (ps.length : Int) by omega)
      have hwj := wrap_succ j (by omega)
      have hbw : Below w.heap.size w wr := HP.out.2.2.2.2.2.1.trans (below_grown hD.gr HP.out.2.2.2.2.2.1.size (fun k hk => by injection hk with hk; have := HP.out.2.1; omega))
      obtain ⟨ad, e, x0, x1⟩ := at_T29 (Kd.C_below HA.out.1 hbw) (j : Int) (by omega) (by omega)
      cases e
      rw [rd_sps _ _ hd, Int.toNat_natCast] at x0 x1
      obtain ⟨x, hx⟩ : ∃ x, x = ps[j] := ⟨_, rfl⟩
      have htk : ps.take (j + 1) = ps.take j ++ [x] := by rw [hx]; exact List.take_succ_eq_append_getElem hd
      rw [← hx] at x0 x1
      replace x0 : wr.cell? (ad.add (j * 2)) = some (.int .i64 x.1) := x0
      replace x1 : wr.cell? ⟨(ad.add (j * 2)).block, (ad.add (j * 2)).off + 1, none⟩ = some (.int .i64 x.2) := x1
      obtain ⟨w1, hw1⟩ : ∃ w1, wr.alloc (.cells #[.int .i64 x.1, .int .i64 x.2] 29) = w1 := ⟨_, rfl⟩
      have hb1 : Below wr.heap.size wr w1 := by rw [← hw1]; exact (Below.refl _ wr).alloc (Nat.le_refl _) _
      have hD1 := hD.below hb1
      have hp1 : w1.heap[wr.heap.size]? = some (.cells #[.int .i64 x.1, .int .i64 x.2] 29 (0, 0)) := by rw [← hw1]; exact heap_alloc_new wr _
      have b0 : w1.cell? ⟨wr.heap.size, 0, none⟩ = some (.int .i64 x.1) := by rw [Lib.cell_of_heap hp1]; rfl
      have f1 : w1.cell? ⟨W2.heap.size, 1, none⟩ = some (.slice A1 n1 c1) := by rw [Lib.cell_of_heap hD1.fb]; rfl
      have hlk : (keys (ps.take j)).length ≤ 100000 := by have : (ps.take j).length ≤ j := List.length_take_le _ _; unfold keys; rw [List.length_map]; omega
      have hlv : (vsF (ps.take j)).length ≤ 100000 := by rw [vsF_len]; have : (ps.take j).length ≤ j := List.length_take_le _ _; omega
      obtain ⟨A2, n2, c2, w2, hrun, f21, f2f, hD3, hz2, hkp⟩ := hD1.key hlk x.1
      obtain ⟨w3, hw3⟩ : ∃ w3, w2.setCell ⟨W2.heap.size, 1, none⟩ (.slice A2 n2 c2) = w3 := ⟨_, rfl⟩
      rw [hw3] at hD3 hkp
      have hpF : wr.heap.size ≠ W2.heap.size := by have := (Array.getElem?_eq_some_iff.1 hD.fb).1; omega
      have hp3 : w3.heap[wr.heap.size]? = some (.cells #[.int .i64 x.1, .int .i64 x.2] 29 (0, 0)) := (hkp _ (Array.getElem?_eq_some_iff.1 hp1).1 hpF (fun e => by have := (hD.rk.lt _ e).2; omega)).trans hp1
      obtain ⟨vs, hvs⟩ : ∃ vs, vs = vsF (ps.take j) := ⟨_, rfl⟩
      rw [← hvs] at hD3 hlv
      obtain ⟨pb, hpb⟩ : ∃ pb, pb = wr.heap.size := ⟨_, rfl⟩
      rw [← hpb] at hp3
      have HQ := Aside0.mk (And.intro hd (And.intro hlen (And.intro hwj (And.intro htk (And.intro hlv (And.intro hD3 (And.intro hp3 hvs)))))))
      clear hvs hD hlen hwj htk hx hb1 hD1 hp1 hbw hj hl hd hlk hlv hD3 hz2 hkp hpF hp3
      go_wp2_with (first | (refine Mr.appL_ (some 31) rfl rfl rfl rfl rfl hrun ?_; clear hrun))
      simp only [← hpb]
      clear hpb f1 f21 f2f b0 hw1 hw3
      obtain ⟨gko, hgko⟩ : ∃ gko, gko = gk := ⟨_, rfl⟩
      subst hgko
      go_loopg [8] vs.length (fun gk v8 wx => ∃ (i q : Nat), v8 = .int .i64 (i : Int) ∧ i ≤ vs.length ∧ (∀ e ∈ vs.take i, e ≤ x.2) ∧ wx = w3.drewN q ∧ vs.length - i ≤ gk)
      case atStart => exact ⟨0, 0, rfl, Nat.zero_le _, by simp, rfl, Nat.le_refl _⟩
      case round =>
        obtain ⟨i, q, rfl, hi, hle, rfl, hlen2⟩ := hrel
        have hD3 := HQ.out.2.2.2.2.2.1
        have f9 : w3.cell? ⟨W2.heap.size, 9, none⟩ = some (.slice A9 n9 c9) := by rw [Lib.cell_of_heap hD3.fb]; rfl
        have g1 : w3.cell? ⟨pb, 1, none⟩ = some (.int .i64 x.2) := by rw [Lib.cell_of_heap HQ.out.2.2.2.2.2.2.1]; rfl
        have hlv := HQ.out.2.2.2.2.1
        have hn9 : n9 = vs.length := by
          rcases row_form hD3.rv with ⟨e, h0⟩ | ⟨g, cap, e, _, _⟩
          · injection e with e1 e2 e3; omega
          · injection e
        subst hn9
        have p1' := eq_true (show 0 ≤ (i : Int) by omega)
        by_cases hiv : i < vs.length
        · obtain ⟨g, hA9⟩ : ∃ g, A9 = some ⟨g, 0, none⟩ := by
            rcases row_form hD3.rv with ⟨e, h0⟩ | ⟨g, cap, e, _, _⟩
            · omega
            · injection e with e1; exact ⟨g, e1⟩
          have ci : w3.cell? ⟨g, i, none⟩ = some (.int .i64 vs[i]) := by
            have hrv := hD3.rv
            rw [hA9] at hrv
            exact row_cell hrv i _ (by unfold ints; rw [List.getElem?_map, List.getElem?_eq_getElem hiv]; rfl)
          have dl : decide ((i : Int) < (vs.length : Int)) = true := decide_eq_true (by omega)
          have dl2 : decide (i < vs.length) = true := decide_eq_true (by omega)
          have q1' := eq_true (show (i : Int) < (vs.length : Int) by omega)
          have hwi := wrap_succ i (by omega)
          obtain ⟨u, hu⟩ : ∃ u, u = vs[i] := ⟨_, rfl⟩
          rw [← hu] at ci
          by_cases hv : u ≤ x.2
          · have dv : decide (u ≤ x.2) = true := decide_eq_true hv
            have hle' : ∀ e ∈ vs.take (i + 1), e ≤ x.2 := fun e he => by
              rw [List.take_succ_eq_append_getElem hiv] at he
              rcases List.mem_append.1 he with he | he
              · exact hle e he
              · obtain rfl := List.mem_singleton.1 he
                rw [← hu]; exact hv
            obtain ⟨g2, rfl⟩ : ∃ g2, gk = g2 + 1 := ⟨gk - 1, by omega⟩
            have HI := Aside0.mk (And.intro hiv (And.intro hle' (And.intro hlen2 hwi)))
            subst hA9
            clear hu hiv hle hle' hlen2 hv hi hlv hD3 hwi
            go_wp2_with (fail)
            go_quiet (fail)
            go_wp2_with (fail)
            go_roundg g2
            case measure => exact Nat.lt_succ_self _
            case rel => exact ⟨i + 1, q + nq, by simp only [HI.out.2.2.2], HI.out.1, HI.out.2.1, rfl, by have := HI.out.2.2.1; omega⟩
          · have dv : decide (u ≤ x.2) = false := decide_eq_false hv
            have hins : insS vs x.2 = vs.take i ++ x.2 :: vs.drop i := by
              have h := insS_mid (x := x.2) (xs := vs.take i) (ys := vs.drop i) hle (fun e he => by
                rw [List.drop_eq_getElem_cons hiv, List.head?_cons] at he
                injection he with he
                omega)
              rwa [List.take_append_drop] at h
            have HI := Aside0.mk (And.intro hi hins)
            subst hA9
            clear hu hiv hle hlen2 hv hi hlv hD3 hwi hins
            go_wp2_with (fail)
            go_quiet (fail)
            go_wp2_with (fail)
            try simp only [World.drewN_drewN]
            obtain ⟨W9, hW9⟩ : ∃ W9, W9 = w3.drewN (q + nq) := ⟨_, rfl⟩
            rw [← hW9]
            have hD9 : Fk Wp W9.drew W2.heap.size ps.length mp (.slice A2 n2 c2) (.slice (some ⟨g, 0, none⟩) vs.length c9) (keys (ps.take j) ++ [x.1]) vs := by rw [hW9]; exact HQ.out.2.2.2.2.2.1.drews (q + nq)
            have hp9 : W9.heap[pb]? = some (.cells #[.int .i64 x.1, .int .i64 x.2] 29 (0, 0)) := by rw [hW9]; exact HQ.out.2.2.2.2.2.2.1
            obtain ⟨a9, cap9, A6, n6, c6, wb, A9', n9', c9', wc, hvv, hcap, hr6, hr9, hbb, hbc, hK⟩ := hD9.val HQ.out.2.2.2.2.1 i HI.out.1 x.2
            injection hvv with ea en ec
            subst ea
            subst ec
            have hcut := slice_cut (some ⟨g, 0, none⟩) vs.length c9 i (Nat.le_trans HI.out.1 hcap)
            have htail := slice_tail (some ⟨g, 0, none⟩) vs.length c9 i HI.out.1
            have hFl : W2.heap.size < W9.heap.size := (Array.getElem?_eq_some_iff.1 hD9.fb).1
            have hpl : pb < W9.heap.size := (Array.getElem?_eq_some_iff.1 hp9).1
            have k9 : W9.cell? ⟨W2.heap.size, 9, none⟩ = some (.slice (some ⟨g, 0, none⟩) vs.length c9) := by rw [Lib.cell_of_heap (show W9.heap[W2.heap.size]? = _ from hD9.fb)]; rfl
            have k1 : W9.cell? ⟨pb, 1, none⟩ = some (.int .i64 x.2) := by rw [Lib.cell_of_heap hp9]; rfl
            have S0 : Aside0 (W9.cell? ⟨W2.heap.size, 9, none⟩ = some (.slice (some ⟨g, 0, none⟩) vs.length c9) ∧ W9.cell? ⟨pb, 1, none⟩ = some (.int .i64 x.2)) := ⟨⟨k9, k1⟩⟩
            have hba : Below W9.heap.size W9 (W9.drew.alloc (.cells #[.int .i64 x.2] 3)) := ((Below.refl _ W9).drew).alloc (Nat.le_refl _) _
            have SA : Aside0 ((W9.drew.alloc (.cells #[.int .i64 x.2] 3)).cell? ⟨W2.heap.size, 9, none⟩ = some (.slice (some ⟨g, 0, none⟩) vs.length c9) ∧ (W9.drew.alloc (.cells #[.int .i64 x.2] 3)).cell? ⟨pb, 1, none⟩ = some (.int .i64 x.2)) := ⟨⟨(hba.cell (p := ⟨W2.heap.size, 9, none⟩) hFl).trans k9, (hba.cell (p := ⟨pb, 1, none⟩) hpl).trans k1⟩⟩
            have SB : Aside0 (wb.cell? ⟨W2.heap.size, 9, none⟩ = some (.slice (some ⟨g, 0, none⟩) vs.length c9) ∧ wb.cell? ⟨pb, 1, none⟩ = some (.int .i64 x.2)) := ⟨⟨(hbb.cell (p := ⟨W2.heap.size, 9, none⟩) hFl).trans k9, (hbb.cell (p := ⟨pb, 1, none⟩) hpl).trans k1⟩⟩
            have k9c : wc.cell? ⟨W2.heap.size, 9, none⟩ = some (.slice (some ⟨g, 0, none⟩) vs.length c9) := (hbc.cell (p := ⟨W2.heap.size, 9, none⟩) hFl).trans k9
            have SC : Aside0 (wc.cell? ⟨W2.heap.size, 9, none⟩ = some (.slice (some ⟨g, 0, none⟩) vs.length c9) ∧ wc.cell? ⟨pb, 1, none⟩ = some (.int .i64 x.2)) := ⟨⟨k9c, (hbc.cell (p := ⟨pb, 1, none⟩) hpl).trans k1⟩⟩
            have kfc : ∀ j, wc.frozen? ⟨W2.heap.size, j, none⟩ = false := fun j => by rw [Lib.frozen_of_heap ((hbc.block _ hFl).trans hD9.fb)]
            have HK := Aside0.mk hK
            clear hK hD9 hp9 hFl hpl hba k9 k1 hbb hbc hcap hW9
            refine start_ (n := 16) (S := fun w' => w'.cell? ⟨W2.heap.size, 9, none⟩ = some (.slice (some ⟨g, 0, none⟩) vs.length c9) ∧ w'.cell? ⟨pb, 1, none⟩ = some (.int .i64 x.2)) (ds := [15]) #[false, false, false, false, false, false, false, false, false, false, false, false, false, false, false, false] (by kernel_rfl) rfl rfl S0.out (fun hHeld => ?_); refine with_tabW tab9 bits9 (fun HT_ HW_ => ?_)
            refine pure_ (i := 0) (N := some 50) (v := ?_) (a' := ?_) #[true, false, false, false, false, false, false, false, false, false, false, false, false, false, false, false] rfl rfl (any_of HT_.out (by kernel_rfl)) (fun _ _ _ h => h) (Or.inl ⟨by rfl, ?_⟩) ?_ ?_
            rotate_left
            · intro w'
              go_simp
              with_reducible rfl
            rotate_left
            · simp only [Act.put, List.setIfInBounds_toArray, List.set_cons_zero, List.set_cons_succ, i64_w, i32_w]
              rfl
            refine take_ (i := 1) (N := some 51) (v := ?_) (a' := ?_) #[true, true, false, false, false, false, false, false, false, false, false, false, false, false, false, false] rfl rfl (take_ofW HT_.out HW_.out (by kernel_rfl)) (fun _ _ _ h => h) (Or.inl ⟨by rfl, ?_⟩) hHeld ?_ ?_
            rotate_left
            · rintro w' ⟨s0, s1⟩
              go_simp
              with_reducible rfl
            rotate_left
            · simp only [Act.put, List.setIfInBounds_toArray, List.set_cons_zero, List.set_cons_succ, i64_w, i32_w]
              rfl
            refine pure_ (i := 2) (N := some 52) (v := ?_) (a' := ?_) #[true, true, true, false, false, false, false, false, false, false, false, false, false, false, false, false] rfl rfl (any_of HT_.out (by kernel_rfl)) (fun _ _ _ h => h) (Or.inl ⟨by rfl, ?_⟩) ?_ ?_
            rotate_left
            · intro w'
              go_simp
              with_reducible rfl
            rotate_left
            · simp only [Act.put, List.setIfInBounds_toArray, List.set_cons_zero, List.set_cons_succ, i64_w, i32_w]
              rfl
            refine pure_ (i := 3) (N := some 53) (v := ?_) (a' := ?_) #[true, true, true, true, false, false, false, false, false, false, false, false, false, false, false, false] rfl rfl (any_of HT_.out (by kernel_rfl)) (fun _ _ _ h => h) (Or.inl ⟨by rfl, ?_⟩) ?_ ?_
            rotate_left
            · intro w'
              go_simp
              with_reducible rfl
            rotate_left
            · simp only [Act.put, List.setIfInBounds_toArray, List.set_cons_zero, List.set_cons_succ, i64_w, i32_w]
              rfl
            refine pure_ (i := 4) (N := some 54) (v := ?_) (a' := ?_) #[true, true, true, true, true, false, false, false, false, false, false, false, false, false, false, false] rfl rfl (any_of HT_.out (by kernel_rfl)) (fun _ _ _ h => h) (Or.inl ⟨by rfl, ?_⟩) ?_ ?_
            rotate_left
            · intro w'
              go_simp
              with_reducible rfl
            rotate_left
            · simp only [Act.put, List.setIfInBounds_toArray, List.set_cons_zero, List.set_cons_succ, i64_w, i32_w]
              rfl
            refine pure_ (i := 5) (N := some 55) (v := ?_) (a' := ?_) #[true, true, true, true, true, true, false, false, false, false, false, false, false, false, false, false] rfl rfl (any_of HT_.out (by kernel_rfl)) (fun _ _ _ h => h) (Or.inl ⟨by rfl, ?_⟩) ?_ ?_
            rotate_left
            · intro w'
              go_simp
              with_reducible rfl
            rotate_left
            · simp only [Act.put, List.setIfInBounds_toArray, List.set_cons_zero, List.set_cons_succ, i64_w, i32_w]
              rfl
            refine take_ (i := 6) (N := some 56) (v := ?_) (a' := ?_) #[true, true, true, true, true, true, true, false, false, false, false, false, false, false, false, false] rfl rfl (take_ofW HT_.out HW_.out (by kernel_rfl)) (fun _ _ _ h => h) (Or.inl ⟨by rfl, ?_⟩) hHeld ?_ ?_
            rotate_left
            · rintro w' ⟨s0, s1⟩
              go_simp
              with_reducible rfl
            rotate_left
            · simp only [Act.put, List.setIfInBounds_toArray, List.set_cons_zero, List.set_cons_succ, i64_w, i32_w]
              rfl
            refine pure_ (i := 8) (N := some 58) (v := ?_) (a' := ?_) #[true, true, true, true, true, true, true, false, true, false, false, false, false, false, false, false] rfl rfl (any_of HT_.out (by kernel_rfl)) (fun _ _ _ h => h) (Or.inl ⟨by rfl, ?_⟩) ?_ ?_
            rotate_left
            · intro w'
              go_simp
              with_reducible rfl
            rotate_left
            · simp only [Act.put, List.setIfInBounds_toArray, List.set_cons_zero, List.set_cons_succ, i64_w, i32_w]
              rfl
            refine take_ (i := 9) (N := some 59) (v := ?_) (a' := ?_) #[true, true, true, true, true, true, true, false, true, true, false, false, false, false, false, false] rfl rfl (take_ofW HT_.out HW_.out (by kernel_rfl)) (fun _ _ _ h => h) (Or.inl ⟨by rfl, ?_⟩) hHeld ?_ ?_
            rotate_left
            · rintro w' ⟨s0, s1⟩
              go_simp
              with_reducible rfl
            rotate_left
            · simp only [Act.put, List.setIfInBounds_toArray, List.set_cons_zero, List.set_cons_succ, i64_w, i32_w]
              rfl
            refine pure_ (i := 10) (N := some 60) (v := ?_) (a' := ?_) #[true, true, true, true, true, true, true, false, true, true, true, false, false, false, false, false] rfl rfl (any_of HT_.out (by kernel_rfl)) (fun _ _ _ h => h) (Or.inl ⟨by rfl, ?_⟩) ?_ ?_
            rotate_left
            · intro w'
              go_simp
              with_reducible rfl
            rotate_left
            · simp only [Act.put, List.setIfInBounds_toArray, List.set_cons_zero, List.set_cons_succ, i64_w, i32_w]
              rfl
            refine pure_ (i := 11) (N := some 61) (v := ?_) (a' := ?_) #[true, true, true, true, true, true, true, false, true, true, true, true, false, false, false, false] rfl rfl (any_of HT_.out (by kernel_rfl)) (fun _ _ _ h => h) (Or.inl ⟨by rfl, ?_⟩) ?_ ?_
            rotate_left
            · intro w'
              go_simp
              with_reducible rfl
            rotate_left
            · simp only [Act.put, List.setIfInBounds_toArray, List.set_cons_zero, List.set_cons_succ, i64_w, i32_w]
              rfl
            refine one_ (i := 7) (N := some 57) #[true, true, true, true, true, true, true, true, true, true, true, true, false, false, false, false] rfl rfl (one_of HT_.out (by kernel_rfl)) (by decide) (fun Kc hKc => ?_)
            refine value_ (w1 := W9.drew.alloc (.cells #[.int .i64 x.2] 3)) (v := .slice (some ⟨W9.heap.size, 0, none⟩) 1 1) (by rfl) rfl ?_ ?_
            · go_simp
              try rfl
            refine hKc.out _ _ SA.out (fun hHeld => ?_)
            clear hKc Kc
            refine norm_ (a' := ?_) ?_ ?_
            rotate_left
            · show Act.put _ (some 57) _ = _
              simp only [Act.put, List.setIfInBounds_toArray, List.set_cons_zero, List.set_cons_succ, i64_w, i32_w]
              rfl
            refine one_ (i := 12) (N := some 62) #[true, true, true, true, true, true, true, true, true, true, true, true, true, false, false, false] rfl rfl (one_of HT_.out (by kernel_rfl)) (by decide) (fun Kc hKc => ?_)
            refine value_ (w1 := wb) (v := .slice A6 n6 c6) (by rfl) rfl ?_ ?_
            · exact app_ (s := .tmp 57) (y := .tmp 61) rfl rfl rfl hr6
            refine hKc.out _ _ SB.out (fun hHeld => ?_)
            clear hKc Kc
            refine norm_ (a' := ?_) ?_ ?_
            rotate_left
            · show Act.put _ (some 62) _ = _
              simp only [Act.put, List.setIfInBounds_toArray, List.set_cons_zero, List.set_cons_succ, i64_w, i32_w]
              rfl
            refine one_ (i := 13) (N := some 63) #[true, true, true, true, true, true, true, true, true, true, true, true, true, true, false, false] rfl rfl (one_of HT_.out (by kernel_rfl)) (by decide) (fun Kc hKc => ?_)
            refine value_ (w1 := wc) (v := .slice A9' n9' c9') (by rfl) rfl ?_ ?_
            · exact app_ (s := .tmp 54) (y := .tmp 62) rfl rfl rfl hr9
            refine hKc.out _ _ SC.out (fun hHeld => ?_)
            clear hKc Kc
            refine norm_ (a' := ?_) ?_ ?_
            rotate_left
            · show Act.put _ (some 63) _ = _
              simp only [Act.put, List.setIfInBounds_toArray, List.set_cons_zero, List.set_cons_succ, i64_w, i32_w]
              rfl
            refine pure_ (i := 14) (N := some 64) (v := ?_) (a' := ?_) #[true, true, true, true, true, true, true, true, true, true, true, true, true, true, true, false] rfl rfl (any_of HT_.out (by kernel_rfl)) (fun _ _ _ h => h) (Or.inl ⟨by rfl, ?_⟩) ?_ ?_
            rotate_left
            · intro w'
              go_simp
              with_reducible rfl
            rotate_left
            · simp only [Act.put, List.setIfInBounds_toArray, List.set_cons_zero, List.set_cons_succ, i64_w, i32_w]
              rfl
            refine last_ (i := 15) (N := none) #[true, true, true, true, true, true, true, true, true, true, true, true, true, true, true, true] rfl rfl (one_of HT_.out (by kernel_rfl)) (by decide) (fun Kc hKc => ?_)
            refine skip_ (w1 := wc.setCell ⟨W2.heap.size, 9, none⟩ (.slice A9' n9' c9')) (by rfl) rfl ?_ ?_
            · go_simp
              try rfl
            refine hKc.out _ _ ?_
            clear hKc Kc
            refine done_ (done_of HT_.out (by kernel_rfl)) ?_
            clear hHeld hcut htail hr6 hr9 S0 SA SB SC k9c kfc
            go_wp2_with (fail)
            obtain ⟨g', hg'⟩ : ∃ g', gko = g' + 1 := ⟨gko - 1, by have := HQ.out.1; have := HQ.out.2.1; omega⟩
            subst hg'
            go_roundg g'
            case measure => exact Nat.lt_succ_self _
            case rel =>
              refine ⟨j + 1, A2, n2, c2, A9', n9', c9', by simp only [HQ.out.2.2.1], HQ.out.1, ?_, by have := HQ.out.2.1; omega⟩
              rw [HQ.out.2.2.2.1, keys_snoc, vsF_snoc, ← HQ.out.2.2.2.2.2.2.2, HI.out.2]
              exact HK.out
        · have dl : decide ((i : Int) < (vs.length : Int)) = false := decide_eq_false (by omega)
          have dl2 : decide (i < vs.length) = false := decide_eq_false (by omega)
          have hins : insS vs x.2 = vs.take i ++ x.2 :: vs.drop i := by
            have h := insS_mid (x := x.2) (xs := vs.take i) (ys := vs.drop i) hle (fun e he => by
              rw [List.drop_eq_nil_of_le (by omega)] at he
              cases he)
            rwa [List.take_append_drop] at h
          have HI := Aside0.mk (And.intro hi hins)
          clear hiv hle hlen2 hi hlv hD3 hins
          go_wp2_with (fail)
          go_quiet (fail)
          go_wp2_with (fail)
          try simp only [World.drewN_drewN]
          obtain ⟨W9, hW9⟩ : ∃ W9, W9 = w3.drewN (q + nq) := ⟨_, rfl⟩
          rw [← hW9]
          have hD9 : Fk Wp W9.drew W2.heap.size ps.length mp (.slice A2 n2 c2) (.slice A9 vs.length c9) (keys (ps.take j) ++ [x.1]) vs := by rw [hW9]; exact HQ.out.2.2.2.2.2.1.drews (q + nq)
          have hp9 : W9.heap[pb]? = some (.cells #[.int .i64 x.1, .int .i64 x.2] 29 (0, 0)) := by rw [hW9]; exact HQ.out.2.2.2.2.2.2.1
          obtain ⟨a9, cap9, A6, n6, c6, wb, A9', n9', c9', wc, hvv, hcap, hr6, hr9, hbb, hbc, hK⟩ := hD9.val HQ.out.2.2.2.2.1 i HI.out.1 x.2
          injection hvv with ea en ec
          subst ea
          subst ec
          have hcut := slice_cut A9 vs.length c9 i (Nat.le_trans HI.out.1 hcap)
          have htail := slice_tail A9 vs.length c9 i HI.out.1
          have hFl : W2.heap.size < W9.heap.size := (Array.getElem?_eq_some_iff.1 hD9.fb).1
          have hpl : pb < W9.heap.size := (Array.getElem?_eq_some_iff.1 hp9).1
          have k9 : W9.cell? ⟨W2.heap.size, 9, none⟩ = some (.slice A9 vs.length c9) := by rw [Lib.cell_of_heap (show W9.heap[W2.heap.size]? = _ from hD9.fb)]; rfl
          have k1 : W9.cell? ⟨pb, 1, none⟩ = some (.int .i64 x.2) := by rw [Lib.cell_of_heap hp9]; rfl
          have S0 : Aside0 (W9.cell? ⟨W2.heap.size, 9, none⟩ = some (.slice A9 vs.length c9) ∧ W9.cell? ⟨pb, 1, none⟩ = some (.int .i64 x.2)) := ⟨⟨k9, k1⟩⟩
          have hba : Below W9.heap.size W9 (W9.drew.alloc (.cells #[.int .i64 x.2] 3)) := ((Below.refl _ W9).drew).alloc (Nat.le_refl _) _
          have SA : Aside0 ((W9.drew.alloc (.cells #[.int .i64 x.2] 3)).cell? ⟨W2.heap.size, 9, none⟩ = some (.slice A9 vs.length c9) ∧ (W9.drew.alloc (.cells #[.int .i64 x.2] 3)).cell? ⟨pb, 1, none⟩ = some (.int .i64 x.2)) := ⟨⟨(hba.cell (p := ⟨W2.heap.size, 9, none⟩) hFl).trans k9, (hba.cell (p := ⟨pb, 1, none⟩) hpl).trans k1⟩⟩
          have SB : Aside0 (wb.cell? ⟨W2.heap.size, 9, none⟩ = some (.slice A9 vs.length c9) ∧ wb.cell? ⟨pb, 1, none⟩ = some (.int .i64 x.2)) := ⟨⟨(hbb.cell (p := ⟨W2.heap.size, 9, none⟩) hFl).trans k9, (hbb.cell (p := ⟨pb, 1, none⟩) hpl).trans k1⟩⟩
          have k9c : wc.cell? ⟨W2.heap.size, 9, none⟩ = some (.slice A9 vs.length c9) := (hbc.cell (p := ⟨W2.heap.size, 9, none⟩) hFl).trans k9
          have SC : Aside0 (wc.cell? ⟨W2.heap.size, 9, none⟩ = some (.slice A9 vs.length c9) ∧ wc.cell? ⟨pb, 1, none⟩ = some (.int .i64 x.2)) := ⟨⟨k9c, (hbc.cell (p := ⟨pb, 1, none⟩) hpl).trans k1⟩⟩
          have kfc : ∀ j, wc.frozen? ⟨W2.heap.size, j, none⟩ = false := fun j => by rw [Lib.frozen_of_heap ((hbc.block _ hFl).trans hD9.fb)]
          have HK := Aside0.mk hK
          clear hK hD9 hp9 hFl hpl hba k9 k1 hbb hbc hcap hW9
          refine start_ (n := 16) (S := fun w' => w'.cell? ⟨W2.heap.size, 9, none⟩ = some (.slice A9 vs.length c9) ∧ w'.cell? ⟨pb, 1, none⟩ = some (.int .i64 x.2)) (ds := [15]) #[false, false, false, false, false, false, false, false, false, false, false, false, false, false, false, false] (by kernel_rfl) rfl rfl S0.out (fun hHeld => ?_); refine with_tabW tab9 bits9 (fun HT_ HW_ => ?_)
          refine pure_ (i := 0) (N := some 50) (v := ?_) (a' := ?_) #[true, false, false, false, false, false, false, false, false, false, false, false, false, false, false, false] rfl rfl (any_of HT_.out (by kernel_rfl)) (fun _ _ _ h => h) (Or.inl ⟨by rfl, ?_⟩) ?_ ?_
          rotate_left
          · intro w'
            go_simp
            with_reducible rfl
          rotate_left
          · simp only [Act.put, List.setIfInBounds_toArray, List.set_cons_zero, List.set_cons_succ, i64_w, i32_w]
            rfl
          refine take_ (i := 1) (N := some 51) (v := ?_) (a' := ?_) #[true, true, false, false, false, false, false, false, false, false, false, false, false, false, false, false] rfl rfl (take_ofW HT_.out HW_.out (by kernel_rfl)) (fun _ _ _ h => h) (Or.inl ⟨by rfl, ?_⟩) hHeld ?_ ?_
          rotate_left
          · rintro w' ⟨s0, s1⟩
            go_simp
            with_reducible rfl
          rotate_left
          · simp only [Act.put, List.setIfInBounds_toArray, List.set_cons_zero, List.set_cons_succ, i64_w, i32_w]
            rfl
          refine pure_ (i := 2) (N := some 52) (v := ?_) (a' := ?_) #[true, true, true, false, false, false, false, false, false, false, false, false, false, false, false, false] rfl rfl (any_of HT_.out (by kernel_rfl)) (fun _ _ _ h => h) (Or.inl ⟨by rfl, ?_⟩) ?_ ?_
          rotate_left
          · intro w'
            go_simp
            with_reducible rfl
          rotate_left
          · simp only [Act.put, List.setIfInBounds_toArray, List.set_cons_zero, List.set_cons_succ, i64_w, i32_w]
            rfl
          refine pure_ (i := 3) (N := some 53) (v := ?_) (a' := ?_) #[true, true, true, true, false, false, false, false, false, false, false, false, false, false, false, false] rfl rfl (any_of HT_.out (by kernel_rfl)) (fun _ _ _ h => h) (Or.inl ⟨by rfl, ?_⟩) ?_ ?_
          rotate_left
          · intro w'
            go_simp
            with_reducible rfl
          rotate_left
          · simp only [Act.put, List.setIfInBounds_toArray, List.set_cons_zero, List.set_cons_succ, i64_w, i32_w]
            rfl
          refine pure_ (i := 4) (N := some 54) (v := ?_) (a' := ?_) #[true, true, true, true, true, false, false, false, false, false, false, false, false, false, false, false] rfl rfl (any_of HT_.out (by kernel_rfl)) (fun _ _ _ h => h) (Or.inl ⟨by rfl, ?_⟩) ?_ ?_
          rotate_left
          · intro w'
            go_simp
            with_reducible rfl
          rotate_left
          · simp only [Act.put, List.setIfInBounds_toArray, List.set_cons_zero, List.set_cons_succ, i64_w, i32_w]
            rfl
          refine pure_ (i := 5) (N := some 55) (v := ?_) (a' := ?_) #[true, true, true, true, true, true, false, false, false, false, false, false, false, false, false, false] rfl rfl (any_of HT_.out (by kernel_rfl)) (fun _ _ _ h => h) (Or.inl ⟨by rfl, ?_⟩) ?_ ?_
          rotate_left
          · intro w'
            go_simp
            with_reducible rfl
          rotate_left
          · simp only [Act.put, List.setIfInBounds_toArray, List.set_cons_zero, List.set_cons_succ, i64_w, i32_w]
            rfl
          refine take_ (i := 6) (N := some 56) (v := ?_) (a' := ?_) #[true, true, true, true, true, true, true, false, false, false, false, false, false, false, false, false] rfl rfl (take_ofW HT_.out HW_.out (by kernel_rfl)) (fun _ _ _ h => h) (Or.inl ⟨by rfl, ?_⟩) hHeld ?_ ?_
          rotate_left
          · rintro w' ⟨s0, s1⟩
            go_simp
            with_reducible rfl
          rotate_left
          · simp only [Act.put, List.setIfInBounds_toArray, List.set_cons_zero, List.set_cons_succ, i64_w, i32_w]
            rfl
          refine pure_ (i := 8) (N := some 58) (v := ?_) (a' := ?_) #[true, true, true, true, true, true, true, false, true, false, false, false, false, false, false, false] rfl rfl (any_of HT_.out (by kernel_rfl)) (fun _ _ _ h => h) (Or.inl ⟨by rfl, ?_⟩) ?_ ?_
          rotate_left
          · intro w'
            go_simp
            with_reducible rfl
          rotate_left
          · simp only [Act.put, List.setIfInBounds_toArray, List.set_cons_zero, List.set_cons_succ, i64_w, i32_w]
            rfl
          refine take_ (i := 9) (N := some 59) (v := ?_) (a' := ?_) #[true, true, true, true, true, true, true, false, true, true, false, false, false, false, false, false] rfl rfl (take_ofW HT_.out HW_.out (by kernel_rfl)) (fun _ _ _ h => h) (Or.inl ⟨by rfl, ?_⟩) hHeld ?_ ?_
          rotate_left
          · rintro w' ⟨s0, s1⟩
            go_simp
            with_reducible rfl
          rotate_left
          · simp only [Act.put, List.setIfInBounds_toArray, List.set_cons_zero, List.set_cons_succ, i64_w, i32_w]
            rfl
          refine pure_ (i := 10) (N := some 60) (v := ?_) (a' := ?_) #[true, true, true, true, true, true, true, false, true, true, true, false, false, false, false, false] rfl rfl (any_of HT_.out (by kernel_rfl)) (fun _ _ _ h => h) (Or.inl ⟨by rfl, ?_⟩) ?_ ?_
          rotate_left
          · intro w'
            go_simp
            with_reducible rfl
          rotate_left
          · simp only [Act.put, List.setIfInBounds_toArray, List.set_cons_zero, List.set_cons_succ, i64_w, i32_w]
            rfl
          refine pure_ (i := 11) (N := some 61) (v := ?_) (a' := ?_) #[true, true, true, true, true, true, true, false, true, true, true, true, false, false, false, false] rfl rfl (any_of HT_.out (by kernel_rfl)) (fun _ _ _ h => h) (Or.inl ⟨by rfl, ?_⟩) ?_ ?_
          rotate_left
          · intro w'
            go_simp
            with_reducible rfl
          rotate_left
          · simp only [Act.put, List.setIfInBounds_toArray, List.set_cons_zero, List.set_cons_succ, i64_w, i32_w]
            rfl
          refine one_ (i := 7) (N := some 57) #[true, true, true, true, true, true, true, true, true, true, true, true, false, false, false, false] rfl rfl (one_of HT_.out (by kernel_rfl)) (by decide) (fun Kc hKc => ?_)
          refine value_ (w1 := W9.drew.alloc (.cells #[.int .i64 x.2] 3)) (v := .slice (some ⟨W9.heap.size, 0, none⟩) 1 1) (by rfl) rfl ?_ ?_
          · go_simp
            try rfl
          refine hKc.out _ _ SA.out (fun hHeld => ?_)
          clear hKc Kc
          refine norm_ (a' := ?_) ?_ ?_
          rotate_left
          · show Act.put _ (some 57) _ = _
            simp only [Act.put, List.setIfInBounds_toArray, List.set_cons_zero, List.set_cons_succ, i64_w, i32_w]
            rfl
          refine one_ (i := 12) (N := some 62) #[true, true, true, true, true, true, true, true, true, true, true, true, true, false, false, false] rfl rfl (one_of HT_.out (by kernel_rfl)) (by decide) (fun Kc hKc => ?_)
          refine value_ (w1 := wb) (v := .slice A6 n6 c6) (by rfl) rfl ?_ ?_
          · exact app_ (s := .tmp 57) (y := .tmp 61) rfl rfl rfl hr6
          refine hKc.out _ _ SB.out (fun hHeld => ?_)
          clear hKc Kc
          refine norm_ (a' := ?_) ?_ ?_
          rotate_left
          · show Act.put _ (some 62) _ = _
            simp only [Act.put, List.setIfInBounds_toArray, List.set_cons_zero, List.set_cons_succ, i64_w, i32_w]
            rfl
          refine one_ (i := 13) (N := some 63) #[true, true, true, true, true, true, true, true, true, true, true, true, true, true, false, false] rfl rfl (one_of HT_.out (by kernel_rfl)) (by decide) (fun Kc hKc => ?_)
          refine value_ (w1 := wc) (v := .slice A9' n9' c9') (by rfl) rfl ?_ ?_
          · exact app_ (s := .tmp 54) (y := .tmp 62) rfl rfl rfl hr9
          refine hKc.out _ _ SC.out (fun hHeld => ?_)
          clear hKc Kc
          refine norm_ (a' := ?_) ?_ ?_
          rotate_left
          · show Act.put _ (some 63) _ = _
            simp only [Act.put, List.setIfInBounds_toArray, List.set_cons_zero, List.set_cons_succ, i64_w, i32_w]
            rfl
          refine pure_ (i := 14) (N := some 64) (v := ?_) (a' := ?_) #[true, true, true, true, true, true, true, true, true, true, true, true, true, true, true, false] rfl rfl (any_of HT_.out (by kernel_rfl)) (fun _ _ _ h => h) (Or.inl ⟨by rfl, ?_⟩) ?_ ?_
          rotate_left
          · intro w'
            go_simp
            with_reducible rfl
          rotate_left
          · simp only [Act.put, List.setIfInBounds_toArray, List.set_cons_zero, List.set_cons_succ, i64_w, i32_w]
            rfl
          refine last_ (i := 15) (N := none) #[true, true, true, true, true, true, true, true, true, true, true, true, true, true, true, true] rfl rfl (one_of HT_.out (by kernel_rfl)) (by decide) (fun Kc hKc => ?_)
          refine skip_ (w1 := wc.setCell ⟨W2.heap.size, 9, none⟩ (.slice A9' n9' c9')) (by rfl) rfl ?_ ?_
          · go_simp
            try rfl
          refine hKc.out _ _ ?_
          clear hKc Kc
          refine done_ (done_of HT_.out (by kernel_rfl)) ?_
          clear hHeld hcut htail hr6 hr9 S0 SA SB SC k9c kfc
          go_wp2_with (fail)
          obtain ⟨g', hg'⟩ : ∃ g', gko = g' + 1 := ⟨gko - 1, by have := HQ.out.1; have := HQ.out.2.1; omega⟩
          subst hg'
          go_roundg g'
          case measure => exact Nat.lt_succ_self _
          case rel =>
            refine ⟨j + 1, A2, n2, c2, A9', n9', c9', by simp only [HQ.out.2.2.1], HQ.out.1, ?_, by have := HQ.out.2.1; omega⟩
            rw [HQ.out.2.2.2.1, keys_snoc, vsF_snoc, ← HQ.out.2.2.2.2.2.2.2, HI.out.2]
            exact HK.out
    · have q3 : decide ((j : Int) < (ps.length : Int)) = false := decide_eq_false (by omega)
      obtain rfl : j = ps.length := by omega
      rw [List.take_length] at hD
      obtain ⟨ww, hww⟩ : ∃ ww, ww = wr := ⟨_, rfl⟩
      obtain ⟨A1', c1', e1', hc1, hr1, ha1⟩ := reads3 hD.rk (by unfold keys; rw [List.length_map]; omega)
      injection e1' with ea en ec
      subst ea
      subst en
      subst ec
      obtain ⟨A9', c9', e9', hc9, hr9, ha9⟩ := reads3 hD.rv (by rw [vsF_len]; omega)
      injection e9' with ea en ec
      subst ea
      subst en
      subst ec
      rw [← hww] at hD hr1 hr9 ⊢
      clear hww wr
      have HC := Aside0.mk (And.intro hc1 (And.intro hr1 (And.intro ha1 (And.intro hc9 (And.intro hr9 ha9)))))
      clear hc1 hr1 ha1 hc9 hr9 ha9
      have hFl : W2.heap.size < ww.heap.size := (Array.getElem?_eq_some_iff.1 hD.fb).1
      have hT2 : ww.heap[w.heap.size]? = some (.cells #[.bool nn, .slice A ps.length c] 27 (0, 0)) := (hD.gr.block _ (by have := HP.out.2.2.1; omega) (fun e => by injection e with e; have := HP.out.2.1; omega)).trans HP.out.2.2.2.1
      have hR4 : ww.heap[W1.heap.size]? = some (.cells zero36 36 (0, 0)) := (hD.gr.block _ (by have := HP.out.1; have := HP.out.2.2.1; omega) (fun e => by injection e with e; have := HP.out.1; have := HP.out.2.1; omega)).trans HP.out.2.2.2.2.1
      have v1 : ww.cell? ⟨W2.heap.size, 1, none⟩ = some (.slice A1 (keys ps).length c1) := by rw [Lib.cell_of_heap hD.fb]; rfl
      have v2 : ww.cell? ⟨W2.heap.size, 2, none⟩ = some (.slice none 0 0) := by rw [Lib.cell_of_heap hD.fb]; rfl
      have vf : ∀ j, ww.frozen? ⟨W2.heap.size, j, none⟩ = false := fun j => by rw [Lib.frozen_of_heap hD.fb]
      obtain ⟨w4, hw4⟩ : ∃ w4, ww.setCell ⟨W2.heap.size, 2, none⟩ (.slice A1 (keys ps).length c1) = w4 := ⟨_, rfl⟩
      have hg4 : ww.grownBy w4 (some W2.heap.size) := by rw [← hw4]; exact setF ww W2.heap.size 2 _
      have hF4 : w4.heap[W2.heap.size]? = some (.cells #[.int .i64 ps.length, .slice A1 (keys ps).length c1, .slice A1 (keys ps).length c1, .int .i64 0, .int .i64 0, .bool false, .bool false, mp, mp, .slice A9 (vsF ps).length c9] 36 (0, 0)) := by rw [← hw4]; exact (heap_setCell_same ww _ 2 _ 36 _ hD.fb).trans rfl
      rw [HP.out.2.2.2.2.2.2.1] at hF4
      have hT4 : w4.heap[w.heap.size]? = some (.cells #[.bool nn, .slice A ps.length c] 27 (0, 0)) := (hg4.block _ (by have := HP.out.2.1; omega) (fun e => by injection e with e; have := HP.out.2.1; omega)).trans hT2
      have hR4' : w4.heap[W1.heap.size]? = some (.cells zero36 36 (0, 0)) := (hg4.block _ (by have := HP.out.1; have := HP.out.2.1; omega) (fun e => by injection e with e; have := HP.out.1; have := HP.out.2.1; omega)).trans hR4
      have k0 : w4.cell? ⟨w.heap.size, 0, none⟩ = some (.bool nn) := by rw [Lib.cell_of_heap hT4]; rfl
      have k1 : w4.cell? ⟨w.heap.size, 1, none⟩ = some (.slice A ps.length c) := by rw [Lib.cell_of_heap hT4]; rfl
      obtain ⟨xs, ys, hps, hx, hy⟩ := split_at key HA.out.2.2.2.1
      have hlen' := hl
      rw [hps] at hlen'
      obtain ⟨kk, hkk⟩ := at_f nn key hx hy (by omega)
      have hkk := hkk kk (Nat.le_refl _)
      simp only at hkk
      rw [← hps] at hkk
      have hb4 : Below w.heap.size w w4 := HP.out.2.2.2.2.2.1.trans ((below_grown hD.gr HP.out.2.2.2.2.2.1.size (fun k hk => by injection hk with hk; have := HP.out.2.1; omega)).trans (below_grown hg4 (by have := HP.out.2.1; omega) (fun k hk => by injection hk with hk; have := HP.out.2.1; omega)))
      have hcA : Kd.C k29 w A (sps ps).length (sps ps) := by rw [sps_len]; exact HA.out.1
      have c11 := spec_TwMapped_At.calls kk nn A c (sps ps) key _ _ w4 (Kd.C_below hcA hb4) (by rw [sps_len]; exact HA.out.2.1) hkk
      rw [sps_len] at c11
      have HL := Aside0.mk (And.intro hD (And.intro hg4 (And.intro hb4 (And.intro hF4 (And.intro hT4 (And.intro hR4' (And.intro hps (And.intro hx (And.intro hy (And.intro hFl trivial))))))))))
      clear hD hFl hT2 hR4 hg4 hF4 hT4 hR4' hps hx hy hlen' hkk hb4 hcA hj hlen hd hl
      go_wp2_with (fail)
      refine c11.mono ?_
      rintro e w5 ⟨rfl, hb5⟩
      clear c11
      have hFX := (hb5.block _ (Array.getElem?_eq_some_iff.1 HL.out.2.2.2.1).1).trans HL.out.2.2.2.1
      have hRX := (hb5.block _ (Array.getElem?_eq_some_iff.1 HL.out.2.2.2.2.2.1).1).trans HL.out.2.2.2.2.2.1
      have hT5 := (hb5.block _ (Array.getElem?_eq_some_iff.1 HL.out.2.2.2.2.1).1).trans HL.out.2.2.2.2.1
      have hb5' := HL.out.2.2.1.trans (hb5.mono (Nat.le_trans (by have := HP.out.2.2.2.2.2.1.size; exact HL.out.2.2.1.size) (Nat.le_refl _)))
      have H5 := Aside0.mk hb5
      clear hb5 k0 k1 v1 v2 vf hw4
      obtain ⟨ib, hib⟩ : ∃ ib, ib = isAt ys key := ⟨_, rfl⟩
      rw [← hib]
      cases ib with
      | false =>
        have hfm := find_miss HL.out.2.2.2.2.2.2.1 HL.out.2.2.2.2.2.2.2.1 HL.out.2.2.2.2.2.2.2.2.1 HA.out.2.2.2.1 hib.symm
        have HFM := Aside0.mk hfm
        clear hfm hib hT5 hb5'
        obtain ⟨WX, hWX⟩ : ∃ WX, WX = w5 := ⟨_, rfl⟩
        have hgX : w5.grownBy WX (some W2.heap.size) := by rw [hWX]; exact ⟨rfl, rfl, rfl, Nat.le_refl _, fun _ _ _ => rfl⟩
        rw [← hWX] at hFX hRX ⊢
        clear hWX
        have z0 : WX.cell? ⟨W2.heap.size, 0, none⟩ = some (.int .i64 ps.length) := by rw [Lib.cell_of_heap hFX]; rfl
        have z1 : WX.cell? ⟨W2.heap.size, 1, none⟩ = some (.slice A1 (keys ps).length c1) := by rw [Lib.cell_of_heap hFX]; rfl
        have z2 : WX.cell? ⟨W2.heap.size, 2, none⟩ = some (.slice A1 (keys ps).length c1) := by rw [Lib.cell_of_heap hFX]; rfl
        have z3 : WX.cell? ⟨W2.heap.size, 3, none⟩ = some (.int .i64 0) := by rw [Lib.cell_of_heap hFX]; rfl
        have z4 : WX.cell? ⟨W2.heap.size, 4, none⟩ = some (.int .i64 0) := by rw [Lib.cell_of_heap hFX]; rfl
        have z5 : WX.cell? ⟨W2.heap.size, 5, none⟩ = some (.bool false) := by rw [Lib.cell_of_heap hFX]; rfl
        have z6 : WX.cell? ⟨W2.heap.size, 6, none⟩ = some (.bool false) := by rw [Lib.cell_of_heap hFX]; rfl
        have z7 : WX.cell? ⟨W2.heap.size, 7, none⟩ = some (.slice A ps.length c) := by rw [Lib.cell_of_heap hFX]; rfl
        have z8 : WX.cell? ⟨W2.heap.size, 8, none⟩ = some (.slice A ps.length c) := by rw [Lib.cell_of_heap hFX]; rfl
        have z9 : WX.cell? ⟨W2.heap.size, 9, none⟩ = some (.slice A9 (vsF ps).length c9) := by rw [Lib.cell_of_heap hFX]; rfl
        have fzz : ∀ j, WX.frozen? ⟨W1.heap.size, j, none⟩ = false := fun j => by rw [Lib.frozen_of_heap hRX]
        have u0 : WX.cell? ⟨W1.heap.size, 0, none⟩ = some (.int .i64 0) := by rw [Lib.cell_of_heap hRX]; rfl
        have u1 : WX.cell? ⟨W1.heap.size, 1, none⟩ = some (.slice none 0 0) := by rw [Lib.cell_of_heap hRX]; rfl
        have u2 : WX.cell? ⟨W1.heap.size, 2, none⟩ = some (.slice none 0 0) := by rw [Lib.cell_of_heap hRX]; rfl
        have u3 : WX.cell? ⟨W1.heap.size, 3, none⟩ = some (.int .i64 0) := by rw [Lib.cell_of_heap hRX]; rfl
        have u4 : WX.cell? ⟨W1.heap.size, 4, none⟩ = some (.int .i64 0) := by rw [Lib.cell_of_heap hRX]; rfl
        have u5 : WX.cell? ⟨W1.heap.size, 5, none⟩ = some (.bool false) := by rw [Lib.cell_of_heap hRX]; rfl
        have u6 : WX.cell? ⟨W1.heap.size, 6, none⟩ = some (.bool false) := by rw [Lib.cell_of_heap hRX]; rfl
        have u7 : WX.cell? ⟨W1.heap.size, 7, none⟩ = some (.slice none 0 0) := by rw [Lib.cell_of_heap hRX]; rfl
        have u8 : WX.cell? ⟨W1.heap.size, 8, none⟩ = some (.slice none 0 0) := by rw [Lib.cell_of_heap hRX]; rfl
        have u9 : WX.cell? ⟨W1.heap.size, 9, none⟩ = some (.slice none 0 0) := by rw [Lib.cell_of_heap hRX]; rfl
        obtain ⟨hRF, hgF⟩ := set10 WX W1.heap.size (.int .i64 ps.length) (.slice A1 (keys ps).length c1) (.slice A1 (keys ps).length c1) (.int .i64 0) (.int .i64 0) (.bool false) (.bool false) (.slice A ps.length c) (.slice A ps.length c) (.slice A9 (vsF ps).length c9) hRX
        obtain ⟨WF, hWF⟩ : ∃ WF, (((((((((WX.setCell ⟨W1.heap.size, 0, none⟩ (.int .i64 ps.length)).setCell ⟨W1.heap.size, 1, none⟩ (.slice A1 (keys ps).length c1)).setCell ⟨W1.heap.size, 2, none⟩ (.slice A1 (keys ps).length c1)).setCell ⟨W1.heap.size, 3, none⟩ (.int .i64 0)).setCell ⟨W1.heap.size, 4, none⟩ (.int .i64 0)).setCell ⟨W1.heap.size, 5, none⟩ (.bool false)).setCell ⟨W1.heap.size, 6, none⟩ (.bool false)).setCell ⟨W1.heap.size, 7, none⟩ (.slice A ps.length c)).setCell ⟨W1.heap.size, 8, none⟩ (.slice A ps.length c)).setCell ⟨W1.heap.size, 9, none⟩ (.slice A9 (vsF ps).length c9) = WF := ⟨_, rfl⟩
        rw [hWF] at hRF hgF
        have HX := Aside0.mk (And.intro hFX (And.intro hRX (And.intro hgX (And.intro hRF hgF))))
        have HWF := Aside0.mk hWF
        clear hFX hRX hgX hRF hgF hWF
        go_wp2_with (fail)
        rw [HWF.out]
        have y0 : WF.cell? ⟨W1.heap.size, 0, none⟩ = some (.int .i64 ps.length) := by rw [Lib.cell_of_heap HX.out.2.2.2.1]; rfl
        have y1 : WF.cell? ⟨W1.heap.size, 1, none⟩ = some (.slice A1 (keys ps).length c1) := by rw [Lib.cell_of_heap HX.out.2.2.2.1]; rfl
        have y2 : WF.cell? ⟨W1.heap.size, 2, none⟩ = some (.slice A1 (keys ps).length c1) := by rw [Lib.cell_of_heap HX.out.2.2.2.1]; rfl
        have y3 : WF.cell? ⟨W1.heap.size, 3, none⟩ = some (.int .i64 0) := by rw [Lib.cell_of_heap HX.out.2.2.2.1]; rfl
        have y4 : WF.cell? ⟨W1.heap.size, 4, none⟩ = some (.int .i64 0) := by rw [Lib.cell_of_heap HX.out.2.2.2.1]; rfl
        have y5 : WF.cell? ⟨W1.heap.size, 5, none⟩ = some (.bool false) := by rw [Lib.cell_of_heap HX.out.2.2.2.1]; rfl
        have y6 : WF.cell? ⟨W1.heap.size, 6, none⟩ = some (.bool false) := by rw [Lib.cell_of_heap HX.out.2.2.2.1]; rfl
        have y7 : WF.cell? ⟨W1.heap.size, 7, none⟩ = some (.slice A ps.length c) := by rw [Lib.cell_of_heap HX.out.2.2.2.1]; rfl
        have y8 : WF.cell? ⟨W1.heap.size, 8, none⟩ = some (.slice A ps.length c) := by rw [Lib.cell_of_heap HX.out.2.2.2.1]; rfl
        have y9 : WF.cell? ⟨W1.heap.size, 9, none⟩ = some (.slice A9 (vsF ps).length c9) := by rw [Lib.cell_of_heap HX.out.2.2.2.1]; rfl
        refine bodyPost_ret (v := .agg #[.int .i64 ps.length, .slice A1 (keys ps).length c1, .slice A1 (keys ps).length c1, .int .i64 0, .int .i64 0, .bool false, .bool false, .slice A ps.length c, .slice A ps.length c, .slice A9 (vsF ps).length c9]) (by simp [results, go_sem, y0, y1, y2, y3, y4, y5, y6, y7, y8, y9]) rfl ?_
        have hv : vsF ps = (vals ps).mergeSort leI := fold_is _
        have hat : at_ ps key = 0 := by unfold at_; rw [HFM.out]; rfl
        have hhas : has_ ps key = false := by unfold has_; rw [HFM.out]; rfl
        have hS := HP.out
        have hz := HL.out.1.gr.size
        have hg4 := HL.out.2.1
        have hz4 := hg4.size
        have hz5 := H5.out.size
        have hzX := HX.out.2.2.1.size
        have hs1 := hS.1
        have hs2 := hS.2.1
        have hs3 := hS.2.2.1
        have hFl := HL.out.2.2.2.2.2.2.2.2.2.1
        have hmv : ∀ (k : Nat), Wp.heap.size ≤ k → k < ww.heap.size → WF.heap[k]? = ww.heap[k]? := fun k hk1 hk2 => (HX.out.2.2.2.2.block k (by omega) (fun e => by injection e with e; omega)).trans ((HX.out.2.2.1.block k (by omega) (fun e => by injection e with e; omega)).trans ((H5.out.block k (by omega)).trans (hg4.block k hk2 (fun e => by injection e with e; omega))))
        have hbF : Below w.heap.size w WF := HL.out.2.2.1.trans ((H5.out.mono (by omega)).trans ((below_grown HX.out.2.2.1 (by omega) (fun k hk => by injection hk with hk; omega)).trans (below_grown HX.out.2.2.2.2 (by omega) (fun k hk => by injection hk with hk; omega))))
        have hcA : Kd.C k29 w A (sps ps).length (sps ps) := by rw [sps_len]; exact HA.out.1
        have hC1 := CI_move HC.out.2.1 (fun ad e hlt => hmv ad.block (HC.out.2.2.1 ad e) hlt)
        have hC9 := CI_move HC.out.2.2.2.2.1 (fun ad e hlt => hmv ad.block (HC.out.2.2.2.2.2 ad e) hlt)
        have hlc : (sps ps).length ≤ c := by rw [sps_len]; exact HA.out.2.1
        refine ⟨A1, c1, A1, c1, A, c, A, c, A9, c9, by rw [hat, hhas, sps_len, ← hv], ⟨HC.out.1, hC1⟩, ⟨HC.out.1, hC1⟩, ⟨hlc, Kd.C_below hcA hbF⟩, ⟨hlc, Kd.C_below hcA hbF⟩, ?_, hbF⟩
        rw [← hv]
        exact ⟨HC.out.2.2.2.1, hC9⟩
      | true =>
        obtain ⟨y, t', hys, hyk⟩ : ∃ y t', ys = y :: t' ∧ y.1 = key := by
          cases ys with
          | nil => simp [isAt] at hib
          | cons y t' => exact ⟨y, t', rfl, by simpa [isAt] using hib.symm⟩
        have hps := HL.out.2.2.2.2.2.2.1
        have hx := HL.out.2.2.2.2.2.2.2.1
        rw [hys] at hps
        have hfm := find_hit hps hx hyk
        have hml : xs.length < ps.length := by rw [hps]; simp
        have hpm : ps[xs.length] = y := by simp [hps]
        obtain ⟨ad, e, x0, x1⟩ := at_T29 (Kd.C_below HA.out.1 hb5') (xs.length : Int) (by omega) (by omega)
        cases e
        rw [rd_sps _ _ hml, Int.toNat_natCast, hpm] at x1
        replace x1 : w5.cell? ⟨(ad.add (xs.length * 2)).block, (ad.add (xs.length * 2)).off + 1, none⟩ = some (.int .i64 y.2) := x1
        obtain ⟨m, hm⟩ : ∃ m, m = xs.length := ⟨_, rfl⟩
        rw [← hm] at x1 hml ⊢
        have p1 := eq_true (show 0 ≤ (m : Int) by omega)
        have q1 := eq_true (show (m : Int) < (ps.length : Int) by omega)
        have k1 : w5.cell? ⟨w.heap.size, 1, none⟩ = some (.slice (some ad) ps.length c) := by rw [Lib.cell_of_heap hT5]; rfl
        have S0 : Aside0 (w5.cell? ⟨w.heap.size, 1, none⟩ = some (.slice (some ad) ps.length c) ∧ w5.cell? ⟨(ad.add (m * 2)).block, (ad.add (m * 2)).off + 1, none⟩ = some (.int .i64 y.2)) := ⟨⟨k1, x1⟩⟩
        have e3 : w5.cell? ⟨W2.heap.size, 3, none⟩ = some (.int .i64 0) := by rw [Lib.cell_of_heap hFX]; rfl
        have e4 : w5.cell? ⟨W2.heap.size, 4, none⟩ = some (.int .i64 0) := by rw [Lib.cell_of_heap hFX]; rfl
        have e5 : w5.cell? ⟨W2.heap.size, 5, none⟩ = some (.bool false) := by rw [Lib.cell_of_heap hFX]; rfl
        have e6 : w5.cell? ⟨W2.heap.size, 6, none⟩ = some (.bool false) := by rw [Lib.cell_of_heap hFX]; rfl
        have ef : ∀ j, w5.frozen? ⟨W2.heap.size, j, none⟩ = false := fun j => by rw [Lib.frozen_of_heap hFX]
        have hadl : ad.block < w.heap.size := by
          obtain ⟨ad', e', x0', _⟩ := at_T29 HA.out.1 (m : Int) (by omega) (by omega)
          have e'' : ad = ad' := by injection e'
          have h := World.block_lt_of_cell? _ _ x0'
          rw [← e''] at h
          have hb : ∀ k, (ad.add k).block = ad.block := fun k => by unfold Addr.add; split <;> rfl
          rwa [hb] at h
        have hbF : (ad.add (m * 2)).block ≠ W2.heap.size := by
          have hb : ∀ k, (ad.add k).block = ad.block := fun k => by unfold Addr.add; split <;> rfl
          rw [hb]
          have := HP.out.2.1
          omega
        have hwF : w.heap.size ≠ W2.heap.size := by have := HP.out.2.1; omega
        have SD : Aside0 ((w5.drew.setCell ⟨W2.heap.size, 3, none⟩ (.int .i64 y.2)).cell? ⟨w.heap.size, 1, none⟩ = some (.slice (some ad) ps.length c) ∧ (w5.drew.setCell ⟨W2.heap.size, 3, none⟩ (.int .i64 y.2)).cell? ⟨(ad.add (m * 2)).block, (ad.add (m * 2)).off + 1, none⟩ = some (.int .i64 y.2)) := by
          have h1 : ∀ (b o : Nat), b ≠ W2.heap.size → (w5.drew.setCell ⟨W2.heap.size, 3, none⟩ (.int .i64 y.2)).cell? ⟨b, o, none⟩ = w5.cell? ⟨b, o, none⟩ := fun b o hb => by
            unfold World.cell?
            rw [Below.heap_setCell w5.drew ⟨W2.heap.size, 3, none⟩ _ b hb]
            rfl
          exact ⟨⟨(h1 _ _ hwF).trans k1, (h1 _ _ hbF).trans x1⟩⟩
        clear hadl hbF hwF
        have HFM := Aside0.mk hfm
        have HFX := Aside0.mk (And.intro hFX hRX)
        clear hfm hib hT5 hb5' hys hyk hps hx hpm x0 hm hml hFX hRX e0 e1
        go_wp2_with (fail)
        refine start_ (n := 20) (S := fun w' => w'.cell? ⟨w.heap.size, 1, none⟩ = some (.slice (some ad) ps.length c) ∧ w'.cell? ⟨(ad.add (m * 2)).block, (ad.add (m * 2)).off + 1, none⟩ = some (.int .i64 y.2)) (ds := [15, 17, 19]) #[false, false, false, false, false, false, false, false, false, false, false, false, false, false, false, false, false, false, false, false] (by kernel_rfl) rfl rfl S0.out (fun hHeld => ?_); refine with_tabW tab14 bits14 (fun HT_ HW_ => ?_)
        refine pure_ (i := 0) (N := some 76) (v := ?_) (a' := ?_) #[true, false, false, false, false, false, false, false, false, false, false, false, false, false, false, false, false, false, false, false] rfl rfl (any_of HT_.out (by kernel_rfl)) (fun _ _ _ h => h) (Or.inl ⟨by rfl, ?_⟩) ?_ ?_
        rotate_left
        · intro w'
          go_simp
          with_reducible rfl
        rotate_left
        · simp only [Act.put, List.setIfInBounds_toArray, List.set_cons_zero, List.set_cons_succ, i64_w, i32_w]
          rfl
        refine take_ (i := 1) (N := some 77) (v := ?_) (a' := ?_) #[true, true, false, false, false, false, false, false, false, false, false, false, false, false, false, false, false, false, false, false] rfl rfl (take_ofW HT_.out HW_.out (by kernel_rfl)) (fun _ _ _ h => h) (Or.inl ⟨by rfl, ?_⟩) hHeld ?_ ?_
        rotate_left
        · rintro w' ⟨s0, s1⟩
          go_simp
          with_reducible rfl
        rotate_left
        · simp only [Act.put, List.setIfInBounds_toArray, List.set_cons_zero, List.set_cons_succ, i64_w, i32_w]
          rfl
        refine pure_ (i := 2) (N := some 78) (v := ?_) (a' := ?_) #[true, true, true, false, false, false, false, false, false, false, false, false, false, false, false, false, false, false, false, false] rfl rfl (any_of HT_.out (by kernel_rfl)) (fun _ _ _ h => h) (Or.inl ⟨by rfl, ?_⟩) ?_ ?_
        rotate_left
        · intro w'
          go_simp
          with_reducible rfl
        rotate_left
        · simp only [Act.put, List.setIfInBounds_toArray, List.set_cons_zero, List.set_cons_succ, i64_w, i32_w]
          rfl
        refine pure_ (i := 3) (N := some 79) (v := ?_) (a' := ?_) #[true, true, true, true, false, false, false, false, false, false, false, false, false, false, false, false, false, false, false, false] rfl rfl (any_of HT_.out (by kernel_rfl)) (fun _ _ _ h => h) (Or.inl ⟨by rfl, ?_⟩) ?_ ?_
        rotate_left
        · intro w'
          go_simp
          with_reducible rfl
        rotate_left
        · simp only [Act.put, List.setIfInBounds_toArray, List.set_cons_zero, List.set_cons_succ, i64_w, i32_w]
          rfl
        refine pure_ (i := 4) (N := some 80) (v := ?_) (a' := ?_) #[true, true, true, true, true, false, false, false, false, false, false, false, false, false, false, false, false, false, false, false] rfl rfl (any_of HT_.out (by kernel_rfl)) (fun _ _ _ h => h) (Or.inl ⟨by rfl, ?_⟩) ?_ ?_
        rotate_left
        · intro w'
          go_simp
          with_reducible rfl
        rotate_left
        · simp only [Act.put, List.setIfInBounds_toArray, List.set_cons_zero, List.set_cons_succ, i64_w, i32_w]
          rfl
        refine take_ (i := 5) (N := some 81) (v := ?_) (a' := ?_) #[true, true, true, true, true, true, false, false, false, false, false, false, false, false, false, false, false, false, false, false] rfl rfl (take_ofW HT_.out HW_.out (by kernel_rfl)) (fun _ _ _ h => h) (Or.inl ⟨by rfl, ?_⟩) hHeld ?_ ?_
        rotate_left
        · rintro w' ⟨s0, s1⟩
          go_simp
          with_reducible rfl
        rotate_left
        · simp only [Act.put, List.setIfInBounds_toArray, List.set_cons_zero, List.set_cons_succ, i64_w, i32_w]
          rfl
        refine pure_ (i := 6) (N := some 82) (v := ?_) (a' := ?_) #[true, true, true, true, true, true, true, false, false, false, false, false, false, false, false, false, false, false, false, false] rfl rfl (any_of HT_.out (by kernel_rfl)) (fun _ _ _ h => h) (Or.inl ⟨by rfl, ?_⟩) ?_ ?_
        rotate_left
        · intro w'
          go_simp
          with_reducible rfl
        rotate_left
        · simp only [Act.put, List.setIfInBounds_toArray, List.set_cons_zero, List.set_cons_succ, i64_w, i32_w]
          rfl
        refine take_ (i := 7) (N := some 83) (v := ?_) (a' := ?_) #[true, true, true, true, true, true, true, true, false, false, false, false, false, false, false, false, false, false, false, false] rfl rfl (take_ofW HT_.out HW_.out (by kernel_rfl)) (fun _ _ _ h => h) (Or.inl ⟨by rfl, ?_⟩) hHeld ?_ ?_
        rotate_left
        · rintro w' ⟨s0, s1⟩
          go_simp
          with_reducible rfl
        rotate_left
        · simp only [Act.put, List.setIfInBounds_toArray, List.set_cons_zero, List.set_cons_succ, i64_w, i32_w]
          rfl
        refine pure_ (i := 8) (N := some 84) (v := ?_) (a' := ?_) #[true, true, true, true, true, true, true, true, true, false, false, false, false, false, false, false, false, false, false, false] rfl rfl (any_of HT_.out (by kernel_rfl)) (fun _ _ _ h => h) (Or.inl ⟨by rfl, ?_⟩) ?_ ?_
        rotate_left
        · intro w'
          go_simp
          with_reducible rfl
        rotate_left
        · simp only [Act.put, List.setIfInBounds_toArray, List.set_cons_zero, List.set_cons_succ, i64_w, i32_w]
          rfl
        refine pure_ (i := 9) (N := some 85) (v := ?_) (a' := ?_) #[true, true, true, true, true, true, true, true, true, true, false, false, false, false, false, false, false, false, false, false] rfl rfl (any_of HT_.out (by kernel_rfl)) (fun _ _ _ h => h) (Or.inl ⟨by rfl, ?_⟩) ?_ ?_
        rotate_left
        · intro w'
          go_simp
          with_reducible rfl
        rotate_left
        · simp only [Act.put, List.setIfInBounds_toArray, List.set_cons_zero, List.set_cons_succ, i64_w, i32_w]
          rfl
        refine pure_ (i := 10) (N := some 86) (v := ?_) (a' := ?_) #[true, true, true, true, true, true, true, true, true, true, true, false, false, false, false, false, false, false, false, false] rfl rfl (any_of HT_.out (by kernel_rfl)) (fun _ _ _ h => h) (Or.inl ⟨by rfl, ?_⟩) ?_ ?_
        rotate_left
        · intro w'
          go_simp
          with_reducible rfl
        rotate_left
        · simp only [Act.put, List.setIfInBounds_toArray, List.set_cons_zero, List.set_cons_succ, i64_w, i32_w]
          rfl
        refine take_ (i := 11) (N := some 87) (v := ?_) (a' := ?_) #[true, true, true, true, true, true, true, true, true, true, true, true, false, false, false, false, false, false, false, false] rfl rfl (take_ofW HT_.out HW_.out (by kernel_rfl)) (fun _ _ _ h => h) (Or.inl ⟨by rfl, ?_⟩) hHeld ?_ ?_
        rotate_left
        · rintro w' ⟨s0, s1⟩
          go_simp
          with_reducible rfl
        rotate_left
        · simp only [Act.put, List.setIfInBounds_toArray, List.set_cons_zero, List.set_cons_succ, i64_w, i32_w]
          rfl
        refine pure_ (i := 12) (N := some 88) (v := ?_) (a' := ?_) #[true, true, true, true, true, true, true, true, true, true, true, true, true, false, false, false, false, false, false, false] rfl rfl (any_of HT_.out (by kernel_rfl)) (fun _ _ _ h => h) (Or.inl ⟨by rfl, ?_⟩) ?_ ?_
        rotate_left
        · intro w'
          go_simp
          with_reducible rfl
        rotate_left
        · simp only [Act.put, List.setIfInBounds_toArray, List.set_cons_zero, List.set_cons_succ, i64_w, i32_w]
          rfl
        refine one_ (i := 13) (N := none) #[true, true, true, true, true, true, true, true, true, true, true, true, true, true, false, false, false, false, false, false] rfl rfl (one_of HT_.out (by kernel_rfl)) (by decide) (fun Kc hKc => ?_)
        refine skip_ (w1 := w5.drew.setCell ⟨W2.heap.size, 3, none⟩ (.int .i64 y.2)) (by rfl) rfl ?_ ?_
        · go_simp
          try rfl
        refine hKc.out _ _ SD.out (fun hHeld => ?_)
        clear hKc Kc
        refine pure_ (i := 14) (N := some 89) (v := ?_) (a' := ?_) #[true, true, true, true, true, true, true, true, true, true, true, true, true, true, true, false, false, false, false, false] rfl rfl (any_of HT_.out (by kernel_rfl)) (fun _ _ _ h => h) (Or.inl ⟨by rfl, ?_⟩) ?_ ?_
        rotate_left
        · intro w'
          go_simp
          with_reducible rfl
        rotate_left
        · simp only [Act.put, List.setIfInBounds_toArray, List.set_cons_zero, List.set_cons_succ, i64_w, i32_w]
          rfl
        refine last_ (i := 15) (N := none) #[true, true, true, true, true, true, true, true, true, true, true, true, true, true, true, true, false, false, false, false] rfl rfl (one_of HT_.out (by kernel_rfl)) (by decide) (fun Kc hKc => ?_)
        refine skip_ (w1 := (w5.drew.setCell ⟨W2.heap.size, 3, none⟩ (.int .i64 y.2)).setCell ⟨W2.heap.size, 4, none⟩ (.int .i64 y.2)) (by rfl) rfl ?_ ?_
        · go_simp
          try rfl
        refine hKc.out _ _ ?_
        clear hKc Kc
        refine pure_ (i := 16) (N := some 90) (v := ?_) (a' := ?_) #[true, true, true, true, true, true, true, true, true, true, true, true, true, true, true, true, true, false, false, false] rfl rfl (any_of HT_.out (by kernel_rfl)) (fun _ _ _ h => h) (Or.inl ⟨by rfl, ?_⟩) ?_ ?_
        rotate_left
        · intro w'
          go_simp
          with_reducible rfl
        rotate_left
        · simp only [Act.put, List.setIfInBounds_toArray, List.set_cons_zero, List.set_cons_succ, i64_w, i32_w]
          rfl
        refine last_ (i := 17) (N := none) #[true, true, true, true, true, true, true, true, true, true, true, true, true, true, true, true, true, true, false, false] rfl rfl (one_of HT_.out (by kernel_rfl)) (by decide) (fun Kc hKc => ?_)
        refine skip_ (w1 := ((w5.drew.setCell ⟨W2.heap.size, 3, none⟩ (.int .i64 y.2)).setCell ⟨W2.heap.size, 4, none⟩ (.int .i64 y.2)).setCell ⟨W2.heap.size, 5, none⟩ (.bool true)) (by rfl) rfl ?_ ?_
        · go_simp
          try rfl
        refine hKc.out _ _ ?_
        clear hKc Kc
        refine pure_ (i := 18) (N := some 91) (v := ?_) (a' := ?_) #[true, true, true, true, true, true, true, true, true, true, true, true, true, true, true, true, true, true, true, false] rfl rfl (any_of HT_.out (by kernel_rfl)) (fun _ _ _ h => h) (Or.inl ⟨by rfl, ?_⟩) ?_ ?_
        rotate_left
        · intro w'
          go_simp
          with_reducible rfl
        rotate_left
        · simp only [Act.put, List.setIfInBounds_toArray, List.set_cons_zero, List.set_cons_succ, i64_w, i32_w]
          rfl
        refine last_ (i := 19) (N := none) #[true, true, true, true, true, true, true, true, true, true, true, true, true, true, true, true, true, true, true, true] rfl rfl (one_of HT_.out (by kernel_rfl)) (by decide) (fun Kc hKc => ?_)
        refine skip_ (w1 := (((w5.drew.setCell ⟨W2.heap.size, 3, none⟩ (.int .i64 y.2)).setCell ⟨W2.heap.size, 4, none⟩ (.int .i64 y.2)).setCell ⟨W2.heap.size, 5, none⟩ (.bool true)).setCell ⟨W2.heap.size, 6, none⟩ (.bool true)) (by rfl) rfl ?_ ?_
        · go_simp
          try rfl
        refine hKc.out _ _ ?_
        clear hKc Kc
        refine done_ (done_of HT_.out (by kernel_rfl)) ?_
        clear hHeld S0 SD k1 x1 e3 e4 e5 e6 ef
        have hFX0 := heap_setCell_same _ W2.heap.size 6 _ 36 (.bool true) (heap_setCell_same _ W2.heap.size 5 _ 36 (.bool true) (heap_setCell_same _ W2.heap.size 4 _ 36 (.int .i64 y.2) (heap_setCell_same w5.drew W2.heap.size 3 _ 36 (.int .i64 y.2) HFX.out.1)))
        simp only [List.setIfInBounds_toArray, List.set_cons_zero, List.set_cons_succ] at hFX0
        obtain ⟨WX, hWX⟩ : ∃ WX, (((w5.drew.setCell ⟨W2.heap.size, 3, none⟩ (.int .i64 y.2)).setCell ⟨W2.heap.size, 4, none⟩ (.int .i64 y.2)).setCell ⟨W2.heap.size, 5, none⟩ (.bool true)).setCell ⟨W2.heap.size, 6, none⟩ (.bool true) = WX := ⟨_, rfl⟩
        have hgX : w5.grownBy WX (some W2.heap.size) := by
          have ht : ∀ {a b c : World}, a.grownBy b (some W2.heap.size) → b.grownBy c (some W2.heap.size) → a.grownBy c (some W2.heap.size) := fun h k => h.andThen k (fun j hj => .inr hj)
          have hgd : w5.grownBy w5.drew (some W2.heap.size) := ⟨rfl, rfl, rfl, Nat.le_refl _, fun _ _ _ => rfl⟩
          rw [← hWX]
          exact ht hgd (ht (ht (ht (setF _ _ _ _) (setF _ _ _ _)) (setF _ _ _ _)) (setF _ _ _ _))
        rw [hWX] at hFX0 ⊢
        have hFX := hFX0
        have hRX : WX.heap[W1.heap.size]? = some (.cells zero36 36 (0, 0)) := (hgX.block _ (Array.getElem?_eq_some_iff.1 HFX.out.2).1 (fun e => by injection e with e; have := HP.out.1; have := HP.out.2.1; omega)).trans HFX.out.2
        clear hWX hFX0 HFX
        have z0 : WX.cell? ⟨W2.heap.size, 0, none⟩ = some (.int .i64 ps.length) := by rw [Lib.cell_of_heap hFX]; rfl
        have z1 : WX.cell? ⟨W2.heap.size, 1, none⟩ = some (.slice A1 (keys ps).length c1) := by rw [Lib.cell_of_heap hFX]; rfl
        have z2 : WX.cell? ⟨W2.heap.size, 2, none⟩ = some (.slice A1 (keys ps).length c1) := by rw [Lib.cell_of_heap hFX]; rfl
        have z3 : WX.cell? ⟨W2.heap.size, 3, none⟩ = some (.int .i64 y.2) := by rw [Lib.cell_of_heap hFX]; rfl
        have z4 : WX.cell? ⟨W2.heap.size, 4, none⟩ = some (.int .i64 y.2) := by rw [Lib.cell_of_heap hFX]; rfl
        have z5 : WX.cell? ⟨W2.heap.size, 5, none⟩ = some (.bool true) := by rw [Lib.cell_of_heap hFX]; rfl
        have z6 : WX.cell? ⟨W2.heap.size, 6, none⟩ = some (.bool true) := by rw [Lib.cell_of_heap hFX]; rfl
        have z7 : WX.cell? ⟨W2.heap.size, 7, none⟩ = some (.slice (some ad) ps.length c) := by rw [Lib.cell_of_heap hFX]; rfl
        have z8 : WX.cell? ⟨W2.heap.size, 8, none⟩ = some (.slice (some ad) ps.length c) := by rw [Lib.cell_of_heap hFX]; rfl
        have z9 : WX.cell? ⟨W2.heap.size, 9, none⟩ = some (.slice A9 (vsF ps).length c9) := by rw [Lib.cell_of_heap hFX]; rfl
        have fzz : ∀ j, WX.frozen? ⟨W1.heap.size, j, none⟩ = false := fun j => by rw [Lib.frozen_of_heap hRX]
        have u0 : WX.cell? ⟨W1.heap.size, 0, none⟩ = some (.int .i64 0) := by rw [Lib.cell_of_heap hRX]; rfl
        have u1 : WX.cell? ⟨W1.heap.size, 1, none⟩ = some (.slice none 0 0) := by rw [Lib.cell_of_heap hRX]; rfl
        have u2 : WX.cell? ⟨W1.heap.size, 2, none⟩ = some (.slice none 0 0) := by rw [Lib.cell_of_heap hRX]; rfl
        have u3 : WX.cell? ⟨W1.heap.size, 3, none⟩ = some (.int .i64 0) := by rw [Lib.cell_of_heap hRX]; rfl
        have u4 : WX.cell? ⟨W1.heap.size, 4, none⟩ = some (.int .i64 0) := by rw [Lib.cell_of_heap hRX]; rfl
        have u5 : WX.cell? ⟨W1.heap.size, 5, none⟩ = some (.bool false) := by rw [Lib.cell_of_heap hRX]; rfl
        have u6 : WX.cell? ⟨W1.heap.size, 6, none⟩ = some (.bool false) := by rw [Lib.cell_of_heap hRX]; rfl
        have u7 : WX.cell? ⟨W1.heap.size, 7, none⟩ = some (.slice none 0 0) := by rw [Lib.cell_of_heap hRX]; rfl
        have u8 : WX.cell? ⟨W1.heap.size, 8, none⟩ = some (.slice none 0 0) := by rw [Lib.cell_of_heap hRX]; rfl
        have u9 : WX.cell? ⟨W1.heap.size, 9, none⟩ = some (.slice none 0 0) := by rw [Lib.cell_of_heap hRX]; rfl
        obtain ⟨hRF, hgF⟩ := set10 WX W1.heap.size (.int .i64 ps.length) (.slice A1 (keys ps).length c1) (.slice A1 (keys ps).length c1) (.int .i64 y.2) (.int .i64 y.2) (.bool true) (.bool true) (.slice (some ad) ps.length c) (.slice (some ad) ps.length c) (.slice A9 (vsF ps).length c9) hRX
        obtain ⟨WF, hWF⟩ : ∃ WF, (((((((((WX.setCell ⟨W1.heap.size, 0, none⟩ (.int .i64 ps.length)).setCell ⟨W1.heap.size, 1, none⟩ (.slice A1 (keys ps).length c1)).setCell ⟨W1.heap.size, 2, none⟩ (.slice A1 (keys ps).length c1)).setCell ⟨W1.heap.size, 3, none⟩ (.int .i64 y.2)).setCell ⟨W1.heap.size, 4, none⟩ (.int .i64 y.2)).setCell ⟨W1.heap.size, 5, none⟩ (.bool true)).setCell ⟨W1.heap.size, 6, none⟩ (.bool true)).setCell ⟨W1.heap.size, 7, none⟩ (.slice (some ad) ps.length c)).setCell ⟨W1.heap.size, 8, none⟩ (.slice (some ad) ps.length c)).setCell ⟨W1.heap.size, 9, none⟩ (.slice A9 (vsF ps).length c9) = WF := ⟨_, rfl⟩
        rw [hWF] at hRF hgF
        have HX := Aside0.mk (And.intro hFX (And.intro hRX (And.intro hgX (And.intro hRF hgF))))
        have HWF := Aside0.mk hWF
        clear hFX hRX hgX hRF hgF hWF
        go_wp2_with (fail)
        rw [HWF.out]
        have y0 : WF.cell? ⟨W1.heap.size, 0, none⟩ = some (.int .i64 ps.length) := by rw [Lib.cell_of_heap HX.out.2.2.2.1]; rfl
        have y1 : WF.cell? ⟨W1.heap.size, 1, none⟩ = some (.slice A1 (keys ps).length c1) := by rw [Lib.cell_of_heap HX.out.2.2.2.1]; rfl
        have y2 : WF.cell? ⟨W1.heap.size, 2, none⟩ = some (.slice A1 (keys ps).length c1) := by rw [Lib.cell_of_heap HX.out.2.2.2.1]; rfl
        have y3 : WF.cell? ⟨W1.heap.size, 3, none⟩ = some (.int .i64 y.2) := by rw [Lib.cell_of_heap HX.out.2.2.2.1]; rfl
        have y4 : WF.cell? ⟨W1.heap.size, 4, none⟩ = some (.int .i64 y.2) := by rw [Lib.cell_of_heap HX.out.2.2.2.1]; rfl
        have y5 : WF.cell? ⟨W1.heap.size, 5, none⟩ = some (.bool true) := by rw [Lib.cell_of_heap HX.out.2.2.2.1]; rfl
        have y6 : WF.cell? ⟨W1.heap.size, 6, none⟩ = some (.bool true) := by rw [Lib.cell_of_heap HX.out.2.2.2.1]; rfl
        have y7 : WF.cell? ⟨W1.heap.size, 7, none⟩ = some (.slice (some ad) ps.length c) := by rw [Lib.cell_of_heap HX.out.2.2.2.1]; rfl
        have y8 : WF.cell? ⟨W1.heap.size, 8, none⟩ = some (.slice (some ad) ps.length c) := by rw [Lib.cell_of_heap HX.out.2.2.2.1]; rfl
        have y9 : WF.cell? ⟨W1.heap.size, 9, none⟩ = some (.slice A9 (vsF ps).length c9) := by rw [Lib.cell_of_heap HX.out.2.2.2.1]; rfl
        refine bodyPost_ret (v := .agg #[.int .i64 ps.length, .slice A1 (keys ps).length c1, .slice A1 (keys ps).length c1, .int .i64 y.2, .int .i64 y.2, .bool true, .bool true, .slice (some ad) ps.length c, .slice (some ad) ps.length c, .slice A9 (vsF ps).length c9]) (by simp [results, go_sem, y0, y1, y2, y3, y4, y5, y6, y7, y8, y9]) rfl ?_
        have hv : vsF ps = (vals ps).mergeSort leI := fold_is _
        have hat : at_ ps key = y.2 := by unfold at_; rw [HFM.out]; rfl
        have hhas : has_ ps key = true := by unfold has_; rw [HFM.out]; rfl
        have hS := HP.out
        have hz := HL.out.1.gr.size
        have hg4 := HL.out.2.1
        have hz4 := hg4.size
        have hz5 := H5.out.size
        have hzX := HX.out.2.2.1.size
        have hs1 := hS.1
        have hs2 := hS.2.1
        have hs3 := hS.2.2.1
        have hFl := HL.out.2.2.2.2.2.2.2.2.2.1
        have hmv : ∀ (k : Nat), Wp.heap.size ≤ k → k < ww.heap.size → WF.heap[k]? = ww.heap[k]? := fun k hk1 hk2 => (HX.out.2.2.2.2.block k (by omega) (fun e => by injection e with e; omega)).trans ((HX.out.2.2.1.block k (by omega) (fun e => by injection e with e; omega)).trans ((H5.out.block k (by omega)).trans (hg4.block k hk2 (fun e => by injection e with e; omega))))
        have hbF : Below w.heap.size w WF := HL.out.2.2.1.trans ((H5.out.mono (by omega)).trans ((below_grown HX.out.2.2.1 (by omega) (fun k hk => by injection hk with hk; omega)).trans (below_grown HX.out.2.2.2.2 (by omega) (fun k hk => by injection hk with hk; omega))))
        have hcA : Kd.C k29 w (some ad) (sps ps).length (sps ps) := by rw [sps_len]; exact HA.out.1
        have hC1 := CI_move HC.out.2.1 (fun ad e hlt => hmv ad.block (HC.out.2.2.1 ad e) hlt)
        have hC9 := CI_move HC.out.2.2.2.2.1 (fun ad e hlt => hmv ad.block (HC.out.2.2.2.2.2 ad e) hlt)
        have hlc : (sps ps).length ≤ c := by rw [sps_len]; exact HA.out.2.1
        refine ⟨A1, c1, A1, c1, some ad, c, some ad, c, A9, c9, by rw [hat, hhas, sps_len, ← hv], ⟨HC.out.1, hC1⟩, ⟨HC.out.1, hC1⟩, ⟨hlc, Kd.C_below hcA hbF⟩, ⟨hlc, Kd.C_below hcA hbF⟩, ?_, hbF⟩
        rw [← hv]
        exact ⟨HC.out.2.2.2.1, hC9⟩
end Go.Proofs.Ytokdamfalhcnnaa.Fb
