/- CacheRun's callback: what it writes; the eldest entry is taken out and told. -/
import Derived.Test.YtjhmcpdnmfhodaaLry
import Derived.Test.YtjhmcpdnmfhodaaSpA
import Derived.Test.YtjhmcpdnmfhodaaLrz
section
/- CacheRun's callback: what it writes; the eldest entry is taken out and told. -/
namespace Go.Proofs.Ytjhmcpdnmfhodaa.Lea
open Go Go.Maps Go.ChangeMaps Go.MapKept Go.RowKit Go.Proofs.YtjhmcpdnmfhodaaW.PrintWords Go.Proofs.YtjhmcpdnmfhodaaW.PrintLast Go.Proofs.YtjhmcpdnmfhodaaW.PrintMore Ll Lra Lrc Lrw Lrx Spm Spt Spu Lcw Mp

/-- the callback as a value -/
def cbv (G : Nat) : Value := .func (.func 13) #[] #[.pointer (some ⟨G, 0, none⟩)]
def ev (cb : Bool) (G : Nat) : Value := if cb then cbv G else .nilFunc
/-- the variable 'gone' -/
structure Gv (B : Nat) (w : World) (G : Nat) (v : Value) (gs : List (Int × Int)) : Prop where
  own : w.heap[G]? = some (.cells #[v] 31 (0, 0))
  row : w.ownsRow B 44 2 v gs.length (pcs gs)
  bG : B ≤ G
/-- what a call leaves but for the blocks X -/
structure Fz (X : List Nat) (B : Nat) (w w' : World) : Prop where
  os : w'.os = w.os
  tape : w'.tape = w.tape
  output : w'.output = w.output
  size : w.heap.size ≤ w'.heap.size
  old : ∀ k, k < B → w'.heap[k]? = w.heap[k]?
  plain : ∀ (k : Nat) (o : Obj), k ∉ X → w.heap[k]? = some o → Plain o → w'.heap[k]? = some o
theorem Fz.refl (X : List Nat) (B : Nat) (w : World) : Fz X B w w := ⟨rfl, rfl, rfl, Nat.le_refl _, fun _ _ => rfl, fun _ _ _ h _ => h⟩
theorem Fz.trans {X : List Nat} {B : Nat} {a b c : World} (h : Fz X B a b) (k : Fz X B b c) : Fz X B a c :=
  ⟨k.os.trans h.os, k.tape.trans h.tape, k.output.trans h.output, Nat.le_trans h.size k.size, fun x hx => (k.old x hx).trans (h.old x hx), fun x o hX hx hp => k.plain x o hX (h.plain x o hX hx hp) hp⟩
theorem Fz.mono {X Y : List Nat} {B : Nat} {a b : World} (h : Fz X B a b) (hs : ∀ x, x ∈ X → x ∈ Y) : Fz Y B a b := ⟨h.os, h.tape, h.output, h.size, h.old, fun k o hk => h.plain k o (fun e => hk (hs k e))⟩
theorem Fz.of_fr {X : List Nat} {B : Nat} {a b : World} (h : Fr B a b) : Fz X B a b := ⟨h.os, h.tape, h.output, h.size, h.old, fun k o _ => h.plain k o⟩
theorem Fz.of_fx {o : Nat} {X : List Nat} {B : Nat} {a b : World} (h : Fx o B a b) (hX : o ∈ X) : Fz X B a b := ⟨h.os, h.tape, h.output, h.size, h.old, fun k x hk => h.plain k x (fun e => hk (e ▸ hX))⟩
theorem Fz.of_drew {X : List Nat} {B : Nat} {a b : World} (h : Fz X B a.drew b) : Fz X B a b := ⟨h.os, h.tape, h.output, h.size, h.old, h.plain⟩
theorem Fz.drew {X : List Nat} {B : Nat} {a b : World} (h : Fz X B a b) : Fz X B a b.drew := ⟨h.os, h.tape, h.output, h.size, h.old, h.plain⟩
theorem plain31 (c : Array Value) : Plain (.cells c 31 (0, 0)) := ⟨fun _ _ e => (by cases e), fun _ _ e => (by cases e), fun _ _ e => (by cases e)⟩
theorem plain44 (c : Array Value) : Plain (.cells c 44 (0, 0)) := ⟨fun _ _ e => (by cases e), fun _ _ e => (by cases e), fun _ _ e => (by cases e)⟩
theorem rowKept {B n : Nat} {w w' : World} {v : Value} {xs : List Value} (h : w.ownsRow B 44 2 v n xs) (hk : ∀ (k : Nat) (c : Array Value), v.ownBlock = some k → w.heap[k]? = some (.cells c 44 (0, 0)) → w'.heap[k]? = some (.cells c 44 (0, 0))) : w'.ownsRow B 44 2 v n xs := by
  refine ⟨h.1, ?_⟩
  rcases h.2 with h2 | ⟨g, cap, cur, rfl, hb, hg, rest⟩
  · exact .inl h2
  · exact .inr ⟨g, cap, cur, rfl, hb, hk g cur rfl hg, rest⟩
variable {B : Nat} {w w' W : World} {L M G : Nat} {sz hh mm : Int} {es : List En} {gs : List (Int × Int)} {v : Value}
theorem Gv.drew (h : Gv B w G v gs) : Gv B w.drew G v gs := ⟨h.own, h.row, h.bG⟩
theorem Gv.fr (h : Gv B w G v gs) (hf : Fr B w w') : Gv B w' G v gs :=
  ⟨hf.plain G _ h.own (plain31 _), rowKept h.row (fun k c _ hk => hf.plain k _ hk (plain44 c)), h.bG⟩
theorem Gv.fx {o : Nat} (h : Gv B w G v gs) (hf : Fx o B w w') {co : Array Value} (ho : w.heap[o]? = some (.cells co 33 (0, 0))) : Gv B w' G v gs :=
  ⟨hf.plain G _ (fun e => by rw [← e, h.own] at ho; cases ho) h.own (plain31 _), rowKept h.row (fun k c _ hk => hf.plain k _ (fun e => by rw [← e, hk] at ho; cases ho) hk (plain44 c)), h.bG⟩
theorem Gv.ne (h : Gv B w G v gs) : v.ownBlock ≠ some G := fun e => by
  rcases h.row.2 with ⟨rfl, _⟩ | ⟨g, cap, cur, rfl, _, hg, _⟩
  · cases e
  · obtain rfl : g = G := by simpa [Value.ownBlock] using e
    rw [h.own] at hg; cases hg
/-- one more is told, in memory -/
theorem Gv.push (h : Gv B w G v gs) (hl : gs.length ≤ 200000) (p : Int × Int) :
    ∃ A2 n2 c2 w6, (Builtin.append_ #[31, 31] 31 #[v, .slice (some ⟨w.heap.size, 0, none⟩) 1 1]).run Try.prog (w.alloc (.cells #[.int .i64 p.1, .int .i64 p.2] 44)) = .ok (.slice A2 n2 c2) w6 ∧ w6.cell? ⟨G, 0, none⟩ = some v ∧ w6.frozen? ⟨G, 0, none⟩ = false ∧
      Gv B (w6.setCell ⟨G, 0, none⟩ (.slice A2 n2 c2)) G (.slice A2 n2 c2) (gs ++ [p]) ∧ Below B w (w6.setCell ⟨G, 0, none⟩ (.slice A2 n2 c2)) ∧
      (∀ k, k < w.heap.size → k ≠ G → v.ownBlock ≠ some k → (w6.setCell ⟨G, 0, none⟩ (.slice A2 n2 c2)).heap[k]? = w.heap[k]?) ∧ ((Value.slice A2 n2 c2).ownBlock = v.ownBlock ∨ ∃ g, (Value.slice A2 n2 c2).ownBlock = some g ∧ w.heap.size ≤ g) := by
  have hG : G < w.heap.size := (Array.getElem?_eq_some_iff.1 h.own).1
  have hB : B ≤ w.heap.size := Nat.le_trans h.bG (Nat.le_of_lt hG)
  have hb1 : Below w.heap.size w (w.alloc (.cells #[.int .i64 p.1, .int .i64 p.2] 44)) := (Below.refl _ w).alloc (Nat.le_refl _) _
  have hrow : (w.alloc (.cells #[.int .i64 p.1, .int .i64 p.2] 44)).ownsRow B 44 2 v gs.length (pcs gs) := rowKept h.row (fun k c _ hk => (hb1.block k (Array.getElem?_eq_some_iff.1 hk).1).trans hk)
  obtain ⟨v', w6, hr, ho, hg, hat⟩ := app2 B _ v gs.length (pcs gs) hrow (by simp; omega) ⟨w.heap.size, 0, none⟩ 1 1 [p] rfl (fun j u hj => Lcm.new6 w (pc p) 44 j u (by rw [← hj]; simp [pcs])) (by omega)
  obtain ⟨A2, n2, c2, rfl⟩ : ∃ A2 n2 c2, v' = .slice A2 n2 c2 := by
    rcases row_cases ho with ⟨h1, _⟩ | ⟨g2, c2, h1⟩
    · exact ⟨_, _, _, h1⟩
    · exact ⟨_, _, _, h1⟩
  have hgG : some G ≠ v.ownBlock := fun e => h.ne e.symm
  have hG6 : w6.heap[G]? = some (.cells #[v] 31 (0, 0)) := (hg.block G (by simp; omega) hgG).trans ((hb1.block G hG).trans h.own)
  have hne : (Value.slice A2 n2 c2).ownBlock ≠ some G := by
    rcases hat with e | e
    · rw [e]; exact h.ne
    · rw [e]; intro e2; have := Option.some.inj e2; simp at this; omega
  have hb6 : ∀ k, k < w.heap.size → v.ownBlock ≠ some k → w6.heap[k]? = w.heap[k]? := fun k hk hn => (hg.block k (by simp; omega) (fun e => hn e.symm)).trans (Below.heap_alloc _ _ k hk)
  have hz6 : w.heap.size ≤ w6.heap.size := by have := hg.size; simp at this; omega
  have hk : w6.grownBy (w6.setCell ⟨G, 0, none⟩ (.slice A2 n2 c2)) (some G) := ⟨rfl, rfl, rfl, by simp [World.setCell], fun k _ hk => Below.heap_setCell _ _ _ k (fun e => hk (by rw [e]))⟩
  have ho' : w6.ownsRow B 44 2 (.slice A2 n2 c2) (gs ++ [p]).length (pcs (gs ++ [p])) := by rw [pcs_app, List.length_append]; exact ho
  refine ⟨A2, n2, c2, w6, hr, by rw [Lib.cell_of_heap hG6]; rfl, by rw [Lib.frozen_of_heap hG6], ⟨(set_same _ hG6).trans rfl, ho'.kept hk (.inr hne), h.bG⟩, ⟨hg.os, hg.tape, hg.output, by simpa [World.setCell] using hz6, fun k hk2 => (Below.heap_setCell _ _ _ k (show k ≠ G by have := h.bG; omega)).trans (hb6 k (by omega) (fun e => by
    have := (h.row.lt k e).1
    omega))⟩, fun k hk hkG hn => (Below.heap_setCell _ _ _ k hkG).trans (hb6 k hk hn), ?_⟩
  rcases hat with e | e
  · exact .inl e
  · exact .inr ⟨_, e, by simp⟩
set_option linter.all false in
set_option maxRecDepth 1000000 in
set_option maxHeartbeats 4000000 in
theorem tell (h : Gv B w G v gs) (hl : gs.length ≤ 200000) (k u : Int) :
    Calls Try.prog 13 (#[.int .i64 k, .int .i64 u] ++ #[.pointer (some ⟨G, 0, none⟩)]) w fun r w' => r = .returned (.tuple #[]) ∧ ∃ v', Gv B w' G v' (gs ++ [(k, u)]) ∧ Below B w w' ∧ (∀ q, q < w.heap.size → q ≠ G → v.ownBlock ≠ some q → w'.heap[q]? = w.heap[q]?) ∧ (v'.ownBlock = v.ownBlock ∨ ∃ g, v'.ownBlock = some g ∧ w.heap.size ≤ g) := by
  obtain ⟨A2, n2, c2, w6, hr, a1, a2, hK⟩ := h.push hl (k, u)
  have g0 : w.cell? ⟨G, 0, none⟩ = some v := by rw [Lib.cell_of_heap h.own]; rfl
  have K := Aside0.mk hK
  clear h hl hK
  go_enter Try.func13, Try.ntmps13
  go_wp2_with (first | (refine appL_ (some 10) rfl rfl rfl rfl rfl hr ?_; clear hr))
  go_end0
  exact ⟨rfl, _, K.out.1, K.out.2.1, K.out.2.2.1, K.out.2.2.2⟩
end Go.Proofs.Ytjhmcpdnmfhodaa.Lea
end

section
/- removeOldest with a callback. -/
namespace Go.Proofs.Ytjhmcpdnmfhodaa.Leb
open Go Go.Maps Go.ChangeMaps Go.MapKept Go.RowKit Go.Proofs.YtjhmcpdnmfhodaaW.PrintWords Go.Proofs.YtjhmcpdnmfhodaaW.PrintLast Go.Proofs.YtjhmcpdnmfhodaaW.PrintMore Ll Lra Lrc Lrw Lrx Spm Spt Spu Lcw Mp Lea

theorem goesV_ {P : Program} {ops : Array Oper} {Q : Exit → Act → World → Prop} {oi : Oper} {N : Option Tmp} {a : Act} {w : World} {K : Act → World → Prop} {f : FuncId} {fn : Func} {ags : Array Operand} {ts : Array TypeId} {fv : Operand} (hf : P.funcs[f]? = some fn) (hname : (fn.name == "runtime.NumGoroutine") = false) (hb : fn.body.isSome = true) (args caps : Array Value)
    (hw : Region.wanted oi (yielded ops a.tmps) = true) (hN : oi.dst = N) (hop : oi.op = .call { callee := .value fv, args := ags, argTypes := ts }) (hfv : a.eval fv = .func (.func f) #[] caps) (hargs : ags.map a.eval = args)
    (h : Calls P f (args ++ caps) w fun e w' => ∃ v, e = .returned v ∧ K (a.put N v) w') : if Region.wanted oi (yielded ops a.tmps) = true then Oper.wp P oi a w K Q else K (a.put N undef) w := by
  refine call_ f (args ++ caps) hw hN ?_ h
  have he := enters_ hf hname hb (args ++ caps) w
  unfold execOp
  simp [hop, resolve, Deferred.ofValue, invoke, hfv, hargs, he]
theorem neqF (G : Nat) (w : World) : (binOp .neq 60 (.func (.func 13) #[] #[.pointer (some ⟨G, 0, none⟩)]) .nilFunc).run Try.prog w = .ok (.bool true) w := by kernel_rfl
/-- the cache stays where all that is its own stays -/
theorem caKept {B : Nat} {w w1 : World} {L M : Nat} {ev : Value} {sz hh mm : Int} {es : List En} (h : Ca B w L M ev sz hh mm es) (hk : ∀ (k : Nat) (o : Obj), w.heap[k]? = some o → ¬ Plain o → w1.heap[k]? = some o) : Ca B w1 L M ev sz hh mm es := by
  have hin : ∀ k, k ∈ L :: blocks es → ∀ o, w.heap[k]? = some o → w1.heap[k]? = some o := fun k hm o ho => hk k o ho (h.not_plain k hm o ho)
  obtain ⟨D, ⟨a, c, hM, _⟩, _⟩ := h.mp
  refine ⟨⟨hin L (by simp) _ h.ls.own, h.ls.seg.kept (fun e he => ?_), h.ls.nd⟩, h.mp.of_heap ((hk M _ hM (fun hp => hp.2.2 _ _ rfl)).trans hM.symm), h.nk, h.wk, h.bL, h.bM, h.bs⟩
  obtain ⟨q, z, hq⟩ := h.ls.seg.at_ e he
  rw [hq]
  exact hin _ (List.mem_cons_of_mem _ (mem_blocks he)) _ hq
-- TABLES
def T3 : Bool × List (List Nat × List Nat) := (true, [([], []), ([0], [0]), ([1], [1]), ([2], [2]), ([], []), ([4], [4]), ([5], [5]), ([6], [6]), ([], []), ([8], [8]), ([9], [9]), ([10], [10]), ([3, 7, 11], [3, 7, 11])])
def B3 : List Nat := [0, 1, 3, 7, 0, 16, 48, 112, 0, 256, 768, 1792, 4095]
theorem tab3 : rtab .any (opsOf Try.f29 3) = T3 := by kernel_rfl
theorem bits3 : waitsOk T3.2 B3 = true := by kernel_rfl
-- END TABLES
set_option linter.all false in
set_option maxRecDepth 1000000 in
set_option maxHeartbeats 4000000 in
theorem removeOldestT {B : Nat} {w : World} {L M G : Nat} {sz hh mm : Int} {xs : List En} {e : En} (h : Ca B w L M (cbv G) sz hh mm (xs ++ [e])) (hg : Gv B w G (.slice none 0 0) []) :
    Calls Try.prog 29 #[ptr L] w fun r w' => r = .returned (.tuple #[]) ∧ Ca B w' L M (cbv G) sz hh mm xs ∧ (∃ v', Gv B w' G v' [(e.k, e.v)]) ∧ Fz [G] B w w' := by
  have HH := Aside0.mk (And.intro h hg)
  have hse := h.ls.se
  have l3 : w.cell? ⟨L, 3, none⟩ = some (.pointer (some ⟨e.b, 0, none⟩)) := by rw [Lib.cell_of_heap h.ls.own, lst_snoc]; rfl
  have l4 : w.cell? ⟨L, 4, none⟩ = some (.func (.func 13) #[] #[.pointer (some ⟨G, 0, none⟩)]) := by rw [Lib.cell_of_heap h.ls.own]; rfl
  have e0 : w.cell? ⟨e.b, 0, none⟩ = some (.int .i64 e.k) := by rw [Lib.cell_of_heap hse]; rfl
  have e1 : w.cell? ⟨e.b, 1, none⟩ = some (.int .i64 e.v) := by rw [Lib.cell_of_heap hse]; rfl
  have hN := neqF G w
  have cT := tell hg.drew (by simp) e.k e.v
  have S0 : Aside0 (w.cell? ⟨L, 4, none⟩ = some (.func (.func 13) #[] #[.pointer (some ⟨G, 0, none⟩)]) ∧ w.cell? ⟨e.b, 0, none⟩ = some (.int .i64 e.k) ∧ w.cell? ⟨e.b, 1, none⟩ = some (.int .i64 e.v)) := ⟨⟨l4, e0, e1⟩⟩
  clear h hg hse e0 e1
  unfold ptr
  go_enter Try.func29, Try.ntmps29
  go_wp2_with (fail)
  clear l3 l4 hN
  -- REGION 3
  refine start_ (n := 13) (S := fun w' => w'.cell? ⟨L, 4, none⟩ = some (.func (.func 13) #[] #[.pointer (some ⟨G, 0, none⟩)]) ∧ w'.cell? ⟨e.b, 0, none⟩ = some (.int .i64 e.k) ∧ w'.cell? ⟨e.b, 1, none⟩ = some (.int .i64 e.v)) (ds := []) #[false, false, false, false, false, false, false, false, false, false, false, false, false] (by kernel_rfl) rfl rfl S0.out (fun hHeld => ?_); refine with_tabW tab3 bits3 (fun HT_ HW_ => ?_)
  refine pure_ (i := 0) (N := some 17) (v := ?_) (a' := ?_) #[true, false, false, false, false, false, false, false, false, false, false, false, false] rfl rfl (any_of HT_.out (by kernel_rfl)) (fun _ _ _ h => h) (Or.inl ⟨by rfl, ?_⟩) ?_ ?_
  rotate_left
  · intro w'
    go_simp
    with_reducible rfl
  rotate_left
  · simp only [Act.put, List.setIfInBounds_toArray, List.set_cons_zero, List.set_cons_succ, i64_w, i32_w]
    rfl
  refine pure_ (i := 1) (N := some 18) (v := ?_) (a' := ?_) #[true, true, false, false, false, false, false, false, false, false, false, false, false] rfl rfl (any_of HT_.out (by kernel_rfl)) (fun _ _ _ h => h) (Or.inl ⟨by rfl, ?_⟩) ?_ ?_
  rotate_left
  · intro w'
    go_simp
    with_reducible rfl
  rotate_left
  · simp only [Act.put, List.setIfInBounds_toArray, List.set_cons_zero, List.set_cons_succ, i64_w, i32_w]
    rfl
  refine pure_ (i := 2) (N := some 19) (v := ?_) (a' := ?_) #[true, true, true, false, false, false, false, false, false, false, false, false, false] rfl rfl (any_of HT_.out (by kernel_rfl)) (fun _ _ _ h => h) (Or.inl ⟨by rfl, ?_⟩) ?_ ?_
  rotate_left
  · intro w'
    go_simp
    with_reducible rfl
  rotate_left
  · simp only [Act.put, List.setIfInBounds_toArray, List.set_cons_zero, List.set_cons_succ, i64_w, i32_w]
    rfl
  refine take_ (i := 3) (N := some 20) (v := ?_) (a' := ?_) #[true, true, true, true, false, false, false, false, false, false, false, false, false] rfl rfl (take_ofW HT_.out HW_.out (by kernel_rfl)) (fun _ _ _ h => h) (Or.inl ⟨by rfl, ?_⟩) hHeld ?_ ?_
  rotate_left
  · rintro w' ⟨s0, s1, s2⟩
    go_simp
    with_reducible rfl
  rotate_left
  · simp only [Act.put, List.setIfInBounds_toArray, List.set_cons_zero, List.set_cons_succ, i64_w, i32_w]
    rfl
  refine pure_ (i := 4) (N := some 21) (v := ?_) (a' := ?_) #[true, true, true, true, true, false, false, false, false, false, false, false, false] rfl rfl (any_of HT_.out (by kernel_rfl)) (fun _ _ _ h => h) (Or.inl ⟨by rfl, ?_⟩) ?_ ?_
  rotate_left
  · intro w'
    go_simp
    with_reducible rfl
  rotate_left
  · simp only [Act.put, List.setIfInBounds_toArray, List.set_cons_zero, List.set_cons_succ, i64_w, i32_w]
    rfl
  refine pure_ (i := 5) (N := some 22) (v := ?_) (a' := ?_) #[true, true, true, true, true, true, false, false, false, false, false, false, false] rfl rfl (any_of HT_.out (by kernel_rfl)) (fun _ _ _ h => h) (Or.inl ⟨by rfl, ?_⟩) ?_ ?_
  rotate_left
  · intro w'
    go_simp
    with_reducible rfl
  rotate_left
  · simp only [Act.put, List.setIfInBounds_toArray, List.set_cons_zero, List.set_cons_succ, i64_w, i32_w]
    rfl
  refine pure_ (i := 6) (N := some 23) (v := ?_) (a' := ?_) #[true, true, true, true, true, true, true, false, false, false, false, false, false] rfl rfl (any_of HT_.out (by kernel_rfl)) (fun _ _ _ h => h) (Or.inl ⟨by rfl, ?_⟩) ?_ ?_
  rotate_left
  · intro w'
    go_simp
    with_reducible rfl
  rotate_left
  · simp only [Act.put, List.setIfInBounds_toArray, List.set_cons_zero, List.set_cons_succ, i64_w, i32_w]
    rfl
  refine take_ (i := 7) (N := some 24) (v := ?_) (a' := ?_) #[true, true, true, true, true, true, true, true, false, false, false, false, false] rfl rfl (take_ofW HT_.out HW_.out (by kernel_rfl)) (fun _ _ _ h => h) (Or.inl ⟨by rfl, ?_⟩) hHeld ?_ ?_
  rotate_left
  · rintro w' ⟨s0, s1, s2⟩
    go_simp
    with_reducible rfl
  rotate_left
  · simp only [Act.put, List.setIfInBounds_toArray, List.set_cons_zero, List.set_cons_succ, i64_w, i32_w]
    rfl
  refine pure_ (i := 8) (N := some 25) (v := ?_) (a' := ?_) #[true, true, true, true, true, true, true, true, true, false, false, false, false] rfl rfl (any_of HT_.out (by kernel_rfl)) (fun _ _ _ h => h) (Or.inl ⟨by rfl, ?_⟩) ?_ ?_
  rotate_left
  · intro w'
    go_simp
    with_reducible rfl
  rotate_left
  · simp only [Act.put, List.setIfInBounds_toArray, List.set_cons_zero, List.set_cons_succ, i64_w, i32_w]
    rfl
  refine pure_ (i := 9) (N := some 26) (v := ?_) (a' := ?_) #[true, true, true, true, true, true, true, true, true, true, false, false, false] rfl rfl (any_of HT_.out (by kernel_rfl)) (fun _ _ _ h => h) (Or.inl ⟨by rfl, ?_⟩) ?_ ?_
  rotate_left
  · intro w'
    go_simp
    with_reducible rfl
  rotate_left
  · simp only [Act.put, List.setIfInBounds_toArray, List.set_cons_zero, List.set_cons_succ, i64_w, i32_w]
    rfl
  refine pure_ (i := 10) (N := some 27) (v := ?_) (a' := ?_) #[true, true, true, true, true, true, true, true, true, true, true, false, false] rfl rfl (any_of HT_.out (by kernel_rfl)) (fun _ _ _ h => h) (Or.inl ⟨by rfl, ?_⟩) ?_ ?_
  rotate_left
  · intro w'
    go_simp
    with_reducible rfl
  rotate_left
  · simp only [Act.put, List.setIfInBounds_toArray, List.set_cons_zero, List.set_cons_succ, i64_w, i32_w]
    rfl
  refine take_ (i := 11) (N := some 28) (v := ?_) (a' := ?_) #[true, true, true, true, true, true, true, true, true, true, true, true, false] rfl rfl (take_ofW HT_.out HW_.out (by kernel_rfl)) (fun _ _ _ h => h) (Or.inl ⟨by rfl, ?_⟩) hHeld ?_ ?_
  rotate_left
  · rintro w' ⟨s0, s1, s2⟩
    go_simp
    with_reducible rfl
  rotate_left
  · simp only [Act.put, List.setIfInBounds_toArray, List.set_cons_zero, List.set_cons_succ, i64_w, i32_w]
    rfl
  refine one_ (i := 12) (N := some 29) #[true, true, true, true, true, true, true, true, true, true, true, true, true] rfl rfl (one_of HT_.out (by kernel_rfl)) (by decide) (fun Kc hKc => ?_)
  refine goesV_ Try.func13 (by kernel_rfl) rfl #[.int .i64 e.k, .int .i64 e.v] #[.pointer (some ⟨G, 0, none⟩)] (by rfl) rfl rfl (by rfl) (by (try simp only [List.map_toArray, List.map_cons, List.map_nil]); first | done | rfl) ?_
  refine cT.mono ?_
  rintro r w1 ⟨rfl, v1, hg1, hb1, hk1, _⟩
  refine ⟨_, rfl, ?_⟩
  have hC1 := caKept HH.out.1 (w1 := w1) (fun k o hk hp => (hk1 k (Array.getElem?_eq_some_iff.1 hk).1 (fun e2 => by subst e2; rw [HH.out.2.own] at hk; exact hp (by rw [← Option.some.inj hk]; exact plain31 _)) (fun e2 => by cases e2)).trans hk)
  have hF1 : Fz [G] B w w1 := ⟨hb1.os, hb1.tape, hb1.output, hb1.size, hb1.block, fun k o hX hk _ => (hk1 k (Array.getElem?_eq_some_iff.1 hk).1 (fun e2 => hX (by rw [e2]; simp)) (fun e2 => by cases e2)).trans hk⟩
  have HM := Aside0.mk (And.intro hg1 (And.intro hb1 (And.intro hC1 hF1)))
  have SB : Aside0 (w1.cell? ⟨L, 4, none⟩ = some (.func (.func 13) #[] #[.pointer (some ⟨G, 0, none⟩)]) ∧ w1.cell? ⟨e.b, 0, none⟩ = some (.int .i64 e.k) ∧ w1.cell? ⟨e.b, 1, none⟩ = some (.int .i64 e.v)) := ⟨⟨by rw [Lib.cell_of_heap hC1.ls.own]; rfl, by rw [Lib.cell_of_heap hC1.ls.se]; rfl, by rw [Lib.cell_of_heap hC1.ls.se]; rfl⟩⟩
  have l3 : w1.cell? ⟨L, 3, none⟩ = some (.pointer (some ⟨e.b, 0, none⟩)) := by rw [Lib.cell_of_heap hC1.ls.own, lst_snoc]; rfl
  clear hg1 hb1 hk1 hC1 hF1
  refine hKc.out _ _ SB.out (fun hHeld => ?_)
  clear hKc Kc
  refine norm_ (a' := ?_) ?_ ?_
  rotate_left
  · show Act.put _ (some 29) _ = _
    simp only [Act.put, List.setIfInBounds_toArray, List.set_cons_zero, List.set_cons_succ, i64_w, i32_w]
    rfl
  refine done_ (done_of HT_.out (by kernel_rfl)) ?_
  -- END REGION 3
  clear hHeld
  have cR := removeNode HM.out.2.2.1.ls
  unfold ptr at cR
  go_wp2_with (first | (go_at_call 31; refine cR.mono ?_; rintro r w2 ⟨rfl, h1, h2, h3⟩
                        have m1 : w2.drew.cell? ⟨L, 1, none⟩ = some (.map (some M)) := by rw [Lib.cell_of_heap (show w2.drew.heap[L]? = _ from h1.own)]; rfl
                        have m2 : w2.drew.cell? ⟨e.b, 0, none⟩ = some (.int .i64 e.k) := by rw [Lib.cell_of_heap (show w2.drew.heap[e.b]? = _ from h2)]; rfl
                        have hD := ((HM.out.2.2.1.map_kept h3).of_heap (w' := w2.drew) rfl).drop (Maps.int_keyed Try.underlying3) Try.underlying61 (kEy (HM.out.2.2.1.wk e (by simp))) 0
                        obtain ⟨w3, hrun, hM2, hT2⟩ := hD
                        have K := Aside0.mk (And.intro h1 (And.intro h3 (And.intro hM2 hT2)))
                        clear h1 h2 h3 hM2 hT2))
  go_region
  go_wp2_with (fail)
  go_end0
  have hl := K.out.1.drew
  have hc : Chg w1 w2.drew (L :: blocks (xs ++ [e])) := ⟨K.out.2.1.os, K.out.2.1.tape, K.out.2.1.output, K.out.2.1.size, K.out.2.1.block⟩
  have F := HM.out.2.2.1.cut (ys := []) hl hc K.out.2.2.1 K.out.2.2.2
  rw [List.append_nil] at F
  exact ⟨rfl, F.1, ⟨v1, HM.out.1.fr F.2⟩, HM.out.2.2.2.trans (Fz.of_fr F.2)⟩
end Go.Proofs.Ytjhmcpdnmfhodaa.Leb
end

section
/- The cache's Add, GetOrCompute, RemoveOldest, with or without a callback. -/
namespace Go.Proofs.Ytjhmcpdnmfhodaa.Lec
open Go Go.Maps Go.ChangeMaps Go.MapKept Go.RowKit Go.Proofs.YtjhmcpdnmfhodaaW.PrintWords Ll Lra Lrc Lrw Lrx Lry Lrz Spm Mp Lea Leb

def told (cb : Bool) (l : List (Int × Int)) : List (Int × Int) := if cb then l else []
abbrev nil31 : Value := .slice none 0 0
theorem removeOldest2 {B : Nat} {w : World} {L M G : Nat} {sz hh mm : Int} {xs : List En} {e : En} (cb : Bool) (h : Ca B w L M (ev cb G) sz hh mm (xs ++ [e])) (hg : Gv B w G nil31 []) :
    Calls Try.prog 29 #[ptr L] w fun r w' => r = .returned (.tuple #[]) ∧ Ca B w' L M (ev cb G) sz hh mm xs ∧ (∃ v', Gv B w' G v' (told cb [(e.k, e.v)])) ∧ Fz [G] B w w' := by
  cases cb
  · refine (removeOldest h).mono ?_
    rintro r w1 ⟨rfl, h1, h2⟩
    exact ⟨rfl, h1, ⟨_, hg.fr h2⟩, Fz.of_fr h2⟩
  · exact removeOldestT h hg
set_option linter.all false in
set_option maxRecDepth 1000000 in
set_option maxHeartbeats 4000000 in
theorem add {B : Nat} {w : World} {L M G : Nat} {sz hh mm k v : Int} {es : List En} (cb : Bool) (h : Ca B w L M (ev cb G) sz hh mm es) (hgv : Gv B w G nil31 []) (hB : B ≤ w.heap.size) (hk : In64 k) (hsz : 0 < sz) (hf : es.length ≤ 1000000) :
    Calls Try.prog 14 #[ptr L, .int .i64 k, .int .i64 v] w fun r w' =>
      (∃ xs e ys, es = xs ++ e :: ys ∧ e.k = k ∧ r = .returned (.bool false) ∧ Ca B w' L M (ev cb G) sz hh mm (⟨e.b, k, v⟩ :: (xs ++ ys)) ∧ Fr B w w') ∨
      ((∀ a ∈ es, a.k ≠ k) ∧ (es.length : Int) < sz ∧ r = .returned (.bool false) ∧ ∃ b, Ca B w' L M (ev cb G) sz hh mm (⟨b, k, v⟩ :: es) ∧ Fr B w w') ∨
      ((∀ a ∈ es, a.k ≠ k) ∧ sz ≤ (es.length : Int) ∧ r = .returned (.bool true) ∧ ∃ xs e b, es = xs ++ [e] ∧ Ca B w' L M (ev cb G) sz hh mm (⟨b, k, v⟩ :: xs) ∧ (∃ v', Gv B w' G v' (told cb [(e.k, e.v)])) ∧ Fz [G] B w w') := by
  obtain ⟨c0, c1, c5, c6, lf, _⟩ := cells h
  have hlk := h.mp.look_ok (Maps.int_keyed Try.underlying3) Try.underlying61 (zero62 w) (kEy hk)
  have hd0 : decide (sz ≤ 0) = false := decide_eq_false (by omega)
  have HH := Aside0.mk h
  rcases look_cases es k with ⟨hn, hno⟩ | ⟨xs, e, ys, rfl, rfl, hn⟩
  · rw [hn] at hlk
    have hlk' : (Instr.lookup 61 (.map (some M)) (.int .i64 k) true).run Try.prog w = .ok (.tuple #[.pointer none, .bool false]) w := hlk
    have hlen := fun ty => h.drew.mp.len Try.underlying61 ty
    have NO := Aside0.mk hno
    have HF := Aside0.mk hf
    by_cases hge : sz ≤ (es.length : Int)
    · obtain ⟨xs, e, rfl⟩ : ∃ xs e, es = xs ++ [e] := by rcases snocs es with rfl | ⟨m, q, rfl⟩; (simp at hge; omega); exact ⟨m, q, rfl⟩
      have hg1 : decide ((((xs ++ [e]).length : Nat) : Int) ≥ sz) = true := decide_eq_true hge
      obtain ⟨n, hnn⟩ : ∃ n, (xs ++ [e]).length = n := ⟨_, rfl⟩
      rw [hnn] at hlen hg1 hge
      have HG := Aside0.mk (And.intro hnn hge)
      have cO := removeOldest2 cb h.drew hgv.drew
      clear h hlk hn hno hf hge hnn hgv
      unfold ptr at cO ⊢
      go_enter Try.func14, Try.ntmps14
      go_wp2_with (fail)
      go_region
      go_wp2_with (first | (go_at_call 29; refine cO.mono ?_; rintro r w1 ⟨rfl, h1, hv1, h2⟩
                            have cI := ins (k := k) (v := v) h1 (Nat.le_trans hB h2.size) hk (fun a ha => NO.out a (List.mem_append.2 (.inl ha))) (by have := HF.out; simp at this; omega)
                            have K := Aside0.mk (And.intro h1 (And.intro hv1 h2)); clear h1 h2 hv1)
                         | (go_at_call 30; refine cI.mono ?_; rintro r w2 ⟨rfl, m1, w3, hrun, h3, h4⟩
                            have K2 := Aside0.mk (And.intro h3 h4); clear h3 h4))
      go_ret
      obtain ⟨v1, hv1⟩ := K.out.2.1
      exact .inr (.inr ⟨NO.out, by rw [HG.out.1]; exact HG.out.2, rfl, xs, e, _, rfl, K2.out.1, ⟨v1, hv1.fr K2.out.2⟩, (K.out.2.2.of_drew).trans (Fz.of_fr K2.out.2)⟩)
    · have hg1 : decide (((es.length : Nat) : Int) ≥ sz) = false := decide_eq_false hge
      have cI := ins (k := k) (v := v) h.drew hB hk hno hf
      simp only [show w.drew.heap.size = w.heap.size from rfl] at cI
      obtain ⟨n, hnn⟩ : ∃ n, es.length = n := ⟨_, rfl⟩
      rw [hnn] at hlen hg1 hge
      have HG := Aside0.mk (And.intro hnn hge)
      clear h hlk hn hno hf hge hnn hgv
      unfold ptr
      go_enter Try.func14, Try.ntmps14
      go_wp2_with (fail)
      go_region
      go_wp2_with (first | (go_at_call 30; refine cI.mono ?_; rintro r w2 ⟨rfl, m1, w3, hrun, h3, h4⟩
                            have K2 := Aside0.mk (And.intro h3 h4); clear h3 h4))
      go_ret
      exact .inr (.inl ⟨NO.out, by rw [HG.out.1]; have := HG.out.2; omega, rfl, _, K2.out.1, K2.out.2.of_drew⟩)
  · rw [hn] at hlk
    have hlk' : (Instr.lookup 61 (.map (some M)) (.int .i64 e.k) true).run Try.prog w = .ok (.tuple #[.pointer (some ⟨e.b, 0, none⟩), .bool true]) w := hlk
    have F := Aside0.mk (h.value v)
    have cM := moveToFront F.out.1.ls
    have heh := h.ls.se
    have ef : ∀ j, w.frozen? ⟨e.b, j, none⟩ = false := fun j => by rw [Lib.frozen_of_heap heh]
    have e1 : w.cell? ⟨e.b, 1, none⟩ = some (.int .i64 e.v) := by rw [Lib.cell_of_heap heh]; rfl
    clear h hlk hn heh hgv
    unfold ptr at cM ⊢
    go_enter Try.func14, Try.ntmps14
    go_wp2_with (first | (go_at_call 28; refine cM.mono ?_; rintro r w1 ⟨rfl, h1, h2⟩
                          have K := Aside0.mk (And.intro h1 h2); clear h1 h2))
    go_ret
    exact .inl ⟨xs, e, ys, rfl, rfl, rfl, F.out.1.moved K.out.1 K.out.2, (Fr.of_chg HH.out F.out.2).trans (Fr.of_chg F.out.1 K.out.2)⟩
set_option linter.all false in
set_option maxRecDepth 1000000 in
set_option maxHeartbeats 4000000 in
theorem getOr {B : Nat} {w : World} {L M G : Nat} {sz hh mm k v : Int} {es : List En} {o x : Nat} {oc xc : Array Value} (cb : Bool) (h : Ca B w L M (ev cb G) sz hh mm es) (hgv : Gv B w G nil31 []) (hB : B ≤ w.heap.size) (hk : In64 k) (hsz : 0 < sz) (hf : es.length ≤ 1000000)
    (ho : w.heap[o]? = some (.cells oc 33 (0, 0))) (hx : w.heap[x]? = some (.cells xc 36 (0, 0))) (h4 : 4 < oc.size) (h2 : xc[2]? = some (.int .i64 v)) (hBo : B ≤ o) :
    Calls Try.prog 16 #[ptr L, .int .i64 k, .func (.func 17) #[] #[.pointer (some ⟨o, 0, none⟩), .pointer (some ⟨x, 0, none⟩)]] w fun r w' =>
      (∃ xs e ys, es = xs ++ e :: ys ∧ e.k = k ∧ r = .returned (.int .i64 e.v) ∧ Ca B w' L M (ev cb G) sz (wrap64 (hh + 1)) mm (e :: (xs ++ ys)) ∧ Fr B w w') ∨
      ((∀ a ∈ es, a.k ≠ k) ∧ r = .returned (.int .i64 v) ∧ Fz [o, G] B w w' ∧ w'.heap[o]? = some (.cells (oc.setIfInBounds 4 (.bool true)) 33 (0, 0)) ∧
        (((es.length : Int) < sz ∧ Gv B w' G nil31 [] ∧ ∃ b, Ca B w' L M (ev cb G) sz hh (wrap64 (mm + 1)) (⟨b, k, v⟩ :: es)) ∨ (sz ≤ (es.length : Int) ∧ ∃ xs e b, es = xs ++ [e] ∧ (∃ v', Gv B w' G v' (told cb [(e.k, e.v)])) ∧ Ca B w' L M (ev cb G) sz hh (wrap64 (mm + 1)) (⟨b, k, v⟩ :: xs)))) := by
  obtain ⟨c0, c1, c5, c6, lf, _⟩ := cells h
  have hlk := h.mp.look_ok (Maps.int_keyed Try.underlying3) Try.underlying61 (zero62 w) (kEy hk)
  have hd0 : decide (sz ≤ 0) = false := decide_eq_false (by omega)
  have HH := Aside0.mk h
  rcases look_cases es k with ⟨hn, hno⟩ | ⟨xs, e, ys, rfl, rfl, hn⟩
  · rw [hn] at hlk
    have hlk' : (Instr.lookup 61 (.map (some M)) (.int .i64 k) true).run Try.prog w = .ok (.tuple #[.pointer none, .bool false]) w := hlk
    have hM := h.misses (wrap64 (mm + 1))
    have hLo : o ≠ L := fun e => h.not_plain L (by simp) _ (by rw [← e]; exact ho) (plain33 oc)
    have hLx : x ≠ L := fun e => h.not_plain L (by simp) _ (by rw [← e]; exact hx) (plain36 xc)
    have ho1 := (set_other w (j := 6) (.int .i64 (wrap64 (mm + 1))) hLo).trans ho
    have hx1 := (set_other w (j := 6) (.int .i64 (wrap64 (mm + 1))) hLx).trans hx
    have cF := lit ho1 hx1 h4 h2
    have h3 := hM.1.far (j := 4) (.bool true) ho1 (plain33 oc)
    have ho3 := set_same (j := 4) (.bool true) ho1
    obtain ⟨W, hW⟩ : ∃ W, (w.setCell ⟨L, 6, none⟩ (.int .i64 (wrap64 (mm + 1)))).setCell ⟨o, 4, none⟩ (.bool true) = W := ⟨_, rfl⟩
    have fx : Fx o B w W := by rw [← hW]; exact ((Fr.of_chg h hM.2).fx).trans (Fx.put _ 4 _ hBo)
    have hgW := hgv.fx fx ho
    have hGo : o ≠ G := fun e => by rw [e, hgv.own] at ho; cases ho
    rw [hW] at cF h3 ho3
    have hlk2 := h3.mp.look_ok (Maps.int_keyed Try.underlying3) Try.underlying61 (zero62 W) (kEy hk)
    rw [hn] at hlk2
    have hlk2' : (Instr.lookup 61 (.map (some M)) (.int .i64 k) true).run Try.prog W = .ok (.tuple #[.pointer none, .bool false]) W := hlk2
    obtain ⟨b0, b1, _, _, bf, _⟩ := cells h3
    have hlen := fun ty => h3.drew.mp.len Try.underlying61 ty
    have e17 : ∀ args w, (callFunc 17 args).run Try.prog w = .ok (.enter 17 args) w := enters_of Try.func17 (by kernel_rfl) rfl
    have NO := Aside0.mk hno
    have HF := Aside0.mk hf
    have FX := Aside0.mk (And.intro fx (And.intro ho3 (And.intro hgW hGo)))
    have hBW : B ≤ W.heap.size := Nat.le_trans hB fx.size
    by_cases hge : sz ≤ (es.length : Int)
    · obtain ⟨xs, e, rfl⟩ : ∃ xs e, es = xs ++ [e] := by rcases snocs es with rfl | ⟨m, q, rfl⟩; (simp at hge; omega); exact ⟨m, q, rfl⟩
      have hg1 : decide ((((xs ++ [e]).length : Nat) : Int) ≥ sz) = true := decide_eq_true hge
      obtain ⟨n, hnn⟩ : ∃ n, (xs ++ [e]).length = n := ⟨_, rfl⟩
      rw [hnn] at hlen hg1 hge
      have HG := Aside0.mk (And.intro hnn hge)
      have cO := removeOldest2 cb h3.drew hgW.drew
      clear h h3 hlk hlk2 hn hno hf hge hnn hM ho hx ho1 hx1 ho3 fx hW hgv hgW hGo
      unfold ptr at cO ⊢
      go_enter Try.func16, Try.ntmps16
      go_wp2_with (first | (go_at_fn 17; go_must (refine cF.mono ?_; rintro r w1 ⟨rfl, hw1⟩; rw [hw1]; clear hw1 w1)))
      go_region
      go_wp2_with (first | (go_at_call 29; refine cO.mono ?_; rintro r w1 ⟨rfl, h1, hv1, h2⟩
                            have cI := ins (k := k) (v := v) h1 (Nat.le_trans hBW h2.size) hk (fun a ha => NO.out a (List.mem_append.2 (.inl ha))) (by have := HF.out; simp at this; omega)
                            have K := Aside0.mk (And.intro h1 (And.intro hv1 h2)); clear h1 h2 hv1)
                         | (go_at_call 30; refine cI.mono ?_; rintro r w2 ⟨rfl, m1, w3, hrun, h3, h4⟩
                            have K2 := Aside0.mk (And.intro h3 h4); clear h3 h4))
      go_ret
      obtain ⟨v1, hv1⟩ := K.out.2.1
      have f2 := (K.out.2.2.of_drew).trans (Fz.of_fr K2.out.2)
      exact .inr ⟨NO.out, rfl, (Fz.of_fx FX.out.1 (by simp)).trans (f2.mono (fun x hx => by simp at hx; simp [hx])), f2.plain o _ (by simpa using FX.out.2.2.2) FX.out.2.1 (plain33 _), .inr ⟨by rw [HG.out.1]; exact HG.out.2, xs, e, _, rfl, ⟨v1, hv1.fr K2.out.2⟩, K2.out.1⟩⟩
    · have hg1 : decide (((es.length : Nat) : Int) ≥ sz) = false := decide_eq_false hge
      have cI := ins (k := k) (v := v) h3.drew hBW hk hno hf
      simp only [show W.drew.heap.size = W.heap.size from rfl] at cI
      obtain ⟨n, hnn⟩ : ∃ n, es.length = n := ⟨_, rfl⟩
      rw [hnn] at hlen hg1 hge
      have HG := Aside0.mk (And.intro hnn hge)
      clear h h3 hlk hlk2 hn hno hf hge hnn hM ho hx ho1 hx1 ho3 fx hW hgv hgW hGo
      unfold ptr
      go_enter Try.func16, Try.ntmps16
      go_wp2_with (first | (go_at_fn 17; go_must (refine cF.mono ?_; rintro r w1 ⟨rfl, hw1⟩; rw [hw1]; clear hw1 w1)))
      go_region
      go_wp2_with (first | (go_at_call 30; refine cI.mono ?_; rintro r w2 ⟨rfl, m1, w3, hrun, h3, h4⟩
                            have K2 := Aside0.mk (And.intro h3 h4); clear h3 h4))
      go_ret
      have f2 := K2.out.2.of_drew
      exact .inr ⟨NO.out, rfl, (Fz.of_fx FX.out.1 (by simp)).trans (Fz.of_fr f2), f2.plain o _ FX.out.2.1 (plain33 _), .inl ⟨by rw [HG.out.1]; have := HG.out.2; omega, FX.out.2.2.1.fr f2, _, K2.out.1⟩⟩
  · rw [hn] at hlk
    have hlk' : (Instr.lookup 61 (.map (some M)) (.int .i64 e.k) true).run Try.prog w = .ok (.tuple #[.pointer (some ⟨e.b, 0, none⟩), .bool true]) w := hlk
    have cM := moveToFront h.ls
    clear h4 h2 hlk hn hgv
    unfold ptr at cM ⊢
    have HO := Aside0.mk (And.intro ho hx)
    clear ho hx h
    go_enter Try.func16, Try.ntmps16
    go_wp2_with (first | (go_at_call 28; refine cM.mono ?_; rintro r w1 ⟨rfl, h1, h2⟩
                          have hC := HH.out.moved h1 h2
                          obtain ⟨_, _, b5, _, bf, _⟩ := cells hC
                          have F := hC.hits (wrap64 (hh + 1))
                          have ev1 : w1.cell? ⟨e.b, 1, none⟩ = some (.int .i64 e.v) := by rw [Lib.cell_of_heap h1.seg.1]; rfl
                          have hne : e.b ≠ L := (parts (xs := []) h1.nd).2.1
                          have hne' := hne.symm
                          have K := Aside0.mk (And.intro h2 (And.intro hC F)); clear h1 h2 hC F))
    go_ret
    exact .inl ⟨xs, e, ys, rfl, rfl, rfl, K.out.2.2.1, (Fr.of_chg HH.out K.out.1).trans (Fr.of_chg K.out.2.1 K.out.2.2.2)⟩
set_option linter.all false in
set_option maxRecDepth 1000000 in
set_option maxHeartbeats 4000000 in
theorem oldest {B : Nat} {w : World} {L M G : Nat} {sz hh mm : Int} {es : List En} (cb : Bool) (h : Ca B w L M (ev cb G) sz hh mm es) (hgv : Gv B w G nil31 []) (hsz : 0 < sz) :
    Calls Try.prog 19 #[ptr L] w fun r w' =>
      (es = [] ∧ r = .returned (.tuple #[.int .i64 0, .int .i64 0, .bool false]) ∧ w' = w) ∨
      (∃ xs e, es = xs ++ [e] ∧ r = .returned (.tuple #[.int .i64 e.k, .int .i64 e.v, .bool true]) ∧ Ca B w' L M (ev cb G) sz hh mm xs ∧ (∃ v', Gv B w' G v' (told cb [(e.k, e.v)])) ∧ Fz [G] B w w') := by
  obtain ⟨c0, c1, c5, c6, lf, _⟩ := cells h
  have hd0 : decide (sz ≤ 0) = false := decide_eq_false (by omega)
  rcases snocs es with rfl | ⟨xs, e, rfl⟩
  · have l3 : w.cell? ⟨L, 3, none⟩ = some (.pointer none) := by rw [Lib.cell_of_heap h.ls.own]; rfl
    clear h hgv
    unfold ptr
    go_enter Try.func19, Try.ntmps19
    go_wp2_with (fail)
    go_ret3
    exact .inl ⟨trivial, rfl, rfl⟩
  · have l3 : w.cell? ⟨L, 3, none⟩ = some (.pointer (some ⟨e.b, 0, none⟩)) := by rw [Lib.cell_of_heap h.ls.own, lst_snoc]; rfl
    have heh := h.ls.se
    have e0 : w.cell? ⟨e.b, 0, none⟩ = some (.int .i64 e.k) := by rw [Lib.cell_of_heap heh]; rfl
    have e1 : w.cell? ⟨e.b, 1, none⟩ = some (.int .i64 e.v) := by rw [Lib.cell_of_heap heh]; rfl
    have cO := removeOldest2 cb h hgv
    clear h heh hgv
    unfold ptr at cO ⊢
    go_enter Try.func19, Try.ntmps19
    go_wp2_with (first | (go_at_call 29; refine cO.mono ?_; rintro r w1 ⟨rfl, h1, hv1, h2⟩
                          have K := Aside0.mk (And.intro h1 (And.intro hv1 h2)); clear h1 h2 hv1))
    go_ret3
    exact .inr ⟨xs, e, rfl, rfl, K.out.1, K.out.2.1, K.out.2.2⟩
end Go.Proofs.Ytjhmcpdnmfhodaa.Lec
end
