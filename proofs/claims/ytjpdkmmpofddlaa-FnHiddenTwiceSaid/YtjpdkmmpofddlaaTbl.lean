/- The walk of table's zzColumns: a table of columns with widths and configs. -/
import Derived.Test.YtjpdkmmpofddlaaCfg
import Derived.Deep.RegionLaw
import Derived.Deep.DeepCutAuto
import Derived.StillTailTactics
import Derived.BigRegion
import Derived.Laws.MakeOwn
import Derived.Laws.Tables
namespace Go.Proofs.Ytjpdkmmpofddlaa.Tbl
open Go Go.RowKit Go.Proofs.YtjpdkmmpofddlaaW.PrintWords Go.Proofs.Ytjpdkmmpofddlaa.Mp Go.Proofs.Ytjpdkmmpofddlaa.Cfg

/-- a table's cells -/
def tcells (n r : Int) (ml bools : Value) (mp st : Nat) : Array Value := #[.int .i64 0, .bool false, .int .i64 0, .string ⟨#[]⟩, bools, .slice none 0 0, .map (some mp), .string ⟨#[]⟩, .bool false, .string ⟨#[]⟩, .int .i64 0, ml, .map none, .int .i64 r, .int .i64 n, .int .i64 0, .int .i64 0, .slice none 0 0, .int .i64 0, .string ⟨#[]⟩, .slice none 0 0, .slice none 0 0, .map none, .slice none 0 0, .slice none 0 0, .slice none 0 0, .map none, .slice none 0 0, .slice none 0 0, .map none, .slice none 0 0, .nilFunc, .nilFunc, .map none, .map none, .map none, .slice none 0 0, .slice none 0 0, .slice none 0 0, .pointer (some ⟨st, 0, none⟩), .bool false, .bool false, .string ⟨#[]⟩]
theorem built94 (n : Int) (mp st : Nat) (A : Option Addr) (k c : Nat) (B : Option Addr) (k' c' : Nat) : Try.prog.built 94 [(14, .int .i64 n), (11, .slice A k c), (6, .map (some mp)), (4, .slice B k' c'), (37, .pointer (some ⟨st, 0, none⟩))] = some (tcells n 0 (.slice A k c) (.slice B k' c') mp st) := by kernel_rfl
theorem info4 : (Try.prog.info? 4).map (fun i => (i.zero, i.size, i.bytes)) = some (some (.bool false), 1, 1) := by kernel_rfl
theorem info3 : (Try.prog.info? 3).map (fun i => (i.zero, i.size, i.bytes)) = some (some (.int .i64 0), 1, 8) := by kernel_rfl

theorem step_build94 {ops : Array Oper} {o : Oper} {a : Act} {w : World} {K : Act → World → Prop} {Q : Exit → Act → World → Prop} {E : Prop} {x1 x2 x3 x4 x5 : Operand}
    (hg : o.guard = none) (ho : o.op = .build 94 #[(14, x1), (11, x2), (6, x3), (4, x4), (37, x5)]) (n : Int) (A : Option Addr) (k c : Nat) (mp st : Nat) (B : Option Addr) (k' c' : Nat)
    (h1 : a.eval x1 = .int .i64 n) (h2 : a.eval x2 = .slice A k c) (h3 : a.eval x3 = .map (some mp)) (h4 : a.eval x4 = .slice B k' c') (h5 : a.eval x5 = .pointer (some ⟨st, 0, none⟩))
    (hK : K (a.put o.dst (.agg (tcells n 0 (.slice A k c) (.slice B k' c') mp st))) w) : if Region.wanted o (yielded ops a.tmps) = true then Oper.wp Try.prog o a w K Q else E := by
  have hw : Region.wanted o (yielded ops a.tmps) = true := by simp [Region.wanted, hg]
  rw [if_pos hw]
  have e : (#[(14, x1), (11, x2), (6, x3), (4, x4), (37, x5)].map fun (i, x) => (i, a.eval x)).toList = [(14, .int .i64 n), (11, .slice A k c), (6, .map (some mp)), (4, .slice B k' c'), (37, .pointer (some ⟨st, 0, none⟩))] := by simp [h1, h2, h3, h4, h5]
  refine wp_build 94 _ ho ?_ ?_
  · rw [e, built94]; rfl
  · rw [e, built94]; exact hK

theorem run_bools (n : Nat) (hn : n < 17592186044416) (w : World) : (Instr.makeSlice 28 (.int .i64 n) (.int .i64 n)).run Try.prog w = .ok (.slice (some ⟨w.heap.size, 0, none⟩) n n) (w.alloc (.cells (madeCells #[.bool false] n) 4)) := by
  obtain ⟨i, hi, h0, h1, h2⟩ := info_parts info4
  have := run_make (P := Try.prog) (w := w) 28 4 i (.bool false) Try.underlying28 hi h0 .i64 .i64 n n (by omega) (by omega) (by rw [h2]; omega) (by omega)
  rw [h1] at this
  simpa [Value.cells] using this

theorem lt_of_get {w : World} {b : Nat} {o : Obj} (h : w.heap[b]? = some o) : b < w.heap.size := (Array.getElem?_eq_some_iff.1 h).1
theorem new' {w : World} {o : Obj} {b : Nat} (hb : b = w.heap.size) : (w.alloc o).heap[b]? = some o := by rw [hb]; exact (MapKept.heap_alloc w _).1
theorem old {w : World} {o x : Obj} {b : Nat} (h : w.heap[b]? = some x) : (w.alloc o).heap[b]? = some x := by
  rw [(World.grownBy_alloc w o none).block b (lt_of_get h) (by simp)]; exact h
/-- what an append to an empty row leaves -/
def Gr (n : Nat) (w w' : World) : Prop := ∃ B, n ≤ B ∧ w.grownBy w' (some B) ∧ w.heap[B]? = some (.cells #[] 3 (0, 0))
theorem Gr.size {n : Nat} {w w' : World} (h : Gr n w w') : w.heap.size ≤ w'.heap.size := by obtain ⟨B, _, h, _⟩ := h; exact h.size
theorem gro {n : Nat} {w w' : World} {x : Obj} {b : Nat} (hg : Gr n w w') (hx : x ≠ .cells #[] 3 (0, 0)) (h : w.heap[b]? = some x) : w'.heap[b]? = some x := by
  obtain ⟨B, _, hg, hB⟩ := hg
  rw [hg.block b (lt_of_get h) (fun e => hx (by injection e with e; subst e; rw [h] at hB; simpa using hB))]; exact h
theorem gro_map {n : Nat} {w w' : World} {es : Array MapEntry} {cl b : Nat} (hg : Gr n w w') (h : w.heap[b]? = some (.map es cl)) : w'.heap[b]? = some (.map es cl) := gro hg (fun h => by cases h) h
theorem gro_cells {n : Nat} {w w' : World} {cs : Array Value} {t : TypeId} {fr : Nat × Nat} {b : Nat} (ht : t ≠ 3) (hg : Gr n w w') (h : w.heap[b]? = some (.cells cs t fr)) : w'.heap[b]? = some (.cells cs t fr) := gro hg (fun h => by injection h with _ h2; exact ht h2) h
theorem n4 : (4 : Nat) ≠ 3 := by decide
theorem n69 : (69 : Nat) ≠ 3 := by decide
theorem n94 : (94 : Nat) ≠ 3 := by decide
theorem below_gro {n : Nat} {w W w' : World} (hg : Gr n W w') (hn : w.heap.size ≤ n) (h : Below w.heap.size w W) : Below w.heap.size w w' := by
  obtain ⟨B, hb, hg, _⟩ := hg
  exact h.grown hg h.size (fun k hk => by injection hk with hk; omega)
theorem dre {w : World} {x : Obj} {b : Nat} (h : w.heap[b]? = some x) : w.drew.heap[b]? = some x := h

theorem step_app {ops : Array Oper} {o : Oper} {a : Act} {w : World} {K : Act → World → Prop} {Q : Exit → Act → World → Prop} {E : Prop}
    (hg : o.guard = none) (hop : o.op = Op.call { callee := Callee.builtin Builtin.append, args := #[.tmp 13, .tmp 14], argTypes := #[22, 22] })
    (B : Nat) (A : Option Addr) (c : Nat) (xs : List Int) (hs : a.eval (.tmp 13) = .slice (some ⟨B, 0, none⟩) 0 0) (hx : a.eval (.tmp 14) = .slice A xs.length c)
    (hC : Kd.C (Kd.int .i64) w A xs.length xs) (hl : xs.length < 17592186044416) (base : Nat) (hb : base ≤ B) (hB : w.heap[B]? = some (.cells #[] 3 (0, 0)))
    (hK : ∀ A' k' c' w', Kd.R (Kd.int .i64) 3 w' base (fun k => k < w'.heap.size) (.slice A' k' c') xs → Gr base w w' → K (a.put o.dst (.slice A' k' c')) w') :
    if Region.wanted o (yielded ops a.tmps) = true then Oper.wp Try.prog o a w K Q else E := by
  have hw : Region.wanted o (yielded ops a.tmps) = true := by simp [Region.wanted, hg]
  rw [if_pos hw]
  obtain ⟨i0, hi, hz0, hz1, hz2⟩ := info_parts info3
  have hBl := lt_of_get hB
  have HO : w.ownsRow base 3 1 (.slice (some ⟨B, 0, none⟩) 0 0) 0 [] := by
    refine ⟨rfl, .inr ⟨B, 0, #[], rfl, hb, hB, ?_⟩⟩
    simp [maxLen]
  have HR := Kd.reads_of_C (d := (0 : Int)) hC
  have hrun : ∃ A' k' c' w1, (Builtin.append_ #[22, 22] o.type #[.slice (some ⟨B, 0, none⟩) 0 0, .slice A xs.length c]).run Try.prog w = .ok (.slice A' k' c') w1 ∧ Kd.R (Kd.int .i64) 3 w1 base (fun k => k < w1.heap.size) (.slice A' k' c') xs ∧ Gr base w w1 := by
    rcases A with _ | ad
    · have h0 : xs.length = 0 := by
        rcases Nat.eq_zero_or_pos xs.length with h0 | h0
        · exact h0
        · obtain ⟨ad, h, _⟩ := HR.2.2 h0
          cases h
      obtain rfl : xs = [] := List.eq_nil_of_length_eq_zero h0
      refine ⟨some ⟨B, 0, none⟩, 0, 0, w, ?_, Kd.R_of_own (by simpa [encs] using HO) (fun k hk => ?_), ⟨B, hb, World.grownBy.refl w _, hB⟩⟩
      · simp [Builtin.append_, run_underlying Try.underlying22, sizeOf, typeInfo, hi, Builtin.lenOf, Builtin.firstCells, storeCells]
      · have : B = k := by simpa [Value.ownBlock] using hk
        omega
    · have hcells : ∀ j u, (encs (Value.int .i64) xs)[j]? = some u → w.cell? (ad.add j) = some u := by
        intro j u hu
        have hj : j < xs.length := by
          rcases Nat.lt_or_ge j xs.length with h | h
          · exact h
          · simp [encs, List.getElem?_eq_none h] at hu
        obtain ⟨ad', h', hc⟩ := HR.2.2 (by omega)
        obtain rfl : ad = ad' := by simpa using h'

        rw [encs_get (d := (0 : Int)) xs j hj] at hu
        rw [← hu]
        exact hc j (by omega)
      obtain ⟨v1, w1, hr, h2, h3, _, h5⟩ := run_append_own_at (P := Try.prog) w base 22 o.type 3 i0 (.int .i64 0) 1 8 Try.underlying22 hi hz0 hz1 hz2 rfl (by omega) (.slice (some ⟨B, 0, none⟩) 0 0) 0 [] HO ad xs.length c (encs (Value.int .i64) xs) (by simp [encs]) hcells
        (by intro u hu; simp only [encs, List.mem_map] at hu; obtain ⟨q, _, rfl⟩ := hu; rfl) (by simp only [maxLen]; omega) (by omega) (by omega)
      have h2' : w1.ownsRow base 3 1 v1 xs.length (encs (Value.int .i64) xs) := by simpa using h2
      have HR1 : Kd.R (Kd.int .i64) 3 w1 base (fun k => k < w1.heap.size) v1 xs := Kd.R_of_own h2' (fun k hk => own_lt h2' k hk)
      obtain ⟨A', c', rfl⟩ := Kd.R_slice HR1
      exact ⟨A', _, c', w1, hr, HR1, B, hb, h3, hB⟩
  obtain ⟨A', k', c', w1, hr, h1, h2⟩ := hrun
  unfold Oper.wp execOp
  simp only [hop, resolve, invoke, builtin, Sem.run_bind, Sem.run_pure, Result.andThen_ok, List.map_toArray, List.map_cons, List.map_nil, hs, hx, hr]
  exact hK _ _ _ _ h1 h2

/-- what stands at each key of the configs' map -/
def cfgAt (cs : List Cf) : Lit → Option Value
  | .int .i64 i => if 0 ≤ i ∧ i < cs.length then some (.agg (enc (cs.getD i.toNat (false, 0, 0))).toArray) else none
  | _ => none
theorem cfgAt_nil : cfgAt [] = fun _ => none := by
  funext x
  unfold cfgAt
  split
  · rw [if_neg (by simp)]
  · rfl
theorem cfgAt_step (cs : List Cf) (j : Nat) (hj : j < cs.length) : upd (cfgAt (cs.take j)) (.int .i64 j) (some (.agg (enc (cs.getD j (false, 0, 0))).toArray)) = cfgAt (cs.take (j + 1)) := by
  funext x
  by_cases hx : x = .int .i64 j
  · subst hx
    rw [upd_same]
    simp only [cfgAt]
    rw [if_pos (by simp; omega)]
    simp [List.getD_eq_getElem?_getD, List.getElem?_take]
  · rw [upd_other _ _ hx]
    unfold cfgAt
    split
    · rename_i i
      have hij : i ≠ j := fun h => hx (by rw [h])
      by_cases hc : 0 ≤ i ∧ i < ((cs.take j).length : Int)
      · rw [if_pos hc, if_pos (by simp at hc ⊢; omega)]
        have h2 : i.toNat < j := by simp at hc; omega
        simp [List.getD_eq_getElem?_getD, List.getElem?_take, h2, Nat.lt_succ_of_lt h2]
      · rw [if_neg hc, if_neg (by simp at hc ⊢; omega)]
    · rfl
theorem cfgAt_none (cs : List Cf) (j : Nat) (hj : cs.length ≤ j) : cfgAt cs (.int .i64 j) = none := by
  simp only [cfgAt]; rw [if_neg (by omega)]

section
variable {w w' : World} {base b : Nat} {v : Value} {l : List Int} {o : Obj} {ok : Nat → Prop}
theorem R_offg (h : Kd.R (Kd.int .i64) 3 w base ok v l) (hg : w.grownBy w' (some b)) (hb : w.heap[b]? = some o) (ht : ∀ cells, o ≠ .cells cells 3 (0, 0)) : Kd.R (Kd.int .i64) 3 w' base ok v l := by
  refine Kd.R_mono (Kd.R_grown (Kd.R_bound h) hg (fun k hk e => ?_)) (fun k hk => hk.1)
  obtain ⟨q, hq, cells, hc⟩ := hk.2.2.2
  obtain rfl : k = b := by simpa using e
  have hq3 : q = 3 := by simpa [Kd.int, Kd.scalar] using hq
  subst hq3
  rw [hb] at hc
  exact ht cells (by simpa using hc)
theorem R_off {p : Addr} {u : Value} (h : Kd.R (Kd.int .i64) 3 w base ok v l) (hb : w.heap[p.block]? = some o) (ht : ∀ cells, o ≠ .cells cells 3 (0, 0)) : Kd.R (Kd.int .i64) 3 (w.setCell p u) base ok v l := by
  refine Kd.R_mono (Kd.R_far (Kd.R_bound h) (fun k hk e => ?_) u) (fun k hk => hk.1)
  obtain ⟨q, hq, cells, hc⟩ := hk.2.2.2
  subst e
  have hq3 : q = 3 := by simpa [Kd.int, Kd.scalar] using hq
  subst hq3
  rw [hb] at hc
  exact ht cells (by simpa using hc)
end

/-- a table as zzColumns and its users leave it -/
structure St (w0 : World) (n r : Int) (sc : Array Value) (T Mp Bl : Nat) (A : Option Addr) (k c : Nat) (l : List Int) (m : Nat) (g : Lit → Option Value) (w : World) : Prop where
  tab : w.heap[T]? = some (.cells (tcells n r (.slice A k c) (.slice (some ⟨Bl, 0, none⟩) n.toNat n.toNat) Mp w0.heap.size) 94 (0, 0))
  map : MapIs Try.prog 3 Mp m g w
  bools : ∃ arr : Array Value, arr.size = n.toNat ∧ w.heap[Bl]? = some (.cells arr 4 (0, 0))
  sty : w.heap[w0.heap.size]? = some (.cells sc 69 (0, 0))
  row : Kd.R (Kd.int .i64) 3 w (w0.heap.size + 1) (fun _ => True) (.slice A k c) l
  bel : Below w0.heap.size w0 w
  hT : w0.heap.size < T
  hM : w0.heap.size < Mp
  hB : w0.heap.size < Bl
section
variable {w0 w w' : World} {n r : Int} {sc : Array Value} {T Mp Bl : Nat} {A : Option Addr} {k c : Nat} {l : List Int} {m : Nat} {g g' : Lit → Option Value}
theorem St.below (h : St w0 n r sc T Mp Bl A k c l m g w) (hw : Below w.heap.size w w') : St w0 n r sc T Mp Bl A k c l m g w' := by
  obtain ⟨arr, h1, h2⟩ := h.bools
  have e : ∀ b o, w.heap[b]? = some o → w'.heap[b]? = some o := fun b o hb => by rw [hw.block b (lt_of_get hb)]; exact hb
  exact ⟨e _ _ h.tab, h.map.of_heap (hw.block _ h.map.lt), ⟨arr, h1, e _ _ h2⟩, e _ _ h.sty, Kd.R_below h.row hw, h.bel.trans (hw.mono h.bel.size), h.hT, h.hM, h.hB⟩
theorem St.alloc (h : St w0 n r sc T Mp Bl A k c l m g w) (o : Obj) : St w0 n r sc T Mp Bl A k c l m g (w.alloc o) := h.below ((Below.refl _ _).alloc (Nat.le_refl _) o)
theorem St.drew (h : St w0 n r sc T Mp Bl A k c l m g w) : St w0 n r sc T Mp Bl A k c l m g w.drew := h.below (below_drew1 (Below.refl _ _))
theorem St.tcell (h : St w0 n r sc T Mp Bl A k c l m g w) (j : Nat) : w.cell? ⟨T, j, none⟩ = (tcells n r (.slice A k c) (.slice (some ⟨Bl, 0, none⟩) n.toNat n.toNat) Mp w0.heap.size)[j]? := cell_of_row w T j _ 94 _ h.tab
theorem St.map_ne (h : St w0 n r sc T Mp Bl A k c l m g w) {b : Nat} {cs : Array Value} {t : Nat} (hb : w.heap[b]? = some (.cells cs t (0, 0))) : b ≠ Mp := by
  rintro rfl
  obtain ⟨D, ⟨es, cl, h0, _⟩, _⟩ := h.map
  rw [h0] at hb
  cases hb
theorem St.setBool (h : St w0 n r sc T Mp Bl A k c l m g w) (j : Nat) (u : Value) : St w0 n r sc T Mp Bl A k c l m g (w.setCell ⟨Bl, j, none⟩ u) := by
  obtain ⟨arr, h1, h2⟩ := h.bools
  have e : ∀ b o, b ≠ Bl → w.heap[b]? = some o → (w.setCell ⟨Bl, j, none⟩ u).heap[b]? = some o := fun b o hne hb => by rw [heap_setCell_other w _ b u hne]; exact hb
  refine ⟨e _ _ (fun e => ?_) h.tab, h.map.of_heap (heap_setCell_other w _ _ u (h.map_ne h2).symm), ⟨_, ?_, heap_setCell_same w Bl j arr 4 u h2⟩, e _ _ (fun e => ?_) h.sty, R_off h.row h2 (fun _ hc => by simp at hc), ?_, h.hT, h.hM, h.hB⟩
  · have := h.tab; rw [e, h2] at this; simp at this
  · simpa using h1
  · have := h.sty; rw [e, h2] at this; simp at this
  · exact h.bel.trans ⟨rfl, rfl, rfl, by simp [World.setCell], fun i hi => heap_setCell_other w _ i u (by have := h.hB; show i ≠ Bl; omega)⟩
theorem St.store (h : St w0 n r sc T Mp Bl A k c l m g w) (hn : m < maxLen) (i : Int) (val : Value) (hi : (Lit.int .i64 i).wf = true) (hg : g (.int .i64 i) = none) :
    ∃ w', (Instr.mapUpdate 74 (.map (some Mp)) (.int .i64 i) val).run Try.prog w = .ok () w' ∧ St w0 n r sc T Mp Bl A k c l (m + 1) (upd g (.int .i64 i) (some val)) w' := by
  obtain ⟨w', hr, h1, h2⟩ := h.map.store (Maps.int_keyed Try.underlying3) Try.underlying74 hn val (Maps.keyOf_int_mk Try.underlying3 hi) trivial
  have hgr := h2.grown
  obtain ⟨arr, h3, h4⟩ := h.bools
  have e : ∀ (b : Nat) (cs : Array Value) (t : Nat), w.heap[b]? = some (.cells cs t (0, 0)) → w'.heap[b]? = some (.cells cs t (0, 0)) := fun b cs t hb => by rw [hgr.block b (lt_of_get hb) (by simpa using h.map_ne hb)]; exact hb
  obtain ⟨D, ⟨es, cl, h0, _⟩, _⟩ := h.map
  refine ⟨w', hr, e _ _ _ h.tab, ?_, ⟨arr, h3, e _ _ _ h4⟩, e _ _ _ h.sty, R_offg h.row hgr h0 (fun _ hc => by cases hc), h.bel.grown hgr h.bel.size (fun j hj => ?_), h.hT, h.hM, h.hB⟩
  · simpa [hg] using h1
  · obtain rfl : Mp = j := by simpa using hj
    exact Nat.le_of_lt h.hM
end

set_option linter.all false in
set_option maxRecDepth 100000 in
set_option maxHeartbeats 1000000 in
theorem columns (A0 : Option Addr) (c0 : Nat) (l0 : List Int) (A1 : Option Addr) (c1 : Nat) (cs : List Cf) (sc : Array Value) (w : World) (hr0 : Kd.C (Kd.int .i64) w A0 l0.length l0) (hr1 : kd.C w A1 cs.length cs) (hs : sc.size = 56) (h0 : l0.length < 17592186044416) (h1 : cs.length < 17592186044416) :
    Calls Try.prog 18 #[.slice A0 l0.length c0, .slice A1 cs.length c1, .agg sc] w fun e w' => ∃ (T Mp Bl : Nat) (A : Option Addr) (k c : Nat), e = .returned (.pointer (some ⟨T, 0, none⟩)) ∧ St w l0.length 0 sc T Mp Bl A k c l0 cs.length (cfgAt cs) w' := by
  have hmm := @run_makeMap Try.prog
  have hbb := run_bools l0.length h0
  have HR0 := Aside0.mk hr0
  have HR1 := Aside0.mk hr1
  clear hr0 hr1
  go_enter Try.func18, Try.ntmps18
  have hS : (w.alloc (.cells sc 69)).heap[w.heap.size]? = some (.cells sc 69 (0, 0)) := (MapKept.heap_alloc w _).1
  go_upto_region 1 with (fail)
  go_cut [7] (fun v7 wx => ∃ (T Mp Bl : Nat) (A : Option Addr) (k c : Nat), v7 = .pointer (some ⟨T, 0, none⟩) ∧ wx.heap[T]? = some (.cells (tcells l0.length 0 (.slice A k c) (.slice (some ⟨Bl, 0, none⟩) l0.length l0.length) Mp w.heap.size) 94 (0, 0))
     ∧ wx.heap[Mp]? = some (.map #[] 0) ∧ wx.heap[Bl]? = some (.cells (madeCells #[.bool false] l0.length) 4 (0, 0)) ∧ wx.heap[w.heap.size]? = some (.cells sc 69 (0, 0)) ∧ Aside0 (Kd.R (Kd.int .i64) 3 wx (w.heap.size + 1) (fun k => k ≠ T) (.slice A k c) l0) ∧ Below w.heap.size w wx ∧ w.heap.size < T ∧ w.heap.size < Mp ∧ w.heap.size < Bl)
  case first =>
    refine wp_region_any (by kernel_rfl) ?_
    change wpAny _ _ _ _ _ _ _ (World.drew _)
    refine wpAny_take (i := 0) (v := ?vv1) rfl (by kernel_rfl) (by kernel_rfl) (by kernel_rfl) (fun _ _ _ h => h) (Or.inl ⟨by rfl, ?hy1⟩) ?_
    case hy1 => intro w; first | (go_simp; done) | (go_simp; with_reducible rfl)
    refine wpAny_take (i := 1) (v := ?vv2) rfl (by kernel_rfl) (by kernel_rfl) (by kernel_rfl) (fun _ _ _ h => h) (Or.inl ⟨by rfl, ?hy2⟩) ?_
    case hy2 => intro w; first | (go_simp; done) | (go_simp; with_reducible rfl)
    refine wpAny_take (i := 3) (v := ?vv3) rfl (by kernel_rfl) (by kernel_rfl) (by kernel_rfl) (fun _ _ _ h => h) (Or.inl ⟨by rfl, ?hy3⟩) ?_
    case hy3 => intro w; first | (go_simp; done) | (go_simp; with_reducible rfl)
    refine wpAny_take (i := 6) (v := ?vv4) rfl (by kernel_rfl) (by kernel_rfl) (by kernel_rfl) (fun _ _ _ h => h) (Or.inl ⟨by rfl, ?hy4⟩) ?_
    case hy4 => intro w; first | (go_simp; done) | (go_simp; with_reducible rfl)
    refine wpAny_take (i := 7) (v := ?vv5) rfl (by kernel_rfl) (by kernel_rfl) (by kernel_rfl) (fun _ _ _ h => h) (Or.inl ⟨by rfl, ?hy5⟩) ?_
    case hy5 => intro w; first | (go_simp; done) | (go_simp; with_reducible rfl)
    refine wpAny_ready (rs := [2, 5, 8]) (by kernel_rfl) (by simp) ?_
    refine AllReady.cons rfl (fun K hK => ?_) ?_
    · go_simp
      refine hK _ _ ?_; clear hK K
      refine wpAny_ready (rs := [4, 5, 8]) (by kernel_rfl) (by simp) ?_
      refine AllReady.cons rfl (fun K hK => ?_) ?_
      · refine step_app rfl rfl _ A0 c0 l0 rfl rfl ?hC7 h0 (w.heap.size + 1) ?hb7 ?hB7 ?_
        case hC7 => exact Kd.C_below HR0.out (by with_reducible repeat (first | apply below_alloc | apply below_drew1 | exact Below.refl _ _))
        case hB7 => repeat (first | exact new' (by simp only [World.size_alloc]; first | done | rfl | omega) | refine old ?_ | refine dre ?_)
        case hb7 => first | exact Nat.le_refl _ | omega | (simp only [World.size_alloc]; omega)
        intro A' k' c' w' hR hgrow
        refine hK _ _ ?_; clear hK K
        refine wpAny_ready (rs := [5, 8]) (by kernel_rfl) (by simp) ?_
        refine AllReady.cons rfl (fun K hK => ?_) ?_
        · go_simp
          refine hK _ _ ?_; clear hK K
          refine wpAny_ready (rs := [8]) (by kernel_rfl) (by simp) ?_
          refine AllReady.cons rfl (fun K hK => ?_) AllReady.nil
          go_simp
          refine hK _ _ ?_; clear hK K
          refine wpAny_ready (rs := [9]) (by kernel_rfl) (by simp) ?_
          refine AllReady.cons rfl (fun K hK => ?_) AllReady.nil
          refine step_build94 rfl rfl _ _ _ _ _ _ _ _ _ rfl rfl rfl rfl rfl ?_
          refine hK _ _ ?_; clear hK K
          refine wpAny_ready (rs := [10]) (by kernel_rfl) (by simp) ?_
          refine AllReady.cons rfl (fun K hK => ?_) AllReady.nil
          go_simp
          refine hK _ _ ?_; clear hK K
          refine wpAny_take (i := 11) (v := ?vv12) rfl (by kernel_rfl) (by kernel_rfl) (by kernel_rfl) (fun _ _ _ h => h) (Or.inl ⟨by rfl, ?hy12⟩) ?_
          case hy12 => intro w; first | (go_simp; done) | (go_simp; with_reducible rfl)
          refine wpAny_done (by kernel_rfl) ?_ _
          go_wp2_with (fail)
          go_meet
          case rel =>
            refine ⟨_, ?_, ?_, ?_, ?_, ?_, rfl, ?t1_13, ?t2_13, ?t3_13, ?t4_13, ⟨?t5_13⟩, ?t6_13, ?t7_13, ?t8_13, ?t9_13⟩
            case t1_13 => with_reducible refine new' ?_; simp only [World.size_alloc]
            case t2_13 => repeat (first | (with_reducible refine new' ?_; simp only [World.size_alloc]; first | done | (with_reducible rfl) | omega) | with_reducible refine old ?_ | with_reducible refine dre ?_ | with_reducible refine gro_map hgrow ?_ | with_reducible refine gro_cells n4 hgrow ?_ | with_reducible refine gro_cells n69 hgrow ?_ | with_reducible refine gro_cells n94 hgrow ?_)
            case t3_13 => repeat (first | (with_reducible refine new' ?_; simp only [World.size_alloc]; first | done | (with_reducible rfl) | omega) | with_reducible refine old ?_ | with_reducible refine dre ?_ | with_reducible refine gro_map hgrow ?_ | with_reducible refine gro_cells n4 hgrow ?_ | with_reducible refine gro_cells n69 hgrow ?_ | with_reducible refine gro_cells n94 hgrow ?_)
            case t4_13 => repeat (first | (with_reducible refine new' ?_; simp only [World.size_alloc]; first | done | (with_reducible rfl) | omega) | with_reducible refine old ?_ | with_reducible refine dre ?_ | with_reducible refine gro_map hgrow ?_ | with_reducible refine gro_cells n4 hgrow ?_ | with_reducible refine gro_cells n69 hgrow ?_ | with_reducible refine gro_cells n94 hgrow ?_)
            case t5_13 =>
              refine Kd.R_mono (ok := fun k => k < w'.heap.size) ?_ (fun k (hk : k < w'.heap.size) => by show k ≠ _; omega)
              repeat (first | exact hR | apply Kd.R_alloc)
            case t7_13 => have := hgrow.size; simp only [World.size_alloc, World.drew] at *; omega
            case t8_13 => have := hgrow.size; simp only [World.size_alloc, World.drew] at *; omega
            case t9_13 => have := hgrow.size; simp only [World.size_alloc, World.drew] at *; omega
            case t6_13 => repeat (first | exact Below.refl _ _ | apply below_alloc | apply below_drew1 | refine below_gro hgrow (by omega) ?_)
        refine AllReady.cons rfl (fun K hK => ?_) AllReady.nil
        go_simp
        refine hK _ _ ?_; clear hK K
        refine wpAny_ready (rs := [5]) (by kernel_rfl) (by simp) ?_
        refine AllReady.cons rfl (fun K hK => ?_) AllReady.nil
        go_simp
        refine hK _ _ ?_; clear hK K
        refine wpAny_ready (rs := [9]) (by kernel_rfl) (by simp) ?_
        refine AllReady.cons rfl (fun K hK => ?_) AllReady.nil
        refine step_build94 rfl rfl _ _ _ _ _ _ _ _ _ rfl rfl rfl rfl rfl ?_
        refine hK _ _ ?_; clear hK K
        refine wpAny_ready (rs := [10]) (by kernel_rfl) (by simp) ?_
        refine AllReady.cons rfl (fun K hK => ?_) AllReady.nil
        go_simp
        refine hK _ _ ?_; clear hK K
        refine wpAny_take (i := 11) (v := ?vv18) rfl (by kernel_rfl) (by kernel_rfl) (by kernel_rfl) (fun _ _ _ h => h) (Or.inl ⟨by rfl, ?hy18⟩) ?_
        case hy18 => intro w; first | (go_simp; done) | (go_simp; with_reducible rfl)
        refine wpAny_done (by kernel_rfl) ?_ _
        go_wp2_with (fail)
        go_meet
        case rel =>
          refine ⟨_, ?_, ?_, ?_, ?_, ?_, rfl, ?t1_19, ?t2_19, ?t3_19, ?t4_19, ⟨?t5_19⟩, ?t6_19, ?t7_19, ?t8_19, ?t9_19⟩
          case t1_19 => with_reducible refine new' ?_; simp only [World.size_alloc]
          case t2_19 => repeat (first | (with_reducible refine new' ?_; simp only [World.size_alloc]; first | done | (with_reducible rfl) | omega) | with_reducible refine old ?_ | with_reducible refine dre ?_ | with_reducible refine gro_map hgrow ?_ | with_reducible refine gro_cells n4 hgrow ?_ | with_reducible refine gro_cells n69 hgrow ?_ | with_reducible refine gro_cells n94 hgrow ?_)
          case t3_19 => repeat (first | (with_reducible refine new' ?_; simp only [World.size_alloc]; first | done | (with_reducible rfl) | omega) | with_reducible refine old ?_ | with_reducible refine dre ?_ | with_reducible refine gro_map hgrow ?_ | with_reducible refine gro_cells n4 hgrow ?_ | with_reducible refine gro_cells n69 hgrow ?_ | with_reducible refine gro_cells n94 hgrow ?_)
          case t4_19 => repeat (first | (with_reducible refine new' ?_; simp only [World.size_alloc]; first | done | (with_reducible rfl) | omega) | with_reducible refine old ?_ | with_reducible refine dre ?_ | with_reducible refine gro_map hgrow ?_ | with_reducible refine gro_cells n4 hgrow ?_ | with_reducible refine gro_cells n69 hgrow ?_ | with_reducible refine gro_cells n94 hgrow ?_)
          case t5_19 =>
            refine Kd.R_mono (ok := fun k => k < w'.heap.size) ?_ (fun k (hk : k < w'.heap.size) => by show k ≠ _; omega)
            repeat (first | exact hR | apply Kd.R_alloc)
          case t7_19 => have := hgrow.size; simp only [World.size_alloc, World.drew] at *; omega
          case t8_19 => have := hgrow.size; simp only [World.size_alloc, World.drew] at *; omega
          case t9_19 => have := hgrow.size; simp only [World.size_alloc, World.drew] at *; omega
          case t6_19 => repeat (first | exact Below.refl _ _ | apply below_alloc | apply below_drew1 | refine below_gro hgrow (by omega) ?_)
      refine AllReady.cons rfl (fun K hK => ?_) ?_
      · go_simp
        refine hK _ _ ?_; clear hK K
        refine wpAny_ready (rs := [4, 8]) (by kernel_rfl) (by simp) ?_
        refine AllReady.cons rfl (fun K hK => ?_) ?_
        · refine step_app rfl rfl _ A0 c0 l0 rfl rfl ?hC21 h0 (w.heap.size + 1) ?hb21 ?hB21 ?_
          case hC21 => exact Kd.C_below HR0.out (by with_reducible repeat (first | apply below_alloc | apply below_drew1 | exact Below.refl _ _))
          case hB21 => repeat (first | exact new' (by simp only [World.size_alloc]; first | done | rfl | omega) | refine old ?_ | refine dre ?_)
          case hb21 => first | exact Nat.le_refl _ | omega | (simp only [World.size_alloc]; omega)
          intro A' k' c' w' hR hgrow
          refine hK _ _ ?_; clear hK K
          refine wpAny_ready (rs := [8]) (by kernel_rfl) (by simp) ?_
          refine AllReady.cons rfl (fun K hK => ?_) AllReady.nil
          go_simp
          refine hK _ _ ?_; clear hK K
          refine wpAny_ready (rs := [9]) (by kernel_rfl) (by simp) ?_
          refine AllReady.cons rfl (fun K hK => ?_) AllReady.nil
          refine step_build94 rfl rfl _ _ _ _ _ _ _ _ _ rfl rfl rfl rfl rfl ?_
          refine hK _ _ ?_; clear hK K
          refine wpAny_ready (rs := [10]) (by kernel_rfl) (by simp) ?_
          refine AllReady.cons rfl (fun K hK => ?_) AllReady.nil
          go_simp
          refine hK _ _ ?_; clear hK K
          refine wpAny_take (i := 11) (v := ?vv25) rfl (by kernel_rfl) (by kernel_rfl) (by kernel_rfl) (fun _ _ _ h => h) (Or.inl ⟨by rfl, ?hy25⟩) ?_
          case hy25 => intro w; first | (go_simp; done) | (go_simp; with_reducible rfl)
          refine wpAny_done (by kernel_rfl) ?_ _
          go_wp2_with (fail)
          go_meet
          case rel =>
            refine ⟨_, ?_, ?_, ?_, ?_, ?_, rfl, ?t1_26, ?t2_26, ?t3_26, ?t4_26, ⟨?t5_26⟩, ?t6_26, ?t7_26, ?t8_26, ?t9_26⟩
            case t1_26 => with_reducible refine new' ?_; simp only [World.size_alloc]
            case t2_26 => repeat (first | (with_reducible refine new' ?_; simp only [World.size_alloc]; first | done | (with_reducible rfl) | omega) | with_reducible refine old ?_ | with_reducible refine dre ?_ | with_reducible refine gro_map hgrow ?_ | with_reducible refine gro_cells n4 hgrow ?_ | with_reducible refine gro_cells n69 hgrow ?_ | with_reducible refine gro_cells n94 hgrow ?_)
            case t3_26 => repeat (first | (with_reducible refine new' ?_; simp only [World.size_alloc]; first | done | (with_reducible rfl) | omega) | with_reducible refine old ?_ | with_reducible refine dre ?_ | with_reducible refine gro_map hgrow ?_ | with_reducible refine gro_cells n4 hgrow ?_ | with_reducible refine gro_cells n69 hgrow ?_ | with_reducible refine gro_cells n94 hgrow ?_)
            case t4_26 => repeat (first | (with_reducible refine new' ?_; simp only [World.size_alloc]; first | done | (with_reducible rfl) | omega) | with_reducible refine old ?_ | with_reducible refine dre ?_ | with_reducible refine gro_map hgrow ?_ | with_reducible refine gro_cells n4 hgrow ?_ | with_reducible refine gro_cells n69 hgrow ?_ | with_reducible refine gro_cells n94 hgrow ?_)
            case t5_26 =>
              refine Kd.R_mono (ok := fun k => k < w'.heap.size) ?_ (fun k (hk : k < w'.heap.size) => by show k ≠ _; omega)
              repeat (first | exact hR | apply Kd.R_alloc)
            case t7_26 => have := hgrow.size; simp only [World.size_alloc, World.drew] at *; omega
            case t8_26 => have := hgrow.size; simp only [World.size_alloc, World.drew] at *; omega
            case t9_26 => have := hgrow.size; simp only [World.size_alloc, World.drew] at *; omega
            case t6_26 => repeat (first | exact Below.refl _ _ | apply below_alloc | apply below_drew1 | refine below_gro hgrow (by omega) ?_)
        refine AllReady.cons rfl (fun K hK => ?_) AllReady.nil
        go_simp
        refine hK _ _ ?_; clear hK K
        refine wpAny_ready (rs := [4]) (by kernel_rfl) (by simp) ?_
        refine AllReady.cons rfl (fun K hK => ?_) AllReady.nil
        refine step_app rfl rfl _ A0 c0 l0 rfl rfl ?hC28 h0 (w.heap.size + 1) ?hb28 ?hB28 ?_
        case hC28 => exact Kd.C_below HR0.out (by with_reducible repeat (first | apply below_alloc | apply below_drew1 | exact Below.refl _ _))
        case hB28 => repeat (first | exact new' (by simp only [World.size_alloc]; first | done | rfl | omega) | refine old ?_ | refine dre ?_)
        case hb28 => first | exact Nat.le_refl _ | omega | (simp only [World.size_alloc]; omega)
        intro A' k' c' w' hR hgrow
        refine hK _ _ ?_; clear hK K
        refine wpAny_ready (rs := [9]) (by kernel_rfl) (by simp) ?_
        refine AllReady.cons rfl (fun K hK => ?_) AllReady.nil
        refine step_build94 rfl rfl _ _ _ _ _ _ _ _ _ rfl rfl rfl rfl rfl ?_
        refine hK _ _ ?_; clear hK K
        refine wpAny_ready (rs := [10]) (by kernel_rfl) (by simp) ?_
        refine AllReady.cons rfl (fun K hK => ?_) AllReady.nil
        go_simp
        refine hK _ _ ?_; clear hK K
        refine wpAny_take (i := 11) (v := ?vv31) rfl (by kernel_rfl) (by kernel_rfl) (by kernel_rfl) (fun _ _ _ h => h) (Or.inl ⟨by rfl, ?hy31⟩) ?_
        case hy31 => intro w; first | (go_simp; done) | (go_simp; with_reducible rfl)
        refine wpAny_done (by kernel_rfl) ?_ _
        go_wp2_with (fail)
        go_meet
        case rel =>
          refine ⟨_, ?_, ?_, ?_, ?_, ?_, rfl, ?t1_32, ?t2_32, ?t3_32, ?t4_32, ⟨?t5_32⟩, ?t6_32, ?t7_32, ?t8_32, ?t9_32⟩
          case t1_32 => with_reducible refine new' ?_; simp only [World.size_alloc]
          case t2_32 => repeat (first | (with_reducible refine new' ?_; simp only [World.size_alloc]; first | done | (with_reducible rfl) | omega) | with_reducible refine old ?_ | with_reducible refine dre ?_ | with_reducible refine gro_map hgrow ?_ | with_reducible refine gro_cells n4 hgrow ?_ | with_reducible refine gro_cells n69 hgrow ?_ | with_reducible refine gro_cells n94 hgrow ?_)
          case t3_32 => repeat (first | (with_reducible refine new' ?_; simp only [World.size_alloc]; first | done | (with_reducible rfl) | omega) | with_reducible refine old ?_ | with_reducible refine dre ?_ | with_reducible refine gro_map hgrow ?_ | with_reducible refine gro_cells n4 hgrow ?_ | with_reducible refine gro_cells n69 hgrow ?_ | with_reducible refine gro_cells n94 hgrow ?_)
          case t4_32 => repeat (first | (with_reducible refine new' ?_; simp only [World.size_alloc]; first | done | (with_reducible rfl) | omega) | with_reducible refine old ?_ | with_reducible refine dre ?_ | with_reducible refine gro_map hgrow ?_ | with_reducible refine gro_cells n4 hgrow ?_ | with_reducible refine gro_cells n69 hgrow ?_ | with_reducible refine gro_cells n94 hgrow ?_)
          case t5_32 =>
            refine Kd.R_mono (ok := fun k => k < w'.heap.size) ?_ (fun k (hk : k < w'.heap.size) => by show k ≠ _; omega)
            repeat (first | exact hR | apply Kd.R_alloc)
          case t7_32 => have := hgrow.size; simp only [World.size_alloc, World.drew] at *; omega
          case t8_32 => have := hgrow.size; simp only [World.size_alloc, World.drew] at *; omega
          case t9_32 => have := hgrow.size; simp only [World.size_alloc, World.drew] at *; omega
          case t6_32 => repeat (first | exact Below.refl _ _ | apply below_alloc | apply below_drew1 | refine below_gro hgrow (by omega) ?_)
      refine AllReady.cons rfl (fun K hK => ?_) AllReady.nil
      go_simp
      refine hK _ _ ?_; clear hK K
      refine wpAny_ready (rs := [4, 5]) (by kernel_rfl) (by simp) ?_
      refine AllReady.cons rfl (fun K hK => ?_) ?_
      · refine step_app rfl rfl _ A0 c0 l0 rfl rfl ?hC34 h0 (w.heap.size + 1) ?hb34 ?hB34 ?_
        case hC34 => exact Kd.C_below HR0.out (by with_reducible repeat (first | apply below_alloc | apply below_drew1 | exact Below.refl _ _))
        case hB34 => repeat (first | exact new' (by simp only [World.size_alloc]; first | done | rfl | omega) | refine old ?_ | refine dre ?_)
        case hb34 => first | exact Nat.le_refl _ | omega | (simp only [World.size_alloc]; omega)
        intro A' k' c' w' hR hgrow
        refine hK _ _ ?_; clear hK K
        refine wpAny_ready (rs := [5]) (by kernel_rfl) (by simp) ?_
        refine AllReady.cons rfl (fun K hK => ?_) AllReady.nil
        go_simp
        refine hK _ _ ?_; clear hK K
        refine wpAny_ready (rs := [9]) (by kernel_rfl) (by simp) ?_
        refine AllReady.cons rfl (fun K hK => ?_) AllReady.nil
        refine step_build94 rfl rfl _ _ _ _ _ _ _ _ _ rfl rfl rfl rfl rfl ?_
        refine hK _ _ ?_; clear hK K
        refine wpAny_ready (rs := [10]) (by kernel_rfl) (by simp) ?_
        refine AllReady.cons rfl (fun K hK => ?_) AllReady.nil
        go_simp
        refine hK _ _ ?_; clear hK K
        refine wpAny_take (i := 11) (v := ?vv38) rfl (by kernel_rfl) (by kernel_rfl) (by kernel_rfl) (fun _ _ _ h => h) (Or.inl ⟨by rfl, ?hy38⟩) ?_
        case hy38 => intro w; first | (go_simp; done) | (go_simp; with_reducible rfl)
        refine wpAny_done (by kernel_rfl) ?_ _
        go_wp2_with (fail)
        go_meet
        case rel =>
          refine ⟨_, ?_, ?_, ?_, ?_, ?_, rfl, ?t1_39, ?t2_39, ?t3_39, ?t4_39, ⟨?t5_39⟩, ?t6_39, ?t7_39, ?t8_39, ?t9_39⟩
          case t1_39 => with_reducible refine new' ?_; simp only [World.size_alloc]
          case t2_39 => repeat (first | (with_reducible refine new' ?_; simp only [World.size_alloc]; first | done | (with_reducible rfl) | omega) | with_reducible refine old ?_ | with_reducible refine dre ?_ | with_reducible refine gro_map hgrow ?_ | with_reducible refine gro_cells n4 hgrow ?_ | with_reducible refine gro_cells n69 hgrow ?_ | with_reducible refine gro_cells n94 hgrow ?_)
          case t3_39 => repeat (first | (with_reducible refine new' ?_; simp only [World.size_alloc]; first | done | (with_reducible rfl) | omega) | with_reducible refine old ?_ | with_reducible refine dre ?_ | with_reducible refine gro_map hgrow ?_ | with_reducible refine gro_cells n4 hgrow ?_ | with_reducible refine gro_cells n69 hgrow ?_ | with_reducible refine gro_cells n94 hgrow ?_)
          case t4_39 => repeat (first | (with_reducible refine new' ?_; simp only [World.size_alloc]; first | done | (with_reducible rfl) | omega) | with_reducible refine old ?_ | with_reducible refine dre ?_ | with_reducible refine gro_map hgrow ?_ | with_reducible refine gro_cells n4 hgrow ?_ | with_reducible refine gro_cells n69 hgrow ?_ | with_reducible refine gro_cells n94 hgrow ?_)
          case t5_39 =>
            refine Kd.R_mono (ok := fun k => k < w'.heap.size) ?_ (fun k (hk : k < w'.heap.size) => by show k ≠ _; omega)
            repeat (first | exact hR | apply Kd.R_alloc)
          case t7_39 => have := hgrow.size; simp only [World.size_alloc, World.drew] at *; omega
          case t8_39 => have := hgrow.size; simp only [World.size_alloc, World.drew] at *; omega
          case t9_39 => have := hgrow.size; simp only [World.size_alloc, World.drew] at *; omega
          case t6_39 => repeat (first | exact Below.refl _ _ | apply below_alloc | apply below_drew1 | refine below_gro hgrow (by omega) ?_)
      refine AllReady.cons rfl (fun K hK => ?_) AllReady.nil
      go_simp
      refine hK _ _ ?_; clear hK K
      refine wpAny_ready (rs := [4]) (by kernel_rfl) (by simp) ?_
      refine AllReady.cons rfl (fun K hK => ?_) AllReady.nil
      refine step_app rfl rfl _ A0 c0 l0 rfl rfl ?hC41 h0 (w.heap.size + 1) ?hb41 ?hB41 ?_
      case hC41 => exact Kd.C_below HR0.out (by with_reducible repeat (first | apply below_alloc | apply below_drew1 | exact Below.refl _ _))
      case hB41 => repeat (first | exact new' (by simp only [World.size_alloc]; first | done | rfl | omega) | refine old ?_ | refine dre ?_)
      case hb41 => first | exact Nat.le_refl _ | omega | (simp only [World.size_alloc]; omega)
      intro A' k' c' w' hR hgrow
      refine hK _ _ ?_; clear hK K
      refine wpAny_ready (rs := [9]) (by kernel_rfl) (by simp) ?_
      refine AllReady.cons rfl (fun K hK => ?_) AllReady.nil
      refine step_build94 rfl rfl _ _ _ _ _ _ _ _ _ rfl rfl rfl rfl rfl ?_
      refine hK _ _ ?_; clear hK K
      refine wpAny_ready (rs := [10]) (by kernel_rfl) (by simp) ?_
      refine AllReady.cons rfl (fun K hK => ?_) AllReady.nil
      go_simp
      refine hK _ _ ?_; clear hK K
      refine wpAny_take (i := 11) (v := ?vv44) rfl (by kernel_rfl) (by kernel_rfl) (by kernel_rfl) (fun _ _ _ h => h) (Or.inl ⟨by rfl, ?hy44⟩) ?_
      case hy44 => intro w; first | (go_simp; done) | (go_simp; with_reducible rfl)
      refine wpAny_done (by kernel_rfl) ?_ _
      go_wp2_with (fail)
      go_meet
      case rel =>
        refine ⟨_, ?_, ?_, ?_, ?_, ?_, rfl, ?t1_45, ?t2_45, ?t3_45, ?t4_45, ⟨?t5_45⟩, ?t6_45, ?t7_45, ?t8_45, ?t9_45⟩
        case t1_45 => with_reducible refine new' ?_; simp only [World.size_alloc]
        case t2_45 => repeat (first | (with_reducible refine new' ?_; simp only [World.size_alloc]; first | done | (with_reducible rfl) | omega) | with_reducible refine old ?_ | with_reducible refine dre ?_ | with_reducible refine gro_map hgrow ?_ | with_reducible refine gro_cells n4 hgrow ?_ | with_reducible refine gro_cells n69 hgrow ?_ | with_reducible refine gro_cells n94 hgrow ?_)
        case t3_45 => repeat (first | (with_reducible refine new' ?_; simp only [World.size_alloc]; first | done | (with_reducible rfl) | omega) | with_reducible refine old ?_ | with_reducible refine dre ?_ | with_reducible refine gro_map hgrow ?_ | with_reducible refine gro_cells n4 hgrow ?_ | with_reducible refine gro_cells n69 hgrow ?_ | with_reducible refine gro_cells n94 hgrow ?_)
        case t4_45 => repeat (first | (with_reducible refine new' ?_; simp only [World.size_alloc]; first | done | (with_reducible rfl) | omega) | with_reducible refine old ?_ | with_reducible refine dre ?_ | with_reducible refine gro_map hgrow ?_ | with_reducible refine gro_cells n4 hgrow ?_ | with_reducible refine gro_cells n69 hgrow ?_ | with_reducible refine gro_cells n94 hgrow ?_)
        case t5_45 =>
          refine Kd.R_mono (ok := fun k => k < w'.heap.size) ?_ (fun k (hk : k < w'.heap.size) => by show k ≠ _; omega)
          repeat (first | exact hR | apply Kd.R_alloc)
        case t7_45 => have := hgrow.size; simp only [World.size_alloc, World.drew] at *; omega
        case t8_45 => have := hgrow.size; simp only [World.size_alloc, World.drew] at *; omega
        case t9_45 => have := hgrow.size; simp only [World.size_alloc, World.drew] at *; omega
        case t6_45 => repeat (first | exact Below.refl _ _ | apply below_alloc | apply below_drew1 | refine below_gro hgrow (by omega) ?_)
    refine AllReady.cons rfl (fun K hK => ?_) ?_
    · go_simp
      refine hK _ _ ?_; clear hK K
      refine wpAny_ready (rs := [2, 8]) (by kernel_rfl) (by simp) ?_
      refine AllReady.cons rfl (fun K hK => ?_) ?_
      · go_simp
        refine hK _ _ ?_; clear hK K
        refine wpAny_ready (rs := [4, 8]) (by kernel_rfl) (by simp) ?_
        refine AllReady.cons rfl (fun K hK => ?_) ?_
        · refine step_app rfl rfl _ A0 c0 l0 rfl rfl ?hC48 h0 (w.heap.size + 1) ?hb48 ?hB48 ?_
          case hC48 => exact Kd.C_below HR0.out (by with_reducible repeat (first | apply below_alloc | apply below_drew1 | exact Below.refl _ _))
          case hB48 => repeat (first | exact new' (by simp only [World.size_alloc]; first | done | rfl | omega) | refine old ?_ | refine dre ?_)
          case hb48 => first | exact Nat.le_refl _ | omega | (simp only [World.size_alloc]; omega)
          intro A' k' c' w' hR hgrow
          refine hK _ _ ?_; clear hK K
          refine wpAny_ready (rs := [8]) (by kernel_rfl) (by simp) ?_
          refine AllReady.cons rfl (fun K hK => ?_) AllReady.nil
          go_simp
          refine hK _ _ ?_; clear hK K
          refine wpAny_ready (rs := [9]) (by kernel_rfl) (by simp) ?_
          refine AllReady.cons rfl (fun K hK => ?_) AllReady.nil
          refine step_build94 rfl rfl _ _ _ _ _ _ _ _ _ rfl rfl rfl rfl rfl ?_
          refine hK _ _ ?_; clear hK K
          refine wpAny_ready (rs := [10]) (by kernel_rfl) (by simp) ?_
          refine AllReady.cons rfl (fun K hK => ?_) AllReady.nil
          go_simp
          refine hK _ _ ?_; clear hK K
          refine wpAny_take (i := 11) (v := ?vv52) rfl (by kernel_rfl) (by kernel_rfl) (by kernel_rfl) (fun _ _ _ h => h) (Or.inl ⟨by rfl, ?hy52⟩) ?_
          case hy52 => intro w; first | (go_simp; done) | (go_simp; with_reducible rfl)
          refine wpAny_done (by kernel_rfl) ?_ _
          go_wp2_with (fail)
          go_meet
          case rel =>
            refine ⟨_, ?_, ?_, ?_, ?_, ?_, rfl, ?t1_53, ?t2_53, ?t3_53, ?t4_53, ⟨?t5_53⟩, ?t6_53, ?t7_53, ?t8_53, ?t9_53⟩
            case t1_53 => with_reducible refine new' ?_; simp only [World.size_alloc]
            case t2_53 => repeat (first | (with_reducible refine new' ?_; simp only [World.size_alloc]; first | done | (with_reducible rfl) | omega) | with_reducible refine old ?_ | with_reducible refine dre ?_ | with_reducible refine gro_map hgrow ?_ | with_reducible refine gro_cells n4 hgrow ?_ | with_reducible refine gro_cells n69 hgrow ?_ | with_reducible refine gro_cells n94 hgrow ?_)
            case t3_53 => repeat (first | (with_reducible refine new' ?_; simp only [World.size_alloc]; first | done | (with_reducible rfl) | omega) | with_reducible refine old ?_ | with_reducible refine dre ?_ | with_reducible refine gro_map hgrow ?_ | with_reducible refine gro_cells n4 hgrow ?_ | with_reducible refine gro_cells n69 hgrow ?_ | with_reducible refine gro_cells n94 hgrow ?_)
            case t4_53 => repeat (first | (with_reducible refine new' ?_; simp only [World.size_alloc]; first | done | (with_reducible rfl) | omega) | with_reducible refine old ?_ | with_reducible refine dre ?_ | with_reducible refine gro_map hgrow ?_ | with_reducible refine gro_cells n4 hgrow ?_ | with_reducible refine gro_cells n69 hgrow ?_ | with_reducible refine gro_cells n94 hgrow ?_)
            case t5_53 =>
              refine Kd.R_mono (ok := fun k => k < w'.heap.size) ?_ (fun k (hk : k < w'.heap.size) => by show k ≠ _; omega)
              repeat (first | exact hR | apply Kd.R_alloc)
            case t7_53 => have := hgrow.size; simp only [World.size_alloc, World.drew] at *; omega
            case t8_53 => have := hgrow.size; simp only [World.size_alloc, World.drew] at *; omega
            case t9_53 => have := hgrow.size; simp only [World.size_alloc, World.drew] at *; omega
            case t6_53 => repeat (first | exact Below.refl _ _ | apply below_alloc | apply below_drew1 | refine below_gro hgrow (by omega) ?_)
        refine AllReady.cons rfl (fun K hK => ?_) AllReady.nil
        go_simp
        refine hK _ _ ?_; clear hK K
        refine wpAny_ready (rs := [4]) (by kernel_rfl) (by simp) ?_
        refine AllReady.cons rfl (fun K hK => ?_) AllReady.nil
        refine step_app rfl rfl _ A0 c0 l0 rfl rfl ?hC55 h0 (w.heap.size + 1) ?hb55 ?hB55 ?_
        case hC55 => exact Kd.C_below HR0.out (by with_reducible repeat (first | apply below_alloc | apply below_drew1 | exact Below.refl _ _))
        case hB55 => repeat (first | exact new' (by simp only [World.size_alloc]; first | done | rfl | omega) | refine old ?_ | refine dre ?_)
        case hb55 => first | exact Nat.le_refl _ | omega | (simp only [World.size_alloc]; omega)
        intro A' k' c' w' hR hgrow
        refine hK _ _ ?_; clear hK K
        refine wpAny_ready (rs := [9]) (by kernel_rfl) (by simp) ?_
        refine AllReady.cons rfl (fun K hK => ?_) AllReady.nil
        refine step_build94 rfl rfl _ _ _ _ _ _ _ _ _ rfl rfl rfl rfl rfl ?_
        refine hK _ _ ?_; clear hK K
        refine wpAny_ready (rs := [10]) (by kernel_rfl) (by simp) ?_
        refine AllReady.cons rfl (fun K hK => ?_) AllReady.nil
        go_simp
        refine hK _ _ ?_; clear hK K
        refine wpAny_take (i := 11) (v := ?vv58) rfl (by kernel_rfl) (by kernel_rfl) (by kernel_rfl) (fun _ _ _ h => h) (Or.inl ⟨by rfl, ?hy58⟩) ?_
        case hy58 => intro w; first | (go_simp; done) | (go_simp; with_reducible rfl)
        refine wpAny_done (by kernel_rfl) ?_ _
        go_wp2_with (fail)
        go_meet
        case rel =>
          refine ⟨_, ?_, ?_, ?_, ?_, ?_, rfl, ?t1_59, ?t2_59, ?t3_59, ?t4_59, ⟨?t5_59⟩, ?t6_59, ?t7_59, ?t8_59, ?t9_59⟩
          case t1_59 => with_reducible refine new' ?_; simp only [World.size_alloc]
          case t2_59 => repeat (first | (with_reducible refine new' ?_; simp only [World.size_alloc]; first | done | (with_reducible rfl) | omega) | with_reducible refine old ?_ | with_reducible refine dre ?_ | with_reducible refine gro_map hgrow ?_ | with_reducible refine gro_cells n4 hgrow ?_ | with_reducible refine gro_cells n69 hgrow ?_ | with_reducible refine gro_cells n94 hgrow ?_)
          case t3_59 => repeat (first | (with_reducible refine new' ?_; simp only [World.size_alloc]; first | done | (with_reducible rfl) | omega) | with_reducible refine old ?_ | with_reducible refine dre ?_ | with_reducible refine gro_map hgrow ?_ | with_reducible refine gro_cells n4 hgrow ?_ | with_reducible refine gro_cells n69 hgrow ?_ | with_reducible refine gro_cells n94 hgrow ?_)
          case t4_59 => repeat (first | (with_reducible refine new' ?_; simp only [World.size_alloc]; first | done | (with_reducible rfl) | omega) | with_reducible refine old ?_ | with_reducible refine dre ?_ | with_reducible refine gro_map hgrow ?_ | with_reducible refine gro_cells n4 hgrow ?_ | with_reducible refine gro_cells n69 hgrow ?_ | with_reducible refine gro_cells n94 hgrow ?_)
          case t5_59 =>
            refine Kd.R_mono (ok := fun k => k < w'.heap.size) ?_ (fun k (hk : k < w'.heap.size) => by show k ≠ _; omega)
            repeat (first | exact hR | apply Kd.R_alloc)
          case t7_59 => have := hgrow.size; simp only [World.size_alloc, World.drew] at *; omega
          case t8_59 => have := hgrow.size; simp only [World.size_alloc, World.drew] at *; omega
          case t9_59 => have := hgrow.size; simp only [World.size_alloc, World.drew] at *; omega
          case t6_59 => repeat (first | exact Below.refl _ _ | apply below_alloc | apply below_drew1 | refine below_gro hgrow (by omega) ?_)
      refine AllReady.cons rfl (fun K hK => ?_) AllReady.nil
      go_simp
      refine hK _ _ ?_; clear hK K
      refine wpAny_ready (rs := [2]) (by kernel_rfl) (by simp) ?_
      refine AllReady.cons rfl (fun K hK => ?_) AllReady.nil
      go_simp
      refine hK _ _ ?_; clear hK K
      refine wpAny_ready (rs := [4]) (by kernel_rfl) (by simp) ?_
      refine AllReady.cons rfl (fun K hK => ?_) AllReady.nil
      refine step_app rfl rfl _ A0 c0 l0 rfl rfl ?hC62 h0 (w.heap.size + 1) ?hb62 ?hB62 ?_
      case hC62 => exact Kd.C_below HR0.out (by with_reducible repeat (first | apply below_alloc | apply below_drew1 | exact Below.refl _ _))
      case hB62 => repeat (first | exact new' (by simp only [World.size_alloc]; first | done | rfl | omega) | refine old ?_ | refine dre ?_)
      case hb62 => first | exact Nat.le_refl _ | omega | (simp only [World.size_alloc]; omega)
      intro A' k' c' w' hR hgrow
      refine hK _ _ ?_; clear hK K
      refine wpAny_ready (rs := [9]) (by kernel_rfl) (by simp) ?_
      refine AllReady.cons rfl (fun K hK => ?_) AllReady.nil
      refine step_build94 rfl rfl _ _ _ _ _ _ _ _ _ rfl rfl rfl rfl rfl ?_
      refine hK _ _ ?_; clear hK K
      refine wpAny_ready (rs := [10]) (by kernel_rfl) (by simp) ?_
      refine AllReady.cons rfl (fun K hK => ?_) AllReady.nil
      go_simp
      refine hK _ _ ?_; clear hK K
      refine wpAny_take (i := 11) (v := ?vv65) rfl (by kernel_rfl) (by kernel_rfl) (by kernel_rfl) (fun _ _ _ h => h) (Or.inl ⟨by rfl, ?hy65⟩) ?_
      case hy65 => intro w; first | (go_simp; done) | (go_simp; with_reducible rfl)
      refine wpAny_done (by kernel_rfl) ?_ _
      go_wp2_with (fail)
      go_meet
      case rel =>
        refine ⟨_, ?_, ?_, ?_, ?_, ?_, rfl, ?t1_66, ?t2_66, ?t3_66, ?t4_66, ⟨?t5_66⟩, ?t6_66, ?t7_66, ?t8_66, ?t9_66⟩
        case t1_66 => with_reducible refine new' ?_; simp only [World.size_alloc]
        case t2_66 => repeat (first | (with_reducible refine new' ?_; simp only [World.size_alloc]; first | done | (with_reducible rfl) | omega) | with_reducible refine old ?_ | with_reducible refine dre ?_ | with_reducible refine gro_map hgrow ?_ | with_reducible refine gro_cells n4 hgrow ?_ | with_reducible refine gro_cells n69 hgrow ?_ | with_reducible refine gro_cells n94 hgrow ?_)
        case t3_66 => repeat (first | (with_reducible refine new' ?_; simp only [World.size_alloc]; first | done | (with_reducible rfl) | omega) | with_reducible refine old ?_ | with_reducible refine dre ?_ | with_reducible refine gro_map hgrow ?_ | with_reducible refine gro_cells n4 hgrow ?_ | with_reducible refine gro_cells n69 hgrow ?_ | with_reducible refine gro_cells n94 hgrow ?_)
        case t4_66 => repeat (first | (with_reducible refine new' ?_; simp only [World.size_alloc]; first | done | (with_reducible rfl) | omega) | with_reducible refine old ?_ | with_reducible refine dre ?_ | with_reducible refine gro_map hgrow ?_ | with_reducible refine gro_cells n4 hgrow ?_ | with_reducible refine gro_cells n69 hgrow ?_ | with_reducible refine gro_cells n94 hgrow ?_)
        case t5_66 =>
          refine Kd.R_mono (ok := fun k => k < w'.heap.size) ?_ (fun k (hk : k < w'.heap.size) => by show k ≠ _; omega)
          repeat (first | exact hR | apply Kd.R_alloc)
        case t7_66 => have := hgrow.size; simp only [World.size_alloc, World.drew] at *; omega
        case t8_66 => have := hgrow.size; simp only [World.size_alloc, World.drew] at *; omega
        case t9_66 => have := hgrow.size; simp only [World.size_alloc, World.drew] at *; omega
        case t6_66 => repeat (first | exact Below.refl _ _ | apply below_alloc | apply below_drew1 | refine below_gro hgrow (by omega) ?_)
    refine AllReady.cons rfl (fun K hK => ?_) AllReady.nil
    go_simp
    refine hK _ _ ?_; clear hK K
    refine wpAny_ready (rs := [2, 5]) (by kernel_rfl) (by simp) ?_
    refine AllReady.cons rfl (fun K hK => ?_) ?_
    · go_simp
      refine hK _ _ ?_; clear hK K
      refine wpAny_ready (rs := [4, 5]) (by kernel_rfl) (by simp) ?_
      refine AllReady.cons rfl (fun K hK => ?_) ?_
      · refine step_app rfl rfl _ A0 c0 l0 rfl rfl ?hC69 h0 (w.heap.size + 1) ?hb69 ?hB69 ?_
        case hC69 => exact Kd.C_below HR0.out (by with_reducible repeat (first | apply below_alloc | apply below_drew1 | exact Below.refl _ _))
        case hB69 => repeat (first | exact new' (by simp only [World.size_alloc]; first | done | rfl | omega) | refine old ?_ | refine dre ?_)
        case hb69 => first | exact Nat.le_refl _ | omega | (simp only [World.size_alloc]; omega)
        intro A' k' c' w' hR hgrow
        refine hK _ _ ?_; clear hK K
        refine wpAny_ready (rs := [5]) (by kernel_rfl) (by simp) ?_
        refine AllReady.cons rfl (fun K hK => ?_) AllReady.nil
        go_simp
        refine hK _ _ ?_; clear hK K
        refine wpAny_ready (rs := [9]) (by kernel_rfl) (by simp) ?_
        refine AllReady.cons rfl (fun K hK => ?_) AllReady.nil
        refine step_build94 rfl rfl _ _ _ _ _ _ _ _ _ rfl rfl rfl rfl rfl ?_
        refine hK _ _ ?_; clear hK K
        refine wpAny_ready (rs := [10]) (by kernel_rfl) (by simp) ?_
        refine AllReady.cons rfl (fun K hK => ?_) AllReady.nil
        go_simp
        refine hK _ _ ?_; clear hK K
        refine wpAny_take (i := 11) (v := ?vv73) rfl (by kernel_rfl) (by kernel_rfl) (by kernel_rfl) (fun _ _ _ h => h) (Or.inl ⟨by rfl, ?hy73⟩) ?_
        case hy73 => intro w; first | (go_simp; done) | (go_simp; with_reducible rfl)
        refine wpAny_done (by kernel_rfl) ?_ _
        go_wp2_with (fail)
        go_meet
        case rel =>
          refine ⟨_, ?_, ?_, ?_, ?_, ?_, rfl, ?t1_74, ?t2_74, ?t3_74, ?t4_74, ⟨?t5_74⟩, ?t6_74, ?t7_74, ?t8_74, ?t9_74⟩
          case t1_74 => with_reducible refine new' ?_; simp only [World.size_alloc]
          case t2_74 => repeat (first | (with_reducible refine new' ?_; simp only [World.size_alloc]; first | done | (with_reducible rfl) | omega) | with_reducible refine old ?_ | with_reducible refine dre ?_ | with_reducible refine gro_map hgrow ?_ | with_reducible refine gro_cells n4 hgrow ?_ | with_reducible refine gro_cells n69 hgrow ?_ | with_reducible refine gro_cells n94 hgrow ?_)
          case t3_74 => repeat (first | (with_reducible refine new' ?_; simp only [World.size_alloc]; first | done | (with_reducible rfl) | omega) | with_reducible refine old ?_ | with_reducible refine dre ?_ | with_reducible refine gro_map hgrow ?_ | with_reducible refine gro_cells n4 hgrow ?_ | with_reducible refine gro_cells n69 hgrow ?_ | with_reducible refine gro_cells n94 hgrow ?_)
          case t4_74 => repeat (first | (with_reducible refine new' ?_; simp only [World.size_alloc]; first | done | (with_reducible rfl) | omega) | with_reducible refine old ?_ | with_reducible refine dre ?_ | with_reducible refine gro_map hgrow ?_ | with_reducible refine gro_cells n4 hgrow ?_ | with_reducible refine gro_cells n69 hgrow ?_ | with_reducible refine gro_cells n94 hgrow ?_)
          case t5_74 =>
            refine Kd.R_mono (ok := fun k => k < w'.heap.size) ?_ (fun k (hk : k < w'.heap.size) => by show k ≠ _; omega)
            repeat (first | exact hR | apply Kd.R_alloc)
          case t7_74 => have := hgrow.size; simp only [World.size_alloc, World.drew] at *; omega
          case t8_74 => have := hgrow.size; simp only [World.size_alloc, World.drew] at *; omega
          case t9_74 => have := hgrow.size; simp only [World.size_alloc, World.drew] at *; omega
          case t6_74 => repeat (first | exact Below.refl _ _ | apply below_alloc | apply below_drew1 | refine below_gro hgrow (by omega) ?_)
      refine AllReady.cons rfl (fun K hK => ?_) AllReady.nil
      go_simp
      refine hK _ _ ?_; clear hK K
      refine wpAny_ready (rs := [4]) (by kernel_rfl) (by simp) ?_
      refine AllReady.cons rfl (fun K hK => ?_) AllReady.nil
      refine step_app rfl rfl _ A0 c0 l0 rfl rfl ?hC76 h0 (w.heap.size + 1) ?hb76 ?hB76 ?_
      case hC76 => exact Kd.C_below HR0.out (by with_reducible repeat (first | apply below_alloc | apply below_drew1 | exact Below.refl _ _))
      case hB76 => repeat (first | exact new' (by simp only [World.size_alloc]; first | done | rfl | omega) | refine old ?_ | refine dre ?_)
      case hb76 => first | exact Nat.le_refl _ | omega | (simp only [World.size_alloc]; omega)
      intro A' k' c' w' hR hgrow
      refine hK _ _ ?_; clear hK K
      refine wpAny_ready (rs := [9]) (by kernel_rfl) (by simp) ?_
      refine AllReady.cons rfl (fun K hK => ?_) AllReady.nil
      refine step_build94 rfl rfl _ _ _ _ _ _ _ _ _ rfl rfl rfl rfl rfl ?_
      refine hK _ _ ?_; clear hK K
      refine wpAny_ready (rs := [10]) (by kernel_rfl) (by simp) ?_
      refine AllReady.cons rfl (fun K hK => ?_) AllReady.nil
      go_simp
      refine hK _ _ ?_; clear hK K
      refine wpAny_take (i := 11) (v := ?vv79) rfl (by kernel_rfl) (by kernel_rfl) (by kernel_rfl) (fun _ _ _ h => h) (Or.inl ⟨by rfl, ?hy79⟩) ?_
      case hy79 => intro w; first | (go_simp; done) | (go_simp; with_reducible rfl)
      refine wpAny_done (by kernel_rfl) ?_ _
      go_wp2_with (fail)
      go_meet
      case rel =>
        refine ⟨_, ?_, ?_, ?_, ?_, ?_, rfl, ?t1_80, ?t2_80, ?t3_80, ?t4_80, ⟨?t5_80⟩, ?t6_80, ?t7_80, ?t8_80, ?t9_80⟩
        case t1_80 => with_reducible refine new' ?_; simp only [World.size_alloc]
        case t2_80 => repeat (first | (with_reducible refine new' ?_; simp only [World.size_alloc]; first | done | (with_reducible rfl) | omega) | with_reducible refine old ?_ | with_reducible refine dre ?_ | with_reducible refine gro_map hgrow ?_ | with_reducible refine gro_cells n4 hgrow ?_ | with_reducible refine gro_cells n69 hgrow ?_ | with_reducible refine gro_cells n94 hgrow ?_)
        case t3_80 => repeat (first | (with_reducible refine new' ?_; simp only [World.size_alloc]; first | done | (with_reducible rfl) | omega) | with_reducible refine old ?_ | with_reducible refine dre ?_ | with_reducible refine gro_map hgrow ?_ | with_reducible refine gro_cells n4 hgrow ?_ | with_reducible refine gro_cells n69 hgrow ?_ | with_reducible refine gro_cells n94 hgrow ?_)
        case t4_80 => repeat (first | (with_reducible refine new' ?_; simp only [World.size_alloc]; first | done | (with_reducible rfl) | omega) | with_reducible refine old ?_ | with_reducible refine dre ?_ | with_reducible refine gro_map hgrow ?_ | with_reducible refine gro_cells n4 hgrow ?_ | with_reducible refine gro_cells n69 hgrow ?_ | with_reducible refine gro_cells n94 hgrow ?_)
        case t5_80 =>
          refine Kd.R_mono (ok := fun k => k < w'.heap.size) ?_ (fun k (hk : k < w'.heap.size) => by show k ≠ _; omega)
          repeat (first | exact hR | apply Kd.R_alloc)
        case t7_80 => have := hgrow.size; simp only [World.size_alloc, World.drew] at *; omega
        case t8_80 => have := hgrow.size; simp only [World.size_alloc, World.drew] at *; omega
        case t9_80 => have := hgrow.size; simp only [World.size_alloc, World.drew] at *; omega
        case t6_80 => repeat (first | exact Below.refl _ _ | apply below_alloc | apply below_drew1 | refine below_gro hgrow (by omega) ?_)
    refine AllReady.cons rfl (fun K hK => ?_) AllReady.nil
    go_simp
    refine hK _ _ ?_; clear hK K
    refine wpAny_ready (rs := [2]) (by kernel_rfl) (by simp) ?_
    refine AllReady.cons rfl (fun K hK => ?_) AllReady.nil
    go_simp
    refine hK _ _ ?_; clear hK K
    refine wpAny_ready (rs := [4]) (by kernel_rfl) (by simp) ?_
    refine AllReady.cons rfl (fun K hK => ?_) AllReady.nil
    refine step_app rfl rfl _ A0 c0 l0 rfl rfl ?hC83 h0 (w.heap.size + 1) ?hb83 ?hB83 ?_
    case hC83 => exact Kd.C_below HR0.out (by with_reducible repeat (first | apply below_alloc | apply below_drew1 | exact Below.refl _ _))
    case hB83 => repeat (first | exact new' (by simp only [World.size_alloc]; first | done | rfl | omega) | refine old ?_ | refine dre ?_)
    case hb83 => first | exact Nat.le_refl _ | omega | (simp only [World.size_alloc]; omega)
    intro A' k' c' w' hR hgrow
    refine hK _ _ ?_; clear hK K
    refine wpAny_ready (rs := [9]) (by kernel_rfl) (by simp) ?_
    refine AllReady.cons rfl (fun K hK => ?_) AllReady.nil
    refine step_build94 rfl rfl _ _ _ _ _ _ _ _ _ rfl rfl rfl rfl rfl ?_
    refine hK _ _ ?_; clear hK K
    refine wpAny_ready (rs := [10]) (by kernel_rfl) (by simp) ?_
    refine AllReady.cons rfl (fun K hK => ?_) AllReady.nil
    go_simp
    refine hK _ _ ?_; clear hK K
    refine wpAny_take (i := 11) (v := ?vv86) rfl (by kernel_rfl) (by kernel_rfl) (by kernel_rfl) (fun _ _ _ h => h) (Or.inl ⟨by rfl, ?hy86⟩) ?_
    case hy86 => intro w; first | (go_simp; done) | (go_simp; with_reducible rfl)
    refine wpAny_done (by kernel_rfl) ?_ _
    go_wp2_with (fail)
    go_meet
    case rel =>
      refine ⟨_, ?_, ?_, ?_, ?_, ?_, rfl, ?t1_87, ?t2_87, ?t3_87, ?t4_87, ⟨?t5_87⟩, ?t6_87, ?t7_87, ?t8_87, ?t9_87⟩
      case t1_87 => with_reducible refine new' ?_; simp only [World.size_alloc]
      case t2_87 => repeat (first | (with_reducible refine new' ?_; simp only [World.size_alloc]; first | done | (with_reducible rfl) | omega) | with_reducible refine old ?_ | with_reducible refine dre ?_ | with_reducible refine gro_map hgrow ?_ | with_reducible refine gro_cells n4 hgrow ?_ | with_reducible refine gro_cells n69 hgrow ?_ | with_reducible refine gro_cells n94 hgrow ?_)
      case t3_87 => repeat (first | (with_reducible refine new' ?_; simp only [World.size_alloc]; first | done | (with_reducible rfl) | omega) | with_reducible refine old ?_ | with_reducible refine dre ?_ | with_reducible refine gro_map hgrow ?_ | with_reducible refine gro_cells n4 hgrow ?_ | with_reducible refine gro_cells n69 hgrow ?_ | with_reducible refine gro_cells n94 hgrow ?_)
      case t4_87 => repeat (first | (with_reducible refine new' ?_; simp only [World.size_alloc]; first | done | (with_reducible rfl) | omega) | with_reducible refine old ?_ | with_reducible refine dre ?_ | with_reducible refine gro_map hgrow ?_ | with_reducible refine gro_cells n4 hgrow ?_ | with_reducible refine gro_cells n69 hgrow ?_ | with_reducible refine gro_cells n94 hgrow ?_)
      case t5_87 =>
        refine Kd.R_mono (ok := fun k => k < w'.heap.size) ?_ (fun k (hk : k < w'.heap.size) => by show k ≠ _; omega)
        repeat (first | exact hR | apply Kd.R_alloc)
      case t7_87 => have := hgrow.size; simp only [World.size_alloc, World.drew] at *; omega
      case t8_87 => have := hgrow.size; simp only [World.size_alloc, World.drew] at *; omega
      case t9_87 => have := hgrow.size; simp only [World.size_alloc, World.drew] at *; omega
      case t6_87 => repeat (first | exact Below.refl _ _ | apply below_alloc | apply below_drew1 | refine below_gro hgrow (by omega) ?_)
  case rest =>
    obtain ⟨T, Mp, Bl, A, k, c, rfl, hT, hM, hBl, hSt, HR, HB, g1, g2, g3⟩ := hcut
    have S : St w l0.length 0 sc T Mp Bl A k c l0 0 (cfgAt []) wc := ⟨by simpa using hT, by rw [cfgAt_nil]; exact made_of hM, ⟨_, by simp [size_madeCells], hBl⟩, hSt, Kd.R_mono HR.out (fun _ _ => trivial), HB, g1, g2, g3⟩
    clear hT hM hBl hSt HR HB g1 g2 g3 hmm hbb hS
    have t4 := S.tcell 4
    simp only [tcells] at t4
    go_wp2_with (fail)
    go_loopw [27] (fun i wr => ∃ j : Nat, j ≤ l0.length ∧ i = .int .i64 j ∧ St w l0.length 0 sc T Mp Bl A k c l0 0 (cfgAt []) wr) (fun i _ => l0.length - (RowKit.intOf i).toNat)
    case atStart => exact ⟨0, by omega, rfl, S⟩
    case round =>
      clear t4 S
      obtain ⟨j, hj, rfl, S⟩ := hrel
      by_cases hlt : j < l0.length
      · have t4 := S.tcell 4
        simp only [tcells] at t4
        obtain ⟨arr, ha, hb⟩ := S.bools
        have hc : wr.cell? ⟨Bl, j, none⟩ = some (arr.getD j undef) := by rw [cell_of_row wr Bl j arr 4 _ hb]; simp [Array.getD_eq_getD_getElem?, show j < arr.size by rw [ha]; omega]
        have hf : wr.frozen? ⟨Bl, j, none⟩ = false := frozen_of_row wr Bl j arr 4 hb
        have hd : decide ((j : Int) < (l0.length : Int)) = true := by simp; omega
        have S1 := Aside0.mk (S.setBool j (.bool true))
        clear S hb ha
        go_wp2_with (fail)
        go_roundw
        case rel => exact ⟨j + 1, hlt, rfl, S1.out⟩
        case measure => simp [RowKit.intOf]; omega
      · have hd : decide ((j : Int) < (l0.length : Int)) = false := by simp; omega
        go_wp2_with (fail)
        go_loopw [39] (fun i wr => ∃ j : Nat, j ≤ cs.length ∧ i = .int .i64 j ∧ St w l0.length 0 sc T Mp Bl A k c l0 j (cfgAt (cs.take j)) wr) (fun i _ => cs.length - (RowKit.intOf i).toNat)
        case atStart => exact ⟨0, by omega, rfl, S⟩
        case round =>
          clear hd S hlt hj
          obtain ⟨j, hj, rfl, S⟩ := hrel
          by_cases hlt : j < cs.length
          · obtain ⟨ad, cc, rfl, hcl, hK, hcc⟩ := Kd.C_get (Kd.C_below HR1.out S.bel) (false, 0, 0) (j : Int) (by omega) (by omega)
            rw [Int.toNat_natCast] at hK hcc
            have hload := load_at Try.prog 45 wr (ad.add (j * 16)) _ cc Try.underlying45 rfl (by rw [hcl]; rfl) (fun i u hi => by rw [Addr.add_add]; exact hcc i u hi)
            obtain rfl : cc = enc (cs.getD j (false, 0, 0)) := hK
            obtain ⟨⟨ch, cx, cn⟩, hcf⟩ : ∃ y : Cf, y = cs.getD j (false, 0, 0) := ⟨_, rfl⟩
            rw [← hcf] at hload
            simp only [enc] at hload
            have HCF := Aside0.mk hcf
            have hnf : ∀ (w : World) (a : Addr), (store a .nilFunc).run Try.prog w = stored Try.prog w a .nilFunc .plain := fun w a => run_store Try.prog w a _ _ rfl
            clear hcc hcf
            go_wp2_with (first | ((with_reducible refine gate_dst (N := 43) rfl ?_); refine Kd.event_run rfl (exec_load rfl rfl hload) ?_))
            have S1 := (S.alloc (.cells #[.string ⟨#[]⟩, .int .i64 0, .int .i64 0, .int .i64 0, .int .i64 0, .bool false, .slice none 0 0, .slice none 0 0, .slice none 0 0, .bool ch, .int .i64 0, .int .i64 0, .int .i64 0, .int .i64 cx, .nilFunc, .int .i64 cn] 45)).drew
            have hTl : T < wr.heap.size := lt_of_get S.tab
            have hblk : (wr.alloc (.cells #[.string ⟨#[]⟩, .int .i64 0, .int .i64 0, .int .i64 0, .int .i64 0, .bool false, .slice none 0 0, .slice none 0 0, .slice none 0 0, .bool ch, .int .i64 0, .int .i64 0, .int .i64 0, .int .i64 cx, .nilFunc, .int .i64 cn] 45)).drew.heap[wr.heap.size]? = some (.cells #[.string ⟨#[]⟩, .int .i64 0, .int .i64 0, .int .i64 0, .int .i64 0, .bool false, .slice none 0 0, .slice none 0 0, .slice none 0 0, .bool ch, .int .i64 0, .int .i64 0, .int .i64 0, .int .i64 cx, .nilFunc, .int .i64 cn] 45 (0, 0)) := (MapKept.heap_alloc wr _).1
            refine wp_region_still_tail 6 (by kernel_rfl) (by kernel_rfl) ?_
            change wpStill _ _ (World.drew _) (fun a' => wpList _ _ _ _ a' (World.drew _)) _ _
            generalize World.drew _ = W2 at S1 hblk ⊢
            simp only [List.take_succ_cons, List.take_zero, List.drop_succ_cons, List.drop_zero]
            have hcells := fun i => cell_of_row W2 wr.heap.size i _ 45 _ hblk
            have t6 := S1.tcell 6
            simp only [tcells] at t6
            obtain ⟨w2, hst, S2⟩ := S1.store (by unfold maxLen; omega) (j : Int) (.agg #[.string ⟨#[]⟩, .int .i64 0, .int .i64 0, .int .i64 0, .int .i64 0, .bool false, .slice none 0 0, .slice none 0 0, .slice none 0 0, .bool ch, .int .i64 0, .int .i64 0, .int .i64 0, .int .i64 cx, .nilFunc, .int .i64 cn]) (WalkArith.wf_i64 (by omega)) (cfgAt_none _ _ (by simp; omega))
            have S3 : St w l0.length 0 sc T Mp Bl A k c l0 (j + 1) (cfgAt (cs.take (j + 1))) w2 := by
              rw [← cfgAt_step cs j hlt, ← HCF.out]; exact S2
            clear S2 S1 hblk
            repeat still_step
            try refine wpStill_nil ?_
            have S4 := Aside0.mk S3
            clear S3
            go_wp2_with (fail)
            go_roundw
            case rel => exact ⟨j + 1, hlt, rfl, S4.out⟩
            case measure => simp [RowKit.intOf]; omega
          · have hd : decide ((j : Int) < (cs.length : Int)) = false := by simp; omega
            obtain rfl : j = cs.length := by omega
            rw [List.take_length] at S
            go_wp2_with (fail)
            go_ret
            exact ⟨T, Mp, Bl, A, k, c, rfl, S⟩
end Go.Proofs.Ytjpdkmmpofddlaa.Tbl
