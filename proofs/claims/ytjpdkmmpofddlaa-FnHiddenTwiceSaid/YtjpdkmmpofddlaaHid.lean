/- The walk of hideColumns' function literal: the columns that are not hidden, row by row. -/
import Derived.Test.YtjpdkmmpofddlaaTbl
import Derived.Test.YtjpdkmmpofddlaaGHidBodyx
import Derived.Test.YtjpdkmmpofddlaaSmall
namespace Go.Proofs.Ytjpdkmmpofddlaa.Hid
open Go Go.RowKit Go.Proofs.YtjpdkmmpofddlaaW.PrintWords Go.Proofs.Ytjpdkmmpofddlaa.Mp Go.Proofs.Ytjpdkmmpofddlaa.Cfg Go.Proofs.Ytjpdkmmpofddlaa.Tbl

abbrev kt : Kd (List ByteArray) := Kd.slice 9 Kd.string
theorem zero45 (w : World) : (zeroValue 45).run Try.prog w = .ok (.agg (enc (false, 0, 0)).toArray) w := by kernel_rfl
theorem info9 : (Try.prog.info? 9).map (fun i => (i.zero, i.size, i.bytes)) = some (some (.string ⟨#[]⟩), 1, 16) := by kernel_rfl
theorem info100 : (Try.prog.info? 100).map (fun i => (i.zero, i.size, i.bytes)) = some (some (.slice none 0 0), 1, 24) := by kernel_rfl

/-- is column i hidden? -/
def hid (cs : List Cf) (i : Nat) : Bool := (cs.getD i (false, 0, 0)).1
/-- what is left of a row's first j cells -/
def keepTo (cs : List Cf) (r : List ByteArray) : Nat → List ByteArray
  | 0 => []
  | j + 1 => keepTo cs r j ++ (if hid cs j = true then [] else [r.getD j ByteArray.empty])
def keep (cs : List Cf) (r : List ByteArray) : List ByteArray := keepTo cs r r.length
def rowsTo (cs : List Cf) (rows : List (List ByteArray)) : Nat → List (List ByteArray)
  | 0 => []
  | j + 1 => rowsTo cs rows j ++ [keep cs (rows.getD j [])]
def maxTo (cs : List Cf) (rows : List (List ByteArray)) (n0 : Nat) : Nat → Nat
  | 0 => n0
  | j + 1 => max (maxTo cs rows n0 j) (keep cs (rows.getD j [])).length
def tot (rows : List (List ByteArray)) : Nat → Nat
  | 0 => 0
  | j + 1 => tot rows j + (rows.getD j []).length
theorem keepTo_len (cs : List Cf) (r : List ByteArray) : ∀ j, (keepTo cs r j).length ≤ j
  | 0 => by simp [keepTo]
  | j + 1 => by
    have := keepTo_len cs r j
    simp only [keepTo, List.length_append]
    split <;> simp <;> omega
theorem rowsTo_len (cs : List Cf) (rows : List (List ByteArray)) : ∀ j, (rowsTo cs rows j).length = j
  | 0 => rfl
  | j + 1 => by simp [rowsTo, rowsTo_len cs rows j]
theorem tot_mono (rows : List (List ByteArray)) {i j : Nat} (h : i ≤ j) : tot rows i ≤ tot rows j := by
  induction h with
  | refl => exact Nat.le_refl _
  | step _ ih => exact Nat.le_trans ih (by simp [tot])
theorem look_cfg (cs : List Cf) (j : Nat) : (cfgAt cs (.int .i64 j)).getD (.agg (enc (false, 0, 0)).toArray) = .agg (enc (cs.getD j (false, 0, 0))).toArray := by
  simp only [cfgAt]
  by_cases h : j < cs.length
  · rw [if_pos (by omega)]; simp
  · rw [if_neg (by omega)]; simp [List.getD_eq_getElem?_getD, List.getElem?_eq_none (show cs.length ≤ j by omega)]

/-- what lies in memory while the function literal runs -/
structure Cs (w0 : World) (B c1 c2 c3 T Mp M2 : Nat) (tab : Array Value) (cs : List Cf) (num : Nat) (m2 : Nat) (w : World) : Prop where
  h1 : w.heap[c1]? = some (.cells #[.pointer (some ⟨T, 0, none⟩)] 72 (0, 0))
  h2 : w.heap[c2]? = some (.cells #[.map (some M2)] 96 (0, 0))
  h3 : w.heap[c3]? = some (.cells #[.int .i64 num] 3 (0, 0))
  ht : w.heap[T]? = some (.cells tab 94 (0, 0))
  t6 : tab[6]? = some (.map (some Mp))
  mp : MapIs Try.prog 3 Mp cs.length (cfgAt cs) w
  mi : ∃ m g, m ≤ m2 ∧ MapIs Try.prog 3 M2 m g w
  bel : Below w0.heap.size w0 w
  lo : w0.heap.size ≤ c3 ∧ w0.heap.size ≤ M2 ∧ w0.heap.size ≤ T
  hi : c1 < B ∧ c2 < B ∧ c3 < B ∧ T < B ∧ Mp < B ∧ M2 < B
  hB : B ≤ w.heap.size
  ne : Mp ≠ M2
section
variable {w0 w w' : World} {B c1 c2 c3 T Mp M2 : Nat} {tab : Array Value} {cs : List Cf} {num m2 : Nat}
theorem Cs.grown (h : Cs w0 B c1 c2 c3 T Mp M2 tab cs num m2 w) {row : Option Nat} (hg : w.grownBy w' row) (hr : ∀ k, row = some k → B ≤ k) : Cs w0 B c1 c2 c3 T Mp M2 tab cs num m2 w' := by
  obtain ⟨i1, i2, i3, i4, i5, i6⟩ := h.hi
  have e : ∀ b, b < B → w'.heap[b]? = w.heap[b]? := fun b hb => hg.block b (Nat.lt_of_lt_of_le hb h.hB) (fun e => by have := hr b e.symm; omega)
  obtain ⟨m, g, hm, hmi⟩ := h.mi
  refine ⟨(e _ i1).trans h.h1, (e _ i2).trans h.h2, (e _ i3).trans h.h3, (e _ i4).trans h.ht, h.t6, h.mp.of_heap (e _ i5), ⟨m, g, hm, hmi.of_heap (e _ i6)⟩, h.bel.grown hg h.bel.size (fun k hk => ?_), h.lo, h.hi, Nat.le_trans h.hB hg.size, h.ne⟩
  have := hr k hk
  have := h.lo
  omega
theorem Cs.below (h : Cs w0 B c1 c2 c3 T Mp M2 tab cs num m2 w) (hb : Below w.heap.size w w') : Cs w0 B c1 c2 c3 T Mp M2 tab cs num m2 w' :=
  h.grown (row := none) ⟨hb.os, hb.tape, hb.output, hb.size, fun i hi _ => hb.block i hi⟩ (fun _ hk => by cases hk)
theorem Cs.alloc (h : Cs w0 B c1 c2 c3 T Mp M2 tab cs num m2 w) (o : Obj) : Cs w0 B c1 c2 c3 T Mp M2 tab cs num m2 (w.alloc o) := h.below ((Below.refl _ _).alloc (Nat.le_refl _) o)
theorem Cs.more (h : Cs w0 B c1 c2 c3 T Mp M2 tab cs num m2 w) {k : Nat} (hk : m2 ≤ k) : Cs w0 B c1 c2 c3 T Mp M2 tab cs num k w := by
  obtain ⟨m, g, hm, hmi⟩ := h.mi
  exact { h with mi := ⟨m, g, Nat.le_trans hm hk, hmi⟩ }
theorem Cs.up (h : Cs w0 B c1 c2 c3 T Mp M2 tab cs num m2 w) {B' : Nat} (h0 : B ≤ B') (h1 : B' ≤ w.heap.size) : Cs w0 B' c1 c2 c3 T Mp M2 tab cs num m2 w :=
  { h with hB := h1, hi := by have := h.hi; omega }
theorem Cs.setNum (h : Cs w0 B c1 c2 c3 T Mp M2 tab cs num m2 w) (x : Nat) : Cs w0 B c1 c2 c3 T Mp M2 tab cs x m2 (w.setCell ⟨c3, 0, none⟩ (.int .i64 x)) := by
  have e : ∀ (b : Nat) (o : Obj), w.heap[b]? = some o → (∀ cells : Array Value, o ≠ Obj.cells cells 3 (0, 0)) → (w.setCell ⟨c3, 0, none⟩ (.int .i64 x)).heap[b]? = some o := fun b o hb ho => by
    rw [heap_setCell_other w _ b _ (fun e => by have e' : b = c3 := e; rw [e', h.h3] at hb; exact ho _ (by injection hb with hb; exact hb.symm))]; exact hb
  have em : ∀ {b m : Nat} {g : Lit → Option Value}, MapIs Try.prog 3 b m g w → MapIs Try.prog 3 b m g (w.setCell ⟨c3, 0, none⟩ (.int .i64 x)) := fun {b m g} hm => by
    obtain ⟨D, ⟨es, cl, h0, h1⟩, h2⟩ := hm
    exact ⟨D, ⟨es, cl, e _ _ h0 (by simp), h1⟩, h2⟩
  obtain ⟨m, g, hm, hmi⟩ := h.mi
  refine ⟨e _ _ h.h1 (by simp), e _ _ h.h2 (by simp), ?_, e _ _ h.ht (by simp), h.t6, em h.mp, ⟨m, g, hm, em hmi⟩, h.bel.trans ⟨rfl, rfl, rfl, by simp [World.setCell], fun i hi => heap_setCell_other w _ i _ (fun e => ?_)⟩, h.lo, h.hi, by simpa [World.setCell] using h.hB, h.ne⟩
  · have := heap_setCell_same w c3 0 _ 3 (.int .i64 x) h.h3
    simpa using this
  · have e' : i = c3 := e
    have := h.lo
    omega
theorem Cs.store (h : Cs w0 B c1 c2 c3 T Mp M2 tab cs num m2 w) (hm2 : m2 < maxLen) (i : Int) (val : Value) (hi : (Lit.int .i64 i).wf = true) :
    ∃ w', (Instr.mapUpdate 96 (.map (some M2)) (.int .i64 i) val).run Try.prog w = .ok () w' ∧ Cs w0 B c1 c2 c3 T Mp M2 tab cs num (m2 + 1) w' ∧ w.grownBy w' (some M2) := by
  obtain ⟨m, g, hm, hmi⟩ := h.mi
  obtain ⟨w', hr, k1, k2⟩ := hmi.store (Maps.int_keyed Try.underlying3) Try.underlying96 (by omega) val (Maps.keyOf_int_mk Try.underlying3 hi) trivial
  have hgr := k2.grown
  have e : ∀ (b : Nat) (c : Array Value) (t : Nat), w.heap[b]? = some (Obj.cells c t (0, 0)) → w'.heap[b]? = some (Obj.cells c t (0, 0)) := fun b c t hb => by
    rw [hgr.block b (lt_of_get hb) (fun e => by
      injection e with e
      subst e
      obtain ⟨D, ⟨es, cl, h0, _⟩, _⟩ := hmi
      rw [h0] at hb; cases hb)]; exact hb
  refine ⟨w', hr, ⟨e _ _ _ h.h1, e _ _ _ h.h2, e _ _ _ h.h3, e _ _ _ h.ht, h.t6, h.mp.kept hgr (fun e => h.ne (by injection e)), ⟨_, _, ?_, k1⟩, h.bel.grown hgr h.bel.size (fun k hk => ?_), h.lo, h.hi, Nat.le_trans h.hB hgr.size, h.ne⟩, hgr⟩
  · split <;> omega
  · injection hk with hk
    have := h.lo
    omega
theorem Cs.cell1 (h : Cs w0 B c1 c2 c3 T Mp M2 tab cs num m2 w) : w.cell? ⟨c1, 0, none⟩ = some (.pointer (some ⟨T, 0, none⟩)) := cell_of_row w c1 0 _ 72 _ h.h1
theorem Cs.cell2 (h : Cs w0 B c1 c2 c3 T Mp M2 tab cs num m2 w) : w.cell? ⟨c2, 0, none⟩ = some (.map (some M2)) := cell_of_row w c2 0 _ 96 _ h.h2
theorem Cs.cell3 (h : Cs w0 B c1 c2 c3 T Mp M2 tab cs num m2 w) : w.cell? ⟨c3, 0, none⟩ = some (.int .i64 num) := cell_of_row w c3 0 _ 3 _ h.h3
theorem Cs.free3 (h : Cs w0 B c1 c2 c3 T Mp M2 tab cs num m2 w) : w.frozen? ⟨c3, 0, none⟩ = false := frozen_of_row w c3 0 _ 3 h.h3
theorem Cs.cellT (h : Cs w0 B c1 c2 c3 T Mp M2 tab cs num m2 w) (j : Nat) : w.cell? ⟨T, j, none⟩ = tab[j]? := cell_of_row w T j _ 94 _ h.ht

/-- a store into the map of places -/
theorem wp_store {ops : Array Oper} {rest : List Oper} {o : Oper} {a : Act} {Q : Exit → Act → World → Prop} (hg : o.guard = none) (m x v : Operand) (hop : o.op = Op.mapUpdate 96 m x v) (hd : o.dst = none)
    (h : Cs w0 B c1 c2 c3 T Mp M2 tab cs num m2 w) (hm2 : m2 < maxLen) (i : Int) (hm : a.eval m = .map (some M2)) (hx : a.eval x = .int .i64 i) (hi : (Lit.int .i64 i).wf = true)
    (hK : ∀ w', Cs w0 B c1 c2 c3 T Mp M2 tab cs num (m2 + 1) w' → w.grownBy w' (some M2) → wpList Try.prog ops Q rest a w') : wpList Try.prog ops Q (o :: rest) a w := by
  obtain ⟨w', hrun, r1, r2⟩ := h.store hm2 i (a.eval v) hi
  have hr : (execOp a.eval o).run Try.prog w = .ok .skip w' := by
    unfold execOp
    simp [hop, hm, hx, hrun, Result.andThen]
  refine wpList_plain hg fun K' hK' => ?_
  unfold Oper.wp
  rw [hr]
  show K' (a.put o.dst undef) w'
  rw [hd]
  exact hK' _ _ (hK w' r1 r2)
end
end Go.Proofs.Ytjpdkmmpofddlaa.Hid
