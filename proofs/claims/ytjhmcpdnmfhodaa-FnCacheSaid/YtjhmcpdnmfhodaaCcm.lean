/- A script behind the given calls, in memory. -/
import Derived.Test.YtjhmcpdnmfhodaaGCfBodyx
import Derived.Test.YtjhmcpdnmfhodaaLcw
namespace Go.Proofs.Ytjhmcpdnmfhodaa.Ccm
open Go Go.RowKit Go.Proofs.YtjhmcpdnmfhodaaW.PrintWords Go.Proofs.Ytjhmcpdnmfhodaa.GCfBody Lcp Lcm

def opc (x : Op3) : List Value := [.int .i64 x.d, .int .i64 x.k, .int .i64 x.v]
def toOp (x : S36) : Op3 := ⟨x.f0, x.f1, x.f2⟩
theorem flat3 {α β : Type} (f : α → List β) (hf : ∀ x, (f x).length = 3) : ∀ (xs : List α) (j : Nat), (xs.flatMap f)[j]? = (xs[j / 3]?).bind fun x => (f x)[j % 3]?
  | [], j => by simp
  | x :: t, j => by
    rw [List.flatMap_cons]
    by_cases h : j < 3
    · rw [List.getElem?_append_left (by rw [hf]; exact h), show j / 3 = 0 by omega, show j % 3 = j by omega]
      rfl
    · rw [List.getElem?_append_right (by rw [hf]; omega), hf, flat3 f hf t, show j / 3 = (j - 3) / 3 + 1 by omega, show (j - 3) % 3 = j % 3 by omega]
      rfl
theorem opc_len (x : Op3) : (opc x).length = 3 := rfl
theorem flat_len : ∀ l : List Op3, (l.flatMap opc).length = l.length * 3
  | [] => rfl
  | x :: t => by rw [List.flatMap_cons, List.length_append, flat_len t, opc_len, List.length_cons]; omega
theorem script_of {W : World} {B g n cap : Nat} {ops : List Op3} (h : W.ownsRow B 36 3 (.slice (some ⟨g, 0, none⟩) n cap) n (ops.flatMap opc)) (hn : n = ops.length) : Script W g ops := by
  rcases h.2 with ⟨h', _⟩ | ⟨g', cap', cur, h', _, hg, _, _, _, ht⟩
  · cases h'
  · simp only [Value.slice.injEq, Option.some.injEq, Addr.mk.injEq, and_true, true_and] at h'
    obtain ⟨rfl, rfl⟩ := h'
    refine ⟨cur, hg, fun j x hx => ?_⟩
    have hj : j < ops.length := (List.getElem?_eq_some_iff.1 hx).1
    have key : ∀ r, r < 3 → cur[3 * j + r]? = (opc x)[r]? := fun r hr => by
      have h1 : (cur.toList.take (n * 3))[3 * j + r]? = cur[3 * j + r]? := by
        rw [List.getElem?_take, if_pos (by omega), Array.getElem?_toList]
      rw [← h1, ht, flat3 opc opc_len, show (3 * j + r) / 3 = j by omega, show (3 * j + r) % 3 = r by omega, hx]
      rfl
    exact ⟨key 0 (by omega), key 1 (by omega), key 2 (by omega)⟩
theorem info36 : (Try.prog.info? 36).map (fun i => (i.zero, i.size, i.bytes)) = some (some (.agg #[.int .i64 0, .int .i64 0, .int .i64 0]), 3, 24) := by kernel_rfl
theorem flat_one : ∀ (l : List Op3), ∀ u ∈ l.flatMap opc, u.oneCell' = true := fun l u hu => by
  obtain ⟨x, _, hx⟩ := List.mem_flatMap.1 hu
  unfold opc at hx
  simp only [List.mem_cons, List.mem_nil_iff, or_false] at hx
  rcases hx with rfl | rfl | rfl <;> rfl
/-- an append of cells of calls -/
theorem app3 (B : Nat) (W : World) (v : Value) (n : Nat) (xs : List Value) (hown : W.ownsRow B 36 3 v n xs) (hB : B ≤ W.heap.size) (A : Addr) (m c : Nat) (ex : List Op3) (hm : ex.length = m) (hnews : ∀ j u, (ex.flatMap opc)[j]? = some u → W.cell? (A.add j) = some u) (hn : n + m ≤ 2000) :
    ∃ v' w', (Builtin.append_ #[22, 22] 22 #[v, .slice (some A) m c]).run Try.prog W = .ok v' w' ∧ w'.ownsRow B 36 3 v' (n + m) (xs ++ ex.flatMap opc) ∧ W.grownBy w' v.ownBlock := by
  obtain ⟨i, hi0⟩ : ∃ i, Try.prog.info? 36 = some i := by
    cases h : Try.prog.info? 36 with
    | none => have := info36; rw [h] at this; cases this
    | some i => exact ⟨i, rfl⟩
  have hinf := info36
  rw [hi0] at hinf
  simp only [Option.map_some, Option.some.injEq, Prod.mk.injEq] at hinf
  obtain ⟨hz0, hsz, hbb⟩ := hinf
  obtain ⟨v2, w6, hrun, hown2, hgr, _, _⟩ := run_append_own_at (P := Try.prog) W B 22 22 36 i (.agg #[.int .i64 0, .int .i64 0, .int .i64 0]) 3 24 Try.underlying22 hi0 hz0 hsz hbb rfl (by decide) v n xs hown A m c (ex.flatMap opc) (by rw [flat_len, hm]) hnews (flat_one ex) (by unfold maxLen; omega) (by omega) hB
  exact ⟨v2, w6, hrun, hown2, hgr⟩
theorem run_none (W : World) (g cap : Nat) (c1 : Nat) : (Builtin.append_ #[22, 22] 22 #[.slice (some ⟨g, 0, none⟩) 0 cap, .slice none 0 c1]).run Try.prog W = .ok (.slice (some ⟨g, 0, none⟩) 0 cap) W := by
  obtain ⟨i, hi0⟩ : ∃ i, Try.prog.info? 36 = some i := by
    cases h : Try.prog.info? 36 with
    | none => have := info36; rw [h] at this; cases this
    | some i => exact ⟨i, rfl⟩
  simp [Builtin.append_, run_underlying Try.underlying22, sizeOf, typeInfo, hi0, Builtin.lenOf, Builtin.firstCells, storeCells]
/-- the given calls, and some behind them -/
theorem scripts {w W : World} (hb : Below w.heap.size w W) {A1 : Option Addr} {c1 : Nat} {l : List S36} (hr : Kd.C k36 w A1 l.length l) (hn : l.length ≤ 300) (ex : List Op3) (hex : 0 < ex.length) (hex2 : ex.length ≤ 2) :
    ∃ v1 W1, (Builtin.append_ #[22, 22] 22 #[.slice (some ⟨W.heap.size, 0, none⟩) 0 0, .slice A1 l.length c1]).run Try.prog (W.alloc (.cells #[] 36)) = .ok v1 W1 ∧
      ∃ g cap W2, (Builtin.append_ #[22, 22] 22 #[v1, .slice (some ⟨W1.heap.size, 0, none⟩) ex.length ex.length]).run Try.prog (W1.alloc (.cells (ex.flatMap opc).toArray 36)) = .ok (.slice (some ⟨g, 0, none⟩) (l.length + ex.length) cap) W2 ∧ Script W2 g (l.map toOp ++ ex) ∧ Below W.heap.size W W2 := by
  have hE : (W.alloc (.cells #[] 36)).ownsRow W.heap.size 36 3 (.slice (some ⟨W.heap.size, 0, none⟩) 0 0) 0 [] := World.ownsRow_lit W #[] 0 (Nat.le_refl _) (by decide) rfl
  have hb1 : Below W.heap.size W (W.alloc (.cells #[] 36)) := (Below.refl _ W).alloc (Nat.le_refl _) _
  have one : ∃ v1 W1, (Builtin.append_ #[22, 22] 22 #[.slice (some ⟨W.heap.size, 0, none⟩) 0 0, .slice A1 l.length c1]).run Try.prog (W.alloc (.cells #[] 36)) = .ok v1 W1 ∧ W1.ownsRow W.heap.size 36 3 v1 l.length ((l.map toOp).flatMap opc) ∧ Below W.heap.size W W1 := by
    rcases A1 with _ | ad
    · have hl0 : l.length = 0 := by
        rcases Nat.eq_zero_or_pos l.length with h | h
        · exact h
        · obtain ⟨ad, e, _⟩ := at_T36 hr 0 (Int.le_refl 0) (by omega)
          cases e
      obtain rfl := List.eq_nil_of_length_eq_zero hl0
      exact ⟨_, _, run_none _ _ _ _, hE, hb1⟩
    · obtain ⟨v', w', hrun, hown, hgr⟩ := app3 W.heap.size (W.alloc (.cells #[] 36)) _ 0 [] hE (by simp) ad l.length c1 (l.map toOp) (by simp) (fun j u hj => by
        rw [flat3 opc opc_len] at hj
        obtain ⟨x, hx, hu⟩ := Option.bind_eq_some_iff.1 hj
        rw [List.getElem?_map] at hx
        obtain ⟨y, hy, rfl⟩ := Option.map_eq_some_iff.1 hx
        have hlt : j / 3 < l.length := (List.getElem?_eq_some_iff.1 hy).1
        obtain ⟨ad', c, e, _, hK, hc0⟩ := Kd.C_get (Kd.C_below hr (hb.alloc hb.size (.cells #[] 36))) z36 ((j / 3 : Nat) : Int) (Int.natCast_nonneg _) (by exact_mod_cast hlt)
        obtain rfl := Option.some.inj e
        rw [Int.toNat_natCast] at hK hc0
        have hrd : l.getD (j / 3) z36 = y := by rw [List.getD_eq_getElem?_getD, hy]; rfl
        rw [hrd] at hK
        obtain rfl := k36_open hK
        have h1 := hc0 (j % 3) u hu
        have h2 : j / 3 * Kd.sz k36 + j % 3 = j := by
          have : Kd.sz k36 = 3 := rfl
          rw [this]; omega
        rw [h2] at h1
        exact h1) (by omega)
      exact ⟨v', w', hrun, by simpa using hown, ⟨hgr.os, hgr.tape, hgr.output, Nat.le_trans hb1.size hgr.size, fun k hk => (hgr.block k (by simp; omega) (fun e => by simp [Value.ownBlock] at e; omega)).trans (hb1.block k hk)⟩⟩
  obtain ⟨v1, W1, hrun1, hown1, hbl1⟩ := one
  refine ⟨v1, W1, hrun1, ?_⟩
  have hb2 : Below W1.heap.size W1 (W1.alloc (.cells (ex.flatMap opc).toArray 36)) := (Below.refl _ W1).alloc (Nat.le_refl _) _
  have hown1' : (W1.alloc (.cells (ex.flatMap opc).toArray 36)).ownsRow W.heap.size 36 3 v1 l.length ((l.map toOp).flatMap opc) := hown1.alloc _
  obtain ⟨v2, W2, hrun2, hown2, hgr2⟩ := app3 W.heap.size _ v1 l.length _ hown1' (Nat.le_trans hbl1.size hb2.size) ⟨W1.heap.size, 0, none⟩ ex.length ex.length ex rfl (new6 W1 (ex.flatMap opc) 36) (by omega)
  obtain ⟨g, cap, rfl⟩ : ∃ g cap, v2 = .slice (some ⟨g, 0, none⟩) (l.length + ex.length) cap := by
    rcases hown2.2 with ⟨_, h0⟩ | ⟨g2, cap2, _, hv2, _⟩
    · omega
    · exact ⟨g2, cap2, hv2⟩
  refine ⟨g, cap, W2, hrun2, ?_, ?_⟩
  · rw [← List.flatMap_append] at hown2
    exact script_of hown2 (by simp)
  · have hge : ∀ k, v1.ownBlock = some k → W.heap.size ≤ k := fun k hk => (hown1.lt k hk).1
    exact ⟨hgr2.os.trans hbl1.os, hgr2.tape.trans hbl1.tape, hgr2.output.trans hbl1.output, Nat.le_trans hbl1.size (Nat.le_trans hb2.size hgr2.size), fun k hk => (hgr2.block k (by have := hbl1.size; simp; omega) (fun e => by have := hge k e.symm; omega)).trans ((hb2.block k (by have := hbl1.size; omega)).trans (hbl1.block k hk))⟩
end Go.Proofs.Ytjhmcpdnmfhodaa.Ccm
