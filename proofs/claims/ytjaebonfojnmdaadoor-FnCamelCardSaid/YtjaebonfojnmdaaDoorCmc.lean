/- What lies in memory while SplitCamelCase runs: laws for its walk. -/
import Derived.Test.YtjaebonfojnmdaaDoorCmb
import Derived.Test.YtjaebonfojnmdaaDoorCmp
import Derived.Lib.OthersKept
import Derived.Lib.SmallJoins
import Derived.Lib.AtoiErrMem
import Derived.Stop.FmtQuoteTie
namespace Go.Proofs.YtjaebonfojnmdaaDoor.Cmc
open Go Go.RowKit Go.Lib Go.Proofs.YtjaebonfojnmdaaDoorW.PrintWords Cma Cmb Cmp

theorem _root_.Go.Proofs.YtjaebonfojnmdaaDoor.Cma.Rr.grown {B : Nat} {v : Value} {vs : List Value} {rs : List (List Int)} {w w' : World} {row : Option Nat} (h : Rr B v vs rs w) (hg : w.grownBy w' row) (hne : ∀ k c e, row = some k → w.heap[k]? = some (.cells c e (0, 0)) → e ≠ 29 ∧ e ≠ 21) : Rr B v vs rs w' := by
  have k : ∀ {e : TypeId} {u : Value} {n : Nat} {xs : List Value}, (e = 29 ∨ e = 21) → w.ownsRow B e 1 u n xs → w'.ownsRow B e 1 u n xs := fun {e u n xs} he hu => hu.kept hg (by
    cases hb : u.ownBlock with
    | none => exact .inl rfl
    | some j =>
      refine .inr fun e2 => ?_
      obtain ⟨c, hc⟩ := own_typed hu hb
      obtain ⟨h1, h2⟩ := hne j c e e2.symm hc
      rcases he with rfl | rfl
      · exact h1 rfl
      · exact h2 rfl)
  exact ⟨Nat.le_trans h.base hg.size, k (.inl rfl) h.out, h.len, fun i u r hu hr => k (.inr rfl) (h.inn i u r hu hr), h.some_, h.apart⟩
theorem iter_grown (w : World) (k : Nat) (s : ByteArray) (p : Nat) : w.grownBy (w.iterAt k s p) (some k) :=
  ⟨rfl, rfl, rfl, by rw [iterAt_size]; exact Nat.le_refl _, fun i _ hi => iterAt_other w k i s p (fun e => hi (by rw [e]))⟩
theorem own_not_iter {w : World} {B k p : Nat} {e : TypeId} {u : Value} {n : Nat} {xs : List Value} {s : ByteArray} (h : w.ownsRow B e 1 u n xs) (hk : w.heap[k]? = some (.stringIter s p)) : some k ≠ u.ownBlock := fun e => by
  obtain ⟨c, hc⟩ := own_typed h e.symm
  rw [hk] at hc
  cases hc
theorem own_ge {w : World} {B : Nat} {e : TypeId} {v : Value} {n : Nat} {xs : List Value} (h : w.ownsRow B e 1 v n xs) : ∀ k, v.ownBlock = some k → B ≤ k := fun k hk => by
  rcases h.2 with ⟨rfl, _⟩ | ⟨g, c, cur, rfl, hg, _⟩
  · cases hk
  · simp only [Value.ownBlock, Option.some.injEq] at hk; omega
theorem bel_grown {w0 w w' : World} {row : Option Nat} (h : Below w0.heap.size w0 w) (hg : w.grownBy w' row) (hr : ∀ k, row = some k → w0.heap.size ≤ k) : Below w0.heap.size w0 w' :=
  ⟨hg.os.trans h.os, hg.tape.trans h.tape, hg.output.trans h.output, Nat.le_trans h.size hg.size, fun k hk => (hg.block k (by have := h.size; omega) (fun e => by have := hr k e.symm; omega)).trans (h.block k hk)⟩

theorem info21 : (Tryd.prog.info? 21).map (fun i => (i.zero, i.size, i.bytes)) = some (some (.int .i32 0), 1, 4) := by kernel_rfl
theorem info29 : (Tryd.prog.info? 29).map (fun i => (i.zero, i.size, i.bytes)) = some (some (.slice none 0 0), 1, 24) := by kernel_rfl
theorem info9 : (Tryd.prog.info? 9).map (fun i => (i.zero, i.size, i.bytes)) = some (some (.string .empty), 1, 16) := by kernel_rfl

theorem app {t e : TypeId} {z : Value} {by_ : Nat} (ht : Tryd.prog.underlying t = some (.slice e)) (hi : (Tryd.prog.info? e).map (fun i => (i.zero, i.size, i.bytes)) = some (some z, 1, by_)) (hz : z.cells.size = 1) (hby : by_ ≤ 100)
    (ty : TypeId) (B : Nat) (w w1 : World) (u x : Value) (n : Nat) (xs : List Value) (ad : Addr) (m c : Nat) (news : List Value) (hn : n + m ≤ 10000) (hown : w.ownsRow B e 1 u n xs) (hB : B ≤ w.heap.size) (hl : news.length = m)
    (hx : x = .slice (some ad) m c) (hnews : ∀ j v, news[j]? = some v → w.cell? (ad.add j) = some v) (h1 : ∀ u ∈ news, u.oneCell' = true) (hw : w1 = w) (hm : 0 < m) :
    ∃ g cap w', (Builtin.append_ #[t, t] ty #[u, x]).run Tryd.prog w1 = .ok (.slice (some ⟨g, 0, none⟩) (n + m) cap) w' ∧ w'.ownsRow B e 1 (.slice (some ⟨g, 0, none⟩) (n + m) cap) (n + m) (xs ++ news) ∧ w.grownBy w' u.ownBlock ∧ (some g = u.ownBlock ∨ g = w.heap.size) := by
  subst hx hw
  obtain ⟨i, hi0⟩ : ∃ i, Tryd.prog.info? e = some i := by
    cases h : Tryd.prog.info? e with
    | none => rw [h] at hi; cases hi
    | some i => exact ⟨i, rfl⟩
  rw [hi0] at hi
  simp only [Option.map_some, Option.some.injEq, Prod.mk.injEq] at hi
  obtain ⟨hz0, hsz, hbb⟩ := hi
  obtain ⟨v2, w3, hrun, hown2, hgr, _, hat⟩ := run_append_own_at (P := Tryd.prog) w1 B t ty e i z 1 by_ ht hi0 hz0 hsz hbb hz (by decide) u n xs hown ad m c news (by omega) hnews h1 (by unfold maxLen; omega)
    (by have : (n + m) * by_ ≤ 10000 * 100 := Nat.mul_le_mul hn hby; omega) hB
  obtain ⟨g2, cap2, rfl⟩ : ∃ g2 cap2, v2 = .slice (some ⟨g2, 0, none⟩) (n + m) cap2 := by
    rcases hown2.2 with ⟨_, h0⟩ | ⟨g2, cap2, _, hv2, _⟩
    · omega
    · exact ⟨g2, cap2, hv2⟩
  refine ⟨g2, cap2, w3, hrun, hown2, hgr, ?_⟩
  rcases hat with h | h
  · exact .inl h
  · simp only [Value.ownBlock, Option.some.injEq] at h; exact .inr h
theorem one_new (w : World) (x : Value) (e : TypeId) : ∀ (j : Nat) (v : Value), [x][j]? = some v → (w.alloc (.cells #[x] e)).cell? ((⟨w.heap.size, 0, none⟩ : Addr).add j) = some v := fun j v hj => by
  rcases j with _ | j
  · simp only [List.getElem?_cons_zero, Option.some.injEq] at hj
    subst hj
    rw [show ((⟨w.heap.size, 0, none⟩ : Addr).add 0) = ⟨w.heap.size, 0, none⟩ from rfl, Lib.cell_of_heap (heap_alloc_new w _)]
    rfl
  · simp at hj
theorem _root_.Go.Proofs.YtjaebonfojnmdaaDoor.Cma.Rr.at_ {B g c : Nat} {vs : List Value} {rs : List (List Int)} {w : World} (h : Rr B (.slice (some ⟨g, 0, none⟩) vs.length c) vs rs w) (k : Nat) (hk : k < vs.length) :
    ∃ a n d, w.cell? ⟨g, k, none⟩ = some (.slice (some ⟨a, 0, none⟩) n d) ∧ vs[k]? = some (.slice (some ⟨a, 0, none⟩) n d) ∧ rs[k]? = some (rs.getD k []) ∧ n = (rs.getD k []).length ∧ w.ownsRow B 21 1 (.slice (some ⟨a, 0, none⟩) n d) n ((rs.getD k []).map (Value.int .i32)) := by
  have hr := getD_at [] rs k (by rw [← h.len]; exact hk)
  obtain ⟨a, n, d, he⟩ := h.some_ _ (List.mem_of_getElem? (List.getElem?_eq_getElem hk))
  have hu : vs[k]? = some (.slice (some ⟨a, 0, none⟩) n d) := (List.getElem?_eq_getElem hk).trans (congrArg some he)
  have ho := h.inn k _ _ hu hr
  have hn : n = (rs.getD k []).length := by
    rcases ho.2 with ⟨h0, _⟩ | ⟨g2, c2, _, h0, _⟩
    · cases h0
    · injection h0
  refine ⟨a, n, d, ?_, hu, hr, hn, by rw [hn] at ho ⊢; exact ho⟩
  rw [h.out.cellAt k (by omega)]; exact hu
theorem _root_.Go.Proofs.YtjaebonfojnmdaaDoor.Cma.Rr.frozen {B g c : Nat} {vs : List Value} {rs : List (List Int)} {w : World} (h : Rr B (.slice (some ⟨g, 0, none⟩) vs.length c) vs rs w) (k : Nat) : w.frozen? ⟨g, k, none⟩ = false := h.out.frozenAt k
theorem _root_.Go.Proofs.YtjaebonfojnmdaaDoor.Cma.Rr.form {B : Nat} {v : Value} {vs : List Value} {rs : List (List Int)} {w : World} (h : Rr B v vs rs w) (h0 : 0 < vs.length) : ∃ g c, v = .slice (some ⟨g, 0, none⟩) vs.length c := by
  rcases h.out.2 with ⟨_, hn⟩ | ⟨g, c, _, hv, _⟩
  · omega
  · exact ⟨g, c, hv⟩
/-- the last row gets one character more -/
theorem _root_.Go.Proofs.YtjaebonfojnmdaaDoor.Cma.Rr.snoc {B g c : Nat} {vs : List Value} {rs : List (List Int)} {w w1 : World} (h : Rr B (.slice (some ⟨g, 0, none⟩) vs.length c) vs rs w) (k : Nat) (u : Value) (hu : vs[k]? = some u) (x : Int) (a n d : Nat) (hn : n = (rs.getD k []).length + 1)
    (ho : w1.ownsRow B 21 1 (.slice (some ⟨a, 0, none⟩) n d) n ((rs.getD k []).map (Value.int .i32) ++ [.int .i32 x])) (hg : (w.alloc (.cells #[.int .i32 x] 21)).grownBy w1 u.ownBlock) (hat : some a = u.ownBlock ∨ a = (w.alloc (.cells #[.int .i32 x] 21)).heap.size) :
    ∃ vs', vs'.length = vs.length ∧ Rr B (.slice (some ⟨g, 0, none⟩) vs.length c) vs' (rs.set k (rs.getD k [] ++ [x])) (w1.setCell ⟨g, k, none⟩ (.slice (some ⟨a, 0, none⟩) n d)) := by
  subst hn
  have hb : Below w.heap.size w (w.alloc (.cells #[.int .i32 x] 21)) := (Below.refl _ w).alloc (Nat.le_refl _) _
  have h2 := h.kept hb
  have := h2.set k u hu (.slice (some ⟨a, 0, none⟩) ((rs.getD k []).length + 1) d) (rs.getD k [] ++ [x]) u.ownBlock (by simpa using ho) hg (.inr rfl) (by
    rcases hat with h | h
    · exact .inl h
    · exact .inr (.inl (by rw [h]; rfl))) ⟨_, _, _, rfl⟩
  rw [List.length_set] at this
  exact ⟨_, by simp, this⟩
/-- a new row behind all -/
theorem _root_.Go.Proofs.YtjaebonfojnmdaaDoor.Cma.Rr.more {B : Nat} {v : Value} {vs : List Value} {rs : List (List Int)} {w w1 : World} (h : Rr B v vs rs w) (x : Int) (v' : Value)
    (hout : w1.ownsRow B 29 1 v' (vs.length + 1) (vs ++ [.slice (some ⟨w.heap.size, 0, none⟩) 1 1])) (hg : ((w.alloc (.cells #[.int .i32 x] 21)).alloc (.cells #[.slice (some ⟨w.heap.size, 0, none⟩) 1 1] 29)).grownBy w1 v.ownBlock) :
    Rr B v' (vs ++ [.slice (some ⟨w.heap.size, 0, none⟩) 1 1]) (rs ++ [[x]]) w1 := by
  refine h.push (((Below.refl _ w).alloc (Nat.le_refl _) _).alloc (by simp) _) _ [x] ?_ ⟨w.heap.size, Nat.le_refl _, rfl⟩ ⟨_, _, _, rfl⟩ v' hout hg
  exact (World.ownsRow_lit w #[.int .i32 x] 1 h.base (by decide) rfl).alloc _
end Go.Proofs.YtjaebonfojnmdaaDoor.Cmc
