/- The second loop of SplitCamelCase in memory: a row's last character goes ahead of the next row. -/
import Derived.Test.YtjaebonfojnmdaaDoorCmc
namespace Go.Proofs.YtjaebonfojnmdaaDoor.Cmd
open Go Go.RowKit Go.Lib Go.Proofs.YtjaebonfojnmdaaDoorW.PrintWords Cma Cmb Cmp Cmc

theorem own_cut {w : World} {B e a n d k : Nat} {xs : List Value} (h : w.ownsRow B e 1 (.slice (some ⟨a, 0, none⟩) n d) n xs) (hk : k ≤ n) : w.ownsRow B e 1 (.slice (some ⟨a, 0, none⟩) k d) k (xs.take k) ∧ n ≤ d := by
  rcases h.2 with ⟨h', _⟩ | ⟨g', cap', cur, h', hb, hg, hnc, hcm, hcs, htake⟩
  · simp at h'
  · simp only [Value.slice.injEq, Option.some.injEq, Addr.mk.injEq, and_true, true_and] at h'
    obtain ⟨rfl, rfl⟩ := h'
    refine ⟨⟨?_, .inr ⟨a, d, cur, rfl, hb, hg, by omega, hcm, hcs, ?_⟩⟩, hnc⟩
    · rw [List.length_take, h.1]; omega
    · rw [← htake, Nat.mul_one, Nat.mul_one, List.take_take, Nat.min_eq_left hk]
theorem grown_none {w W w' : World} {row : Option Nat} (h : Below w.heap.size w W) (hg : W.grownBy w' row) (hr : ∀ k, row = some k → w.heap.size ≤ k) : w.grownBy w' none :=
  ⟨hg.os.trans h.os, hg.tape.trans h.tape, hg.output.trans h.output, Nat.le_trans h.size hg.size, fun k hk _ => (hg.block k (Nat.lt_of_lt_of_le hk h.size) (fun e => by have := hr k e.symm; omega)).trans (h.block k hk)⟩
theorem moved1 {B g c a2 n2 cap2 i : Nat} {vs : List Value} {rs : List (List Int)} {D w2 : World} {x : Int} (h : Rr B (.slice (some ⟨g, 0, none⟩) vs.length c) vs rs D) (hi : i + 1 < vs.length) (hn2 : n2 = (rs.getD (i + 1) []).length + 1)
    (ho2 : w2.ownsRow B 21 1 (.slice (some ⟨a2, 0, none⟩) n2 cap2) n2 ([.int .i32 x] ++ (rs.getD (i + 1) []).map (Value.int .i32))) (hg2 : D.grownBy w2 none) (ha2 : D.heap.size ≤ a2) :
    Rr B (.slice (some ⟨g, 0, none⟩) vs.length c) (vs.set (i + 1) (.slice (some ⟨a2, 0, none⟩) n2 cap2)) (rs.set (i + 1) (x :: rs.getD (i + 1) [])) (w2.setCell ⟨g, i + 1, none⟩ (.slice (some ⟨a2, 0, none⟩) n2 cap2)) := by
  have := h.set (i + 1) _ (List.getElem?_eq_getElem hi) (.slice (some ⟨a2, 0, none⟩) n2 cap2) (x :: rs.getD (i + 1) []) none (by rw [hn2] at ho2; rw [hn2]; simpa using ho2) hg2 (.inl rfl) (.inr (.inr ⟨a2, ha2, rfl⟩)) ⟨_, _, _, rfl⟩
  rw [List.length_set] at this
  exact this
theorem moved2 {B g c a n d i : Nat} {vs : List Value} {rs : List (List Int)} {D : World} (h : Rr B (.slice (some ⟨g, 0, none⟩) vs.length c) vs rs D) (hi : i < vs.length) (hu : vs[i]? = some (.slice (some ⟨a, 0, none⟩) n d)) (hn : n = (rs.getD i []).length) :
    Rr B (.slice (some ⟨g, 0, none⟩) vs.length c) (vs.set i (.slice (some ⟨a, 0, none⟩) (n - 1) d)) (rs.set i ((rs.getD i []).take (n - 1))) (D.setCell ⟨g, i, none⟩ (.slice (some ⟨a, 0, none⟩) (n - 1) d)) := by
  have ho := h.inn i _ _ hu (getD_at [] rs i (by rw [← h.len]; exact hi))
  rw [← hn] at ho
  have hc := (own_cut ho (Nat.sub_le n 1)).1
  rw [← List.map_take] at hc
  have e : ((rs.getD i []).take (n - 1)).length = n - 1 := by rw [List.length_take]; omega
  have := h.set i _ hu (.slice (some ⟨a, 0, none⟩) (n - 1) d) ((rs.getD i []).take (n - 1)) none (by rw [e]; exact hc) (World.grownBy.refl D none) (.inl rfl) (.inl rfl) ⟨_, _, _, rfl⟩
  rw [List.length_set] at this
  exact this
/-- what the second loop's state is, behind i rounds -/
structure L2 (w0 : World) (E n i g c N : Nat) (rs : List (List Int)) (wx : World) : Prop where
  mi : Mi n i rs
  rows : ∃ vs, vs.length = N ∧ Rr w0.heap.size (.slice (some ⟨g, 0, none⟩) N c) vs rs wx
  below : Below w0.heap.size w0 wx
  ent : wx.heap[E]? = some (.cells #[] 9 (0, 0))
theorem L2.same {w0 wx : World} {E n i g c N : Nat} {rs : List (List Int)} (h : L2 w0 E n i g c N rs wx) (hi : i + 1 < rs.length) (hc : ¬ ((rs.getD i []).getD 0 0 < 97 ∧ 97 ≤ (rs.getD (i + 1) []).getD 0 0)) : L2 w0 E n (i + 1) g c N (mv rs i) wx := by
  refine ⟨h.mi.mv hi, ?_, h.below, h.ent⟩
  unfold mv
  rw [if_neg hc]
  exact h.rows
theorem L2.moved {w0 D w2 : World} {E n i g c N a l d a2 n2 cap2 : Nat} {vs : List Value} {rs : List (List Int)} (hm : Mi n i rs) (hb : Below w0.heap.size w0 D) (hent : D.heap[E]? = some (.cells #[] 9 (0, 0))) (hN : vs.length = N)
    (h : Rr w0.heap.size (.slice (some ⟨g, 0, none⟩) N c) vs rs D) (hi : i + 1 < N) (hc : (rs.getD i []).getD 0 0 < 97 ∧ 97 ≤ (rs.getD (i + 1) []).getD 0 0) (hu : vs[i]? = some (.slice (some ⟨a, 0, none⟩) l d)) (hl : l = (rs.getD i []).length)
    (hn2 : n2 = (rs.getD (i + 1) []).length + 1) (ho2 : w2.ownsRow w0.heap.size 21 1 (.slice (some ⟨a2, 0, none⟩) n2 cap2) n2 ([.int .i32 ((rs.getD i []).getD (l - 1) 0)] ++ (rs.getD (i + 1) []).map (Value.int .i32))) (hg2 : D.grownBy w2 none) (ha2 : D.heap.size ≤ a2) :
    L2 w0 E n (i + 1) g c N (mv rs i) ((w2.setCell ⟨g, i + 1, none⟩ (.slice (some ⟨a2, 0, none⟩) n2 cap2)).drew.setCell ⟨g, i, none⟩ (.slice (some ⟨a, 0, none⟩) (l - 1) d)) := by
  subst hN
  have hlen := h.len
  have h1 := moved1 h hi hn2 ho2 hg2 ha2
  have h1d : Rr w0.heap.size (.slice (some ⟨g, 0, none⟩) vs.length c) (vs.set (i + 1) (.slice (some ⟨a2, 0, none⟩) n2 cap2)) (rs.set (i + 1) ((rs.getD i []).getD (l - 1) 0 :: rs.getD (i + 1) [])) (w2.setCell ⟨g, i + 1, none⟩ (.slice (some ⟨a2, 0, none⟩) n2 cap2)).drew :=
    h1.kept ⟨rfl, rfl, rfl, Nat.le_refl _, fun _ _ => rfl⟩
  have e1 : (rs.set (i + 1) ((rs.getD i []).getD (l - 1) 0 :: rs.getD (i + 1) [])).getD i [] = rs.getD i [] := by
    rw [List.getD_eq_getElem?_getD, List.getElem?_set_ne (by omega), ← List.getD_eq_getElem?_getD]
  have e2 : (vs.set (i + 1) (Value.slice (some ⟨a2, 0, none⟩) n2 cap2)).length = vs.length := List.length_set
  rw [← e2] at h1d
  have h2 := moved2 (i := i) h1d (by rw [e2]; omega) (by rw [List.getElem?_set_ne (by omega)]; exact hu) (by rw [e1]; exact hl)
  rw [e1, e2] at h2
  have hge : w0.heap.size ≤ g := own_ge h.out g rfl
  have hg3 : Below w0.heap.size w0 w2 := bel_grown hb hg2 (fun k hk => by cases hk)
  refine ⟨hm.mv (by omega), ⟨(vs.set (i + 1) (.slice (some ⟨a2, 0, none⟩) n2 cap2)).set i (.slice (some ⟨a, 0, none⟩) (l - 1) d), by rw [List.length_set, List.length_set], ?_⟩, ?_, ?_⟩
  · unfold mv
    rw [if_pos hc, ← hl]
    exact h2
  · have p1 := bel_grown hg3 (put_grown w2 g (i + 1) (.slice (some ⟨a2, 0, none⟩) n2 cap2)) (fun k hk => by obtain rfl := Option.some.inj hk; exact hge)
    have p2 : Below w0.heap.size w0 (w2.setCell ⟨g, i + 1, none⟩ (.slice (some ⟨a2, 0, none⟩) n2 cap2)).drew := ⟨p1.os, p1.tape, p1.output, p1.size, p1.block⟩
    exact bel_grown p2 (put_grown _ g i _) (fun k hk => by obtain rfl := Option.some.inj hk; exact hge)
  · have hlt : E < D.heap.size := (Array.getElem?_eq_some_iff.1 hent).1
    have hgE : some E ≠ some g := fun e => by
      obtain ⟨cc, hcc⟩ := own_typed h.out rfl
      have : E = g := by injection e
      subst this
      rw [hent] at hcc
      cases hcc
    have k1 := (hg2.block E hlt (by simp)).trans hent
    have k2 := ((put_grown w2 g (i + 1) (.slice (some ⟨a2, 0, none⟩) n2 cap2)).block E (Array.getElem?_eq_some_iff.1 k1).1 hgE).trans k1
    have k3 : (w2.setCell ⟨g, i + 1, none⟩ (.slice (some ⟨a2, 0, none⟩) n2 cap2)).drew.heap[E]? = some (.cells #[] 9 (0, 0)) := k2
    exact ((put_grown _ g i _).block E (Array.getElem?_eq_some_iff.1 k3).1 hgE).trans k3
end Go.Proofs.YtjaebonfojnmdaaDoor.Cmd
