/- impl.paired: a pair is put where its key stands. -/
import Derived.Test.YtokdamfalhcnnaaMx
namespace Go.Proofs.Ytokdamfalhcnnaa.Pa
open Go Go.Maps Go.ChangeMaps Go.MapKept Go.RowKit Go.Proofs.YtokdamfalhcnnaaW.PrintWords Go.Proofs.YtokdamfalhcnnaaW.PrintLast Go.Proofs.YtokdamfalhcnnaaW.PrintMore Mp Mq Mr Ms Mt Mu Small Mv Mo Mw Mx

set_option linter.all false
set_option maxRecDepth 1000000
set_option maxHeartbeats 4000000
variable {w w' : World} {ps xs ys : List Pr} {p : Pr}
theorem ins_mid : ∀ {xs ys : List Pr}, (∀ e ∈ xs, e.1 < p.1) → (∀ e ∈ ys, p.1 < e.1) → ins (xs ++ ys) p = xs ++ p :: ys
  | [], [], _, _ => rfl
  | [], y :: t, _, h => by
    have := h y (by simp)
    show (if y.1 < p.1 then _ else if y.1 = p.1 then _ else _) = _
    rw [if_neg (by omega), if_neg (by omega)]
    rfl
  | a :: t, ys, h, k => by
    have := h a (by simp)
    show (if a.1 < p.1 then a :: ins (t ++ ys) p else if a.1 = p.1 then _ else _) = _
    rw [if_pos this, ins_mid (fun e he => h e (by simp [he])) k]
    rfl
theorem pcs_app (a b : List Pr) : pcs (a ++ b) = pcs a ++ pcs b := by unfold pcs; exact List.flatMap_append
theorem pcs_len (a : List Pr) : (pcs a).length = a.length * 2 := by
  induction a with
  | nil => rfl
  | cons x t ih =>
    have : pcs (x :: t) = .int .i64 x.1 :: .int .i64 x.2 :: pcs t := rfl
    rw [this]; simp [ih]; omega
/-- the row under way: its block, what stands in it -/
structure Ro (B g cap : Nat) (w : World) (l : List Pr) (cur : Array Value) : Prop where
  hp : w.heap[g]? = some (.cells cur 29 (0, 0))
  sz : cur.size = cap * 2
  le : l.length ≤ cap
  mx : cap ≤ maxLen
  tk : cur.toList.take (l.length * 2) = pcs l
  gB : B ≤ g
theorem Ro.own {B g cap : Nat} {l : List Pr} {cur : Array Value} (h : Ro B g cap w l cur) : w.ownsRow B 29 2 (.slice (some ⟨g, 0, none⟩) l.length cap) l.length (pcs l) := ⟨pcs_len l, .inr ⟨g, cap, cur, rfl, h.gB, h.hp, h.le, h.mx, h.sz, h.tk⟩⟩
theorem Ro.cell {B g cap : Nat} {l : List Pr} {cur : Array Value} (h : Ro B g cap w l cur) (j : Nat) (u : Value) (hj : (pcs l)[j]? = some u) : w.cell? ⟨g, j, none⟩ = some u := by
  rw [← h.tk, List.getElem?_take] at hj
  rw [Lib.cell_of_heap h.hp]
  split at hj
  · rw [← Array.getElem?_toList]; exact hj
  · cases hj
theorem mid_at (a : Pr) : (pcs (xs ++ a :: p :: ys))[xs.length * 2]? = some (.int .i64 a.1) ∧ (pcs (xs ++ a :: p :: ys))[xs.length * 2 + 1]? = some (.int .i64 a.2) ∧ (pcs (xs ++ a :: p :: ys))[(xs.length + 1) * 2]? = some (.int .i64 p.1) ∧ (pcs (xs ++ a :: p :: ys))[(xs.length + 1) * 2 + 1]? = some (.int .i64 p.2) := by
  have h1 := pcs_at (xs ++ a :: p :: ys) xs.length (by simp)
  have h2 := pcs_at (xs ++ a :: p :: ys) (xs.length + 1) (by simp)
  have e1 : (xs ++ a :: p :: ys)[xs.length]'(by simp) = a := by simp
  have e2 : (xs ++ a :: p :: ys)[xs.length + 1]'(by simp) = p := by simp
  rw [e1] at h1
  rw [e2] at h2
  exact ⟨h1.1, h1.2, h2.1, h2.2⟩
/-- the swap, in memory -/
theorem Ro.swap {B g cap : Nat} {a : Pr} {cur : Array Value} (h : Ro B g cap w (xs ++ a :: p :: ys) cur) {w1 : World} (hw : w1.heap[g]? = some (.cells ((((cur.setIfInBounds (xs.length * 2) (.int .i64 p.1)).setIfInBounds (xs.length * 2 + 1) (.int .i64 p.2)).setIfInBounds ((xs.length + 1) * 2) (.int .i64 a.1)).setIfInBounds ((xs.length + 1) * 2 + 1) (.int .i64 a.2)) 29 (0, 0))) :
    ∃ cur', Ro B g cap w1 (xs ++ p :: a :: ys) cur' := by
  refine ⟨_, hw, by simp [h.sz], by have := h.le; simp at this ⊢; omega, h.mx, ?_, h.gB⟩
  have ht := h.tk
  have e1 : pcs (xs ++ a :: p :: ys) = pcs xs ++ (.int .i64 a.1 :: .int .i64 a.2 :: .int .i64 p.1 :: .int .i64 p.2 :: pcs ys) := by rw [pcs_app]; rfl
  have e2 : pcs (xs ++ p :: a :: ys) = pcs xs ++ (.int .i64 p.1 :: .int .i64 p.2 :: .int .i64 a.1 :: .int .i64 a.2 :: pcs ys) := by rw [pcs_app]; rfl
  have hl := pcs_len xs
  have hn : (xs ++ a :: p :: ys).length = xs.length + 2 + ys.length := by simp; omega
  have hn2 : (xs ++ p :: a :: ys).length = xs.length + 2 + ys.length := by simp; omega
  have hle := h.le
  have hsz := h.sz
  rw [e1, hn] at ht
  rw [e2, hn2]
  rw [hn] at hle
  apply List.ext_getElem?
  intro j
  have hj0 : (cur.toList.take ((xs.length + 2 + ys.length) * 2))[j]? = (pcs xs ++ (.int .i64 a.1 :: .int .i64 a.2 :: .int .i64 p.1 :: .int .i64 p.2 :: pcs ys))[j]? := by rw [ht]
  have hly := pcs_len ys
  rw [List.getElem?_take] at hj0 ⊢
  by_cases hj : j < (xs.length + 2 + ys.length) * 2
  · rw [if_pos hj] at hj0 ⊢
    rw [Array.getElem?_toList] at hj0 ⊢
    simp only [Array.getElem?_setIfInBounds]
    by_cases c1 : j < xs.length * 2
    · rw [if_neg (by omega), if_neg (by omega), if_neg (by omega), if_neg (by omega), hj0, List.getElem?_append_left (by omega), List.getElem?_append_left (by omega)]
    · rw [List.getElem?_append_right (by omega)] at hj0 ⊢
      rw [hl] at hj0 ⊢
      obtain ⟨i, rfl⟩ : ∃ i, j = xs.length * 2 + i := ⟨j - xs.length * 2, by omega⟩
      rw [Nat.add_sub_cancel_left] at hj0 ⊢
      match i with
      | 0 => rw [if_neg (by omega), if_neg (by omega), if_neg (by omega), if_pos (by omega)]; simp; omega
      | 1 => rw [if_neg (by omega), if_neg (by omega), if_pos (by omega)]; simp; omega
      | 2 => rw [if_neg (by omega), if_pos (by omega)]; simp; omega
      | 3 => rw [if_pos (by omega)]; simp; omega
      | i + 4 =>
        rw [if_neg (by omega), if_neg (by omega), if_neg (by omega), if_neg (by omega), hj0]
        rfl
  · rw [if_neg hj, List.getElem?_eq_none]
    simp [hl, hly]; omega
end Go.Proofs.Ytokdamfalhcnnaa.Pa
