/- GetOrCompute asks just where Get finds nothing, and both give the same: on lists. -/
import Derived.Test.YtjhmcpdnmfhodaaLcp
namespace Go.Proofs.Ytjhmcpdnmfhodaa.Ccp
open Go Go.RowKit Lcp

theorem run_app (n : Int) : ∀ (l m : List Op3) (s : St), Lcp.run n s (l ++ m) = ((Lcp.run n (Lcp.run n s l).1 m).1, (Lcp.run n s l).2 ++ (Lcp.run n (Lcp.run n s l).1 m).2)
  | [], _, _ => rfl
  | x :: t, m, s => by
    show ((Lcp.run n (Lcp.step n s x).1 (t ++ m)).1, (Lcp.step n s x).2 :: (Lcp.run n (Lcp.step n s x).1 (t ++ m)).2) = _
    rw [run_app n t m]
    rfl
theorem find_head (k v : Int) (l : List (Int × Int)) : find ((k, v) :: l) k = some v := by unfold find; rw [List.find?_cons, decide_eq_true rfl]; rfl
/-- what the two scripts' last calls give -/
theorem last (n k v : Int) (s : St) : ∃ y, (Lcp.run n s [⟨1, k, 0⟩]).2 = [⟨(find s.l k).isSome, 0, (find s.l k).getD 0, false⟩] ∧ (Lcp.run n s [⟨2, k, v⟩, ⟨1, k, 0⟩]).2 = [⟨false, 0, y, !(find s.l k).isSome⟩, ⟨true, 0, y, false⟩] ∧ y = (if (find s.l k).isSome then (find s.l k).getD 0 else v) := by
  cases h : find s.l k with
  | some y =>
    refine ⟨y, ?_, ?_, rfl⟩
    · show [(Lcp.step n s ⟨1, k, 0⟩).2] = _
      unfold Lcp.step
      rw [if_neg (show ¬ (1 : Int) = 0 by decide), if_pos rfl]
      simp only [h]
      rfl
    · have h1 : Lcp.step n s ⟨2, k, v⟩ = (⟨(k, y) :: but s.l k, wrap64 (s.h + 1), s.m⟩, ⟨false, 0, y, false⟩) := by
        unfold Lcp.step
        rw [if_neg (show ¬ (2 : Int) = 0 by decide), if_neg (show ¬ (2 : Int) = 1 by decide), if_pos rfl]
        simp only [h]
      show [(Lcp.step n s ⟨2, k, v⟩).2, (Lcp.step n (Lcp.step n s ⟨2, k, v⟩).1 ⟨1, k, 0⟩).2] = _
      rw [h1]
      unfold Lcp.step
      rw [if_neg (show ¬ (1 : Int) = 0 by decide), if_pos rfl]
      simp only [find_head]
      rfl
  | none =>
    refine ⟨v, ?_, ?_, rfl⟩
    · show [(Lcp.step n s ⟨1, k, 0⟩).2] = _
      unfold Lcp.step
      rw [if_neg (show ¬ (1 : Int) = 0 by decide), if_pos rfl]
      simp only [h]
      rfl
    · have h1 : Lcp.step n s ⟨2, k, v⟩ = (⟨Lcp.ins n s.l k v, s.h, wrap64 (s.m + 1)⟩, ⟨false, 0, v, true⟩) := by
        unfold Lcp.step
        rw [if_neg (show ¬ (2 : Int) = 0 by decide), if_neg (show ¬ (2 : Int) = 1 by decide), if_pos rfl]
        simp only [h]
      have h2 : find (Lcp.ins n s.l k v) k = some v := by unfold Lcp.ins; split <;> exact find_head _ _ _
      show [(Lcp.step n s ⟨2, k, v⟩).2, (Lcp.step n (Lcp.step n s ⟨2, k, v⟩).1 ⟨1, k, 0⟩).2] = _
      rw [h1]
      unfold Lcp.step
      rw [if_neg (show ¬ (1 : Int) = 0 by decide), if_pos rfl]
      simp only [h2]
      rfl
end Go.Proofs.Ytjhmcpdnmfhodaa.Ccp
