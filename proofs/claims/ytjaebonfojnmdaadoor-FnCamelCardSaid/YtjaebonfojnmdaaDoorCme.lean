/- Texts of letters: what string(runes) and TrimSpace make of them; the last loop's list. -/
import Derived.Test.YtjaebonfojnmdaaDoorCmp
import Derived.Lib.Space
import Derived.Stop.FmtQuoteTie
namespace Go.Proofs.YtjaebonfojnmdaaDoor.Cme
open Go Cmp
theorem enc1 (c : Int) (h : Lt c) : (Utf8.encode c).data.toList = [UInt8.ofNat c.toNat] := by
  have := Go.Extern.FmtText.enc1 c.toNat (by unfold Lt at h; omega)
  rwa [show ((c.toNat : Nat) : Int) = c by unfold Lt at h; omega] at this
theorem foldl_text : ∀ (r : List Int) (b : ByteArray), (∀ c ∈ r, Lt c) → (r.foldl (fun r n => r ++ Utf8.encode n) b).data.toList = b.data.toList ++ r.map fun c => UInt8.ofNat c.toNat
  | [], b, _ => by simp
  | c :: r, b, h => by
    rw [List.foldl_cons, foldl_text r _ (fun d hd => h d (List.mem_cons_of_mem _ hd))]
    simp [enc1 c (h c (by simp))]
theorem text (r : List Int) (h : ∀ c ∈ r, Lt c) : (runesBytes r).data.toList = r.map fun c => UInt8.ofNat c.toNat := by
  unfold runesBytes
  rw [foldl_text r _ h]
  rfl
theorem no_sp (c : Int) (h : Lt c) : Lib.isSp (UInt8.ofNat c.toNat) = false := by
  have key : ∀ k : Fin 256, (65 ≤ k.val ∧ k.val ≤ 90) ∨ (97 ≤ k.val ∧ k.val ≤ 122) → Lib.isSp (UInt8.ofNat k.val) = false := by decide +kernel
  exact key ⟨c.toNat, by unfold Lt at h; omega⟩ (by unfold Lt at h; simp only; omega)
theorem drop_none {α : Type} (p : α → Bool) : ∀ (l : List α), (∀ b ∈ l, p b = false) → l.dropWhile p = l
  | [], _ => rfl
  | b :: l, h => by rw [List.dropWhile_cons, h b (by simp)]; rfl
theorem trim (r : List Int) (h : ∀ c ∈ r, Lt c) : Lib.trimSpace (runesBytes r).data.toList = (runesBytes r).data.toList := by
  have key : ∀ b ∈ (runesBytes r).data.toList, Lib.isSp b = false := fun b hb => by
    rw [text r h] at hb
    obtain ⟨c, hc, rfl⟩ := List.mem_map.1 hb
    exact no_sp c (h c hc)
  unfold Lib.trimSpace
  rw [drop_none _ _ key, drop_none _ _ (fun b hb => key b (List.mem_reverse.1 hb)), List.reverse_reverse]
theorem keep_take (rs : List (List Int)) (q : Nat) (h : q < rs.length) : keep (rs.take (q + 1)) = if 0 < (rs.getD q []).length then keep (rs.take q) ++ [runesBytes (rs.getD q [])] else keep (rs.take q) := by
  rw [List.take_add_one, getD_at [] rs q h]
  unfold keep
  by_cases e : 0 < (rs.getD q []).length
  · rw [if_pos e, List.filter_append, List.map_append]
    simp only [Option.toList_some, List.filter_cons, decide_eq_true e, List.filter_nil]
    rfl
  · rw [if_neg e, List.filter_append, List.map_append]
    simp only [Option.toList_some, List.filter_cons, decide_eq_false e, List.filter_nil]
    simp
theorem keep_few (rs : List (List Int)) : (keep rs).length ≤ rs.length := by unfold keep; rw [List.length_map]; exact List.length_filter_le _ _
end Go.Proofs.YtjaebonfojnmdaaDoor.Cme
