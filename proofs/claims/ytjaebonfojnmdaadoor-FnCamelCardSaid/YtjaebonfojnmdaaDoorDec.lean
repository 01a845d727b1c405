/- What stands at a place of a string, as a range over it tells it: an octet below 128 is itself, and one place long; all that is longer, or no UTF-8, is 128 or more, over octets of 128 or more. -/
import Derived.Lib.MapLaws
import Derived.Lib.DecodeN
namespace Go.Proofs.YtjaebonfojnmdaaDoor.Dec
open Go.Lib

def at_ (s : ByteArray) (i : Nat) : Nat := (s.data.toList.getD i 0).toNat
theorem get_at (s : ByteArray) (i : Nat) : (s.get! i).toNat = at_ s i := by
  unfold at_
  show (s.data[i]!).toNat = _
  rw [List.getD_eq_getElem?_getD, Array.getElem?_toList]
  by_cases h : i < s.data.size
  · rw [Array.getElem?_eq_getElem h, getElem!_pos s.data i h]; rfl
  · rw [Array.getElem?_eq_none (Nat.not_lt.1 h), getElem!_neg s.data i h]; rfl

theorem dec (s : ByteArray) (p : Nat) (hp : p < s.size) : 1 ≤ (Utf8.decode s p).2 ∧ p + (Utf8.decode s p).2 ≤ s.size ∧
    ((at_ s p < 128 ∧ Utf8.decode s p = (at_ s p, 1)) ∨ (128 ≤ at_ s p ∧ 128 ≤ (Utf8.decode s p).1 ∧ ∀ j, p ≤ j → j < p + (Utf8.decode s p).2 → 128 ≤ at_ s j)) := by
  rw [decode_at, get_at, get_at, get_at, get_at]
  by_cases h0 : at_ s p < 128
  · have : decodeN (s.size - p) (at_ s p) (at_ s (p + 1)) (at_ s (p + 2)) (at_ s (p + 3)) = (at_ s p, 1) := by unfold decodeN; rw [if_pos h0]
    rw [this]
    exact ⟨Nat.le_refl _, by show p + 1 ≤ s.size; omega, .inl ⟨h0, rfl⟩⟩
  rcases decodeN_shape (s.size - p) (at_ s p) (at_ s (p + 1)) (at_ s (p + 2)) (at_ s (p + 3)) with ⟨h, _⟩ | ⟨a, b, c, d, e⟩ | ⟨a, b, c, c2, d, _, e⟩ | ⟨a, b, c, c2, c3, d, _, e⟩ | e
  · exact absurd h h0
  · rw [e]
    refine ⟨by show 1 ≤ 2; omega, by show p + 2 ≤ s.size; omega, .inr ⟨by omega, by show 128 ≤ _; omega, ?_⟩⟩
    intro j h1 h2
    obtain rfl | rfl : j = p ∨ j = p + 1 := by have : j < p + 2 := h2; omega
    · omega
    · omega
  · rw [e]
    refine ⟨by show 1 ≤ 3; omega, by show p + 3 ≤ s.size; omega, .inr ⟨by omega, by show 128 ≤ _; omega, ?_⟩⟩
    intro j h1 h2
    obtain rfl | rfl | rfl : j = p ∨ j = p + 1 ∨ j = p + 2 := by have : j < p + 3 := h2; omega
    · omega
    · omega
    · omega
  · rw [e]
    refine ⟨by show 1 ≤ 4; omega, by show p + 4 ≤ s.size; omega, .inr ⟨by omega, by show 128 ≤ _; omega, ?_⟩⟩
    intro j h1 h2
    obtain rfl | rfl | rfl | rfl : j = p ∨ j = p + 1 ∨ j = p + 2 ∨ j = p + 3 := by have : j < p + 4 := h2; omega
    · omega
    · omega
    · omega
    · omega
  · rw [e]
    refine ⟨by show 1 ≤ 1; omega, by show p + 1 ≤ s.size; omega, .inr ⟨by omega, by show 128 ≤ 65533; omega, ?_⟩⟩
    intro j h1 h2
    obtain rfl : j = p := by have : j < p + 1 := h2; omega
    omega
end Go.Proofs.YtjaebonfojnmdaaDoor.Dec
