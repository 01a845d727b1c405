/- The hit rate: the quotient of two small whole numbers is a number. -/
import Derived.Laws.Cover2
import Derived.Laws.FloatArith
namespace Go.Proofs.Ytjhmcpdnmfhodaa.Flt
open Go Ieee

def okD (n : Nat) : Bool := match double.read (floatOfInt .f64 (n : Int)) with
  | .number _ m _ => n == 0 || m != 0
  | _ => false
def allD : Nat → Bool
  | 0 => okD 0
  | n + 1 => okD (n + 1) && allD n
theorem all4000 : allD 4000 = true := by decide +kernel
theorem ok_of (n : Nat) : ∀ k, allD k = true → n ≤ k → okD n = true
  | 0, h, hn => by obtain rfl : n = 0 := by omega
                   exact h
  | k + 1, h, hn => by
    have h' : (okD (k + 1) && allD k) = true := h
    rw [Bool.and_eq_true] at h'
    by_cases e : n = k + 1
    · rw [e]; exact h'.1
    · exact ok_of n k h'.2 (by omega)
theorem num (n : Nat) (hn : n ≤ 4000) : ∃ s m i, double.read (floatOfInt .f64 (n : Int)) = .number s m i ∧ (n = 0 ∨ m ≠ 0) := by
  have h := ok_of n 4000 all4000 hn
  unfold okD at h
  cases hr : double.read (floatOfInt .f64 (n : Int)) with
  | number s m i =>
    rw [hr] at h
    refine ⟨s, m, i, rfl, ?_⟩
    simpa using h
  | infinity s => rw [hr] at h; cases h
  | nan s t => rw [hr] at h; cases h
theorem read_word (neg : Bool) (r : Nat) (hr : r ≤ double.infRung) : (double.read (double.word neg r)).isNaN = false := by
  have hi : double.infRung < double.signWeight := by decide +kernel
  have hm : double.word neg r % double.signWeight = r := by
    unfold Format.word
    cases neg
    · exact Nat.mod_eq_of_lt (Nat.lt_of_le_of_lt hr hi)
    · show (double.signWeight + r) % double.signWeight = r
      rw [Nat.add_mod_left]; exact Nat.mod_eq_of_lt (Nat.lt_of_le_of_lt hr hi)
  unfold Format.read
  simp only [hm]
  by_cases h1 : r < double.binade
  · rw [if_pos h1]; rfl
  · rw [if_neg h1]
    by_cases h2 : r < double.infRung
    · rw [if_pos h2]; rfl
    · rw [if_neg h2, if_pos (Nat.le_antisymm hr (Nat.not_lt.1 h2))]; rfl
theorem read_near (neg : Bool) (mag : Nat) (place : Int) : (double.read (double.nearest neg mag place)).isNaN = false := by
  unfold Format.nearest
  split
  · exact read_word neg 0 (Nat.zero_le _)
  · exact read_word _ _ (Nat.min_le_right _ _)
theorem order_self (d : Datum) (h : d.isNaN = false) : d.order d = some .eq := by
  cases d with
  | number s m i => simp [Datum.order]
  | infinity s => simp [Datum.order]
  | nan s t => cases h
def rt (h m : Int) : Nat := if h + m = 0 then 0 else (FloatKind.f64.format.div (floatOfInt .f64 h) (floatOfInt .f64 (h + m))).getD 0
theorem div_num {h t : Nat} (hh : h ≤ 4000) (ht : t ≤ 4000) (h0 : t ≠ 0) : ∃ neg mag place, double.div (floatOfInt .f64 (h : Int)) (floatOfInt .f64 (t : Int)) = some (double.nearest neg mag place) := by
  obtain ⟨s, m, i, hr, _⟩ := num h hh
  obtain ⟨s2, m2, i2, hr2, hz⟩ := num t ht
  have hm2 : m2 ≠ 0 := hz.resolve_left h0
  unfold Format.div
  rw [hr, hr2]
  unfold Datum.quotient
  dsimp only
  rw [if_neg hm2]
  exact ⟨_, _, _, rfl⟩
theorem rt_div {h m : Int} (h0 : 0 ≤ h) (m0 : 0 ≤ m) (hb : h + m ≤ 4000) (hne : h + m ≠ 0) : FloatKind.f64.format.div (floatOfInt .f64 h) (floatOfInt .f64 (h + m)) = some (rt h m) := by
  obtain ⟨a, rfl⟩ := Int.eq_ofNat_of_zero_le h0
  obtain ⟨b, rfl⟩ := Int.eq_ofNat_of_zero_le m0
  obtain ⟨n1, n2, n3, hd⟩ := div_num (h := a) (t := a + b) (by omega) (by omega) (by omega)
  have hd' : FloatKind.f64.format.div (floatOfInt .f64 (a : Int)) (floatOfInt .f64 ((a : Int) + (b : Int))) = some (double.nearest n1 n2 n3) := hd
  unfold rt
  rw [if_neg hne, hd']
  rfl
theorem rt_self {h m : Int} (h0 : 0 ≤ h) (m0 : 0 ≤ m) (hb : h + m ≤ 4000) : FloatKind.f64.format.order (rt h m) (rt h m) = some .eq := by
  by_cases hne : h + m = 0
  · unfold rt
    rw [if_pos hne]
    decide +kernel
  · have h1 := rt_div h0 m0 hb hne
    obtain ⟨a, rfl⟩ := Int.eq_ofNat_of_zero_le h0
    obtain ⟨b, rfl⟩ := Int.eq_ofNat_of_zero_le m0
    obtain ⟨n1, n2, n3, hd⟩ := div_num (h := a) (t := a + b) (by omega) (by omega) (by omega)
    have hd' : FloatKind.f64.format.div (floatOfInt .f64 (a : Int)) (floatOfInt .f64 ((a : Int) + (b : Int))) = some (double.nearest n1 n2 n3) := hd
    rw [hd'] at h1
    rw [← Option.some.inj h1]
    exact order_self _ (read_near n1 n2 n3)
end Go.Proofs.Ytjhmcpdnmfhodaa.Flt
