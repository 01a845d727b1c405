/- The walks of tw's Validate functions and of laws.FnRight: which names are alignments, locations and positions, and which numbers are levels. -/
import Derived.Test.YtcjnoadamfdgeaaPFnTextDirectionx1
import Derived.Lib.Hide
import Derived.WideLaws
import Derived.OpenShut
namespace Go.Proofs.Ytcjnoadamfdgeaa.Ri
open Go.RowKit Go.Proofs.YtcjnoadamfdgeaaW.PrintWords Go.Proofs.YtcjnoadamfdgeaaW.PrintLast Go.Proofs.YtcjnoadamfdgeaaW.PrintMore

def IsErr (w : World) (e : Ending) (w' : World) : Prop := ∃ x, e = .returned (.iface 128 (.pointer (some x))) ∧ Below w.heap.size w w'
def IsNil (w : World) (e : Ending) (w' : World) : Prop := e = .returned .nilIface ∧ w = w'

theorem chain4 {w w1 w2 w3 w4 : World} {o : Obj} (b1 : Below (w.alloc o).heap.size (w.alloc o) w1) (b2 : Below w1.heap.size w1 w2) (b3 : Below w2.heap.size w2 w3) (b4 : Below w3.heap.size w3 w4) : Below w.heap.size w w4 := by
  have z1 := b1.size
  have z2 := b2.size
  have z3 := b3.size
  simp at z1
  exact ((((Below.refl _ _).alloc (Nat.le_refl _) _).trans (b1.mono (by simp))).trans (b2.mono (by omega))).trans (b3.mono (by omega)) |>.trans (b4.mono (by omega))

theorem new_any (s : ByteArray) (w : World) : Calls Try.prog 42 #[.string s] w (IsErr w) := by
  go_enter Try.func42, Try.ntmps42
  go_wp2
  go_ret
  exact ⟨_, rfl, (Below.refl _ _).alloc (Nat.le_refl _) _⟩

def alignB (s : ByteArray) : Bool := s.toList == [110, 111, 110, 101] || s.toList == [99, 101, 110, 116, 101, 114] || s.toList == [108, 101, 102, 116] || s.toList == [114, 105, 103, 104, 116]
theorem align_no (s : ByteArray) (w : World) (h0 : (s.toList == [110, 111, 110, 101]) = false) (h1 : (s.toList == [99, 101, 110, 116, 101, 114]) = false) (h2 : (s.toList == [108, 101, 102, 116]) = false) (h3 : (s.toList == [114, 105, 103, 104, 116]) = false) : Calls Try.prog 33 #[.string s] w (IsErr w) := by
  go_enter Try.func33, Try.ntmps33
  go_wp2_with (go_at_call 42; refine (new_any _ _).mono ?_; rintro e w' ⟨x, rfl, hb⟩)
  go_ret
  exact ⟨_, rfl, hb⟩
theorem align_yes (s : ByteArray) (w : World) (h : alignB s = true) : Calls Try.prog 33 #[.string s] w (IsNil w) := by
  unfold alignB at h
  by_cases h0 : (s.toList == [110, 111, 110, 101]) = true
  · clear h
    go_enter Try.func33, Try.ntmps33
    go_wp2
    go_ret
    exact ⟨rfl, rfl⟩
  replace h0 := eq_false_of_ne_true h0
  by_cases h1 : (s.toList == [99, 101, 110, 116, 101, 114]) = true
  · clear h
    go_enter Try.func33, Try.ntmps33
    go_wp2
    go_ret
    exact ⟨rfl, rfl⟩
  replace h1 := eq_false_of_ne_true h1
  by_cases h2 : (s.toList == [108, 101, 102, 116]) = true
  · clear h
    go_enter Try.func33, Try.ntmps33
    go_wp2
    go_ret
    exact ⟨rfl, rfl⟩
  replace h2 := eq_false_of_ne_true h2
  by_cases h3 : (s.toList == [114, 105, 103, 104, 116]) = true
  · clear h
    go_enter Try.func33, Try.ntmps33
    go_wp2
    go_ret
    exact ⟨rfl, rfl⟩
  replace h3 := eq_false_of_ne_true h3
  simp [h0, h1, h2, h3] at h
theorem align_any (s : ByteArray) (w : World) : Calls Try.prog 14 #[.string s] w fun e w' => e = .returned (.bool (alignB s)) ∧ Below w.heap.size w w' := by
  cases h : alignB s with
  | true =>
    have H := Lib.hid h
    clear h
    go_enter Try.func14, Try.ntmps14
    go_wp2_with (go_at_call 33; refine (align_yes _ _ H.out).mono ?_; rintro e w' ⟨rfl, rfl⟩)
    go_ret
    exact ⟨rfl, Below.refl _ _⟩
  | false =>
    obtain ⟨h0, h1, h2, h3⟩ : (s.toList == [110, 111, 110, 101]) = false ∧ (s.toList == [99, 101, 110, 116, 101, 114]) = false ∧ (s.toList == [108, 101, 102, 116]) = false ∧ (s.toList == [114, 105, 103, 104, 116]) = false := by simpa only [alignB, Bool.or_eq_false_iff, and_assoc] using h
    clear h
    go_enter Try.func14, Try.ntmps14
    go_wp2_with (go_at_call 33; refine (align_no _ _ h0 h1 h2 h3).mono ?_; rintro e w' ⟨x, rfl, hb⟩)
    go_ret
    exact ⟨rfl, hb⟩

def placeB (s : ByteArray) : Bool := s.toList == [102, 105, 114, 115, 116] || s.toList == [109, 105, 100, 100, 108, 101] || s.toList == [101, 110, 100]
theorem place_no (s : ByteArray) (w : World) (h0 : (s.toList == [102, 105, 114, 115, 116]) = false) (h1 : (s.toList == [109, 105, 100, 100, 108, 101]) = false) (h2 : (s.toList == [101, 110, 100]) = false) : Calls Try.prog 34 #[.string s] w (IsErr w) := by
  go_enter Try.func34, Try.ntmps34
  go_wp2_with (go_at_call 42; refine (new_any _ _).mono ?_; rintro e w' ⟨x, rfl, hb⟩)
  go_ret
  exact ⟨_, rfl, hb⟩
theorem place_yes (s : ByteArray) (w : World) (h : placeB s = true) : Calls Try.prog 34 #[.string s] w (IsNil w) := by
  unfold placeB at h
  by_cases h0 : (s.toList == [102, 105, 114, 115, 116]) = true
  · clear h
    go_enter Try.func34, Try.ntmps34
    go_wp2
    go_ret
    exact ⟨rfl, rfl⟩
  replace h0 := eq_false_of_ne_true h0
  by_cases h1 : (s.toList == [109, 105, 100, 100, 108, 101]) = true
  · clear h
    go_enter Try.func34, Try.ntmps34
    go_wp2
    go_ret
    exact ⟨rfl, rfl⟩
  replace h1 := eq_false_of_ne_true h1
  by_cases h2 : (s.toList == [101, 110, 100]) = true
  · clear h
    go_enter Try.func34, Try.ntmps34
    go_wp2
    go_ret
    exact ⟨rfl, rfl⟩
  replace h2 := eq_false_of_ne_true h2
  simp [h0, h1, h2] at h
theorem place_any (s : ByteArray) (w : World) : Calls Try.prog 15 #[.string s] w fun e w' => e = .returned (.bool (placeB s)) ∧ Below w.heap.size w w' := by
  cases h : placeB s with
  | true =>
    have H := Lib.hid h
    clear h
    go_enter Try.func15, Try.ntmps15
    go_wp2_with (go_at_call 34; refine (place_yes _ _ H.out).mono ?_; rintro e w' ⟨rfl, rfl⟩)
    go_ret
    exact ⟨rfl, Below.refl _ _⟩
  | false =>
    obtain ⟨h0, h1, h2⟩ : (s.toList == [102, 105, 114, 115, 116]) = false ∧ (s.toList == [109, 105, 100, 100, 108, 101]) = false ∧ (s.toList == [101, 110, 100]) = false := by simpa only [placeB, Bool.or_eq_false_iff, and_assoc] using h
    clear h
    go_enter Try.func15, Try.ntmps15
    go_wp2_with (go_at_call 34; refine (place_no _ _ h0 h1 h2).mono ?_; rintro e w' ⟨x, rfl, hb⟩)
    go_ret
    exact ⟨rfl, hb⟩

def partB (s : ByteArray) : Bool := s.toList == [104, 101, 97, 100, 101, 114] || s.toList == [102, 111, 111, 116, 101, 114] || s.toList == [114, 111, 119]
theorem part_no (s : ByteArray) (w : World) (h0 : (s.toList == [104, 101, 97, 100, 101, 114]) = false) (h1 : (s.toList == [102, 111, 111, 116, 101, 114]) = false) (h2 : (s.toList == [114, 111, 119]) = false) : Calls Try.prog 35 #[.string s] w (IsErr w) := by
  go_enter Try.func35, Try.ntmps35
  go_wp2_with (go_at_call 42; refine (new_any _ _).mono ?_; rintro e w' ⟨x, rfl, hb⟩)
  go_ret
  exact ⟨_, rfl, hb⟩
theorem part_yes (s : ByteArray) (w : World) (h : partB s = true) : Calls Try.prog 35 #[.string s] w (IsNil w) := by
  unfold partB at h
  by_cases h0 : (s.toList == [104, 101, 97, 100, 101, 114]) = true
  · clear h
    go_enter Try.func35, Try.ntmps35
    go_wp2
    go_ret
    exact ⟨rfl, rfl⟩
  replace h0 := eq_false_of_ne_true h0
  by_cases h1 : (s.toList == [102, 111, 111, 116, 101, 114]) = true
  · clear h
    go_enter Try.func35, Try.ntmps35
    go_wp2
    go_ret
    exact ⟨rfl, rfl⟩
  replace h1 := eq_false_of_ne_true h1
  by_cases h2 : (s.toList == [114, 111, 119]) = true
  · clear h
    go_enter Try.func35, Try.ntmps35
    go_wp2
    go_ret
    exact ⟨rfl, rfl⟩
  replace h2 := eq_false_of_ne_true h2
  simp [h0, h1, h2] at h
theorem part_any (s : ByteArray) (w : World) : Calls Try.prog 16 #[.string s] w fun e w' => e = .returned (.bool (partB s)) ∧ Below w.heap.size w w' := by
  cases h : partB s with
  | true =>
    have H := Lib.hid h
    clear h
    go_enter Try.func16, Try.ntmps16
    go_wp2_with (go_at_call 35; refine (part_yes _ _ H.out).mono ?_; rintro e w' ⟨rfl, rfl⟩)
    go_ret
    exact ⟨rfl, Below.refl _ _⟩
  | false =>
    obtain ⟨h0, h1, h2⟩ : (s.toList == [104, 101, 97, 100, 101, 114]) = false ∧ (s.toList == [102, 111, 111, 116, 101, 114]) = false ∧ (s.toList == [114, 111, 119]) = false := by simpa only [partB, Bool.or_eq_false_iff, and_assoc] using h
    clear h
    go_enter Try.func16, Try.ntmps16
    go_wp2_with (go_at_call 35; refine (part_no _ _ h0 h1 h2).mono ?_; rintro e w' ⟨x, rfl, hb⟩)
    go_ret
    exact ⟨rfl, hb⟩

def levelB (n : Int) : Bool := decide (0 ≤ n ∧ n ≤ 2)
theorem level_no (n : Int) (w : World) (h0 : (n == 0) = false) (h1 : (n == 1) = false) (h2 : (n == 2) = false) : Calls Try.prog 36 #[.int .i64 n] w (IsErr w) := by
  go_enter Try.func36, Try.ntmps36
  go_wp2_with (go_at_call 42; refine (new_any _ _).mono ?_; rintro e w' ⟨x, rfl, hb⟩)
  go_ret
  exact ⟨_, rfl, hb⟩
theorem level_yes (n : Int) (w : World) (h : levelB n = true) : Calls Try.prog 36 #[.int .i64 n] w (IsNil w) := by
  have h3 : 0 ≤ n ∧ n ≤ 2 := by simpa [levelB] using h
  clear h
  obtain rfl | rfl | rfl : n = 0 ∨ n = 1 ∨ n = 2 := by omega
  all_goals
    clear h3
    go_enter Try.func36, Try.ntmps36
    go_wp2
    go_ret
    exact ⟨rfl, rfl⟩
theorem level_any (n : Int) (w : World) : Calls Try.prog 17 #[.int .i64 n] w fun e w' => e = .returned (.bool (levelB n)) ∧ Below w.heap.size w w' := by
  cases h : levelB n with
  | true =>
    have H := Lib.hid h
    clear h
    go_enter Try.func17, Try.ntmps17
    go_wp2_with (go_at_call 36; refine (level_yes _ _ H.out).mono ?_; rintro e w' ⟨rfl, rfl⟩)
    go_ret
    exact ⟨rfl, Below.refl _ _⟩
  | false =>
    have h0 : ¬ (0 ≤ n ∧ n ≤ 2) := by simpa [levelB] using h
    have ha : (n == 0) = false := by simp; omega
    have hb : (n == 1) = false := by simp; omega
    have hc : (n == 2) = false := by simp; omega
    clear h h0
    go_enter Try.func17, Try.ntmps17
    go_wp2_with (go_at_call 36; refine (level_no _ _ ha hb hc).mono ?_; rintro e w' ⟨x, rfl, hd⟩)
    go_ret
    exact ⟨rfl, hd⟩


theorem align_law (s : ByteArray) (w : World) : Calls Try.prog 14 #[.string s] w fun e w' => e = .returned (.bool (s.toList == [110, 111, 110, 101] || s.toList == [99, 101, 110, 116, 101, 114] || s.toList == [114, 105, 103, 104, 116] || s.toList == [108, 101, 102, 116])) ∧ Below w.heap.size w w' := by
  have h : alignB s = (s.toList == [110, 111, 110, 101] || s.toList == [99, 101, 110, 116, 101, 114] || s.toList == [114, 105, 103, 104, 116] || s.toList == [108, 101, 102, 116]) := by
    unfold alignB
    generalize (s.toList == [110, 111, 110, 101]) = a, (s.toList == [99, 101, 110, 116, 101, 114]) = b, (s.toList == [114, 105, 103, 104, 116]) = c, (s.toList == [108, 101, 102, 116]) = d
    revert a b c d; decide
  rw [← h]
  exact align_any s w
theorem place_law (s : ByteArray) (w : World) : Calls Try.prog 15 #[.string s] w fun e w' => e = .returned (.bool (s.toList == [102, 105, 114, 115, 116] || s.toList == [109, 105, 100, 100, 108, 101] || s.toList == [101, 110, 100])) ∧ Below w.heap.size w w' := by
  have h : placeB s = (s.toList == [102, 105, 114, 115, 116] || s.toList == [109, 105, 100, 100, 108, 101] || s.toList == [101, 110, 100]) := by
    unfold placeB
    generalize (s.toList == [102, 105, 114, 115, 116]) = a, (s.toList == [109, 105, 100, 100, 108, 101]) = b, (s.toList == [101, 110, 100]) = c
    revert a b c; decide
  rw [← h]
  exact place_any s w
theorem part_law (s : ByteArray) (w : World) : Calls Try.prog 16 #[.string s] w fun e w' => e = .returned (.bool (s.toList == [104, 101, 97, 100, 101, 114] || s.toList == [114, 111, 119] || s.toList == [102, 111, 111, 116, 101, 114])) ∧ Below w.heap.size w w' := by
  have h : partB s = (s.toList == [104, 101, 97, 100, 101, 114] || s.toList == [114, 111, 119] || s.toList == [102, 111, 111, 116, 101, 114]) := by
    unfold partB
    generalize (s.toList == [104, 101, 97, 100, 101, 114]) = a, (s.toList == [114, 111, 119]) = b, (s.toList == [102, 111, 111, 116, 101, 114]) = c
    revert a b c; decide
  rw [← h]
  exact part_any s w
theorem pick_any (s : ByteArray) (j : Nat) (hj : j < 13) : ∃ X : ByteArray, (#[.string ⟨#[110, 111, 110, 101]⟩, .string ⟨#[99, 101, 110, 116, 101, 114]⟩, .string ⟨#[114, 105, 103, 104, 116]⟩, .string ⟨#[108, 101, 102, 116]⟩, .string ⟨#[102, 105, 114, 115, 116]⟩, .string ⟨#[109, 105, 100, 100, 108, 101]⟩, .string ⟨#[101, 110, 100]⟩, .string ⟨#[104, 101, 97, 100, 101, 114]⟩, .string ⟨#[114, 111, 119]⟩, .string ⟨#[102, 111, 111, 116, 101, 114]⟩, .string ⟨#[78, 111, 110, 101]⟩, .string ⟨#[]⟩, .string s] : Array Value)[j]? = some (.string X) := by
  obtain rfl | rfl | rfl | rfl | rfl | rfl | rfl | rfl | rfl | rfl | rfl | rfl | rfl : j = 0 ∨ j = 1 ∨ j = 2 ∨ j = 3 ∨ j = 4 ∨ j = 5 ∨ j = 6 ∨ j = 7 ∨ j = 8 ∨ j = 9 ∨ j = 10 ∨ j = 11 ∨ j = 12 := by omega
  all_goals exact ⟨_, rfl⟩

set_option maxHeartbeats 4000000 in
theorem law_small (s : ByteArray) (n k : Int) (w : World) (h0 : 0 ≤ k) (h1 : k ≤ 255) (hs : decide (2147483647 < (s.size : Int)) = false) :
    Calls Try.prog 6 #[.string s, .int .i64 n, .int .u8 k] w fun e w' => e = .returned (.bool true) ∧ Below w.heap.size w w' := by
  obtain ⟨X, hX⟩ := pick_any s (k % 13).toNat (by omega)
  by_cases l0 : n < 0
  · have hl : levelB n = false := by unfold levelB; exact decide_eq_false (by omega)
    go_enter Try.func6, Try.ntmps6
    go_wp2_with (first | (go_at_call 14; refine (align_law _ _).mono ?_; rintro e w1 ⟨rfl, b1⟩) | (go_at_call 15; refine (place_law _ _).mono ?_; rintro e w2 ⟨rfl, b2⟩) | (go_at_call 16; refine (part_law _ _).mono ?_; rintro e w3 ⟨rfl, b3⟩) | (go_at_call 17; refine (level_any _ _).mono ?_; rintro e w4 ⟨rfl, b4⟩))
    all_goals
      go_ret
      exact ⟨by simp, chain4 b1 b2 b3 b4⟩
  by_cases l2 : n ≤ 2
  · have hl : levelB n = true := by unfold levelB; exact decide_eq_true (by omega)
    have l1 : 0 ≤ n := by omega
    clear l0
    go_enter Try.func6, Try.ntmps6
    go_wp2_with (first | (go_at_call 14; refine (align_law _ _).mono ?_; rintro e w1 ⟨rfl, b1⟩) | (go_at_call 15; refine (place_law _ _).mono ?_; rintro e w2 ⟨rfl, b2⟩) | (go_at_call 16; refine (part_law _ _).mono ?_; rintro e w3 ⟨rfl, b3⟩) | (go_at_call 17; refine (level_any _ _).mono ?_; rintro e w4 ⟨rfl, b4⟩))
    all_goals
      go_ret
      exact ⟨by simp, chain4 b1 b2 b3 b4⟩
  · have hl : levelB n = false := by unfold levelB; exact decide_eq_false (by omega)
    have l1 : 0 ≤ n := by omega
    have l3 : decide (n ≤ 2) = false := decide_eq_false l2
    clear l0
    go_enter Try.func6, Try.ntmps6
    go_wp2_with (first | (go_at_call 14; refine (align_law _ _).mono ?_; rintro e w1 ⟨rfl, b1⟩) | (go_at_call 15; refine (place_law _ _).mono ?_; rintro e w2 ⟨rfl, b2⟩) | (go_at_call 16; refine (part_law _ _).mono ?_; rintro e w3 ⟨rfl, b3⟩) | (go_at_call 17; refine (level_any _ _).mono ?_; rintro e w4 ⟨rfl, b4⟩))
    all_goals
      go_ret
      exact ⟨by simp, chain4 b1 b2 b3 b4⟩

theorem law_great (s : ByteArray) (n k : Int) (w : World) (hs : decide (2147483647 < (s.size : Int)) = true) :
    Calls Try.prog 6 #[.string s, .int .i64 n, .int .u8 k] w fun e w' => e = .returned (.bool true) ∧ Below w.heap.size w w' := by
  go_enter Try.func6, Try.ntmps6
  go_wp2
  go_ret
  exact ⟨rfl, Below.refl _ _⟩

theorem walk (s : ByteArray) (n k : Int) (w : World) (_ : s.size ≤ 140737488351232) (_ : (Lit.int .i64 n).wf = true) (w2 : (Lit.int .u8 k).wf = true) :
    Calls Try.prog 6 #[.string s, .int .i64 n, .int .u8 k] w fun e w' => e = .returned (.bool true) ∧ Below w.heap.size w w' := by
  obtain ⟨a, b⟩ := Go.bounds_u8 w2
  cases h : decide (2147483647 < (s.size : Int)) with
  | true => exact law_great s n k w h
  | false => exact law_small s n k w a b h
end Go.Proofs.Ytcjnoadamfdgeaa.Ri
