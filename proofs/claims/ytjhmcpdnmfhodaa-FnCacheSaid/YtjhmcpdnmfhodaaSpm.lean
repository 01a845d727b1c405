/- The specification's cache in memory, and the walk of 'place'. -/
import Derived.Test.YtjhmcpdnmfhodaaLcw
namespace Go.Proofs.Ytjhmcpdnmfhodaa.Spm
open Go Go.RowKit Go.Proofs.YtjhmcpdnmfhodaaW.PrintWords

def pc (p : Int × Int) : List Value := [.int .i64 p.1, .int .i64 p.2]
def pcs (l : List (Int × Int)) : List Value := l.flatMap pc
theorem flat2 (l : List (Int × Int)) : ∀ j, (pcs l)[j]? = (l[j / 2]?).bind fun x => (pc x)[j % 2]? := by
  unfold pcs
  induction l with
  | nil => intro j; simp
  | cons x t ih =>
    intro j
    rw [List.flatMap_cons]
    by_cases h : j < 2
    · rw [List.getElem?_append_left (show j < (pc x).length from h), show j / 2 = 0 by omega, show j % 2 = j by omega]
      rfl
    · rw [List.getElem?_append_right (show (pc x).length ≤ j by show 2 ≤ j; omega), show (pc x).length = 2 from rfl, ih, show j / 2 = (j - 2) / 2 + 1 by omega, show (j - 2) % 2 = j % 2 by omega]
      rfl
theorem pcs_len : ∀ l : List (Int × Int), (pcs l).length = l.length * 2
  | [] => rfl
  | x :: t => by show (pc x ++ pcs t).length = _; rw [List.length_append, pcs_len t, List.length_cons]; show 2 + _ = _; omega
theorem pcs_app (l m : List (Int × Int)) : pcs (l ++ m) = pcs l ++ pcs m := List.flatMap_append
theorem pcs_one (l : List (Int × Int)) : ∀ u ∈ pcs l, u.oneCell' = true := fun u hu => by
  obtain ⟨x, _, hx⟩ := List.mem_flatMap.1 hu
  unfold pc at hx
  simp only [List.mem_cons, List.mem_nil_iff, or_false] at hx
  rcases hx with rfl | rfl <;> rfl
/-- the specification's cache: ps, the one that was used least lately first -/
structure Cs (B : Nat) (w : World) (S : Nat) (sz : Int) (v : Value) (hh mm : Int) (ps : List (Int × Int)) : Prop where
  own : w.heap[S]? = some (.cells #[.int .i64 sz, v, .int .i64 hh, .int .i64 mm] 56 (0, 0))
  row : w.ownsRow B 44 2 v ps.length (pcs ps)
  bS : B ≤ S
def place (ps : List (Int × Int)) (k : Int) : Nat → Int
  | 0 => -1
  | m + 1 => if (ps.getD (ps.length - (m + 1)) (0, 0)).1 = k then ((ps.length - (m + 1) : Nat) : Int) else place ps k m
theorem cell2 {B : Nat} {w : World} {g n c : Nat} {ps : List (Int × Int)} (h : w.ownsRow B 44 2 (.slice (some ⟨g, 0, none⟩) n c) n (pcs ps)) (hn : n = ps.length) (i : Nat) (hi : i < n) :
    w.cell? ⟨g, i * 2, none⟩ = some (.int .i64 (ps.getD i (0, 0)).1) ∧ w.cell? ⟨g, i * 2 + 1, none⟩ = some (.int .i64 (ps.getD i (0, 0)).2) := by
  have hx : ps[i]? = some (ps.getD i (0, 0)) := by rw [List.getD_eq_getElem?_getD, List.getElem?_eq_getElem (by omega)]; rfl
  have key : ∀ r, r < 2 → w.cell? ⟨g, i * 2 + r, none⟩ = (pc (ps.getD i (0, 0)))[r]? := fun r hr => by
    rw [h.cellAt (i * 2 + r) (by omega), flat2, show (i * 2 + r) / 2 = i by omega, show (i * 2 + r) % 2 = r by omega, hx]
    rfl
  exact ⟨key 0 (by omega), key 1 (by omega)⟩
theorem row_cases {B : Nat} {w : World} {v : Value} {n : Nat} {xs : List Value} (h : w.ownsRow B 44 2 v n xs) : (v = .slice none 0 0 ∧ n = 0) ∨ ∃ g c, v = .slice (some ⟨g, 0, none⟩) n c := by
  rcases h.2 with h | ⟨g, c, _, hv, _⟩
  · exact .inl h
  · exact .inr ⟨g, c, hv⟩
set_option linter.all false in
set_option maxRecDepth 1000000 in
set_option maxHeartbeats 4000000 in
theorem cPlace {B : Nat} {w : World} {S : Nat} {sz hh mm : Int} {v : Value} {ps : List (Int × Int)} (h : Cs B w S sz v hh mm ps) (k : Int) (hl : ps.length ≤ 1000000) :
    Calls Try.prog 26 #[.pointer (some ⟨S, 0, none⟩), .int .i64 k] w fun r w' => r = .returned (.int .i64 (place ps k ps.length)) ∧ w' = w := by
  have c1 : w.cell? ⟨S, 1, none⟩ = some v := by rw [Lib.cell_of_heap h.own]; rfl
  obtain ⟨ANS, hANS⟩ : ∃ ANS, place ps k ps.length = ANS := ⟨_, rfl⟩
  obtain ⟨n, hn⟩ : ∃ n, ps.length = n := ⟨_, rfl⟩
  have HROW := Aside0.mk (And.intro h.row hn)
  have HA := Aside0.mk (And.intro hANS hn)
  rw [hANS]
  rw [hn] at hl
  rcases row_cases h.row with ⟨rfl, h0⟩ | ⟨g, c, rfl⟩
  · have : ANS = -1 := by rw [← hANS, h0]; rfl
    subst this
    clear h hn hANS
    go_enter Try.func26, Try.ntmps26
    go_wp2_with (fail)
    go_loopg [5] 0 (fun gk v5 wx => v5 = .int .i64 0 ∧ wx = w)
    case atStart => exact ⟨rfl, rfl⟩
    case round =>
      obtain ⟨hv, hw⟩ := hrel
      subst hv
      rw [hw]
      go_wp2_with (fail)
      go_ret
      exact ⟨rfl, rfl⟩
  · rw [hn] at c1
    have hrow := h.row
    rw [hn] at hrow
    have HR := Aside0.mk hrow
    clear h hn hrow hANS
    go_enter Try.func26, Try.ntmps26
    go_wp2_with (fail)
    go_loopg [5] n (fun gk v5 wx => ∃ i : Nat, v5 = .int .i64 i ∧ i + gk = n ∧ wx = w ∧ Aside0 (place ps k gk = ANS))
    case atStart => exact ⟨0, rfl, by omega, rfl, ⟨by rw [← HA.out.2]; exact HA.out.1⟩⟩
    case round =>
      obtain ⟨i, hv, hi, hw, hA⟩ := hrel
      subst hv
      rw [hw]
      clear hw
      by_cases hlt : i < n
      · obtain ⟨g', rfl⟩ : ∃ g', gk = g' + 1 := ⟨gk - 1, by omega⟩
        have hd : decide ((i : Int) < (n : Int)) = true := decide_eq_true (by omega)
        have hltd : (i : Int) < (n : Int) := by omega
        have hwi : wrap64 ((i : Int) + 1) = ((i + 1 : Nat) : Int) := by unfold wrap64; omega
        obtain ⟨q0, q1⟩ := cell2 HR.out HROW.out.2.symm i hlt
        have hpl : place ps k (g' + 1) = if (ps.getD i (0, 0)).1 = k then (i : Int) else place ps k g' := by
          show (if (ps.getD (ps.length - (g' + 1)) (0, 0)).1 = k then ((ps.length - (g' + 1) : Nat) : Int) else place ps k g') = _
          rw [show ps.length - (g' + 1) = i by have := HROW.out.2; omega]
        rw [hpl] at hA
        obtain ⟨y, hy⟩ : ∃ y, (ps.getD i (0, 0)).1 = y := ⟨_, rfl⟩
        rw [hy] at q0 hA
        clear hpl q1 hy
        by_cases he : y = k
        · rw [if_pos he] at hA
          have hb : (y == k) = true := by rw [he]; exact beq_self_eq_true k
          have hA2 := hA.out
          have HZ := Aside0.mk hA2
          clear he hA hA2
          go_wp2_with (fail)
          go_ret
          exact ⟨by rw [← HZ.out]; rfl, rfl⟩
        · rw [if_neg he] at hA
          have hb : (y == k) = false := by rw [beq_eq_false_iff_ne]; exact he
          clear he
          go_wp2_with (fail)
          go_roundg g'
          case measure => omega
          case rel => exact ⟨i + 1, rfl, by omega, rfl, hA⟩
      · obtain rfl : gk = 0 := by omega
        obtain rfl : i = n := by omega
        have hA2 : (-1 : Int) = ANS := hA.out
        have HZ := Aside0.mk hA2
        clear hA hA2
        go_wp2_with (fail)
        go_ret
        exact ⟨by rw [← HZ.out]; rfl, rfl⟩
end Go.Proofs.Ytjhmcpdnmfhodaa.Spm
