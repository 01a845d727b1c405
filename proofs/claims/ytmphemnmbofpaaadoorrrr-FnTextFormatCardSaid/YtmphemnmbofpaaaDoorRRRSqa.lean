/- Sequences of any codes: the walk of the reference's TxSequence. -/
import Derived.Test.YtmphemnmbofpaaaDoorRRRShelf
import Derived.Test.YtmphemnmbofpaaaDoorRRRSmall
import Derived.Test.YtmphemnmbofpaaaDoorRRRWMore
import Derived.Lib.LaidTab
import Derived.Deep.LoopGhost
import Derived.WalkKit
import Derived.Lib.ItoaLen
import Derived.Lib.AppendIntMem
namespace Go.Proofs.YtmphemnmbofpaaaDoorRRR.Sqa
open Go Go.RowKit Go.Proofs.YtmphemnmbofpaaaDoorRRRW.PrintWords Go.Proofs.YtmphemnmbofpaaaDoorRRRW.PrintLast Go.Proofs.YtmphemnmbofpaaaDoorRRR.Small

/-- the table of powers of ten lies as the text lays it -/
def Tb (w : World) : Prop := Lib.TabIs Tryd.prog w "internal/strconv.uint64pow10" .u64 Lib.pow10Tab
theorem Tb.below {w w' : World} (h : Tb w) (hb : Below w.heap.size w w') : Tb w' := by
  unfold Tb Lib.TabIs World.var? at h ⊢
  obtain ⟨g, hg, h⟩ := Option.bind_eq_some_iff.mp h
  rw [hg]
  simp only [Option.bind_some]
  have hlt : g < w.heap.size := by
    rcases Nat.lt_or_ge g w.heap.size with h1 | h1
    · exact h1
    · rw [Array.getElem?_eq_none h1] at h
      cases h
  rw [hb.block g hlt]
  exact h

abbrev In64 (c : Int) : Prop := -9223372036854775808 ≤ c ∧ c ≤ 9223372036854775807
def codeA (c : Int) : ByteArray := str (Lib.itoa c)
def bodyA (l : List Int) : Nat → List UInt8
  | 0 => []
  | j + 1 => bodyA l j ++ (if j = 0 then [] else [59]) ++ Lib.itoa (l.getD j 0)
def seqA (l : List Int) : ByteArray := if l = [] then str [] else str ([27, 91] ++ bodyA l l.length ++ [109])
theorem bodyA_len (l : List Int) (hl : ∀ c ∈ l, In64 c) : ∀ j, j ≤ l.length → (bodyA l j).length ≤ 22 * j
  | 0, _ => by simp [bodyA]
  | j + 1, h => by
    have h1 := bodyA_len l hl j (by omega)
    have hc := hl (l.getD j 0) (by rw [getD_at _ _ _ (by omega : j < l.length)]; exact List.getElem_mem _)
    have h2 := Lib.itoa_length_le (l.getD j 0) hc.1 hc.2
    simp only [bodyA, List.length_append]
    split
    · simp only [List.length_nil]; omega
    · simp only [List.length_cons, List.length_nil]; omega
theorem itoa_any (c : Int) (h0 : -9223372036854775808 ≤ c) (h1 : c ≤ 9223372036854775807) (w : World) (hT : Tb w) : Calls Tryd.prog 21 #[.int .i64 c] w fun e w' => e = .returned (.string (codeA c)) ∧ Below w.heap.size w w' := by
  refine (Tryd.strconv_Itoa c h0 h1 w hT).mono ?_
  rintro e w' ⟨rfl, k, os, rfl⟩
  exact ⟨rfl, Lib.below_grow _ _ (Nat.le_refl _) _ _⟩

set_option linter.all false in
set_option maxRecDepth 100000 in
set_option maxHeartbeats 1000000 in
theorem sqa (A0 : Option Addr) (c0 n : Nat) (l : List Int) (w : World) (hT : Tb w) (hn : n = l.length) (hr0 : Kd.C (Kd.int .i64) w A0 n l) (hb : n ≤ 2147483647) (hl : ∀ c ∈ l, In64 c) :
    Calls Tryd.prog 15 #[.slice A0 n c0] w fun e w' => e = .returned (.string (seqA l)) ∧ Below w.heap.size w w' := by
  have HC := Aside0.mk hr0; have HN := Aside0.mk hn; have HL := Aside0.mk hl
  rcases Nat.eq_zero_or_pos n with h0 | h0
  · have hl0 : l = [] := List.eq_nil_of_length_eq_zero (by omega)
    have hs : seqA l = ⟨#[]⟩ := by rw [hl0]; rfl
    rw [hs]
    subst h0
    clear hr0 hn hl HC HN HL hl0 hs
    go_enter Tryd.func15, Tryd.ntmps15
    go_wp2_with (fail)
    go_ret
    exact ⟨rfl, Below.refl _ _⟩
  · have hz : ((n : Int) == 0) = false := by simp; omega
    have hlist : l ≠ [] := fun h => by rw [h] at hn; simp at hn; omega
    have HS : Aside0 (seqA l = str ([27, 91] ++ bodyA l l.length ++ [109])) := ⟨by unfold seqA; rw [if_neg hlist]⟩
    have HT := Aside0.mk hT
    clear hr0 hn hl hlist hT
    go_enter Tryd.func15, Tryd.ntmps15
    go_wp2_with (fail)
    go_loopw [3, 11] (fun v i wr => ∃ (j : Nat) (s : ByteArray), j ≤ n ∧ i = .int .i64 j ∧ v = .string s ∧ Aside0 (s = str ([27, 91] ++ bodyA l j)) ∧ Below w.heap.size w wr) (fun _ i _ => n - (RowKit.intOf i).toNat)
    case atStart => exact ⟨0, _, by omega, rfl, rfl, ⟨rfl⟩, Below.refl _ _⟩
    case round =>
      obtain ⟨j, s, hj, rfl, rfl, hs, HB⟩ := hrel
      have hbl := bodyA_len l HL.out j (by have := HN.out; omega)
      have hss : s.size ≤ 47244640260 := by rw [hs.out, str_size]; simp only [List.length_append, List.length_cons, List.length_nil]; omega
      by_cases hlt : j < n
      · have hd : decide ((j : Int) < (n : Int)) = true := by simp; omega
        obtain ⟨ad, rfl, hcell⟩ := Kd.at_int (Kd.C_below HC.out HB) (j : Int) (by omega) (by omega)
        rw [rd_nat, Int.toNat_natCast] at hcell
        obtain ⟨c, hc⟩ : ∃ c, c = l.getD j 0 := ⟨_, rfl⟩
        rw [← hc] at hcell
        have hcr : In64 c := by
          have := HN.out
          rw [hc, getD_at _ _ _ (by omega)]; exact HL.out _ (List.getElem_mem _)
        have hcs : (codeA c).size ≤ 21 := by unfold codeA; rw [str_size]; exact Lib.itoa_length_le c hcr.1 hcr.2
        have hnext : str ([27, 91] ++ bodyA l (j + 1)) = (if j = 0 then s else s ++ ⟨#[59]⟩) ++ codeA c := by
          rw [hs.out]
          simp only [bodyA]
          rw [← hc]
          by_cases h : j = 0
          · rw [if_pos h, if_pos h, List.append_nil, ← List.append_assoc, str_append]; rfl
          · rw [if_neg h, if_neg h, ← List.append_assoc, ← List.append_assoc, str_append, str_append]; rfl
        have HX := Aside0.mk hnext
        obtain ⟨K, hK⟩ : ∃ K, K = codeA c := ⟨_, rfl⟩
        rw [← hK] at hcs
        have HKC := Aside0.mk hK
        clear hc hnext hbl hK
        rcases Nat.eq_zero_or_pos j with hj0 | hj0
        · have hg : decide ((j : Int) > 0) = false := by simp; omega
          have hgn : ¬ 0 < j := by omega
          have hgd : decide (0 < j) = false := by simp; omega
          have HJ0 := Aside0.mk hj0
          clear hj0
          go_wp2_with (first
            | (go_at_call 21; refine (itoa_any c hcr.1 hcr.2 _ (HT.out.below HB)).mono ?_; rintro e w1 ⟨rfl, hb1⟩; rw [← HKC.out]; replace HB := HB.trans (hb1.mono HB.size); clear hb1))
          go_roundw
          case rel => exact ⟨j + 1, _, hlt, rfl, rfl, ⟨by rw [HX.out, if_pos HJ0.out, ← HKC.out]⟩, HB⟩
          case measure => simp [RowKit.intOf]; omega
        · have hg : decide ((j : Int) > 0) = true := by simp; omega
          have HJ0 : Aside0 (¬ j = 0) := ⟨by omega⟩
          have h59 : (⟨#[59]⟩ : ByteArray).size = 1 := rfl
          go_wp2_with (first
            | (go_at_call 21; refine (itoa_any c hcr.1 hcr.2 _ (HT.out.below HB)).mono ?_; rintro e w1 ⟨rfl, hb1⟩; rw [← HKC.out]; replace HB := HB.trans (hb1.mono HB.size); clear hb1))
          go_roundw
          case rel => exact ⟨j + 1, _, hlt, rfl, rfl, ⟨by rw [HX.out, if_neg HJ0.out, ← HKC.out]⟩, HB⟩
          case measure => simp [RowKit.intOf]; omega
      · have hd : decide ((j : Int) < (n : Int)) = false := by simp; omega
        obtain rfl : j = n := by omega
        have HSS := Aside0.mk hs.out
        clear hs hbl
        go_wp2_with (fail)
        go_ret
        refine ⟨?_, HB⟩
        rw [HS.out, HSS.out, HN.out]
        rfl
end Go.Proofs.YtmphemnmbofpaaaDoorRRR.Sqa
