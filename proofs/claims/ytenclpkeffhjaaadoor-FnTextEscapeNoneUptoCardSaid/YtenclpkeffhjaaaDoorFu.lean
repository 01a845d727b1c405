/- The walk of lightstrconv's FormatUint, of base 10. -/
import Derived.Test.YtenclpkeffhjaaaDoorProg
import Derived.WalkKit
import Derived.OwnWalk
import Derived.BigQuiet
import Derived.Deep.QuietTactic
import Derived.Lib.Builder
import Derived.Lib.ItoaNum
import Derived.Lib.UnsafeStr
import Derived.Test.YtenclpkeffhjaaaDoorWWords
namespace Go.Proofs.YtenclpkeffhjaaaDoor.Fu
open Go.RowKit Go.Lib Go.Proofs.YtenclpkeffhjaaaDoorW.PrintWords
theorem get_alloc_self (w : World) (x : Obj) : (w.alloc x).heap[w.heap.size]? = some x := by
  show (w.heap.push x)[w.heap.size]? = some x
  simp
theorem put_get {w : World} {g : Nat} {cs : Array Value} {t : TypeId} {fr : Nat × Nat} (h : w.heap[g]? = some (.cells cs t fr)) (i : Nat) (v : Value) : (w.setCell ⟨g, i, none⟩ v).heap[g]? = some (.cells (cs.setIfInBounds i v) t fr) := by
  simp [World.setCell, Array.getElem?_modify, h]
theorem step_dec (u : Nat) : (0 < u / 10 → decDigits u = decDigits (u / 10) ++ [UInt8.ofNat (48 + u % 10)]) ∧ (u / 10 = 0 → decDigits u = [UInt8.ofNat (48 + u % 10)]) := by
  rw [decDigits]
  constructor
  · intro h; rw [dif_neg (by omega)]
  · intro h; rw [dif_pos (by omega), show u % 10 = u by omega]
abbrev DG : ByteArray := ⟨#[48, 49, 50, 51, 52, 53, 54, 55, 56, 57, 97, 98, 99, 100, 101, 102, 103, 104, 105, 106, 107, 108, 109, 110, 111, 112, 113, 114, 115, 116, 117, 118, 119, 120, 121, 122]⟩
theorem dg_at : ∀ r : Fin 10, (DG[r.1]'(Nat.lt_of_lt_of_le r.2 (by decide))).toNat = 48 + r.1 := by decide
theorem drop_set (cs : Array Value) (q : Nat) (v : Value) (hq : q < cs.size) : (cs.setIfInBounds q v).toList.drop q = v :: cs.toList.drop (q + 1) := by
  rw [Array.toList_setIfInBounds, List.drop_set, if_neg (by omega), Nat.sub_self, List.drop_eq_getElem_cons (by simpa using hq)]
  rfl
theorem len83 : Tryd.prog.arrayLen 83 = 64 := by kernel_rfl
theorem size83 (w : World) : (sizeOf (Tryd.prog.elem 83)).run Tryd.prog w = .ok 1 w := by kernel_rfl
theorem wrap_u (u : Nat) (h : u < 18446744073709551616) : IntKind.u64.wrap ((u : Int) / 10) = ((u / 10 : Nat) : Int) := by
  have : ((u : Int) / 10) = ((u / 10 : Nat) : Int) := by omega
  rw [this]
  unfold IntKind.wrap
  simp [IntKind.bits, IntKind.signed]
  omega
theorem ev (u : Nat) : (48 + (u : Int) % 10) = ((48 + u % 10 : Nat) : Int) := by omega
theorem len_small (N : Nat) (hN : N < 18446744073709551616) (u : Nat) (suf : List UInt8) (hu : u * 10 ^ suf.length ≤ N) (h : suf = [] ∨ 0 < u) : suf.length < 21 := by
  rcases h with rfl | h
  · simp
  · rcases Nat.lt_or_ge suf.length 21 with h1 | h1
    · exact h1
    · have h2 : 10 ^ 21 ≤ 10 ^ suf.length := Nat.pow_le_pow_right (by omega) h1
      have h3 : 10 ^ suf.length ≤ u * 10 ^ suf.length := Nat.le_mul_of_pos_left _ h
      have h4 : (10 : Nat) ^ 21 = 1000000000000000000000 := by decide
      omega
theorem next_round (N u q : Nat) (cs : Array Value) (suf : List UInt8) (hz : cs.size = 64) (hd : cs.toList.drop (q + 1) = byteCells suf) (hc : (suf = [] ∧ u = N) ∨ (suf ≠ [] ∧ (0 < u → decDigits N = decDigits u ++ suf) ∧ (u = 0 → decDigits N = suf))) (hq : q < cs.size) (hgo : suf = [] ∨ 0 < u) :
    (cs.setIfInBounds q (.int .u8 ((48 + u % 10 : Nat) : Int))).toList.drop q = byteCells (UInt8.ofNat (48 + u % 10) :: suf) ∧ (0 < u / 10 → decDigits N = decDigits (u / 10) ++ (UInt8.ofNat (48 + u % 10) :: suf)) ∧ (u / 10 = 0 → decDigits N = UInt8.ofNat (48 + u % 10) :: suf) := by
  have hr : u % 10 < 10 := Nat.mod_lt _ (by omega)
  refine ⟨?_, fun h => ?_, fun h => ?_⟩
  · rw [drop_set _ _ _ hq, hd]
    have e : ((UInt8.ofNat (48 + u % 10)).toNat : Int) = ((48 + u % 10 : Nat) : Int) := by
      rw [UInt8.toNat_ofNat']
      congr 1
      omega
    simp only [byteCells, List.map_cons, e]
  · have h1 := (step_dec u).1 h
    rcases hc with ⟨rfl, rfl⟩ | ⟨_, h2, _⟩
    · exact h1
    · rw [h2 (by omega), h1, List.append_assoc]; rfl
  · have h1 := (step_dec u).2 h
    rcases hc with ⟨rfl, rfl⟩ | ⟨hs, h2, _⟩
    · exact h1
    · have hu : 0 < u := by rcases hgo with h | h; exact absurd h hs; exact h
      rw [h2 hu, h1]; rfl
set_option maxRecDepth 100000 in
set_option maxHeartbeats 400000 in
theorem uint (N : Nat) (hN : N < 18446744073709551616) (w : World) :
    Calls Tryd.prog 52 #[.int .u64 N, .int .i64 10] w fun e w' => e = .returned (.string ⟨(decDigits N).toArray⟩) ∧ Below w.heap.size w w' := by
  go_enter Tryd.func52, Tryd.ntmps52
  go_wp2_with fail
  go_loopw [0, 6] (fun n i wr => ∃ (p u : Nat) (cs : Array Value) (suf : List UInt8), n = .int .u64 u ∧ i = .int .i64 p ∧ p + suf.length = 64 ∧ Aside0 (wr.heap[w.heap.size]? = some (.cells cs 83 (0, 0))) ∧ Aside0 (cs.size = 64) ∧ Aside0 (cs.toList.drop p = byteCells suf) ∧ Aside0 (Below w.heap.size w wr) ∧ u * 10 ^ suf.length ≤ N ∧ Aside0 ((suf = [] ∧ u = N) ∨ (suf ≠ [] ∧ (0 < u → decDigits N = decDigits u ++ suf) ∧ (u = 0 → decDigits N = suf)))) (fun _ i _ => (RowKit.intOf i).toNat)
  case atStart => exact ⟨64, N, _, [], rfl, rfl, rfl, ⟨get_alloc_self _ _⟩, ⟨rfl⟩, ⟨rfl⟩, ⟨(Below.refl _ w).alloc (Nat.le_refl _) _⟩, by simp, ⟨.inl ⟨rfl, rfl⟩⟩⟩
  case round =>
    obtain ⟨p, u, cs, suf, rfl, rfl, hp, hh, hz, hd, hB, hu, hc⟩ := hrel
    have f : ∀ j, wr.frozen? ⟨w.heap.size, j, none⟩ = false := fun j => Lib.frozen_of_heap hh.out j
    have hr : u % 10 < 10 := Nat.mod_lt _ (by omega)
    have hdg : (DG[u % 10]'(Nat.lt_of_lt_of_le hr (by decide))).toNat = 48 + u % 10 := dg_at ⟨u % 10, hr⟩
    by_cases hgo : suf = [] ∨ 0 < u
    · have hlen : suf.length < 21 := len_small N hN u suf hu hgo
      obtain ⟨q, rfl⟩ : ∃ q, p = q + 1 := ⟨p - 1, by omega⟩
      have hqs : q < cs.size := by rw [hz.out]; omega
      have c : wr.cell? ⟨w.heap.size, q, none⟩ = some (cs[q]) := by rw [Lib.cell_of_heap hh.out]; exact Array.getElem?_eq_getElem hqs
      have HU := Aside0.mk hu
      have NEXT := next_round N u q cs suf hz.out hd.out hc.out hqs hgo
      have HGO := Aside0.mk hgo
      have hun : u / 10 * 10 ^ (suf.length + 1) ≤ N := Nat.le_trans (by rw [Nat.pow_succ, ← Nat.mul_assoc, Nat.mul_right_comm]; exact Nat.mul_le_mul_right _ (by omega)) hu
      have HUN := Aside0.mk hun
      have HNX := Aside0.mk NEXT
      clear hu hun NEXT hc hgo
      rcases Nat.eq_zero_or_pos suf.length with h0 | h0
      · have hq : q = 63 := by omega
        subst hq
        go_wp2_with fail
        go_roundw
        case rel => exact ⟨63, u / 10, cs.setIfInBounds 63 (.int .u8 ((48 + u % 10 : Nat) : Int)), UInt8.ofNat (48 + u % 10) :: suf, by rw [wrap_u u (Nat.lt_of_le_of_lt (Nat.le_trans (Nat.le_mul_of_pos_right u (Nat.pow_pos (by omega))) HU.out) hN)], rfl, by simp only [List.length_cons]; omega, ⟨by rw [ev u]; exact put_get hh.out 63 _⟩, ⟨by rw [Array.size_setIfInBounds]; exact hz.out⟩, ⟨HNX.out.1⟩, ⟨hB.out.trans ⟨rfl, rfl, rfl, by simp [World.setCell], fun i hi => Below.heap_setCell wr _ _ i (by show i ≠ w.heap.size; omega)⟩⟩, by simpa using HUN.out, ⟨.inr ⟨by simp, HNX.out.2.1, HNX.out.2.2⟩⟩⟩
        case measure => simp [RowKit.intOf]
      · have hu0 : 0 < u := by rcases HGO.out with h | h; (rw [h] at h0; simp at h0); exact h
        have hne : (((q : Int) + 1) == 64) = false := by simp; omega
        have hgt : decide ((u : Int) > 0) = true := by simp; omega
        go_wp2_with fail
        go_roundw
        case rel => exact ⟨q, u / 10, cs.setIfInBounds q (.int .u8 ((48 + u % 10 : Nat) : Int)), UInt8.ofNat (48 + u % 10) :: suf, by rw [wrap_u u (Nat.lt_of_le_of_lt (Nat.le_trans (Nat.le_mul_of_pos_right u (Nat.pow_pos (by omega))) HU.out) hN)], rfl, by simp only [List.length_cons]; omega, ⟨by rw [ev u]; exact put_get hh.out q _⟩, ⟨by rw [Array.size_setIfInBounds]; exact hz.out⟩, ⟨HNX.out.1⟩, ⟨hB.out.trans ⟨rfl, rfl, rfl, by simp [World.setCell], fun i hi => Below.heap_setCell wr _ _ i (by show i ≠ w.heap.size; omega)⟩⟩, by simpa using HUN.out, ⟨.inr ⟨by simp, HNX.out.2.1, HNX.out.2.2⟩⟩⟩
        case measure => simp [RowKit.intOf]
    · have h1 : suf ≠ [] := fun h => hgo (.inl h)
      have h2 : u = 0 := by omega
      subst h2
      have h3 : 0 < suf.length := List.length_pos_iff.2 h1
      have hne : ((p : Int) == 64) = false := by simp; omega
      have hfin : decDigits N = suf := by
        rcases hc.out with ⟨h, _⟩ | ⟨_, _, h⟩
        · exact absurd h h1
        · exact h rfl
      have hsl : (Instr.sliceAt 83 (.pointer (some ⟨w.heap.size, 0, none⟩)) (some (.int .i64 p)) none none).run Tryd.prog wr = .ok (.slice (some ⟨w.heap.size, p, none⟩) (64 - p) (64 - p)) wr := by
        have := run_sliceAt_array_l (P := Tryd.prog) wr 83 ⟨w.heap.size, 0, none⟩ Tryd.underlying83 .i64 (p : Int) (by omega) (by rw [len83]; omega)
        rw [this, size83, len83]
        have hne64 : ¬ 64 = p := by omega
        simp [Result.andThen, slicedAt, hne64]
        unfold Addr.add; split <;> simp_all
      have hcv : (convert 50 9 (.slice (some ⟨w.heap.size, p, none⟩) (64 - p) (64 - p))).run Tryd.prog wr = .ok (.string ⟨suf.toArray⟩) wr := by
        have hlen : (suf.map fun b => (b.toNat : Int)).length = 64 - p := by rw [List.length_map]; omega
        have hC : Kd.C (Kd.int .u8) wr (some ⟨w.heap.size, p, none⟩) (64 - p) (suf.map fun b => (b.toNat : Int)) := by
          refine Kd.C_of_reads (d := (0 : Int)) ⟨hlen, by omega, fun _ => ⟨_, rfl, fun i hi => ?_⟩⟩
          have e1 : wr.cell? ((⟨w.heap.size, p, none⟩ : Addr).add i) = cs[p + i]? := by
            have e0 : (⟨w.heap.size, p, none⟩ : Addr).add i = ⟨w.heap.size, p + i, none⟩ := by unfold Addr.add; split <;> simp_all
            rw [e0, Lib.cell_of_heap hh.out]
          have e2 : cs[p + i]? = (byteCells suf)[i]? := by rw [← hd.out, List.getElem?_drop, Array.getElem?_toList]
          have hi' : i < suf.length := by omega
          rw [e1, e2]
          simp [byteCells, List.getElem?_map, List.getElem?_eq_getElem hi', List.getD_eq_getElem?_getD]
        rw [Kd.C_string Tryd.underlying50 Tryd.underlying5 Tryd.underlying9 hC]
        congr 2
        unfold strOfNums
        rw [List.map_map]
        have : ((fun n : Int => UInt8.ofNat n.toNat) ∘ fun b : UInt8 => (b.toNat : Int)) = id := by funext b; simp
        rw [this, List.map_id]
      rw [hfin]
      go_wp2_with fail
      go_ret
      exact ⟨rfl, hB.out⟩
end Go.Proofs.YtenclpkeffhjaaaDoor.Fu
