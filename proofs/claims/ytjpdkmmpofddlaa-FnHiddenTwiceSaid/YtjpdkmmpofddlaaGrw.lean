/- The walk of impl.Grown: columns' widths, grown one by one. -/
import Derived.Test.YtjpdkmmpofddlaaTbl
import Derived.Deep.LoopGhost
import Derived.BigQuiet
namespace Go.Proofs.Ytjpdkmmpofddlaa.Grw
open Go Go.RowKit Go.Proofs.YtjpdkmmpofddlaaW.PrintWords Go.Proofs.Ytjpdkmmpofddlaa.Mp Go.Proofs.Ytjpdkmmpofddlaa.Cfg Go.Proofs.Ytjpdkmmpofddlaa.Tbl Go.Proofs.Ytjpdkmmpofddlaa.GGrBody

def wm (cs : List Cf) (j : Int) : Int := if 0 ≤ j ∧ j < cs.length then (cs.getD j.toNat (false, 0, 0)).2.1 else 0
theorem zero45 (w : World) : (zeroValue 45).run Try.prog w = .ok (.agg #[.string ⟨#[]⟩, .int .i64 0, .int .i64 0, .int .i64 0, .int .i64 0, .bool false, .slice none 0 0, .slice none 0 0, .slice none 0 0, .bool false, .int .i64 0, .int .i64 0, .int .i64 0, .int .i64 0, .nilFunc, .int .i64 0]) w := by kernel_rfl

section
variable {w0 w w' : World} {n r : Int} {sc : Array Value} {T Mp Bl : Nat} {A : Option Addr} {k c : Nat} {l : List Int} {m : Nat} {g : Lit → Option Value}
theorem St.drewN (h : St w0 n r sc T Mp Bl A k c l m g w) (q : Nat) : St w0 n r sc T Mp Bl A k c l m g (w.drewN q) := h.below (pw_below_drewN (Below.refl _ _) q)
theorem St.rowAt (h : St w0 n r sc T Mp Bl A k c l m g w) (i : Int) (h0 : 0 ≤ i) (h1 : i < l.length) : ∃ b, A = some ⟨b, 0, none⟩ ∧ k = l.length ∧ w.cell? ⟨b, i.toNat, none⟩ = some (.int .i64 (rd l i)) ∧ w.frozen? ⟨b, i.toNat, none⟩ = false ∧
    ∀ x : Int, St w0 n r sc T Mp Bl A k c (l.set i.toNat x) m g (w.setCell ⟨b, i.toNat, none⟩ (.int .i64 x)) := by
  rcases (Kd.own_of_R h.row).2 with ⟨hv, hz⟩ | ⟨b, cap, cur, hv, hb, hh, _⟩
  · omega
  · injection hv with e1 e2 e3
    subst e1; subst e2; subst e3
    have hc := Kd.R_celln (0 : Int) h.row i h0 h1
    refine ⟨b, rfl, rfl, hc.1, hc.2, fun x => ?_⟩
    have e : ∀ j o, j ≠ b → w.heap[j]? = some o → (w.setCell ⟨b, i.toNat, none⟩ (.int .i64 x)).heap[j]? = some o := fun j o hne hj => by rw [heap_setCell_other w _ j _ hne]; exact hj
    have ne : ∀ j o, w.heap[j]? = some o → (∀ cells, o ≠ .cells cells 3 (0, 0)) → j ≠ b := fun j o hj ho e => by rw [e, hh] at hj; exact ho cur (by injection hj with hj; exact hj.symm)
    obtain ⟨arr, h3, h4⟩ := h.bools
    obtain ⟨D, ⟨es, cl, hm0, hm1⟩, hm2⟩ := h.map
    have hm : MapIs Try.prog 3 Mp m g w := ⟨D, ⟨es, cl, hm0, hm1⟩, hm2⟩
    refine ⟨e _ _ (ne _ _ h.tab (by simp)) h.tab, hm.of_heap (heap_setCell_other w _ _ _ (ne _ _ hm0 (by simp))), ⟨arr, h3, e _ _ (ne _ _ h4 (by simp)) h4⟩, e _ _ (ne _ _ h.sty (by simp)) h.sty, Kd.R_putn h.row i x, ?_, h.hT, h.hM, h.hB⟩
    exact h.bel.trans ⟨rfl, rfl, rfl, by simp [World.setCell], fun j hj => heap_setCell_other w _ j _ (by show j ≠ b; omega)⟩
end

theorem St.rowAt2 {w0 w : World} {n r : Int} {sc : Array Value} {T Mp Bl b : Nat} {k c : Nat} {l : List Int} {m : Nat} {g : Lit → Option Value} (h : St w0 n r sc T Mp Bl (some ⟨b, 0, none⟩) k c l m g w) (i : Int) (h0 : 0 ≤ i) (h1 : i < l.length) : w.cell? ⟨b, i.toNat, none⟩ = some (.int .i64 (rd l i)) ∧ w.frozen? ⟨b, i.toNat, none⟩ = false ∧
    ∀ x : Int, St w0 n r sc T Mp Bl (some ⟨b, 0, none⟩) k c (l.set i.toNat x) m g (w.setCell ⟨b, i.toNat, none⟩ (.int .i64 x)) := by
  obtain ⟨b', e, _, h2, h3, h4⟩ := St.rowAt h i h0 h1
  injection e with e
  injection e with e
  subst e
  exact ⟨h2, h3, h4⟩
set_option linter.all false in
set_option maxRecDepth 100000 in
set_option maxHeartbeats 1000000 in
theorem width_any {w0 w : World} {n r : Int} {sc : Array Value} {T Mp Bl : Nat} {A : Option Addr} {k c : Nat} {l : List Int} {cs : List Cf} (S : St w0 n r sc T Mp Bl A k c l cs.length (cfgAt cs) w) (j : Int) (h0 : 0 ≤ j) (h1 : j < 9223372036854775808) :
    Calls Try.prog 23 #[.pointer (some ⟨T, 0, none⟩), .int .i64 j] w fun e w' => e = .returned (.int .i64 (wm cs j)) ∧ Below w.heap.size w w' := by
  have t6 := S.tcell 6
  simp only [tcells] at t6
  have hlk := S.map.look_ok (Maps.int_keyed Try.underlying3) Try.underlying74 (zero45 w) (Maps.keyOf_int_mk Try.underlying3 (WalkArith.wf_i64 (n := j) (by omega)))
  have hnf : ∀ (w : World) (a : Addr), (store a .nilFunc).run Try.prog w = stored Try.prog w a .nilFunc .plain := fun w a => run_store Try.prog w a _ _ rfl
  clear S
  by_cases hj : j < cs.length
  · have e1 : cfgAt cs (.int .i64 j) = some (.agg (enc (cs.getD j.toNat (false, 0, 0))).toArray) := by simp only [cfgAt]; rw [if_pos ⟨h0, hj⟩]
    have e2 : wm cs j = (cs.getD j.toNat (false, 0, 0)).2.1 := by unfold wm; rw [if_pos ⟨h0, hj⟩]
    rw [e2]
    rw [e1] at hlk
    obtain ⟨⟨ch, cx, cn⟩, hcf⟩ : ∃ y : Cf, y = cs.getD j.toNat (false, 0, 0) := ⟨_, rfl⟩
    rw [← hcf] at hlk ⊢
    simp only [enc, Option.getD_some, Option.isSome_some] at hlk
    clear hcf e1 e2
    go_enter Try.func23, Try.ntmps23
    go_wp2_with (fail)
    go_ret
    exact ⟨rfl, (Below.refl _ _).alloc (Nat.le_refl _) _⟩
  · have e1 : cfgAt cs (.int .i64 j) = none := by simp only [cfgAt]; rw [if_neg (fun h => hj h.2)]
    have e2 : wm cs j = 0 := by unfold wm; rw [if_neg (fun h => hj h.2)]
    rw [e2]
    rw [e1] at hlk
    simp only [Option.getD_none, Option.isSome_none] at hlk
    clear e1 e2
    go_enter Try.func23, Try.ntmps23
    go_wp2_with (fail)
    go_ret
    exact ⟨rfl, (Below.refl _ _).alloc (Nat.le_refl _) _⟩

set_option linter.all false in
set_option maxRecDepth 100000 in

set_option maxHeartbeats 4000000 in
theorem padded (k0 : Nat) (l1 : List Int) {w0 w : World} {n : Nat} {r a3 : Int} {sc : Array Value} {T Mp Bl : Nat} {A : Option Addr} {k c : Nat} {l res : List Int} {cs : List Cf} (S : St w0 n r sc T Mp Bl A k c l cs.length (cfgAt cs) w) (hl : l.length = n) (hn : n < 17592186044416)
    (h52 : sc[52]? = some (.int .i64 a3)) (hat : ∀ j : Int, 0 ≤ j → j < n → spec_at.f l1 j = some (wm cs j)) (H : spec_Grown.l0 k0 l1 l (wrap64 (a3 - r)) = some res) :
    Calls Try.prog 19 #[.pointer (some ⟨T, 0, none⟩)] w fun e w' => e = .returned (.tuple #[]) ∧ St w0 n r sc T Mp Bl A k c res cs.length (cfgAt cs) w' := by
  have t37 := S.tcell 39
  have t13 := S.tcell 13
  simp only [tcells] at t37 t13
  have s52 : w.cell? ⟨w0.heap.size, 52, none⟩ = some (.int .i64 a3) := by rw [cell_of_row w _ 52 _ 69 _ S.sty]; exact h52
  have H' := Aside0.mk H
  have HAT := Aside0.mk hat
  have HL := Aside0.mk hl
  clear H hat hl
  go_enter Try.func19, Try.ntmps19
  go_upto_region 0 with (fail)
  go_quiet (fail)
  have S := St.drewN S nq
  clear t37 t13 s52
  go_wp2_with (fail)
  go_loopg [2] k0 (fun kq v2 w' => ∃ (x9 : List Int) (x10 : Int), v2 = .int .i64 x10 ∧ Aside0 (spec_Grown.l0 kq l1 x9 x10 = some res) ∧ Aside0 (kq ≤ k0) ∧ St w0 n r sc T Mp Bl A k c x9 cs.length (cfgAt cs) w' ∧ Aside0 (x9.length = n))
  case atStart => exact ⟨l, _, rfl, H', ⟨Nat.le_refl _⟩, S, HL⟩
  case round =>
    clear H' S HL
    obtain ⟨x9, x10, rfl, HA, HK1, S, hln⟩ := hrel
    cases gk with
    | zero => exact absurd HA.out (by simp [spec_Grown.l0])
    | succ k1 =>
      have H := HA.out
      clear HA
      simp only [spec_Grown.l0] at H
      by_cases c9 : x10 > 0
      · rw [if_pos c9] at H
        have c9b0 : decide (0 < x10) = true := decide_eq_true c9
        clear c9
        have H' := Aside0.mk H
        clear H
        go_wp2
        go_loopg [2, 3, 4] k1 (fun kq v2 v3 v4 w' => ∃ (x9 : List Int) (x10 : Int) (x11 : Bool) (cnt : Nat) (x12 : Int), v2 = .int .i64 x10 ∧ v3 = .int .i64 (cnt : Int) ∧ v4 = .int .i64 x12 ∧ Aside0 (spec_Grown.l1 kq l1 x9 x10 x11 x12 = some res) ∧ Aside0 (kq ≤ k1) ∧ St w0 n r sc T Mp Bl A k c x9 cs.length (cfgAt cs) w' ∧ Aside0 (x9.length = n) ∧ Aside0 (x11 = decide (0 < cnt)) ∧ Aside0 (0 ≤ x12 ∧ x12 ≤ n ∧ (cnt : Int) ≤ x12))
        case atStart => exact ⟨x9, x10, false, 0, 0, rfl, rfl, rfl, H', ⟨Nat.le_refl _⟩, S, hln, ⟨rfl⟩, ⟨by omega⟩⟩
        case round =>
          clear H' S hln c9b0
          obtain ⟨x9, x10, x11, cnt, x12, rfl, rfl, rfl, HA, HK2, S, hln, hcnt, hxx⟩ := hrel
          obtain ⟨hx0, hxn, hcx⟩ := hxx.out
          have hcnt := hcnt.out
          have t14 := S.tcell 14
          have t11 := S.tcell 11
          simp only [tcells] at t14 t11
          cases gk with
          | zero => exact absurd HA.out (by simp [spec_Grown.l1])
          | succ k2 =>
            have H := HA.out
            clear HA
            simp only [spec_Grown.l1] at H
            rw [hln.out] at H
            by_cases c11 : x12 < (n : Int)
            · rw [if_pos c11] at H
              have cd : decide (x12 < (n : Int)) = true := decide_eq_true c11
              cases k2 with
              | zero => exact absurd H (by simp [spec_Grown.j2])
              | succ k3 =>
                simp only [spec_Grown.j2] at H
                by_cases c12 : x10 > 0
                · have c12b : decide (0 < x10) = true := decide_eq_true c12
                  rw [if_pos (by simpa using c12), HAT.out x12 hx0 c11] at H
                  have hlx : x12 < (x9.length : Int) := by rw [hln.out]; exact c11
                  simp only [Option.bind_some, if_pos hx0, if_pos hlx] at H
                  obtain ⟨b, rfl, rfl, hcb, hfb, hset⟩ := St.rowAt S x12 hx0 (by rw [hln.out]; exact c11)
                  rw [hln.out] at t11
                  obtain ⟨W, hwm⟩ : ∃ W, wm cs x12 = W := ⟨_, rfl⟩
                  rw [hwm] at H
                  have hw12 : wrap64 (x12 + 1) = x12 + 1 := by unfold wrap64; omega
                  have hwc : wrap64 ((cnt : Int) + 1) = ((cnt + 1 : Nat) : Int) := by unfold wrap64; omega
                  by_cases z : W = 0
                  · rw [if_pos z] at H
                    have zb : (W == 0) = true := beq_iff_eq.mpr z
                    rw [hw12] at H
                    have HH := Aside0.mk H
                    clear H
                    go_wp2_with (first | (go_at_call 23; refine (width_any S x12 hx0 (by omega)).mono ?_; rintro e w1 ⟨rfl, hw1⟩; rw [hwm]; have S1 := S.below hw1; clear t14 t11 hcb hfb hset; obtain ⟨hcb, hfb, hset⟩ := St.rowAt2 S1 x12 hx0 (by rw [hln.out]; exact c11); have t14 := S1.tcell 14; have t11 := S1.tcell 11; simp only [tcells] at t14 t11; rw [hln.out] at t11; clear S))
                    go_roundg k3
                    case measure => have := HK1.out; have := HK2.out; omega
                    case rel => exact ⟨_, _, true, cnt + 1, x12 + 1, rfl, by first | rfl | simp, rfl, HH, ⟨by have := HK2.out; omega⟩, hset _, ⟨by rw [List.length_set]; exact hln.out⟩, ⟨by simp⟩, ⟨by omega⟩⟩
                  · rw [if_neg z] at H
                    have zb : (W == 0) = false := beq_eq_false_iff_ne.mpr z
                    by_cases q : rd x9 x12 < W
                    · rw [if_pos q] at H
                      have qb : decide (rd x9 x12 < W) = true := decide_eq_true q
                      rw [hw12] at H
                      have HH := Aside0.mk H
                      clear H
                      go_wp2_with (first | (go_at_call 23; refine (width_any S x12 hx0 (by omega)).mono ?_; rintro e w1 ⟨rfl, hw1⟩; rw [hwm]; have S1 := S.below hw1; clear t14 t11 hcb hfb hset; obtain ⟨hcb, hfb, hset⟩ := St.rowAt2 S1 x12 hx0 (by rw [hln.out]; exact c11); have t14 := S1.tcell 14; have t11 := S1.tcell 11; simp only [tcells] at t14 t11; rw [hln.out] at t11; clear S))
                      go_roundg k3
                      case measure => have := HK1.out; have := HK2.out; omega
                      case rel => exact ⟨_, _, true, cnt + 1, x12 + 1, rfl, by first | rfl | simp, rfl, HH, ⟨by have := HK2.out; omega⟩, hset _, ⟨by rw [List.length_set]; exact hln.out⟩, ⟨by simp⟩, ⟨by omega⟩⟩
                    · rw [if_neg q] at H
                      have qb : decide (rd x9 x12 < W) = false := decide_eq_false q
                      rw [hw12] at H
                      have HH := Aside0.mk H
                      clear H
                      go_wp2_with (first | (go_at_call 23; refine (width_any S x12 hx0 (by omega)).mono ?_; rintro e w1 ⟨rfl, hw1⟩; rw [hwm]; have S1 := S.below hw1; clear t14 t11 hcb hfb hset; obtain ⟨hcb, hfb, hset⟩ := St.rowAt2 S1 x12 hx0 (by rw [hln.out]; exact c11); have t14 := S1.tcell 14; have t11 := S1.tcell 11; simp only [tcells] at t14 t11; rw [hln.out] at t11; clear S))
                      go_roundg k3
                      case measure => have := HK1.out; have := HK2.out; omega
                      case rel => exact ⟨x9, x10, x11, cnt, x12 + 1, rfl, rfl, rfl, HH, ⟨by have := HK2.out; omega⟩, S1, hln, ⟨hcnt⟩, ⟨by omega⟩⟩
                · have c12b : decide (0 < x10) = false := decide_eq_false c12
                  rw [if_neg (by simpa using c12)] at H
                  have hx : (x11 = true ∧ spec_Grown.l0 k3 l1 x9 x10 = some res) ∨ (x11 = false ∧ x9 = res) := by
                    cases x11 with
                    | true => exact .inl ⟨rfl, by simpa using H⟩
                    | false => exact .inr ⟨rfl, by simpa using H⟩
                  clear H
                  rcases hx with ⟨rfl, H⟩ | ⟨rfl, rfl⟩
                  · have hcz : ((cnt : Int) == 0) = false := by have h9 := hcnt; clear hcnt; simp at h9 ⊢; omega
                    clear hcnt
                    have HH := Aside0.mk H
                    clear H
                    go_wp2_with (fail)
                    go_roundg k3
                    case measure => have := HK1.out; have := HK2.out; omega
                    case rel => exact ⟨x9, x10, rfl, HH, ⟨by have := HK1.out; have := HK2.out; omega⟩, S, ⟨hln.out⟩⟩
                  · have hcz : ((cnt : Int) == 0) = true := by have h9 := hcnt; clear hcnt; simp at h9 ⊢; omega
                    clear hcnt
                    go_wp2_with (fail)
                    go_end0
                    exact ⟨rfl, S⟩
            · rw [if_neg c11] at H
              have cd : decide (x12 < (n : Int)) = false := decide_eq_false c11
              cases k2 with
              | zero => exact absurd H (by simp [spec_Grown.j2])
              | succ k3 =>
                simp only [spec_Grown.j2] at H
                rw [if_neg (by simp)] at H
                by_cases c12 : 0 < x10
                · have c12b : decide (0 < x10) = true := decide_eq_true c12
                  have hx : (x11 = true ∧ spec_Grown.l0 k3 l1 x9 x10 = some res) ∨ (x11 = false ∧ x9 = res) := by
                    cases x11 with
                    | true => exact .inl ⟨rfl, by simpa using H⟩
                    | false => exact .inr ⟨rfl, by simpa using H⟩
                  clear H
                  rcases hx with ⟨rfl, H⟩ | ⟨rfl, rfl⟩
                  · have hcz : ((cnt : Int) == 0) = false := by have h9 := hcnt; clear hcnt; simp at h9 ⊢; omega
                    clear hcnt
                    have HH := Aside0.mk H
                    clear H
                    go_wp2_with (fail)
                    go_roundg k3
                    case measure => have := HK1.out; have := HK2.out; omega
                    case rel => exact ⟨x9, x10, rfl, HH, ⟨by have := HK1.out; have := HK2.out; omega⟩, S, ⟨hln.out⟩⟩
                  · have hcz : ((cnt : Int) == 0) = true := by have h9 := hcnt; clear hcnt; simp at h9 ⊢; omega
                    clear hcnt
                    go_wp2_with (fail)
                    go_end0
                    exact ⟨rfl, S⟩
                · have c12b : decide (0 < x10) = false := decide_eq_false c12
                  have hx : (x11 = true ∧ spec_Grown.l0 k3 l1 x9 x10 = some res) ∨ (x11 = false ∧ x9 = res) := by
                    cases x11 with
                    | true => exact .inl ⟨rfl, by simpa using H⟩
                    | false => exact .inr ⟨rfl, by simpa using H⟩
                  clear H
                  rcases hx with ⟨rfl, H⟩ | ⟨rfl, rfl⟩
                  · have hcz : ((cnt : Int) == 0) = false := by have h9 := hcnt; clear hcnt; simp at h9 ⊢; omega
                    clear hcnt
                    have HH := Aside0.mk H
                    clear H
                    go_wp2_with (fail)
                    go_roundg k3
                    case measure => have := HK1.out; have := HK2.out; omega
                    case rel => exact ⟨x9, x10, rfl, HH, ⟨by have := HK1.out; have := HK2.out; omega⟩, S, ⟨hln.out⟩⟩
                  · have hcz : ((cnt : Int) == 0) = true := by have h9 := hcnt; clear hcnt; simp at h9 ⊢; omega
                    clear hcnt
                    go_wp2_with (fail)
                    go_end0
                    exact ⟨rfl, S⟩
      · rw [if_neg c9] at H
        have c9b0 : decide (0 < x10) = false := decide_eq_false c9
        obtain rfl := Option.some.inj H
        go_wp2
        go_end0
        exact ⟨rfl, S⟩
theorem St.setMrl {w0 w : World} {n r : Int} {sc : Array Value} {T Mp Bl : Nat} {A : Option Addr} {k c : Nat} {l : List Int} {m : Nat} {g : Lit → Option Value} (h : St w0 n r sc T Mp Bl A k c l m g w) (r' : Int) : St w0 n r' sc T Mp Bl A k c l m g (w.setCell ⟨T, 13, none⟩ (.int .i64 r')) := by
  obtain ⟨arr, h1, h2⟩ := h.bools
  have e : ∀ b o, b ≠ T → w.heap[b]? = some o → (w.setCell ⟨T, 13, none⟩ (.int .i64 r')).heap[b]? = some o := fun b o hne hb => by rw [heap_setCell_other w _ b _ hne]; exact hb
  refine ⟨?_, h.map.of_heap (heap_setCell_other w _ _ _ (h.map_ne h.tab).symm), ⟨arr, h1, e _ _ (fun e => ?_) h2⟩, e _ _ (fun e => ?_) h.sty, R_off h.row h.tab (fun _ hc => by simp at hc), ?_, h.hT, h.hM, h.hB⟩
  · have := heap_setCell_same w T 13 _ 94 (.int .i64 r') h.tab
    simpa [tcells] using this
  · have := h.tab; rw [← e, h2] at this; simp at this
  · have := h.tab; rw [← e, h.sty] at this; simp at this
  · exact h.bel.trans ⟨rfl, rfl, rfl, by simp [World.setCell], fun i hi => heap_setCell_other w _ i _ (by have := h.hT; show i ≠ T; omega)⟩

set_option linter.all false in
set_option maxRecDepth 100000 in
set_option maxHeartbeats 1000000 in
theorem zz (k0 : Nat) (A0 : Option Addr) (c0 : Nat) (l0 l1 : List Int) (A1 : Option Addr) (c1 : Nat) (cs : List Cf) (sc : Array Value) (a2 a3 : Int) (res : List Int) (w : World) (hr0 : Kd.C (Kd.int .i64) w A0 l0.length l0) (hr1 : kd.C w A1 cs.length cs) (hs : sc.size = 56) (h0 : l0.length < 17592186044416) (h1 : cs.length < 17592186044416)
    (h52 : sc[52]? = some (.int .i64 a3)) (hat : ∀ j : Int, 0 ≤ j → j < l0.length → spec_at.f l1 j = some (wm cs j)) (H : spec_Grown.l0 k0 l1 l0 (wrap64 (a3 - a2)) = some res) :
    Calls Try.prog 14 #[.slice A0 l0.length c0, .slice A1 cs.length c1, .agg sc, .int .i64 a2] w fun e w' => ∃ v, e = .returned v ∧ Kd.R (Kd.int .i64) 3 w' w.heap.size (fun _ => True) v res ∧ Below w.heap.size w w' := by
  have hS : (w.alloc (.cells sc 69)).heap[w.heap.size]? = some (.cells sc 69 (0, 0)) := (MapKept.heap_alloc w _).1
  have hB0 : Below w.heap.size w (w.alloc (.cells sc 69)) := (Below.refl _ _).alloc (Nat.le_refl _) _
  have hld := run_loadVar_row (P := Try.prog) (w.alloc (.cells sc 69)) w.heap.size 69 69 sc (0, 0) _ hS Try.underlying69 rfl (by rw [hs]; rfl)
  have C0 := Kd.C_below hr0 hB0
  have C1 := Kd.C_below hr1 hB0
  have HAT := Aside0.mk hat; have HH := Aside0.mk H
  clear hr0 hr1 hat H
  go_enter Try.func14, Try.ntmps14
  go_wp2_with (first
    | ((with_reducible refine gate_dst (N := 12) rfl ?_); refine Kd.event_run rfl (exec_load rfl rfl hld) ?_)
    | (go_at_call 18; refine (columns A0 c0 l0 A1 c1 cs sc _ C0 C1 hs h0 h1).mono ?_; rintro e w1 ⟨T, Mp, Bl, A, k, c, rfl, S⟩; clear hld hS C0 C1; have t13 := S.tcell 13; have f13 := frozen_of_row w1 T 13 _ _ S.tab; simp only [tcells] at t13)
    | (go_at_call 19; refine (padded k0 l1 (St.setMrl S a2) rfl h0 h52 HAT.out HH.out).mono ?_; rintro e w2 ⟨rfl, S2⟩; have t11 := S2.tcell 11; simp only [tcells] at t11))
  go_ret
  exact ⟨_, rfl, Kd.R_lower S2.row (by have := hB0.size; omega), hB0.trans (S2.bel.mono hB0.size)⟩
end Go.Proofs.Ytjpdkmmpofddlaa.Grw
