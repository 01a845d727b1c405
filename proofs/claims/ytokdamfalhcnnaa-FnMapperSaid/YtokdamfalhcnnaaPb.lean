/- impl.paired: the walk. -/
import Derived.Test.YtokdamfalhcnnaaPa
import Derived.Deep.QuietTactic
import Derived.BigQuiet
namespace Go.Proofs.Ytokdamfalhcnnaa.Pb
open Go Go.Maps Go.ChangeMaps Go.MapKept Go.RowKit Go.Proofs.YtokdamfalhcnnaaW.PrintWords Go.Proofs.YtokdamfalhcnnaaW.PrintLast Go.Proofs.YtokdamfalhcnnaaW.PrintMore Mp Mq Mr Ms Mt Mu Small Mv Mo Mw Mx Pa

set_option linter.all false
set_option maxRecDepth 1000000
set_option maxHeartbeats 4000000
-- TABLES
def T5 : Bool × List (List Nat × List Nat) := (true, [([], []), ([], []), ([1], [1]), ([], []), ([], []), ([], []), ([], []), ([5, 6], [5, 6]), ([7], [7]), ([], []), ([], []), ([10], [10]), ([9, 11], [9, 11]), ([12], [12]), ([0, 2, 0, 1, 2, 5, 6, 7, 8, 13], [0, 2]), ([14, 8, 0, 1, 2, 5, 6, 7, 8, 13], [8, 14]), ([3, 4, 0, 1, 2, 3, 4, 5, 6, 7, 8, 9, 10, 11, 12, 13, 14, 15], [3, 4]), ([16, 13, 15, 0, 1, 2, 3, 4, 5, 6, 7, 8, 9, 10, 11, 12, 13, 14, 15], [13, 16])])
def B5 : List Nat := [0, 0, 2, 0, 0, 0, 0, 96, 224, 0, 0, 1024, 3584, 7680, 16359, 32743, 65535, 131071]
theorem tab5 : rtab .any (opsOf Try.f28 5) = T5 := by kernel_rfl
theorem bits5 : waitsOk T5.2 B5 = true := by kernel_rfl
-- END TABLES
theorem _root_.Go.Proofs.Ytokdamfalhcnnaa.Pa.Ro.drewN {B g cap : Nat} {w : World} {l : List Pr} {cur : Array Value} (h : Ro B g cap w l cur) (q : Nat) : Ro B g cap (w.drewN q) l cur := ⟨h.hp, h.sz, h.le, h.mx, h.tk, h.gB⟩
theorem grow_drewN {w w' : World} {row : Option Nat} (h : w.grownBy w' row) (q : Nat) : w.grownBy (w'.drewN q) row := ⟨h.os, h.tape, h.output, h.size, h.block⟩
variable {B : Nat} {w : World} {v : Value} {ps : List Pr} {p : Pr}
theorem pairedT (ho : w.ownsRow B 29 2 v ps.length (pcs ps)) (hB : B ≤ w.heap.size) (hs : Srt ps) (hp : ∀ e ∈ ps, e.1 ≠ p.1) (hl : ps.length ≤ 100000) : Calls Try.prog 28 #[v, .agg #[.int .i64 p.1, .int .i64 p.2]] w fun r w' => ∃ v', r = .returned v' ∧ w'.ownsRow B 29 2 v' (ins ps p).length (pcs (ins ps p)) ∧ w.grownBy w' v.ownBlock ∧ (v'.ownBlock = v.ownBlock ∨ ∃ g, v'.ownBlock = some g ∧ w.heap.size ≤ g) := by
  obtain ⟨W, hW⟩ : ∃ W, w.alloc (.cells #[.int .i64 p.1, .int .i64 p.2] 29) = W := ⟨_, rfl⟩
  have hg0 : w.grownBy W none := by rw [← hW]; exact World.grownBy_alloc w _ none
  have hsW : W.heap.size = w.heap.size + 1 := by rw [← hW]; simp
  have hbx : W.heap[w.heap.size]? = some (.cells #[.int .i64 p.1, .int .i64 p.2] 29 (0, 0)) := by rw [← hW]; exact heap_alloc_new w _
  have b0 : W.cell? ⟨w.heap.size, 0, none⟩ = some (.int .i64 p.1) := by rw [Lib.cell_of_heap hbx]; rfl
  have b1 : W.cell? ⟨w.heap.size, 1, none⟩ = some (.int .i64 p.2) := by rw [Lib.cell_of_heap hbx]; rfl
  have hrow := ho.kept hg0 (by cases v.ownBlock <;> simp)
  obtain ⟨A2, n2, c2, w6, hrun, ho6, hg6, hat6⟩ := push Try.underlying25 Mr.info29 rfl (by omega) B W v ps.length _ hrow (by omega) [.int .i64 p.1, .int .i64 p.2] rfl (by intro u hu; simp at hu; rcases hu with rfl | rfl <;> rfl) (by omega)
  have e6 : pcs ps ++ [.int .i64 p.1, .int .i64 p.2] = pcs (ps ++ [p]) := (pcs_snoc ps p).symm
  have hl6 : (ps ++ [p]).length = ps.length + 1 := by simp
  obtain ⟨n, hn⟩ : ∃ n, n = ps.length + 1 := ⟨_, rfl⟩
  rw [e6, ← hn] at ho6
  rcases ho6.2 with ⟨_, h0⟩ | ⟨g, cap, cur, hv, hgB, hgw, hcap, hmx, hcs, hcur⟩
  · omega
  cases hv
  have hl6 : (ps ++ [p]).length = n2 := by rw [hn]; simp
  have hRo : Ro B g c2 w6 (ps ++ [p]) cur := ⟨hgw, hcs, by rw [hl6]; exact hcap, hmx, by rw [hl6]; exact hcur, hgB⟩
  have hw64 : wrap64 ((n2 : Int) - 1) = (ps.length : Int) := by rw [wrap_in (by omega) (by omega)]; omega
  have hgr6 : w.grownBy w6 v.ownBlock := (hg0.but _).andThen hg6 (fun j hj => .inr hj)
  have hfr : v.ownBlock = some g ∨ w.heap.size ≤ g := by
    rcases hat6 with h | ⟨g', h, h2⟩
    · exact .inl h.symm
    · injection h with h; right; rw [show g = g' from h]; omega
  have hu29 := Try.underlying29
  have HL := Aside0.mk (And.intro hRo (And.intro hgr6 (And.intro hfr (And.intro hs (And.intro hp (And.intro hl hn))))))
  clear hn hl6
  clear ho hB hs hp hg0 hbx hrow ho6 hg6 hat6 e6 hRo hgr6 hfr hgB hgw hcap hmx hcs hcur

  clear hsW
  go_enter Try.func28, Try.ntmps28
  go_wp2_with (first | (refine appL_ (some 10) rfl rfl rfl rfl rfl hrun ?_; clear hrun))
  (try simp only [Act.put, List.setIfInBounds_toArray, List.set_cons_zero, List.set_cons_succ])
  clear b0 b1 hW hl
  go_loopg [6] ps.length (fun gk v6 wx => ∃ xs ys cur', v6 = .int .i64 (xs.length : Int) ∧ ps = xs ++ ys ∧ (∀ e ∈ ys, p.1 < e.1) ∧ Ro B g c2 wx (xs ++ p :: ys) cur' ∧ w6.grownBy wx (some g) ∧ xs.length ≤ gk)
  case atStart => exact ⟨ps, [], cur, by rw [hw64], by simp, by simp, HL.out.1, ⟨rfl, rfl, rfl, Nat.le_refl _, fun _ _ _ => rfl⟩, Nat.le_refl _⟩
  case round =>
    obtain ⟨xs, ys, cur', rfl, hps, hys, hro, hgx, hlen⟩ := hrel
    have hxl : xs.length ≤ 100000 := by have := HL.out.2.2.2.2.2.1; rw [hps] at this; simp at this; omega
    rcases List.eq_nil_or_concat xs with rfl | ⟨xs', a, rfl⟩
    · have HQ := Aside0.mk (And.intro hps (And.intro hys (And.intro hro hgx)))
      clear hps hys hro hgx hlen hxl
      go_wp2_with (fail)
      go_quiet (fail)
      go_wp2_with (fail)
      go_ret
      have hi : ins ps p = p :: ys := by rw [HQ.out.1]; exact ins_mid (xs := []) (fun e he => by cases he) HQ.out.2.1
      have hn' : n2 = (p :: ys).length := by have := HL.out.2.2.2.2.2.2; rw [HQ.out.1] at this; simpa using this
      have hro := HQ.out.2.2.1.own
      rw [show ([] : List Pr) ++ p :: ys = p :: ys from rfl, ← hn'] at hro
      refine ⟨_, rfl, by rw [hi, ← hn']; exact hro, ?_, ?_⟩
      · exact HL.out.2.1.andThen (grow_drewN HQ.out.2.2.2 nq) (fun j hj => by injection hj with hj; rw [← hj]; rcases HL.out.2.2.1 with h | h; exact .inr h; exact .inl h)
      · rcases HL.out.2.2.1 with h | h
        · exact .inl h.symm
        · exact .inr ⟨g, rfl, h⟩
    · rw [List.concat_eq_append] at hps hro hlen hxl
      rw [List.concat_eq_append]
      have e0 : xs' ++ [a] ++ p :: ys = xs' ++ a :: p :: ys := by simp
      rw [e0] at hro
      have e1 : xs' ++ [a] ++ ys = xs' ++ a :: ys := by simp
      rw [e1] at hps
      have el : (xs' ++ [a]).length = xs'.length + 1 := by simp
      rw [el] at hlen hxl ⊢
      obtain ⟨m, hm⟩ : ∃ m, m = xs'.length := ⟨_, rfl⟩
      rw [← hm] at hlen hxl ⊢
      obtain ⟨i, hi⟩ : ∃ i, i = m + 1 := ⟨_, rfl⟩
      obtain ⟨k0, k1, k2, k3⟩ := mid_at (xs := xs') (ys := ys) (p := p) a
      rw [← hm] at k0 k1 k2 k3
      rw [← hi] at k2 k3 hlen hxl ⊢
      have c0 := hro.cell _ _ k0
      have c1 := hro.cell _ _ k1
      have c2' := hro.cell _ _ k2
      have c3 := hro.cell _ _ k3
      have hn' : n2 = m + 2 + ys.length := by have := HL.out.2.2.2.2.2.2; rw [hps] at this; simp at this; omega
      have w1 : wrap64 ((i : Int) - 1) = (m : Int) := by rw [wrap_in (by omega) (by omega)]; omega
      have p1 := eq_true (show 0 ≤ (m : Int) by omega)
      have q1 := eq_true (show (m : Int) < (n2 : Int) by omega)
      have p2 := eq_true (show 0 ≤ (i : Int) by omega)
      have q2 := eq_true (show (i : Int) < (n2 : Int) by omega)
      have d1 : decide (0 < (i : Int)) = true := decide_eq_true (by omega)
      have d2 : decide (0 < i) = true := decide_eq_true (by omega)
      by_cases hgt : p.1 < a.1
      · have dg : decide (p.1 < a.1) = true := decide_eq_true hgt
        obtain ⟨g', rfl⟩ : ∃ g', gk = g' + 1 := ⟨gk - 1, by omega⟩
        have w1v : Value.int .i64 (wrap64 ((i : Int) - 1)) = .int .i64 (m : Int) := by rw [w1]
        have HQ := Aside0.mk (And.intro hps (And.intro hys (And.intro hro (And.intro hgx (And.intro hm (And.intro hlen (And.intro hgt (And.intro hn' hi))))))))
        clear hps hys hro hgx hlen hxl k0 k1 k2 k3 hgt hn' el e0 e1 hm hi hw64
        have HV := Aside0.mk w1v
        clear w1v
        go_wp2_with (fail)
        go_quiet (fail)
        go_wp2_with (fail)
        have S0 : Aside0 ((wr.drewN nq).cell? ⟨g, m * 2, none⟩ = some (.int .i64 a.1) ∧ (wr.drewN nq).cell? ⟨g, m * 2 + 1, none⟩ = some (.int .i64 a.2) ∧ (wr.drewN nq).cell? ⟨g, i * 2, none⟩ = some (.int .i64 p.1) ∧ (wr.drewN nq).cell? ⟨g, i * 2 + 1, none⟩ = some (.int .i64 p.2)) := ⟨⟨c0, c1, c2', c3⟩⟩
        have fz : ∀ j, wr.frozen? ⟨g, j, none⟩ = false := fun j => by rw [Lib.frozen_of_heap HQ.out.2.2.1.hp]
        have him := HQ.out.2.2.2.2.2.2.2.2
        have n1 : m * 2 ≠ i * 2 := by omega
        have n2' : m * 2 ≠ i * 2 + 1 := by omega
        have n3 : m * 2 + 1 ≠ i * 2 := by omega
        have n4 : m * 2 + 1 ≠ i * 2 + 1 := by omega
        have n1' := n1.symm
        have n2'' := n2'.symm
        have n3' := n3.symm
        have n4' := n4.symm
        clear him
        -- REGION 5
        refine start_ (n := 18) (S := fun w' => w'.cell? ⟨g, m * 2, none⟩ = some (.int .i64 a.1) ∧ w'.cell? ⟨g, m * 2 + 1, none⟩ = some (.int .i64 a.2) ∧ w'.cell? ⟨g, i * 2, none⟩ = some (.int .i64 p.1) ∧ w'.cell? ⟨g, i * 2 + 1, none⟩ = some (.int .i64 p.2)) (ds := [15, 17]) #[false, false, false, false, false, false, false, false, false, false, false, false, false, false, false, false, false, false] (by kernel_rfl) rfl rfl S0.out (fun hHeld => ?_); refine with_tabW tab5 bits5 (fun HT_ HW_ => ?_)
        refine pure_ (i := 0) (N := some 32) (v := ?_) (a' := ?_) #[true, false, false, false, false, false, false, false, false, false, false, false, false, false, false, false, false, false] rfl rfl (any_of HT_.out (by kernel_rfl)) (fun _ _ _ h => h) (Or.inl ⟨by rfl, ?_⟩) ?_ ?_
        rotate_left
        · intro w'
          go_simp
          with_reducible rfl
        rotate_left
        · simp only [Act.put, List.setIfInBounds_toArray, List.set_cons_zero, List.set_cons_succ, i64_w, i32_w]
          rfl
        refine pure_ (i := 1) (N := some 33) (v := ?_) (a' := ?_) #[true, true, false, false, false, false, false, false, false, false, false, false, false, false, false, false, false, false] rfl rfl (any_of HT_.out (by kernel_rfl)) (fun _ _ _ h => h) (Or.inl ⟨by rfl, ?_⟩) ?_ ?_
        rotate_left
        · intro w'
          go_simp
          with_reducible rfl
        rotate_left
        · simp only [Act.put, List.setIfInBounds_toArray, List.set_cons_zero, List.set_cons_succ, i64_w, i32_w]
          rfl
        refine pure_ (i := 2) (N := some 34) (v := ?_) (a' := ?_) #[true, true, true, false, false, false, false, false, false, false, false, false, false, false, false, false, false, false] rfl rfl (any_of HT_.out (by kernel_rfl)) (fun _ _ _ h => h) (Or.inl ⟨by rfl, ?_⟩) ?_ ?_
        rotate_left
        · intro w'
          go_simp
          with_reducible rfl
        rotate_left
        · simp only [Act.put, List.setIfInBounds_toArray, List.set_cons_zero, List.set_cons_succ, i64_w, i32_w]
          rfl
        refine pure_ (i := 3) (N := some 35) (v := ?_) (a' := ?_) #[true, true, true, true, false, false, false, false, false, false, false, false, false, false, false, false, false, false] rfl rfl (any_of HT_.out (by kernel_rfl)) (fun _ _ _ h => h) (Or.inl ⟨by rfl, ?_⟩) ?_ ?_
        rotate_left
        · intro w'
          go_simp
          with_reducible rfl
        rotate_left
        · simp only [Act.put, List.setIfInBounds_toArray, List.set_cons_zero, List.set_cons_succ, i64_w, i32_w]
          rfl
        refine pure_ (i := 4) (N := some 36) (v := ?_) (a' := ?_) #[true, true, true, true, true, false, false, false, false, false, false, false, false, false, false, false, false, false] rfl rfl (any_of HT_.out (by kernel_rfl)) (fun _ _ _ h => h) (Or.inl ⟨by rfl, ?_⟩) ?_ ?_
        rotate_left
        · intro w'
          go_simp
          with_reducible rfl
        rotate_left
        · simp only [Act.put, List.setIfInBounds_toArray, List.set_cons_zero, List.set_cons_succ, i64_w, i32_w]
          rfl
        refine pure_ (i := 5) (N := some 37) (v := ?_) (a' := ?_) #[true, true, true, true, true, true, false, false, false, false, false, false, false, false, false, false, false, false] rfl rfl (any_of HT_.out (by kernel_rfl)) (fun _ _ _ h => h) (Or.inl ⟨by rfl, ?_⟩) ?_ ?_
        rotate_left
        · intro w'
          go_simp
          with_reducible rfl
        rotate_left
        · simp only [Act.put, List.setIfInBounds_toArray, List.set_cons_zero, List.set_cons_succ, i64_w, i32_w]
          rfl
        refine pure_ (i := 6) (N := some 38) (v := ?_) (a' := ?_) #[true, true, true, true, true, true, true, false, false, false, false, false, false, false, false, false, false, false] rfl rfl (any_of HT_.out (by kernel_rfl)) (fun _ _ _ h => h) (Or.inl ⟨by rfl, ?_⟩) ?_ ?_
        rotate_left
        · intro w'
          go_simp
          with_reducible rfl
        rotate_left
        · simp only [Act.put, List.setIfInBounds_toArray, List.set_cons_zero, List.set_cons_succ, i64_w, i32_w]
          rfl
        refine pure_ (i := 7) (N := some 39) (v := ?_) (a' := ?_) #[true, true, true, true, true, true, true, true, false, false, false, false, false, false, false, false, false, false] rfl rfl (any_of HT_.out (by kernel_rfl)) (fun _ _ _ h => h) (Or.inl ⟨by rfl, ?_⟩) ?_ ?_
        rotate_left
        · intro w'
          go_simp
          with_reducible rfl
        rotate_left
        · simp only [Act.put, List.setIfInBounds_toArray, List.set_cons_zero, List.set_cons_succ, i64_w, i32_w]
          rfl
        refine take_ (i := 8) (N := some 40) (v := ?_) (a' := ?_) #[true, true, true, true, true, true, true, true, true, false, false, false, false, false, false, false, false, false] rfl rfl (take_ofW HT_.out HW_.out (by kernel_rfl)) (fun _ _ _ h => h) (Or.inl ⟨by rfl, ?_⟩) hHeld ?_ ?_
        rotate_left
        · rintro w' ⟨s0, s1, s2, s3⟩
          go_simp
          with_reducible rfl
        rotate_left
        · simp only [Act.put, List.setIfInBounds_toArray, List.set_cons_zero, List.set_cons_succ, i64_w, i32_w]
          rfl
        refine pure_ (i := 9) (N := some 41) (v := ?_) (a' := ?_) #[true, true, true, true, true, true, true, true, true, true, false, false, false, false, false, false, false, false] rfl rfl (any_of HT_.out (by kernel_rfl)) (fun _ _ _ h => h) (Or.inl ⟨by rfl, ?_⟩) ?_ ?_
        rotate_left
        · intro w'
          go_simp
          with_reducible rfl
        rotate_left
        · simp only [Act.put, List.setIfInBounds_toArray, List.set_cons_zero, List.set_cons_succ, i64_w, i32_w]
          rfl
        refine pure_ (i := 10) (N := some 42) (v := ?_) (a' := ?_) #[true, true, true, true, true, true, true, true, true, true, true, false, false, false, false, false, false, false] rfl rfl (any_of HT_.out (by kernel_rfl)) (fun _ _ _ h => h) (Or.inl ⟨by rfl, ?_⟩) ?_ ?_
        rotate_left
        · intro w'
          go_simp
          with_reducible rfl
        rotate_left
        · simp only [Act.put, List.setIfInBounds_toArray, List.set_cons_zero, List.set_cons_succ, i64_w, i32_w]
          rfl
        refine pure_ (i := 11) (N := some 43) (v := ?_) (a' := ?_) #[true, true, true, true, true, true, true, true, true, true, true, true, false, false, false, false, false, false] rfl rfl (any_of HT_.out (by kernel_rfl)) (fun _ _ _ h => h) (Or.inl ⟨by rfl, ?_⟩) ?_ ?_
        rotate_left
        · intro w'
          go_simp
          with_reducible rfl
        rotate_left
        · simp only [Act.put, List.setIfInBounds_toArray, List.set_cons_zero, List.set_cons_succ, i64_w, i32_w]
          rfl
        refine pure_ (i := 12) (N := some 44) (v := ?_) (a' := ?_) #[true, true, true, true, true, true, true, true, true, true, true, true, true, false, false, false, false, false] rfl rfl (any_of HT_.out (by kernel_rfl)) (fun _ _ _ h => h) (Or.inl ⟨by rfl, ?_⟩) ?_ ?_
        rotate_left
        · intro w'
          go_simp
          with_reducible rfl
        rotate_left
        · simp only [Act.put, List.setIfInBounds_toArray, List.set_cons_zero, List.set_cons_succ, i64_w, i32_w]
          rfl
        refine take_ (i := 13) (N := some 45) (v := ?_) (a' := ?_) #[true, true, true, true, true, true, true, true, true, true, true, true, true, true, false, false, false, false] rfl rfl (take_ofW HT_.out HW_.out (by kernel_rfl)) (fun _ _ _ h => h) (Or.inl ⟨by rfl, ?_⟩) hHeld ?_ ?_
        rotate_left
        · rintro w' ⟨s0, s1, s2, s3⟩
          go_simp
          with_reducible rfl
        rotate_left
        · simp only [Act.put, List.setIfInBounds_toArray, List.set_cons_zero, List.set_cons_succ, i64_w, i32_w]
          rfl
        refine pure_ (i := 14) (N := some 46) (v := ?_) (a' := ?_) #[true, true, true, true, true, true, true, true, true, true, true, true, true, true, true, false, false, false] rfl rfl (any_of HT_.out (by kernel_rfl)) (fun _ _ _ h => h) (Or.inl ⟨by rfl, ?_⟩) ?_ ?_
        rotate_left
        · intro w'
          go_simp
          with_reducible rfl
        rotate_left
        · simp only [Act.put, List.setIfInBounds_toArray, List.set_cons_zero, List.set_cons_succ, i64_w, i32_w]
          rfl
        refine last_ (i := 15) (N := none) #[true, true, true, true, true, true, true, true, true, true, true, true, true, true, true, true, false, false] rfl rfl (one_of HT_.out (by kernel_rfl)) (by decide) (fun Kc hKc => ?_)
        refine skip_ (w1 := ((wr.drewN nq).drew.setCell ⟨g, m * 2, none⟩ (.int .i64 p.1)).setCell ⟨g, m * 2 + 1, none⟩ (.int .i64 p.2)) (by rfl) rfl ?_ ?_
        · go_simp
          try rfl
        refine hKc.out _ _ ?_
        clear hKc Kc
        refine pure_ (i := 16) (N := some 47) (v := ?_) (a' := ?_) #[true, true, true, true, true, true, true, true, true, true, true, true, true, true, true, true, true, false] rfl rfl (any_of HT_.out (by kernel_rfl)) (fun _ _ _ h => h) (Or.inl ⟨by rfl, ?_⟩) ?_ ?_
        rotate_left
        · intro w'
          go_simp
          with_reducible rfl
        rotate_left
        · simp only [Act.put, List.setIfInBounds_toArray, List.set_cons_zero, List.set_cons_succ, i64_w, i32_w]
          rfl
        refine last_ (i := 17) (N := none) #[true, true, true, true, true, true, true, true, true, true, true, true, true, true, true, true, true, true] rfl rfl (one_of HT_.out (by kernel_rfl)) (by decide) (fun Kc hKc => ?_)
        refine skip_ (w1 := ((((wr.drewN nq).drew.setCell ⟨g, m * 2, none⟩ (.int .i64 p.1)).setCell ⟨g, m * 2 + 1, none⟩ (.int .i64 p.2)).setCell ⟨g, i * 2, none⟩ (.int .i64 a.1)).setCell ⟨g, i * 2 + 1, none⟩ (.int .i64 a.2)) (by rfl) rfl ?_ ?_
        · go_simp
          try rfl
        refine hKc.out _ _ ?_
        clear hKc Kc
        refine done_ (done_of HT_.out (by kernel_rfl)) ?_
        -- END REGION 5
        clear n1 n2' n3 n4 n1' n2'' n3' n4' c0 c1 c2' c3 S0 fz hHeld
        go_wp2_with (fail)
        go_roundg g'
        case measure => exact Nat.lt_succ_self _
        case rel =>
          have hm := HQ.out.2.2.2.2.1
          have hi := HQ.out.2.2.2.2.2.2.2.2
          have hro := HQ.out.2.2.1
          have q0 : (wr.drewN nq).drew.heap[g]? = some (.cells cur' 29 (0, 0)) := hro.hp
          have q1 := heap_setCell_same _ g (m * 2) _ 29 (.int .i64 p.1) q0
          have q2 := heap_setCell_same _ g (m * 2 + 1) _ 29 (.int .i64 p.2) q1
          have q3 := heap_setCell_same _ g (i * 2) _ 29 (.int .i64 a.1) q2
          have q4 := heap_setCell_same _ g (i * 2 + 1) _ 29 (.int .i64 a.2) q3
          rw [hi, hm] at q4
          obtain ⟨cur2, hr2⟩ := hro.swap q4
          rw [← hm, ← hi] at hr2
          have hgx := grow_drewN (HQ.out.2.2.2.1) nq
          have hgs : ∀ (W : World) (j : Nat) (u : Value), W.grownBy (W.setCell ⟨g, j, none⟩ u) (some g) := fun W j u => ⟨rfl, rfl, rfl, by simp [World.setCell], fun k _ hk => Below.heap_setCell _ _ _ k (fun e => hk (by rw [e]))⟩
          have hgd : (wr.drewN nq).grownBy (wr.drewN nq).drew (some g) := ⟨rfl, rfl, rfl, Nat.le_refl _, fun _ _ _ => rfl⟩
          have ht : ∀ {a b c : World}, a.grownBy b (some g) → b.grownBy c (some g) → a.grownBy c (some g) := fun h k => h.andThen k (fun j hj => .inr hj)
          refine ⟨xs', a :: ys, cur2, by rw [← hm]; exact HV.out, HQ.out.1, fun e he => ?_, hr2, ht hgx (ht hgd (ht (hgs _ _ _) (ht (hgs _ _ _) (ht (hgs _ _ _) (hgs _ _ _))))), by have := HQ.out.2.2.2.2.2.1; omega⟩
          rcases List.mem_cons.1 he with rfl | he
          · exact HQ.out.2.2.2.2.2.2.1
          · exact HQ.out.2.1 e he
      · have dg : decide (p.1 < a.1) = false := decide_eq_false hgt
        have HQ := Aside0.mk (And.intro hps (And.intro hys (And.intro hro (And.intro hgx (And.intro hm (And.intro hlen (And.intro hgt (And.intro hn' hi))))))))
        clear hps hys hro hgx hlen hxl k0 k1 k2 k3 hgt hn' el e0 e1 hm hi hw64
        go_wp2_with (fail)
        go_quiet (fail)
        go_wp2_with (fail)
        go_ret
        have hm := HQ.out.2.2.2.2.1
        have hle : a.1 < p.1 := by
          have h1 := HQ.out.2.2.2.2.2.2.1
          have h2 := HL.out.2.2.2.2.1 a (by rw [HQ.out.1]; simp)
          omega
        have hxs : ∀ e ∈ xs' ++ [a], e.1 < p.1 := fun e he => by
          rcases List.mem_append.1 he with he | he
          · have hs := HL.out.2.2.2.1
            rw [HQ.out.1] at hs
            have := (List.pairwise_append.1 hs).2.2 e he a (by simp)
            omega
          · obtain rfl := List.mem_singleton.1 he
            exact hle
        have hins : ins ps p = xs' ++ a :: p :: ys := by
          have h1 := ins_mid (xs := xs' ++ [a]) (ys := ys) hxs HQ.out.2.1
          rw [HQ.out.1]
          simpa using h1
        have hn2 : n2 = (xs' ++ a :: p :: ys).length := by have := HQ.out.2.2.2.2.2.2.2.1; simp; omega
        have hro := (HQ.out.2.2.1.drewN nq).own
        rw [← hn2] at hro
        refine ⟨_, rfl, by rw [hins, ← hn2]; exact hro, ?_, ?_⟩
        · exact HL.out.2.1.andThen (grow_drewN HQ.out.2.2.2.1 nq) (fun j hj => by injection hj with hj; rw [← hj]; rcases HL.out.2.2.1 with h | h; exact .inr h; exact .inl h)
        · rcases HL.out.2.2.1 with h | h
          · exact .inl h.symm
          · exact .inr ⟨g, rfl, h⟩
end Go.Proofs.Ytokdamfalhcnnaa.Pb
