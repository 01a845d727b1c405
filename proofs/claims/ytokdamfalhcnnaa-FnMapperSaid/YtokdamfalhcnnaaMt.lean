/- Ranges over a map: keys, values, pairs. -/
import Derived.Test.YtokdamfalhcnnaaMs
namespace Go.Proofs.Ytokdamfalhcnnaa.Mt
open Go Go.Maps Go.ChangeMaps Go.MapKept Go.RowKit Go.Proofs.YtokdamfalhcnnaaW.PrintWords Go.Proofs.YtokdamfalhcnnaaW.PrintLast Go.Proofs.YtokdamfalhcnnaaW.PrintMore Mp Mq Mr Ms

set_option linter.all false
set_option maxRecDepth 1000000
set_option maxHeartbeats 4000000
/-- the state of a loop that writes new blocks alone -/
structure St (B b r : Nat) (w0 w : World) (ps ds rem : List Pr) : Prop where
  rg : Rg b r w ps rem
  bl : Below B w0 w
  pm : (ds ++ rem).Perm ps
  bB : b < B
  rB : B ≤ r
variable {B b r : Nat} {w0 w w' : World} {ps ds rem r1 r2 : List Pr} {e : Pr}
theorem perm_step (h : (ds ++ (r1 ++ e :: r2)).Perm ps) : ((ds ++ [e]) ++ (r1 ++ r2)).Perm ps := by
  refine List.Perm.trans ?_ h
  rw [List.append_assoc]
  exact List.Perm.append_left ds (show (e :: (r1 ++ r2)).Perm _ from List.perm_middle.symm)
theorem below_grown {B : Nat} {row : Option Nat} (h : w.grownBy w' row) (hB : B ≤ w.heap.size) (hr : ∀ k, row = some k → B ≤ k) : Below B w w' :=
  ⟨h.os, h.tape, h.output, h.size, fun k hk => h.block k (by omega) (fun e => by have := hr k e.symm; omega)⟩
/-- one step: an entry comes out -/
theorem St.next (h : St B b r w0 w ps ds rem) (hrem : rem = r1 ++ e :: r2) (hr : Rg b r w' ps (r1 ++ r2)) (hg : w.grownBy w' (some r)) (hB : B ≤ w.heap.size) : St B b r w0 w' ps (ds ++ [e]) (r1 ++ r2) :=
  ⟨hr, h.bl.trans (below_grown hg hB (fun k hk => by injection hk with hk; rw [← hk]; exact h.rB)), perm_step (hrem ▸ h.pm), h.bB, h.rB⟩
/-- other blocks are written -/
theorem St.go {row : Option Nat} (h : St B b r w0 w ps ds rem) (hg : w.grownBy w' row) (hB : B ≤ w.heap.size) (hr : ∀ k, row = some k → B ≤ k ∧ k ≠ r) : St B b r w0 w' ps ds rem := by
  obtain ⟨h1, h2, h3⟩ := h.rg.lt
  exact ⟨h.rg.of_heap (hg.block b h2 (fun e => by have := (hr b e.symm).1; have := h.bB; omega)) (hg.block r h1 (fun e => (hr r e.symm).2 rfl)), h.bl.trans (below_grown hg hB (fun k hk => (hr k hk).1)), h.pm, h.bB, h.rB⟩
theorem St.le (h : St B b r w0 w ps ds rem) (h0 : B ≤ w0.heap.size) : B ≤ w.heap.size := Nat.le_trans h0 h.bl.size
theorem St.lens (h : St B b r w0 w ps ds rem) : ds.length + rem.length = ps.length := by rw [← List.length_append]; exact h.pm.length_eq
/-- a row of the call's own is not the iterator -/
theorem St.row_ne (h : St B b r w0 w ps ds rem) {t : TypeId} {s n : Nat} {v : Value} {xs : List Value} (ho : w.ownsRow B t s v n xs) : ∀ k, v.ownBlock = some k → B ≤ k ∧ k ≠ r := fun k hk => by
  obtain ⟨cells, hc⟩ := own_typed ho k hk
  refine ⟨(ho.lt k hk).1, fun e2 => ?_⟩
  · obtain ⟨x, y, z, u, hi⟩ := h.rg.iter
    rw [← e2, hc] at hi
    cases hi
def ints (l : List Int) : List Value := l.map fun x => .int .i64 x
theorem ints_snoc (l : List Int) (x : Int) : ints (l ++ [x]) = ints l ++ [.int .i64 x] := by unfold ints; rw [List.map_append]; rfl
theorem made3 (n : Nat) (hn : n ≤ 100000) (w : World) : (Instr.makeSlice 22 (.int .i64 0) (.int .i64 n)).run Try.prog w = .ok (.slice (some ⟨w.heap.size, 0, none⟩) 0 n) (w.alloc (.cells (madeCells #[.int .i64 0] n) 3)) := by
  obtain ⟨i, hi, h0, h1, h2⟩ := info_parts info3
  have := run_make (P := Try.prog) (w := w) 22 3 i (.int .i64 0) Try.underlying22 hi h0 .i64 .i64 0 n (by omega) (by omega) (by rw [h2]; omega) (by omega)
  rw [h1] at this
  simpa [Value.cells] using this
theorem madeRow (w : World) (B e s c : Nat) (z : Array Value) (hB : B ≤ w.heap.size) (hc : c ≤ 100000) : (w.alloc (.cells (madeCells z (c * s)) e)).ownsRow B e s (.slice (some ⟨w.heap.size, 0, none⟩) 0 c) 0 [] :=
  World.ownsRow_made w _ c hB (by unfold maxLen; omega) (size_madeCells _ _)
theorem keysT (h : Mq b w ps) (hl : ps.length ≤ 100000) : Calls Try.prog 21 #[.map (some b)] w fun r w' => ∃ v ds, r = .returned v ∧ ds.Perm ps ∧ w'.ownsRow w.heap.size 3 1 v ds.length (ints (keys ds)) ∧ Below w.heap.size w w' := by
  have hE := eqS b
  have hL := h.len
  have hM := made3 ps.length hl w
  obtain ⟨W, hW⟩ : ∃ W, w.alloc (.cells (madeCells #[.int .i64 0] ps.length) 3) = W := ⟨_, rfl⟩
  have hb := h.lt
  have hRow : W.ownsRow w.heap.size 3 1 (.slice (some ⟨w.heap.size, 0, none⟩) 0 ps.length) 0 [] := by
    rw [← hW]
    have := madeRow w w.heap.size 3 1 ps.length #[.int .i64 0] (Nat.le_refl _) hl
    simpa using this
  have hg0 : w.grownBy W none := by rw [← hW]; exact World.grownBy_alloc w _ none
  have hmW : Mq b W ps := h.kept hg0 (by simp)
  rw [hW] at hM
  have HL := Aside0.mk hl
  clear h hW
  go_enter Try.func21, Try.ntmps21
  go_wp2_with (first | (refine range_ _ rfl _ rfl rfl hmW ?_; intro w0 hr0 hg1 hs1; have H0 := Aside0.mk (And.intro hr0 (And.intro hg1 hs1)); clear hr0 hg1 hs1))
  go_frame
  have hS0 : St w.heap.size b W.heap.size w w0 ps [] ps := ⟨H0.out.1, (below_grown hg0 (Nat.le_refl _) (fun k hk => by cases hk)).trans (below_grown H0.out.2.1 hg0.size (fun k hk => by cases hk)), List.Perm.refl _, hb, hg0.size⟩
  have hR0 := hRow.kept H0.out.2.1 (.inr (by simp [Value.ownBlock]))
  have HS := Aside0.mk (And.intro hS0 hR0)
  clear hS0 hR0 hRow hmW hg0 hM hE
  go_loopg [3, 4] ps.length (fun gk v3 v4 wx => ∃ ds rem, St w.heap.size b W.heap.size w wx ps ds rem ∧ wx.ownsRow w.heap.size 3 1 v3 ds.length (ints (keys ds)) ∧ rem.length ≤ gk)
  case atStart => exact ⟨[], ps, HS.out.1, HS.out.2, Nat.le_refl _⟩
  case round =>
    obtain ⟨ds, rem, hP, hrow, hlen⟩ := hrel
    have HP := Aside0.mk (And.intro hP (And.intro hrow hlen))
    have hrg := hP.rg
    clear hP hrow hlen
    go_wp2_with (first | (refine next_ _ rfl _ rfl rfl hrg ?_ ?_))
    · intro hrem
      subst hrem
      clear hrg
      go_wp2_with (fail)
      go_ret
      exact ⟨_, ds, rfl, by have := HP.out.1.pm; simpa using this, HP.out.2.1, HP.out.1.bl⟩
    · intro x y r1 r2 w1 hrem hrg1 hg1 hs1 hen
      have hB := HP.out.1.le (Nat.le_refl _)
      have hS1 := HP.out.1.next hrem hrg1 hg1 hB
      have hrow1 := HP.out.2.1.kept hg1 (.inr (fun e2 => by
        have := (HP.out.1.row_ne HP.out.2.1 _ e2).2
        exact this rfl))
      have hls := HP.out.1.lens
      have hlr : rem.length = (r1 ++ r2).length + 1 := by rw [hrem]; simp; omega
      have hps := HL.out
      obtain ⟨A2, n2, c2, w6, hrun, ho6, hg6, hat6⟩ := push Try.underlying22 info3 rfl (by omega) w.heap.size w1 u3 ds.length _ hrow1 (hS1.le (Nat.le_refl _)) [.int .i64 x] rfl (by intro u hu; simp at hu; subst hu; rfl) (by omega)
      have hS6 := hS1.go hg6 (hS1.le (Nat.le_refl _)) (hS1.row_ne hrow1)
      have hrow6 : w6.ownsRow w.heap.size 3 1 (.slice A2 n2 c2) (ds ++ [(x, y)]).length (ints (keys (ds ++ [(x, y)]))) := by
        have : keys (ds ++ [(x, y)]) = keys ds ++ [x] := by unfold keys; rw [List.map_append]; rfl
        rw [this, ints_snoc, List.length_append]
        exact ho6
      have HQ := Aside0.mk (And.intro hS6 (And.intro hrow6 hlr))
      clear hS1 hrow1 hg6 hat6 hS6 hrow6 hg1 hs1 hrg1 hB ho6 hrg
      obtain ⟨g', rfl⟩ : ∃ g', gk = g' + 1 := ⟨gk - 1, by have := HP.out.2.2; omega⟩
      clear hls hlr hps hrem
      go_wp2_with (first | (refine appL_ (some 19) rfl rfl rfl rfl rfl hrun ?_; clear hrun))
      go_roundg g'
      case measure => exact Nat.lt_succ_self _
      case rel => exact ⟨_, _, HQ.out.1, HQ.out.2.1, by have := HP.out.2.2; have := HQ.out.2.2; omega⟩
def vals (ps : List Pr) : List Int := ps.map Prod.snd
/-- a pair's cells, pairs' cells -/
def pc (p : Pr) : List Value := [.int .i64 p.1, .int .i64 p.2]
def pcs (ps : List Pr) : List Value := ps.flatMap pc
theorem pcs_snoc (ps : List Pr) (p : Pr) : pcs (ps ++ [p]) = pcs ps ++ [.int .i64 p.1, .int .i64 p.2] := by unfold pcs; rw [List.flatMap_append]; rfl
theorem made60 (n : Nat) (hn : n ≤ 100000) (w : World) : (Instr.makeSlice 57 (.int .i64 0) (.int .i64 n)).run Try.prog w = .ok (.slice (some ⟨w.heap.size, 0, none⟩) 0 n) (w.alloc (.cells (madeCells #[.int .i64 0, .int .i64 0] (n * 2)) 60)) := by
  obtain ⟨i, hi, h0, h1, h2⟩ := info_parts info60
  have := run_make (P := Try.prog) (w := w) 57 60 i (.agg #[.int .i64 0, .int .i64 0]) u57 hi h0 .i64 .i64 0 n (by omega) (by omega) (by rw [h2]; omega) (by omega)
  rw [h1] at this
  simpa [Value.cells] using this
theorem valuesT (h : Mq b w ps) (hl : ps.length ≤ 100000) : Calls Try.prog 25 #[.map (some b)] w fun r w' => ∃ v ds, r = .returned v ∧ ds.Perm ps ∧ w'.ownsRow w.heap.size 3 1 v ds.length (ints (vals ds)) ∧ Below w.heap.size w w' := by
  have hE := eqS b
  have hL := h.len
  have hM := made3 ps.length hl w
  obtain ⟨W, hW⟩ : ∃ W, w.alloc (.cells (madeCells #[.int .i64 0] ps.length) 3) = W := ⟨_, rfl⟩
  have hb := h.lt
  have hRow : W.ownsRow w.heap.size 3 1 (.slice (some ⟨w.heap.size, 0, none⟩) 0 ps.length) 0 [] := by
    rw [← hW]
    have := madeRow w w.heap.size 3 1 ps.length #[.int .i64 0] (Nat.le_refl _) hl
    simpa using this
  have hg0 : w.grownBy W none := by rw [← hW]; exact World.grownBy_alloc w _ none
  have hmW : Mq b W ps := h.kept hg0 (by simp)
  rw [hW] at hM
  have HL := Aside0.mk hl
  clear h hW
  go_enter Try.func25, Try.ntmps25
  go_wp2_with (first | (refine range_ _ rfl _ rfl rfl hmW ?_; intro w0 hr0 hg1 hs1; have H0 := Aside0.mk (And.intro hr0 (And.intro hg1 hs1)); clear hr0 hg1 hs1))
  go_frame
  have hS0 : St w.heap.size b W.heap.size w w0 ps [] ps := ⟨H0.out.1, (below_grown hg0 (Nat.le_refl _) (fun k hk => by cases hk)).trans (below_grown H0.out.2.1 hg0.size (fun k hk => by cases hk)), List.Perm.refl _, hb, hg0.size⟩
  have hR0 := hRow.kept H0.out.2.1 (.inr (by simp [Value.ownBlock]))
  have HS := Aside0.mk (And.intro hS0 hR0)
  clear hS0 hR0 hRow hmW hg0 hM hE
  go_loopg [3, 5] ps.length (fun gk v3 v5 wx => ∃ ds rem, St w.heap.size b W.heap.size w wx ps ds rem ∧ wx.ownsRow w.heap.size 3 1 v3 ds.length (ints (vals ds)) ∧ rem.length ≤ gk)
  case atStart => exact ⟨[], ps, HS.out.1, HS.out.2, Nat.le_refl _⟩
  case round =>
    obtain ⟨ds, rem, hP, hrow, hlen⟩ := hrel
    have HP := Aside0.mk (And.intro hP (And.intro hrow hlen))
    have hrg := hP.rg
    clear hP hrow hlen
    go_wp2_with (first | (refine next_ _ rfl _ rfl rfl hrg ?_ ?_))
    · intro hrem
      subst hrem
      clear hrg
      go_wp2_with (fail)
      go_ret
      exact ⟨_, ds, rfl, by have := HP.out.1.pm; simpa using this, HP.out.2.1, HP.out.1.bl⟩
    · intro x y r1 r2 w1 hrem hrg1 hg1 hs1 hen
      have hB := HP.out.1.le (Nat.le_refl _)
      have hS1 := HP.out.1.next hrem hrg1 hg1 hB
      have hrow1 := HP.out.2.1.kept hg1 (.inr (fun e2 => by
        have := (HP.out.1.row_ne HP.out.2.1 _ e2).2
        exact this rfl))
      have hls := HP.out.1.lens
      have hlr : rem.length = (r1 ++ r2).length + 1 := by rw [hrem]; simp; omega
      have hps := HL.out
      obtain ⟨A2, n2, c2, w6, hrun, ho6, hg6, hat6⟩ := push Try.underlying22 info3 rfl (by omega) w.heap.size w1 u3 ds.length _ hrow1 (hS1.le (Nat.le_refl _)) [.int .i64 y] rfl (by intro u hu; simp at hu; subst hu; rfl) (by omega)
      have hS6 := hS1.go hg6 (hS1.le (Nat.le_refl _)) (hS1.row_ne hrow1)
      have hrow6 : w6.ownsRow w.heap.size 3 1 (.slice A2 n2 c2) (ds ++ [(x, y)]).length (ints (vals (ds ++ [(x, y)]))) := by
        have : vals (ds ++ [(x, y)]) = vals ds ++ [y] := by unfold vals; rw [List.map_append]; rfl
        rw [this, ints_snoc, List.length_append]
        exact ho6
      have HQ := Aside0.mk (And.intro hS6 (And.intro hrow6 hlr))
      clear hS1 hrow1 hg6 hat6 hS6 hrow6 hg1 hs1 hrg1 hB ho6 hrg
      obtain ⟨g', rfl⟩ : ∃ g', gk = g' + 1 := ⟨gk - 1, by have := HP.out.2.2; omega⟩
      clear hls hlr hps hrem
      go_wp2_with (first | (refine appL_ (some 20) rfl rfl rfl rfl rfl hrun ?_; clear hrun))
      go_roundg g'
      case measure => exact Nat.lt_succ_self _
      case rel => exact ⟨_, _, HQ.out.1, HQ.out.2.1, by have := HP.out.2.2; have := HQ.out.2.2; omega⟩
theorem slicerT (h : Mq b w ps) (hl : ps.length ≤ 100000) : Calls Try.prog 27 #[.map (some b)] w fun r w' => ∃ v ds, r = .returned v ∧ ds.Perm ps ∧ w'.ownsRow w.heap.size 60 2 v ds.length (pcs ds) ∧ Below w.heap.size w w' := by
  have hE := eqS b
  have hL := h.len
  have hM := made60 ps.length hl w
  obtain ⟨W, hW⟩ : ∃ W, w.alloc (.cells (madeCells #[.int .i64 0, .int .i64 0] (ps.length * 2)) 60) = W := ⟨_, rfl⟩
  have hb := h.lt
  have hRow : W.ownsRow w.heap.size 60 2 (.slice (some ⟨w.heap.size, 0, none⟩) 0 ps.length) 0 [] := by
    rw [← hW]
    have := madeRow w w.heap.size 60 2 ps.length #[.int .i64 0, .int .i64 0] (Nat.le_refl _) hl
    simpa using this
  have hg0 : w.grownBy W none := by rw [← hW]; exact World.grownBy_alloc w _ none
  have hmW : Mq b W ps := h.kept hg0 (by simp)
  rw [hW] at hM
  have HL := Aside0.mk hl
  clear h hW
  go_enter Try.func27, Try.ntmps27
  go_wp2_with (first | (refine range_ _ rfl _ rfl rfl hmW ?_; intro w0 hr0 hg1 hs1; have H0 := Aside0.mk (And.intro hr0 (And.intro hg1 hs1)); clear hr0 hg1 hs1))
  go_frame
  have hS0 : St w.heap.size b W.heap.size w w0 ps [] ps := ⟨H0.out.1, (below_grown hg0 (Nat.le_refl _) (fun k hk => by cases hk)).trans (below_grown H0.out.2.1 hg0.size (fun k hk => by cases hk)), List.Perm.refl _, hb, hg0.size⟩
  have hR0 := hRow.kept H0.out.2.1 (.inr (by simp [Value.ownBlock]))
  have HS := Aside0.mk (And.intro hS0 hR0)
  clear hS0 hR0 hRow hmW hg0 hM hE
  go_loopg [3, 4, 5] ps.length (fun gk v3 v4 v5 wx => ∃ ds rem, St w.heap.size b W.heap.size w wx ps ds rem ∧ wx.ownsRow w.heap.size 60 2 v3 ds.length (pcs ds) ∧ rem.length ≤ gk)
  case atStart => exact ⟨[], ps, HS.out.1, HS.out.2, Nat.le_refl _⟩
  case round =>
    obtain ⟨ds, rem, hP, hrow, hlen⟩ := hrel
    have HP := Aside0.mk (And.intro hP (And.intro hrow hlen))
    have hrg := hP.rg
    clear hP hrow hlen
    go_wp2_with (first | (refine next_ _ rfl _ rfl rfl hrg ?_ ?_))
    · intro hrem
      subst hrem
      clear hrg
      go_wp2_with (fail)
      go_ret
      exact ⟨_, ds, rfl, by have := HP.out.1.pm; simpa using this, HP.out.2.1, HP.out.1.bl⟩
    · intro x y r1 r2 w1 hrem hrg1 hg1 hs1 hen
      have hB := HP.out.1.le (Nat.le_refl _)
      have hS1 := HP.out.1.next hrem hrg1 hg1 hB
      have hrow1 := HP.out.2.1.kept hg1 (.inr (fun e2 => by
        have := (HP.out.1.row_ne HP.out.2.1 _ e2).2
        exact this rfl))
      have hls := HP.out.1.lens
      have hlr : rem.length = (r1 ++ r2).length + 1 := by rw [hrem]; simp; omega
      have hps := HL.out
      obtain ⟨A2, n2, c2, w6, hrun, ho6, hg6, hat6⟩ := push u57 info60 rfl (by omega) w.heap.size w1 u3 ds.length _ hrow1 (hS1.le (Nat.le_refl _)) [.int .i64 x, .int .i64 y] rfl (by intro u hu; simp at hu; rcases hu with rfl | rfl <;> rfl) (by omega)
      have hS6 := hS1.go hg6 (hS1.le (Nat.le_refl _)) (hS1.row_ne hrow1)
      have hrow6 : w6.ownsRow w.heap.size 60 2 (.slice A2 n2 c2) (ds ++ [(x, y)]).length (pcs (ds ++ [(x, y)])) := by
        rw [pcs_snoc, List.length_append]
        exact ho6
      have HQ := Aside0.mk (And.intro hS6 (And.intro hrow6 hlr))
      clear hS1 hrow1 hg6 hat6 hS6 hrow6 hg1 hs1 hrg1 hB ho6 hrg
      obtain ⟨g', rfl⟩ : ∃ g', gk = g' + 1 := ⟨gk - 1, by have := HP.out.2.2; omega⟩
      clear hls hlr hps hrem
      go_wp2_with (first | (refine appL_ (some 23) rfl rfl rfl rfl rfl hrun ?_; clear hrun))
      go_roundg g'
      case measure => exact Nat.lt_succ_self _
      case rel => exact ⟨_, _, HQ.out.1, HQ.out.2.1, by have := HP.out.2.2; have := HQ.out.2.2; omega⟩
theorem keys_nil (w : World) : Calls Try.prog 21 #[.map none] w fun r w' => r = .returned (.slice none 0 0) ∧ w' = w := by
  have hE := eqN
  go_enter Try.func21, Try.ntmps21
  go_wp2
  go_ret
  exact ⟨rfl, rfl⟩
theorem values_nil (w : World) : Calls Try.prog 25 #[.map none] w fun r w' => r = .returned (.slice none 0 0) ∧ w' = w := by
  have hE := eqN
  go_enter Try.func25, Try.ntmps25
  go_wp2
  go_ret
  exact ⟨rfl, rfl⟩
theorem slicer_nil (w : World) : Calls Try.prog 27 #[.map none] w fun r w' => r = .returned (.slice none 0 0) ∧ w' = w := by
  have hE := eqN
  go_enter Try.func27, Try.ntmps27
  go_wp2
  go_ret
  exact ⟨rfl, rfl⟩
end Go.Proofs.Ytokdamfalhcnnaa.Mt
