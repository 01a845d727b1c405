/- The walks of the cache's other methods, and of its making. -/
import Derived.Test.YtjhmcpdnmfhodaaLry
import Derived.Laws.Cover2
import Derived.Laws.FloatArith
namespace Go.Proofs.Ytjhmcpdnmfhodaa.Lrz
open Go Go.Maps Go.ChangeMaps Go.MapKept Go.RowKit Go.Proofs.YtjhmcpdnmfhodaaW.PrintWords Ll Lra Lrc Lrw Lrx Mp

set_option linter.all false in
set_option maxRecDepth 1000000 in
set_option maxHeartbeats 4000000 in
theorem remove {B : Nat} {w : World} {L M : Nat} {sz hh mm k : Int} {es : List En} {ev : Value} (h : Ca B w L M ev sz hh mm es) (hk : In64 k) (hsz : 0 < sz) :
    Calls Try.prog 18 #[ptr L, .int .i64 k] w fun r w' =>
      ((∀ a ∈ es, a.k ≠ k) ∧ r = .returned (.bool false) ∧ w' = w) ∨
      (∃ xs e ys, es = xs ++ e :: ys ∧ e.k = k ∧ r = .returned (.bool true) ∧ Ca B w' L M ev sz hh mm (xs ++ ys) ∧ Fr B w w') := by
  obtain ⟨c0, c1, c5, c6, lf, _⟩ := cells h
  have hlk := h.mp.look_ok (Maps.int_keyed Try.underlying3) Try.underlying61 (zero62 w) (kEy hk)
  have hd0 : decide (sz ≤ 0) = false := decide_eq_false (by omega)
  have HH := Aside0.mk h
  rcases look_cases es k with ⟨hn, hno⟩ | ⟨xs, e, ys, rfl, rfl, hn⟩
  · rw [hn] at hlk
    have hlk' : (Instr.lookup 61 (.map (some M)) (.int .i64 k) true).run Try.prog w = .ok (.tuple #[.pointer none, .bool false]) w := hlk
    have NO := Aside0.mk hno
    clear h hlk hn hno
    unfold ptr
    go_enter Try.func18, Try.ntmps18
    go_wp2_with (fail)
    go_ret
    exact .inl ⟨NO.out, rfl, rfl⟩
  · rw [hn] at hlk
    have hlk' : (Instr.lookup 61 (.map (some M)) (.int .i64 e.k) true).run Try.prog w = .ok (.tuple #[.pointer (some ⟨e.b, 0, none⟩), .bool true]) w := hlk
    have cR := removeNode h.ls
    clear h hlk hn
    unfold ptr at cR ⊢
    go_enter Try.func18, Try.ntmps18
    go_wp2_with (first | (go_at_call 31; refine cR.mono ?_; rintro r w1 ⟨rfl, h1, h2, h3⟩
                          have m1 : w1.cell? ⟨L, 1, none⟩ = some (.map (some M)) := by rw [Lib.cell_of_heap h1.own]; rfl
                          have hD := (HH.out.map_kept h3).drop (Maps.int_keyed Try.underlying3) Try.underlying61 (kEy hk) 0
                          obtain ⟨w2, hrun, hM2, hT2⟩ := hD
                          have K := Aside0.mk (HH.out.cut h1 h3 hM2 hT2)
                          clear h1 h2 h3 hM2 hT2))
    go_ret
    exact .inr ⟨xs, e, ys, rfl, rfl, rfl, K.out.1, K.out.2⟩
set_option linter.all false in
set_option maxRecDepth 1000000 in
set_option maxHeartbeats 4000000 in
theorem oldest {B : Nat} {w : World} {L M : Nat} {sz hh mm : Int} {es : List En} (h : Ca B w L M .nilFunc sz hh mm es) (hsz : 0 < sz) :
    Calls Try.prog 19 #[ptr L] w fun r w' =>
      (es = [] ∧ r = .returned (.tuple #[.int .i64 0, .int .i64 0, .bool false]) ∧ w' = w) ∨
      (∃ xs e, es = xs ++ [e] ∧ r = .returned (.tuple #[.int .i64 e.k, .int .i64 e.v, .bool true]) ∧ Ca B w' L M .nilFunc sz hh mm xs ∧ Fr B w w') := by
  obtain ⟨c0, c1, c5, c6, lf, _⟩ := cells h
  have hd0 : decide (sz ≤ 0) = false := decide_eq_false (by omega)
  rcases snocs es with rfl | ⟨xs, e, rfl⟩
  · have l3 : w.cell? ⟨L, 3, none⟩ = some (.pointer none) := by rw [Lib.cell_of_heap h.ls.own]; rfl
    clear h
    unfold ptr
    go_enter Try.func19, Try.ntmps19
    go_wp2_with (fail)
    go_ret3
    exact .inl ⟨trivial, rfl, rfl⟩
  · have l3 : w.cell? ⟨L, 3, none⟩ = some (.pointer (some ⟨e.b, 0, none⟩)) := by rw [Lib.cell_of_heap h.ls.own, lst_snoc]; rfl
    have heh := h.ls.se
    have e0 : w.cell? ⟨e.b, 0, none⟩ = some (.int .i64 e.k) := by rw [Lib.cell_of_heap heh]; rfl
    have e1 : w.cell? ⟨e.b, 1, none⟩ = some (.int .i64 e.v) := by rw [Lib.cell_of_heap heh]; rfl
    have cO := removeOldest h
    clear h heh
    unfold ptr at cO ⊢
    go_enter Try.func19, Try.ntmps19
    go_wp2_with (first | (go_at_call 29; refine cO.mono ?_; rintro r w1 ⟨rfl, h1, h2⟩
                          have K := Aside0.mk (And.intro h1 h2); clear h1 h2))
    go_ret3
    exact .inr ⟨xs, e, rfl, rfl, K.out.1, K.out.2⟩
set_option linter.all false in
set_option maxRecDepth 1000000 in
set_option maxHeartbeats 4000000 in
theorem len {B : Nat} {w : World} {L M : Nat} {sz hh mm : Int} {es : List En} {ev : Value} (h : Ca B w L M ev sz hh mm es) (hsz : 0 < sz) :
    Calls Try.prog 21 #[ptr L] w fun r w' => r = .returned (.int .i64 es.length) ∧ w' = w := by
  obtain ⟨c0, c1, c5, c6, lf, _⟩ := cells h
  have hd0 : decide (sz ≤ 0) = false := decide_eq_false (by omega)
  have hlen := fun ty => h.mp.len Try.underlying61 ty
  clear h
  unfold ptr
  go_enter Try.func21, Try.ntmps21
  go_wp2_with (fail)
  go_ret
  exact ⟨rfl, rfl⟩
set_option linter.all false in
set_option maxRecDepth 1000000 in
set_option maxHeartbeats 4000000 in
theorem cap {B : Nat} {w : World} {L M : Nat} {sz hh mm : Int} {es : List En} {ev : Value} (h : Ca B w L M ev sz hh mm es) :
    Calls Try.prog 22 #[ptr L] w fun r w' => r = .returned (.int .i64 sz) ∧ w' = w := by
  obtain ⟨c0, c1, c5, c6, lf, _⟩ := cells h
  clear h
  unfold ptr
  go_enter Try.func22, Try.ntmps22
  go_wp2_with (fail)
  go_ret
  exact ⟨rfl, rfl⟩
theorem look_nil : Lrc.look [] = fun _ => none := by funext x; unfold Lrc.look; split <;> rfl
theorem makeM (n : Int) (w : World) : (Instr.makeMap 61 (some (.int .i64 n))).run Try.prog w = .ok (.map (some w.heap.size)) (w.alloc (.map #[] 0)) := by simp [Instr.makeMap, run_underlying Try.underlying61, asInt, asIntOf, Result.andThen]
/-- a cache without entries over a new map -/
theorem empty {B : Nat} {W : World} {L M : Nat} {ev : Value} {sz : Int} (hL : W.heap[L]? = some (.cells (lc sz (.map (some M)) ev 0 0 nil nil) 64 (0, 0))) (hM : W.heap[M]? = some (.map #[] 0)) (hBL : B ≤ L) (hBM : B ≤ M) : Ca B W L M ev sz 0 0 [] :=
  ⟨⟨hL, trivial, by simp [blocks]⟩, by rw [look_nil]; exact made_of hM, by simp, by simp, hBL, hBM, by simp [blocks]⟩
set_option linter.all false in
set_option maxRecDepth 1000000 in
set_option maxHeartbeats 4000000 in
theorem purge {B : Nat} {w : World} {L M : Nat} {sz hh mm : Int} {es : List En} (h : Ca B w L M .nilFunc sz hh mm es) (hsz : 0 < sz) (hsz2 : sz ≤ 100000) (hB : B ≤ w.heap.size) :
    Calls Try.prog 20 #[ptr L] w fun r w' => r = .returned (.tuple #[]) ∧ ∃ M', Ca B w' L M' .nilFunc sz 0 0 [] ∧ Fr B w w' := by
  obtain ⟨c0, c1, c5, c6, lf, c4⟩ := cells h
  have hd0 : decide (sz ≤ 0) = false := decide_eq_false (by omega)
  have hN := neqN w
  have hm := makeM sz w
  have HH := Aside0.mk h
  have hLlt : L < w.heap.size := (Array.getElem?_eq_some_iff.1 h.ls.own).1
  have hLM : L ≠ w.heap.size := by omega
  have hLM' := hLM.symm
  have hown := (Below.heap_alloc w (.map #[] 0) L hLlt).trans h.ls.own
  obtain ⟨W, hW⟩ : ∃ W, w.alloc (.map #[] 0) = W := ⟨_, rfl⟩
  have hMW : W.heap[w.heap.size]? = some (.map #[] 0) := by rw [← hW]; exact heap_alloc_new w _
  have hf : Fr B w W := by rw [← hW]; exact (Fr.refl B w).alloc _ hB
  rw [hW] at hown hm
  have a1 : ∀ j, W.frozen? ⟨L, j, none⟩ = false := fun j => by rw [Lib.frozen_of_heap hown]
  have b0 : W.cell? ⟨L, 0, none⟩ = some (.int .i64 sz) := by rw [Lib.cell_of_heap hown]; rfl
  have b1 : W.cell? ⟨L, 1, none⟩ = some (.map (some M)) := by rw [Lib.cell_of_heap hown]; rfl
  have b2 : W.cell? ⟨L, 2, none⟩ = some (hd es nil) := by rw [Lib.cell_of_heap hown]; rfl
  have b3 : W.cell? ⟨L, 3, none⟩ = some (lst nil es) := by rw [Lib.cell_of_heap hown]; rfl
  have b5 : W.cell? ⟨L, 5, none⟩ = some (.int .i64 hh) := by rw [Lib.cell_of_heap hown]; rfl
  have b6 : W.cell? ⟨L, 6, none⟩ = some (.int .i64 mm) := by rw [Lib.cell_of_heap hown]; rfl
  have c1' := set_same (j := 1) (.map (some w.heap.size)) hown
  have c2' := set_same (j := 2) (.pointer none) c1'
  have c3' := set_same (j := 3) (.pointer none) c2'
  have c5' := set_same (j := 5) (.int .i64 0) c3'
  have c6' := set_same (j := 6) (.int .i64 0) c5'
  have FIN : Aside0 (Ca B (((((W.setCell ⟨L, 1, none⟩ (.map (some w.heap.size))).setCell ⟨L, 2, none⟩ (.pointer none)).setCell ⟨L, 3, none⟩ (.pointer none)).setCell ⟨L, 5, none⟩ (.int .i64 0)).setCell ⟨L, 6, none⟩ (.int .i64 0)) L w.heap.size .nilFunc sz 0 0 [] ∧
      Fr B w (((((W.setCell ⟨L, 1, none⟩ (.map (some w.heap.size))).setCell ⟨L, 2, none⟩ (.pointer none)).setCell ⟨L, 3, none⟩ (.pointer none)).setCell ⟨L, 5, none⟩ (.int .i64 0)).setCell ⟨L, 6, none⟩ (.int .i64 0))) := by
    refine ⟨empty (c6'.trans rfl) ?_ h.bL hB, ?_⟩
    · exact (set_other _ _ hLM').trans ((set_other _ _ hLM').trans ((set_other _ _ hLM').trans ((set_other _ _ hLM').trans ((set_other _ _ hLM').trans hMW))))
    · have hbL := h.bL
      have hnp : ∀ (k : Nat) (o : Obj), w.heap[k]? = some o → Plain o → k ≠ L := fun k o hk hp e => h.not_plain L (by simp) o (by rw [← e]; exact hk) hp
      refine ⟨hf.os, hf.tape, hf.output, ?_, fun k hk => ?_, fun k o hk hp => ?_⟩
      · simpa [World.setCell] using hf.size
      · have hkL : k ≠ L := by omega
        exact (set_other _ _ hkL).trans ((set_other _ _ hkL).trans ((set_other _ _ hkL).trans ((set_other _ _ hkL).trans ((set_other _ _ hkL).trans (hf.old k hk)))))
      · have hkL := hnp k o hk hp
        exact (set_other _ _ hkL).trans ((set_other _ _ hkL).trans ((set_other _ _ hkL).trans ((set_other _ _ hkL).trans ((set_other _ _ hkL).trans (hf.plain k o hk hp)))))
  clear h hown hMW hf c1' c2' c3' c5' c6' hW
  unfold ptr
  go_enter Try.func20, Try.ntmps20
  go_wp2_with (fail)
  go_end0
  exact ⟨rfl, _, FIN.out.1, FIN.out.2⟩
theorem quo (w : World) (x y : Nat) : ∃ b W, (binOp .quo 30 (.float .f64 x) (.float .f64 y)).run Try.prog w = .ok (.float .f64 b) W ∧ (W = w ∨ W = w.drew) := by
  cases h : FloatKind.f64.format.div x y with
  | some r => exact ⟨r, w, run_float_arith w .quo 30 .f64 x y r h, .inl rfl⟩
  | none =>
    by_cases hq : (Question.nanBits .f64 x y).forced = true
    · exact ⟨0, w, by simp [binOp, Op.floatArith, h, run_choose_drew, hq], .inl rfl⟩
    · exact ⟨_, w.drew, by simp [binOp, Op.floatArith, h, run_choose_drew, hq]; rfl, .inr rfl⟩
set_option linter.all false in
set_option maxRecDepth 1000000 in
set_option maxHeartbeats 4000000 in
theorem hitRate {B : Nat} {w : World} {L M : Nat} {sz hh mm : Int} {es : List En} {ev : Value} (h : Ca B w L M ev sz hh mm es) :
    Calls Try.prog 23 #[ptr L] w fun r w' => (∃ b, r = .returned (.float .f64 b)) ∧ (w' = w ∨ w' = w.drew) := by
  obtain ⟨c0, c1, c5, c6, lf, c4⟩ := cells h
  clear h
  unfold ptr
  by_cases h0 : wrap64 (hh + mm) = 0
  · have h1 : (wrap64 (hh + mm) == 0) = true := by rw [h0]; rfl
    go_enter Try.func23, Try.ntmps23
    go_wp2_with (fail)
    go_ret
    exact ⟨⟨_, rfl⟩, .inl rfl⟩
  · have h1 : (wrap64 (hh + mm) == 0) = false := by rw [beq_eq_false_iff_ne]; exact h0
    clear h0
    obtain ⟨b, W, hrun, hW⟩ := quo w (floatOfInt .f64 hh) (floatOfInt .f64 (wrap64 (hh + mm)))
    have HW := Aside0.mk hW
    clear hW
    go_enter Try.func23, Try.ntmps23
    go_wp2_with (fail)
    go_ret
    exact ⟨⟨_, rfl⟩, HW.out⟩
end Go.Proofs.Ytjhmcpdnmfhodaa.Lrz
