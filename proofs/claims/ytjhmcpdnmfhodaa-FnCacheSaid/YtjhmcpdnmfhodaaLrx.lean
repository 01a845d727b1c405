/- The walks of the cache's methods. -/
import Derived.Test.YtjhmcpdnmfhodaaLrc
import Derived.Test.YtjhmcpdnmfhodaaLrw
import Derived.Test.YtjhmcpdnmfhodaaSmall
namespace Go.Proofs.Ytjhmcpdnmfhodaa.Lrx
open Go Go.Maps Go.ChangeMaps Go.MapKept Go.RowKit Go.Proofs.YtjhmcpdnmfhodaaW.PrintWords Ll Lra Lrc Lrw Mp

theorem kEy {k : Int} (h : In64 k) : keyOf Try.prog 3 (.int .i64 k) = some (.int .i64 k) := Maps.keyOf_int_mk Try.underlying3 (WalkArith.wf_i64 (n := k) (by unfold In64 at h; omega))
theorem neqN (w : World) : (binOp .neq 60 .nilFunc .nilFunc).run Try.prog w = .ok (.bool false) w := by kernel_rfl
set_option linter.all false in
set_option maxRecDepth 1000000 in
set_option maxHeartbeats 4000000 in
theorem removeOldest {B : Nat} {w : World} {L M : Nat} {sz hh mm : Int} {xs : List En} {e : En} (h : Ca B w L M .nilFunc sz hh mm (xs ++ [e])) :
    Calls Try.prog 29 #[ptr L] w fun r w' => r = .returned (.tuple #[]) ∧ Ca B w' L M .nilFunc sz hh mm xs ∧ Fr B w w' := by
  have HH := Aside0.mk h
  have l3 : w.cell? ⟨L, 3, none⟩ = some (.pointer (some ⟨e.b, 0, none⟩)) := by rw [Lib.cell_of_heap h.ls.own, lst_snoc]; rfl
  have l4 : w.cell? ⟨L, 4, none⟩ = some .nilFunc := by rw [Lib.cell_of_heap h.ls.own]; rfl
  have cR := removeNode h.ls
  have hN := neqN w
  clear h
  unfold ptr at cR ⊢
  go_enter Try.func29, Try.ntmps29
  go_wp2_with (first | (go_at_call 31; refine cR.mono ?_; rintro r w1 ⟨rfl, h1, h2, h3⟩
                        have m1 : w1.drew.cell? ⟨L, 1, none⟩ = some (.map (some M)) := by rw [Lib.cell_of_heap (show w1.drew.heap[L]? = _ from h1.own)]; rfl
                        have m2 : w1.drew.cell? ⟨e.b, 0, none⟩ = some (.int .i64 e.k) := by rw [Lib.cell_of_heap (show w1.drew.heap[e.b]? = _ from h2)]; rfl
                        have hD := ((HH.out.map_kept h3).of_heap (w' := w1.drew) rfl).drop (Maps.int_keyed Try.underlying3) Try.underlying61 (kEy (HH.out.wk e (by simp))) 0
                        obtain ⟨w2, hrun, hM2, hT2⟩ := hD
                        have K := Aside0.mk (And.intro h1 (And.intro h3 (And.intro hM2 hT2)))
                        clear h1 h2 h3 hM2 hT2))
  go_region
  go_wp2_with (fail)
  go_end0
  have hl := K.out.1.drew
  have hc : Chg w w1.drew (L :: blocks (xs ++ [e])) := ⟨K.out.2.1.os, K.out.2.1.tape, K.out.2.1.output, K.out.2.1.size, K.out.2.1.block⟩
  have F := HH.out.cut (ys := []) hl hc K.out.2.2.1 K.out.2.2.2
  rw [List.append_nil] at F
  exact ⟨rfl, F.1, F.2⟩
theorem zero62 (w : World) : (zeroValue 62).run Try.prog w = .ok (.pointer none) w := by kernel_rfl
/-- the cells that a method reads -/
theorem cells {B : Nat} {w : World} {L M : Nat} {ev : Value} {sz hh mm : Int} {es : List En} (h : Ca B w L M ev sz hh mm es) : w.cell? ⟨L, 0, none⟩ = some (.int .i64 sz) ∧ w.cell? ⟨L, 1, none⟩ = some (.map (some M)) ∧ w.cell? ⟨L, 5, none⟩ = some (.int .i64 hh) ∧ w.cell? ⟨L, 6, none⟩ = some (.int .i64 mm) ∧ (∀ j, w.frozen? ⟨L, j, none⟩ = false) ∧ w.cell? ⟨L, 4, none⟩ = some ev := by
  refine ⟨?_, ?_, ?_, ?_, fun j => by rw [Lib.frozen_of_heap h.ls.own], ?_⟩ <;> (rw [Lib.cell_of_heap h.ls.own]; rfl)
set_option linter.all false in
set_option maxRecDepth 1000000 in
set_option maxHeartbeats 4000000 in
theorem get {B : Nat} {w : World} {L M : Nat} {sz hh mm k : Int} {es : List En} {ev : Value} (h : Ca B w L M ev sz hh mm es) (hk : In64 k) (hsz : 0 < sz) :
    Calls Try.prog 15 #[ptr L, .int .i64 k] w fun r w' =>
      ((∀ a ∈ es, a.k ≠ k) ∧ r = .returned (.tuple #[.int .i64 0, .bool false]) ∧ Ca B w' L M ev sz hh (wrap64 (mm + 1)) es ∧ Fr B w w') ∨
      (∃ xs e ys, es = xs ++ e :: ys ∧ e.k = k ∧ r = .returned (.tuple #[.int .i64 e.v, .bool true]) ∧ Ca B w' L M ev sz (wrap64 (hh + 1)) mm (e :: (xs ++ ys)) ∧ Fr B w w') := by
  obtain ⟨c0, c1, c5, c6, lf, _⟩ := cells h
  have hlk := h.mp.look_ok (Maps.int_keyed Try.underlying3) Try.underlying61 (zero62 w) (kEy hk)
  have hd0 : decide (sz ≤ 0) = false := decide_eq_false (by omega)
  have HH := Aside0.mk h
  rcases look_cases es k with ⟨hn, hno⟩ | ⟨xs, e, ys, rfl, rfl, hn⟩
  · rw [hn] at hlk
    have hlk' : (Instr.lookup 61 (.map (some M)) (.int .i64 k) true).run Try.prog w = .ok (.tuple #[.pointer none, .bool false]) w := hlk
    have F := Aside0.mk (h.misses (wrap64 (mm + 1)))
    have NO := Aside0.mk hno
    clear h hlk hn hno
    unfold ptr
    go_enter Try.func15, Try.ntmps15
    go_wp2_with (fail)
    go_ret2
    exact .inl ⟨NO.out, rfl, F.out.1, Fr.of_chg HH.out F.out.2⟩
  · rw [hn] at hlk
    have hlk' : (Instr.lookup 61 (.map (some M)) (.int .i64 e.k) true).run Try.prog w = .ok (.tuple #[.pointer (some ⟨e.b, 0, none⟩), .bool true]) w := hlk
    have F := Aside0.mk (h.hits (wrap64 (hh + 1)))
    have cM := moveToFront F.out.1.ls
    clear h hlk hn
    unfold ptr at cM ⊢
    go_enter Try.func15, Try.ntmps15
    go_wp2_with (first | (go_at_call 28; refine cM.mono ?_; rintro r w1 ⟨rfl, h1, h2⟩
                          have ev1 : w1.cell? ⟨e.b, 1, none⟩ = some (.int .i64 e.v) := by rw [Lib.cell_of_heap h1.seg.1]; rfl
                          have K := Aside0.mk (And.intro h1 h2); clear h1 h2))
    go_ret2
    refine .inr ⟨xs, e, ys, rfl, rfl, rfl, F.out.1.moved K.out.1 K.out.2, (Fr.of_chg HH.out F.out.2).trans (Fr.of_chg F.out.1 K.out.2)⟩
/-- the new entry's calls: addToFront, then the map's store -/
theorem ins {B : Nat} {W : World} {L M : Nat} {sz hh mm k v : Int} {es : List En} {ev : Value} (h : Ca B W L M ev sz hh mm es) (hB : B ≤ W.heap.size) (hk : In64 k) (hno : ∀ a ∈ es, a.k ≠ k) (hf : es.length ≤ 1000000) :
    Calls Try.prog 30 #[.pointer (some ⟨L, 0, none⟩), .pointer (some ⟨W.heap.size, 0, none⟩)] (W.alloc (.cells #[.int .i64 k, .int .i64 v, .pointer none, .pointer none] 67)) fun r w2 =>
      r = .returned (.tuple #[]) ∧ w2.cell? ⟨L, 1, none⟩ = some (.map (some M)) ∧ ∃ w3, (Instr.mapUpdate 61 (.map (some M)) (.int .i64 k) (.pointer (some ⟨W.heap.size, 0, none⟩))).run Try.prog w2 = .ok () w3 ∧ Ca B w3 L M ev sz hh mm (⟨W.heap.size, k, v⟩ :: es) ∧ Fr B W w3 := by
  have hb := h.born (.cells #[.int .i64 k, .int .i64 v, .pointer none, .pointer none] 67)
  refine (addToFront (e := ⟨W.heap.size, k, v⟩) hb.ls h.fresh (heap_alloc_new W _)).mono ?_
  rintro r w2 ⟨rfl, h1, h2⟩
  have hM2 : MapIs Try.prog 3 M es.length (Lrc.look es) w2 := by
    refine hb.mp.of_heap (h2.block M (fun hm => ?_))
    rw [List.mem_cons, blocks_cons, List.mem_cons] at hm
    have hlt := h.mp.lt
    rcases hm with rfl | hm | hm
    · exact h.apart (by simp)
    · simp only at hm; omega
    · exact h.apart (by simp [hm])
  obtain ⟨w3, hrun, hm3, ht3⟩ := hM2.store (Maps.int_keyed Try.underlying3) Try.underlying61 (by unfold maxLen; omega) (.pointer (some ⟨W.heap.size, 0, none⟩)) (kEy hk) trivial
  refine ⟨rfl, by rw [Lib.cell_of_heap h1.own]; rfl, w3, hrun, ?_⟩
  exact h.put_ (e := ⟨W.heap.size, k, v⟩) hB rfl hno hk _ h1 h2 hm3 ht3
set_option linter.all false in
set_option maxRecDepth 1000000 in
set_option maxHeartbeats 4000000 in
theorem add {B : Nat} {w : World} {L M : Nat} {sz hh mm k v : Int} {es : List En} (h : Ca B w L M .nilFunc sz hh mm es) (hB : B ≤ w.heap.size) (hk : In64 k) (hsz : 0 < sz) (hf : es.length ≤ 1000000) :
    Calls Try.prog 14 #[ptr L, .int .i64 k, .int .i64 v] w fun r w' =>
      (∃ xs e ys, es = xs ++ e :: ys ∧ e.k = k ∧ r = .returned (.bool false) ∧ Ca B w' L M .nilFunc sz hh mm (⟨e.b, k, v⟩ :: (xs ++ ys)) ∧ Fr B w w') ∨
      ((∀ a ∈ es, a.k ≠ k) ∧ (es.length : Int) < sz ∧ r = .returned (.bool false) ∧ ∃ b, Ca B w' L M .nilFunc sz hh mm (⟨b, k, v⟩ :: es) ∧ Fr B w w') ∨
      ((∀ a ∈ es, a.k ≠ k) ∧ sz ≤ (es.length : Int) ∧ r = .returned (.bool true) ∧ ∃ xs e b, es = xs ++ [e] ∧ Ca B w' L M .nilFunc sz hh mm (⟨b, k, v⟩ :: xs) ∧ Fr B w w') := by
  obtain ⟨c0, c1, c5, c6, lf, _⟩ := cells h
  have hlk := h.mp.look_ok (Maps.int_keyed Try.underlying3) Try.underlying61 (zero62 w) (kEy hk)
  have hd0 : decide (sz ≤ 0) = false := decide_eq_false (by omega)
  have HH := Aside0.mk h
  rcases look_cases es k with ⟨hn, hno⟩ | ⟨xs, e, ys, rfl, rfl, hn⟩
  · rw [hn] at hlk
    have hlk' : (Instr.lookup 61 (.map (some M)) (.int .i64 k) true).run Try.prog w = .ok (.tuple #[.pointer none, .bool false]) w := hlk
    have hlen := fun ty => h.drew.mp.len Try.underlying61 ty
    have NO := Aside0.mk hno
    have HF := Aside0.mk hf
    by_cases hge : sz ≤ (es.length : Int)
    · obtain ⟨xs, e, rfl⟩ : ∃ xs e, es = xs ++ [e] := by rcases snocs es with rfl | ⟨m, q, rfl⟩; (simp at hge; omega); exact ⟨m, q, rfl⟩
      have hg1 : decide ((((xs ++ [e]).length : Nat) : Int) ≥ sz) = true := decide_eq_true hge
      obtain ⟨n, hnn⟩ : ∃ n, (xs ++ [e]).length = n := ⟨_, rfl⟩
      rw [hnn] at hlen hg1 hge
      have HG := Aside0.mk (And.intro hnn hge)
      have cO := removeOldest h.drew
      clear h hlk hn hno hf hge hnn
      unfold ptr at cO ⊢
      go_enter Try.func14, Try.ntmps14
      go_wp2_with (fail)
      go_region
      go_wp2_with (first | (go_at_call 29; refine cO.mono ?_; rintro r w1 ⟨rfl, h1, h2⟩
                            have cI := ins (k := k) (v := v) h1 (Nat.le_trans hB h2.size) hk (fun a ha => NO.out a (List.mem_append.2 (.inl ha))) (by have := HF.out; simp at this; omega)
                            have K := Aside0.mk (And.intro h1 h2); clear h1 h2)
                         | (go_at_call 30; refine cI.mono ?_; rintro r w2 ⟨rfl, m1, w3, hrun, h3, h4⟩
                            have K2 := Aside0.mk (And.intro h3 h4); clear h3 h4))
      go_ret
      exact .inr (.inr ⟨NO.out, by rw [HG.out.1]; exact HG.out.2, rfl, xs, e, _, rfl, K2.out.1, (K.out.2.of_drew).trans K2.out.2⟩)
    · have hg1 : decide (((es.length : Nat) : Int) ≥ sz) = false := decide_eq_false hge
      have cI := ins (k := k) (v := v) h.drew hB hk hno hf
      simp only [show w.drew.heap.size = w.heap.size from rfl] at cI
      obtain ⟨n, hnn⟩ : ∃ n, es.length = n := ⟨_, rfl⟩
      rw [hnn] at hlen hg1 hge
      have HG := Aside0.mk (And.intro hnn hge)
      clear h hlk hn hno hf hge hnn
      unfold ptr
      go_enter Try.func14, Try.ntmps14
      go_wp2_with (fail)
      go_region
      go_wp2_with (first | (go_at_call 30; refine cI.mono ?_; rintro r w2 ⟨rfl, m1, w3, hrun, h3, h4⟩
                            have K2 := Aside0.mk (And.intro h3 h4); clear h3 h4))
      go_ret
      exact .inr (.inl ⟨NO.out, by rw [HG.out.1]; have := HG.out.2; omega, rfl, _, K2.out.1, K2.out.2.of_drew⟩)
  · rw [hn] at hlk
    have hlk' : (Instr.lookup 61 (.map (some M)) (.int .i64 e.k) true).run Try.prog w = .ok (.tuple #[.pointer (some ⟨e.b, 0, none⟩), .bool true]) w := hlk
    have F := Aside0.mk (h.value v)
    have cM := moveToFront F.out.1.ls
    have heh := h.ls.se
    have ef : ∀ j, w.frozen? ⟨e.b, j, none⟩ = false := fun j => by rw [Lib.frozen_of_heap heh]
    have e1 : w.cell? ⟨e.b, 1, none⟩ = some (.int .i64 e.v) := by rw [Lib.cell_of_heap heh]; rfl
    clear h hlk hn heh
    unfold ptr at cM ⊢
    go_enter Try.func14, Try.ntmps14
    go_wp2_with (first | (go_at_call 28; refine cM.mono ?_; rintro r w1 ⟨rfl, h1, h2⟩
                          have K := Aside0.mk (And.intro h1 h2); clear h1 h2))
    go_ret
    exact .inl ⟨xs, e, ys, rfl, rfl, rfl, F.out.1.moved K.out.1 K.out.2, (Fr.of_chg HH.out F.out.2).trans (Fr.of_chg F.out.1 K.out.2)⟩
end Go.Proofs.Ytjhmcpdnmfhodaa.Lrx
