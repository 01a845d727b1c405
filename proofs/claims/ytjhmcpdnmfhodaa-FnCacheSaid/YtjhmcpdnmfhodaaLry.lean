/- The walk of the cache's GetOrCompute over CacheRun's function. -/
import Derived.Test.YtjhmcpdnmfhodaaLrx
import Derived.Shelf.Abstract
import Derived.Deep.DeepMust
namespace Go.Proofs.Ytjhmcpdnmfhodaa.Lry
open Go Go.Maps Go.ChangeMaps Go.MapKept Go.RowKit Go.Proofs.YtjhmcpdnmfhodaaW.PrintWords Ll Lra Lrc Lrw Lrx Mp

set_option linter.all false in
set_option maxRecDepth 1000000 in
set_option maxHeartbeats 4000000 in
theorem lit {w : World} {o x : Nat} {oc xc : Array Value} {v : Int} (ho : w.heap[o]? = some (.cells oc 33 (0, 0))) (hx : w.heap[x]? = some (.cells xc 36 (0, 0))) (h4 : 4 < oc.size) (h2 : xc[2]? = some (.int .i64 v)) :
    Calls Try.prog 17 (#[] ++ #[.pointer (some ⟨o, 0, none⟩), .pointer (some ⟨x, 0, none⟩)]) w fun r w' => r = .returned (.int .i64 v) ∧ w' = w.setCell ⟨o, 4, none⟩ (.bool true) := by
  have hox : o ≠ x := fun e => by subst e; rw [ho] at hx; cases hx
  have hox' := hox.symm
  have o4 : w.cell? ⟨o, 4, none⟩ = some (oc[4]) := by rw [Lib.cell_of_heap ho]; simp [h4]
  have of : ∀ j, w.frozen? ⟨o, j, none⟩ = false := fun j => by rw [Lib.frozen_of_heap ho]
  have x2 : w.cell? ⟨x, 2, none⟩ = some (.int .i64 v) := by rw [Lib.cell_of_heap hx]; simpa using h2
  obtain ⟨z4, hz4⟩ : ∃ z4, oc[4] = z4 := ⟨_, rfl⟩
  rw [hz4] at o4
  clear hz4 ho hx h4 h2
  go_enter Try.func17, Try.ntmps17
  go_wp2_with (fail)
  go_ret
  exact ⟨rfl, rfl⟩
set_option linter.all false in
set_option maxRecDepth 1000000 in
set_option maxHeartbeats 4000000 in
theorem getOr {B : Nat} {w : World} {L M : Nat} {sz hh mm k v : Int} {es : List En} {o x : Nat} {oc xc : Array Value} (h : Ca B w L M .nilFunc sz hh mm es) (hB : B ≤ w.heap.size) (hk : In64 k) (hsz : 0 < sz) (hf : es.length ≤ 1000000)
    (ho : w.heap[o]? = some (.cells oc 33 (0, 0))) (hx : w.heap[x]? = some (.cells xc 36 (0, 0))) (h4 : 4 < oc.size) (h2 : xc[2]? = some (.int .i64 v)) (hBo : B ≤ o) :
    Calls Try.prog 16 #[ptr L, .int .i64 k, .func (.func 17) #[] #[.pointer (some ⟨o, 0, none⟩), .pointer (some ⟨x, 0, none⟩)]] w fun r w' =>
      (∃ xs e ys, es = xs ++ e :: ys ∧ e.k = k ∧ r = .returned (.int .i64 e.v) ∧ Ca B w' L M .nilFunc sz (wrap64 (hh + 1)) mm (e :: (xs ++ ys)) ∧ Fr B w w') ∨
      ((∀ a ∈ es, a.k ≠ k) ∧ r = .returned (.int .i64 v) ∧ Fx o B w w' ∧ w'.heap[o]? = some (.cells (oc.setIfInBounds 4 (.bool true)) 33 (0, 0)) ∧
        (((es.length : Int) < sz ∧ ∃ b, Ca B w' L M .nilFunc sz hh (wrap64 (mm + 1)) (⟨b, k, v⟩ :: es)) ∨ (sz ≤ (es.length : Int) ∧ ∃ xs e b, es = xs ++ [e] ∧ Ca B w' L M .nilFunc sz hh (wrap64 (mm + 1)) (⟨b, k, v⟩ :: xs)))) := by
  obtain ⟨c0, c1, c5, c6, lf, _⟩ := cells h
  have hlk := h.mp.look_ok (Maps.int_keyed Try.underlying3) Try.underlying61 (zero62 w) (kEy hk)
  have hd0 : decide (sz ≤ 0) = false := decide_eq_false (by omega)
  have HH := Aside0.mk h
  rcases look_cases es k with ⟨hn, hno⟩ | ⟨xs, e, ys, rfl, rfl, hn⟩
  · rw [hn] at hlk
    have hlk' : (Instr.lookup 61 (.map (some M)) (.int .i64 k) true).run Try.prog w = .ok (.tuple #[.pointer none, .bool false]) w := hlk
    have hM := h.misses (wrap64 (mm + 1))
    have hLo : o ≠ L := fun e => h.not_plain L (by simp) _ (by rw [← e]; exact ho) (plain33 oc)
    have hLx : x ≠ L := fun e => h.not_plain L (by simp) _ (by rw [← e]; exact hx) (plain36 xc)
    have ho1 := (set_other w (j := 6) (.int .i64 (wrap64 (mm + 1))) hLo).trans ho
    have hx1 := (set_other w (j := 6) (.int .i64 (wrap64 (mm + 1))) hLx).trans hx
    have cF := lit ho1 hx1 h4 h2
    have h3 := hM.1.far (j := 4) (.bool true) ho1 (plain33 oc)
    have ho3 := set_same (j := 4) (.bool true) ho1
    obtain ⟨W, hW⟩ : ∃ W, (w.setCell ⟨L, 6, none⟩ (.int .i64 (wrap64 (mm + 1)))).setCell ⟨o, 4, none⟩ (.bool true) = W := ⟨_, rfl⟩
    have fx : Fx o B w W := by rw [← hW]; exact ((Fr.of_chg h hM.2).fx).trans (Fx.put _ 4 _ hBo)
    rw [hW] at cF h3 ho3
    have hlk2 := h3.mp.look_ok (Maps.int_keyed Try.underlying3) Try.underlying61 (zero62 W) (kEy hk)
    rw [hn] at hlk2
    have hlk2' : (Instr.lookup 61 (.map (some M)) (.int .i64 k) true).run Try.prog W = .ok (.tuple #[.pointer none, .bool false]) W := hlk2
    obtain ⟨b0, b1, _, _, bf, _⟩ := cells h3
    have hlen := fun ty => h3.drew.mp.len Try.underlying61 ty
    have e17 : ∀ args w, (callFunc 17 args).run Try.prog w = .ok (.enter 17 args) w := enters_of Try.func17 (by kernel_rfl) rfl
    have NO := Aside0.mk hno
    have HF := Aside0.mk hf
    have FX := Aside0.mk (And.intro fx ho3)
    have hBW : B ≤ W.heap.size := Nat.le_trans hB fx.size
    by_cases hge : sz ≤ (es.length : Int)
    · obtain ⟨xs, e, rfl⟩ : ∃ xs e, es = xs ++ [e] := by rcases snocs es with rfl | ⟨m, q, rfl⟩; (simp at hge; omega); exact ⟨m, q, rfl⟩
      have hg1 : decide ((((xs ++ [e]).length : Nat) : Int) ≥ sz) = true := decide_eq_true hge
      obtain ⟨n, hnn⟩ : ∃ n, (xs ++ [e]).length = n := ⟨_, rfl⟩
      rw [hnn] at hlen hg1 hge
      have HG := Aside0.mk (And.intro hnn hge)
      have cO := removeOldest h3.drew
      clear h h3 hlk hlk2 hn hno hf hge hnn hM ho hx ho1 hx1 ho3 fx hW
      unfold ptr at cO ⊢
      go_enter Try.func16, Try.ntmps16
      go_wp2_with (first | (go_at_fn 17; go_must (refine cF.mono ?_; rintro r w1 ⟨rfl, hw1⟩; rw [hw1]; clear hw1 w1)))
      go_region
      go_wp2_with (first | (go_at_call 29; refine cO.mono ?_; rintro r w1 ⟨rfl, h1, h2⟩
                            have cI := ins (k := k) (v := v) h1 (Nat.le_trans hBW h2.size) hk (fun a ha => NO.out a (List.mem_append.2 (.inl ha))) (by have := HF.out; simp at this; omega)
                            have K := Aside0.mk (And.intro h1 h2); clear h1 h2)
                         | (go_at_call 30; refine cI.mono ?_; rintro r w2 ⟨rfl, m1, w3, hrun, h3, h4⟩
                            have K2 := Aside0.mk (And.intro h3 h4); clear h3 h4))
      go_ret
      have f2 := (K.out.2.of_drew).trans K2.out.2
      exact .inr ⟨NO.out, rfl, FX.out.1.trans f2.fx, f2.plain o _ FX.out.2 (plain33 _), .inr ⟨by rw [HG.out.1]; exact HG.out.2, xs, e, _, rfl, K2.out.1⟩⟩
    · have hg1 : decide (((es.length : Nat) : Int) ≥ sz) = false := decide_eq_false hge
      have cI := ins (k := k) (v := v) h3.drew hBW hk hno hf
      simp only [show W.drew.heap.size = W.heap.size from rfl] at cI
      obtain ⟨n, hnn⟩ : ∃ n, es.length = n := ⟨_, rfl⟩
      rw [hnn] at hlen hg1 hge
      have HG := Aside0.mk (And.intro hnn hge)
      clear h h3 hlk hlk2 hn hno hf hge hnn hM ho hx ho1 hx1 ho3 fx hW
      unfold ptr
      go_enter Try.func16, Try.ntmps16
      go_wp2_with (first | (go_at_fn 17; go_must (refine cF.mono ?_; rintro r w1 ⟨rfl, hw1⟩; rw [hw1]; clear hw1 w1)))
      go_region
      go_wp2_with (first | (go_at_call 30; refine cI.mono ?_; rintro r w2 ⟨rfl, m1, w3, hrun, h3, h4⟩
                            have K2 := Aside0.mk (And.intro h3 h4); clear h3 h4))
      go_ret
      have f2 := K2.out.2.of_drew
      exact .inr ⟨NO.out, rfl, FX.out.1.trans f2.fx, f2.plain o _ FX.out.2 (plain33 _), .inl ⟨by rw [HG.out.1]; have := HG.out.2; omega, _, K2.out.1⟩⟩
  · rw [hn] at hlk
    have hlk' : (Instr.lookup 61 (.map (some M)) (.int .i64 e.k) true).run Try.prog w = .ok (.tuple #[.pointer (some ⟨e.b, 0, none⟩), .bool true]) w := hlk
    have cM := moveToFront h.ls
    obtain ⟨FA, hFA⟩ : ∃ FA : Prop, FA = True := ⟨_, rfl⟩
    clear hFA FA h4 h2 hlk hn
    unfold ptr at cM ⊢
    have HO := Aside0.mk (And.intro ho hx)
    clear ho hx h
    go_enter Try.func16, Try.ntmps16
    go_wp2_with (first | (go_at_call 28; refine cM.mono ?_; rintro r w1 ⟨rfl, h1, h2⟩
                          have hC := HH.out.moved h1 h2
                          obtain ⟨_, _, b5, _, bf, _⟩ := cells hC
                          have F := hC.hits (wrap64 (hh + 1))
                          have ev1 : w1.cell? ⟨e.b, 1, none⟩ = some (.int .i64 e.v) := by rw [Lib.cell_of_heap h1.seg.1]; rfl
                          have hne : e.b ≠ L := (parts (xs := []) h1.nd).2.1
                          have hne' := hne.symm
                          have K := Aside0.mk (And.intro h2 (And.intro hC F)); clear h1 h2 hC F))
    go_ret
    exact .inl ⟨xs, e, ys, rfl, rfl, rfl, K.out.2.2.1, (Fr.of_chg HH.out K.out.1).trans (Fr.of_chg K.out.2.1 K.out.2.2.2)⟩
end Go.Proofs.Ytjhmcpdnmfhodaa.Lry
