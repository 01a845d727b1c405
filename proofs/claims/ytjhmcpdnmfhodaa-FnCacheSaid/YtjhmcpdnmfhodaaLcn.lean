/- The walks of NewLRU and NewLRUEvict without a callback. -/
import Derived.Test.YtjhmcpdnmfhodaaLrz
namespace Go.Proofs.Ytjhmcpdnmfhodaa.Lcn
open Go Go.Maps Go.ChangeMaps Go.MapKept Go.RowKit Go.Proofs.YtjhmcpdnmfhodaaW.PrintWords Ll Lra Lrc Lrw Lrx Lrz Mp

set_option linter.all false in
set_option maxRecDepth 1000000 in
set_option maxHeartbeats 4000000 in
theorem newEvict (w : World) (n : Int) (h0 : 0 < n) (h1 : n ≤ 100000) :
    Calls Try.prog 12 #[.int .i64 n, .nilFunc] w fun r w' => r = .returned (ptr (w.heap.size + 1)) ∧ w' = (w.alloc (.map #[] 0)).alloc (.cells (lc n (.map (some w.heap.size)) .nilFunc 0 0 nil nil) 64) := by
  have d0 : decide (n ≤ 0) = false := decide_eq_false (by omega)
  have d1 : decide (n > 100000) = false := decide_eq_false (by omega)
  have d1' : decide (100000 < n) = false := d1
  have hm := makeM n w
  go_enter Try.func12, Try.ntmps12
  go_wp2_with (fail)
  go_ret
  exact ⟨rfl, rfl⟩
set_option linter.all false in
set_option maxRecDepth 1000000 in
set_option maxHeartbeats 4000000 in
theorem new (w : World) (n : Int) (h0 : 0 < n) (h1 : n ≤ 100000) :
    Calls Try.prog 11 #[.int .i64 n] w fun r w' => r = .returned (ptr (w.heap.size + 1)) ∧ w' = (w.alloc (.map #[] 0)).alloc (.cells (lc n (.map (some w.heap.size)) .nilFunc 0 0 nil nil) 64) := by
  have c := newEvict w n h0 h1
  go_enter Try.func11, Try.ntmps11
  go_wp2_with (first | (go_at_call 12; refine c.mono ?_; rintro r w1 ⟨rfl, hw⟩; rw [hw]; clear hw w1))
  go_ret
  exact ⟨rfl, rfl⟩
theorem made {B : Nat} (w : World) (n : Int) (hB : B ≤ w.heap.size) : Ca B ((w.alloc (.map #[] 0)).alloc (.cells (lc n (.map (some w.heap.size)) .nilFunc 0 0 nil nil) 64)) (w.heap.size + 1) w.heap.size .nilFunc n 0 0 [] := by
  refine empty ?_ ?_ (by omega) hB
  · have := heap_alloc_new (w.alloc (.map #[] 0)) (.cells (lc n (.map (some w.heap.size)) .nilFunc 0 0 nil nil) 64)
    simpa using this
  · refine (Below.heap_alloc _ _ _ (by simp)).trans (heap_alloc_new w _)
end Go.Proofs.Ytjhmcpdnmfhodaa.Lcn
