/- The calls that read, make, write a map. -/
import Derived.Test.YtokdamfalhcnnaaMr
import Derived.Test.YtokdamfalhcnnaaSmall
namespace Go.Proofs.Ytokdamfalhcnnaa.Ms
open Go Go.Maps Go.ChangeMaps Go.MapKept Go.RowKit Go.Proofs.YtokdamfalhcnnaaW.PrintWords Go.Proofs.YtokdamfalhcnnaaW.PrintLast Go.Proofs.YtokdamfalhcnnaaW.PrintMore Mp Mq Mr

set_option linter.all false
set_option maxRecDepth 1000000
set_option maxHeartbeats 4000000
variable {b : Nat} {w : World} {ps : List Pr}
theorem eqS (b : Nat) (w : World) : (binOp .eql 47 (.map (some b)) (.map none)).run Try.prog w = .ok (.bool false) w := by kernel_rfl
theorem eqN (w : World) : (binOp .eql 47 (.map none) (.map none)).run Try.prog w = .ok (.bool true) w := by kernel_rfl
theorem neS (b : Nat) (w : World) : (binOp .neq 47 (.map (some b)) (.map none)).run Try.prog w = .ok (.bool true) w := by kernel_rfl
theorem neN (w : World) : (binOp .neq 47 (.map none) (.map none)).run Try.prog w = .ok (.bool false) w := by kernel_rfl
theorem makeM (w : World) : (Instr.makeMap 47 none).run Try.prog w = .ok (.map (some w.heap.size)) (w.alloc (.map #[] 0)) := by simp [Instr.makeMap]
theorem makeMn (n : Int) (w : World) : (Instr.makeMap 47 (some (.int .i64 n))).run Try.prog w = .ok (.map (some w.heap.size)) (w.alloc (.map #[] 0)) := by simp [Instr.makeMap, run_underlying u47, asInt, asIntOf, Result.andThen]
theorem newMapper (w : World) : Calls Try.prog 15 #[] w fun r w' => r = .returned (.map (some w.heap.size)) ∧ w' = w.alloc (.map #[] 0) := by
  have hm := makeM w
  go_enter Try.func15, Try.ntmps15
  go_wp2
  go_ret
  exact ⟨rfl, rfl⟩
theorem len_ (h : Mq b w ps) : Calls Try.prog 19 #[.map (some b)] w fun r w' => r = .returned (.int .i64 ps.length) ∧ w' = w := by
  have hL := h.len
  clear h
  have hE := eqS b
  go_enter Try.func19, Try.ntmps19
  go_wp2
  go_ret
  exact ⟨rfl, rfl⟩
theorem len_nil (w : World) : Calls Try.prog 19 #[.map none] w fun r w' => r = .returned (.int .i64 0) ∧ w' = w := by
  have hE := eqN
  go_enter Try.func19, Try.ntmps19
  go_wp2
  go_ret
  exact ⟨rfl, rfl⟩
theorem get_ (h : Mq b w ps) (k : Int) (hk : In64 k) : Calls Try.prog 23 #[.map (some b), .int .i64 k] w fun r w' => r = .returned (.int .i64 (at_ ps k)) ∧ w' = w := by
  have hL := h.get k hk
  clear h
  have hE := eqS b
  go_enter Try.func23, Try.ntmps23
  go_wp2
  go_ret
  exact ⟨rfl, rfl⟩
theorem get_nil (w : World) (k : Int) : Calls Try.prog 23 #[.map none, .int .i64 k] w fun r w' => r = .returned (.int .i64 0) ∧ w' = w := by
  have hE := eqN
  go_enter Try.func23, Try.ntmps23
  go_wp2
  go_ret
  exact ⟨rfl, rfl⟩
theorem has_m (h : Mq b w ps) (k : Int) (hk : In64 k) : Calls Try.prog 24 #[.map (some b), .int .i64 k] w fun r w' => r = .returned (.bool (has_ ps k)) ∧ w' = w := by
  have hL := h.get_ok k hk
  clear h
  have hE := eqS b
  go_enter Try.func24, Try.ntmps24
  go_wp2
  go_ret
  exact ⟨rfl, rfl⟩
theorem has_nil (w : World) (k : Int) : Calls Try.prog 24 #[.map none, .int .i64 k] w fun r w' => r = .returned (.bool false) ∧ w' = w := by
  have hE := eqN
  go_enter Try.func24, Try.ntmps24
  go_wp2
  go_ret
  exact ⟨rfl, rfl⟩
theorem ok_m (h : Mq b w ps) (k : Int) (hk : In64 k) : Calls Try.prog 26 #[.map (some b), .int .i64 k] w fun r w' => r = .returned (.tuple #[.int .i64 (at_ ps k), .bool (has_ ps k)]) ∧ w' = w := by
  have hL := h.get_ok k hk
  clear h
  have hE := eqS b
  go_enter Try.func26, Try.ntmps26
  go_wp2
  go_ret2
  exact ⟨rfl, rfl⟩
theorem ok_nil (w : World) (k : Int) : Calls Try.prog 26 #[.map none, .int .i64 k] w fun r w' => r = .returned (.tuple #[.int .i64 0, .bool false]) ∧ w' = w := by
  have hE := eqN
  go_enter Try.func26, Try.ntmps26
  go_wp2
  go_ret2
  exact ⟨rfl, rfl⟩
theorem set_m (h : Mq b w ps) (hl : ps.length ≤ 100000) (k v : Int) (hk : In64 k) (hv : In64 v) : Calls Try.prog 31 #[.map (some b), .int .i64 k, .int .i64 v] w fun r w' => r = .returned (.map (some b)) ∧ Mq b w' (put ps (k, v)) ∧ w.grownBy w' (some b) ∧ w'.heap.size = w.heap.size := by
  obtain ⟨w1, hr, h1, h2, h3⟩ := h.set (by unfold maxLen; omega) k v hk hv
  have H := Aside0.mk (And.intro h1 (And.intro h2 h3))
  clear h h1 h2 h3
  have hE := neS b
  go_enter Try.func31, Try.ntmps31
  go_wp2
  go_ret
  exact ⟨rfl, H.out⟩
theorem set_nil (w : World) (k v : Int) : Calls Try.prog 31 #[.map none, .int .i64 k, .int .i64 v] w fun r w' => r = .returned (.map none) ∧ w' = w := by
  have hE := neN
  go_enter Try.func31, Try.ntmps31
  go_wp2
  go_ret
  exact ⟨rfl, rfl⟩
theorem delete_m (h : Mq b w ps) (k : Int) (hk : In64 k) : Calls Try.prog 32 #[.map (some b), .int .i64 k] w fun r w' => r = .returned (.map (some b)) ∧ Mq b w' (del ps k) ∧ w.grownBy w' (some b) ∧ w'.heap.size = w.heap.size := by
  obtain ⟨w1, hr, h1, h2, h3⟩ := h.drop k hk 0
  have H := Aside0.mk (And.intro h1 (And.intro h2 h3))
  clear h h1 h2 h3
  have hE := neS b
  go_enter Try.func32, Try.ntmps32
  go_wp2
  go_ret
  exact ⟨rfl, H.out⟩
theorem delete_nil (w : World) (k : Int) : Calls Try.prog 32 #[.map none, .int .i64 k] w fun r w' => r = .returned (.map none) ∧ w' = w := by
  have hE := neN
  go_enter Try.func32, Try.ntmps32
  go_wp2
  go_ret
  exact ⟨rfl, rfl⟩
end Go.Proofs.Ytokdamfalhcnnaa.Ms
