/- The walk of impl's symbols. -/
import Derived.Test.YtpceflnbomegiaaProg
import Derived.WalkKit
import Derived.OwnWalk
import Derived.Lib.Builder
namespace Go.Proofs.Ytpceflnbomegiaa.Sz
open Go.RowKit
theorem lt_of_get {w : World} {k : Nat} {o : Obj} (h : w.heap[k]? = some o) : k < w.heap.size := by
  rcases Nat.lt_or_ge k w.heap.size with h' | h'
  · exact h'
  · simp [Array.getElem?_eq_none h'] at h
theorem alloc_get {w : World} {k : Nat} {o : Obj} (h : w.heap[k]? = some o) (x : Obj) : (w.alloc x).heap[k]? = some o := by
  have := lt_of_get h
  show (w.heap.push x)[k]? = some o
  rw [Array.getElem?_push, if_neg (Nat.ne_of_lt this), h]
theorem mName (w : World) (g : Nat) : (method 157 36 (.pointer (some ⟨g, 0, none⟩)) "Name").run Try.prog w = .ok (36, .pointer (some ⟨g, 0, none⟩)) w := by kernel_rfl
theorem mCenter (w : World) (g : Nat) : (method 157 36 (.pointer (some ⟨g, 0, none⟩)) "Center").run Try.prog w = .ok (29, .pointer (some ⟨g, 0, none⟩)) w := by kernel_rfl
theorem mRow (w : World) (g : Nat) : (method 157 36 (.pointer (some ⟨g, 0, none⟩)) "Row").run Try.prog w = .ok (37, .pointer (some ⟨g, 0, none⟩)) w := by kernel_rfl
theorem mColumn (w : World) (g : Nat) : (method 157 36 (.pointer (some ⟨g, 0, none⟩)) "Column").run Try.prog w = .ok (30, .pointer (some ⟨g, 0, none⟩)) w := by kernel_rfl
theorem mTopLeft (w : World) (g : Nat) : (method 157 36 (.pointer (some ⟨g, 0, none⟩)) "TopLeft").run Try.prog w = .ok (38, .pointer (some ⟨g, 0, none⟩)) w := by kernel_rfl
theorem mTopMid (w : World) (g : Nat) : (method 157 36 (.pointer (some ⟨g, 0, none⟩)) "TopMid").run Try.prog w = .ok (39, .pointer (some ⟨g, 0, none⟩)) w := by kernel_rfl
theorem mTopRight (w : World) (g : Nat) : (method 157 36 (.pointer (some ⟨g, 0, none⟩)) "TopRight").run Try.prog w = .ok (40, .pointer (some ⟨g, 0, none⟩)) w := by kernel_rfl
theorem mMidLeft (w : World) (g : Nat) : (method 157 36 (.pointer (some ⟨g, 0, none⟩)) "MidLeft").run Try.prog w = .ok (34, .pointer (some ⟨g, 0, none⟩)) w := by kernel_rfl
theorem mMidRight (w : World) (g : Nat) : (method 157 36 (.pointer (some ⟨g, 0, none⟩)) "MidRight").run Try.prog w = .ok (35, .pointer (some ⟨g, 0, none⟩)) w := by kernel_rfl
theorem mBottomLeft (w : World) (g : Nat) : (method 157 36 (.pointer (some ⟨g, 0, none⟩)) "BottomLeft").run Try.prog w = .ok (26, .pointer (some ⟨g, 0, none⟩)) w := by kernel_rfl
theorem mBottomMid (w : World) (g : Nat) : (method 157 36 (.pointer (some ⟨g, 0, none⟩)) "BottomMid").run Try.prog w = .ok (27, .pointer (some ⟨g, 0, none⟩)) w := by kernel_rfl
theorem mBottomRight (w : World) (g : Nat) : (method 157 36 (.pointer (some ⟨g, 0, none⟩)) "BottomRight").run Try.prog w = .ok (28, .pointer (some ⟨g, 0, none⟩)) w := by kernel_rfl
theorem mHeaderLeft (w : World) (g : Nat) : (method 157 36 (.pointer (some ⟨g, 0, none⟩)) "HeaderLeft").run Try.prog w = .ok (31, .pointer (some ⟨g, 0, none⟩)) w := by kernel_rfl
theorem mHeaderMid (w : World) (g : Nat) : (method 157 36 (.pointer (some ⟨g, 0, none⟩)) "HeaderMid").run Try.prog w = .ok (32, .pointer (some ⟨g, 0, none⟩)) w := by kernel_rfl
theorem mHeaderRight (w : World) (g : Nat) : (method 157 36 (.pointer (some ⟨g, 0, none⟩)) "HeaderRight").run Try.prog w = .ok (33, .pointer (some ⟨g, 0, none⟩)) w := by kernel_rfl
set_option maxRecDepth 100000 in
set_option maxHeartbeats 1600000 in
theorem symbols (g : Nat) (s0 s1 s2 s3 s4 s5 s6 s7 s8 s9 s10 s11 s12 s13 s14 s15 : ByteArray) (w : World)
    (h : w.heap[g]? = some (.cells #[.string s0, .string s1, .string s2, .string s3, .string s4, .string s5, .string s6, .string s7, .string s8, .string s9, .string s10, .string s11, .string s12, .string s13, .string s14, .string s15] 40 (0, 0))) :
    Calls Try.prog 8 #[.iface 36 (.pointer (some ⟨g, 0, none⟩))] w fun e w' => e = .returned (.agg #[.string s0, .slice (some ⟨w.heap.size + 1, 0, none⟩) 14 14]) ∧
      w' = (w.alloc (.cells #[.string s0, .slice (some ⟨w.heap.size + 1, 0, none⟩) 14 14] 25)).alloc (.cells #[.string s3, .string s1, .string s2, .string s4, .string s5, .string s6, .string s7, .string s9, .string s10, .string s11, .string s12, .string s13, .string s14, .string s15] 9) := by
  have y : ∀ o, ∀ (j : Nat), (w.alloc o).cell? ⟨g, j, none⟩ = (#[.string s0, .string s1, .string s2, .string s3, .string s4, .string s5, .string s6, .string s7, .string s8, .string s9, .string s10, .string s11, .string s12, .string s13, .string s14, .string s15] : Array Value)[j]? := fun o j => by rw [Lib.cell_of_heap (alloc_get h o)]
  have y0 : ∀ o, (w.alloc o).cell? ⟨g, 0, none⟩ = some (.string s0) := fun o => by rw [y]; rfl
  have y1 : ∀ o, (w.alloc o).cell? ⟨g, 1, none⟩ = some (.string s1) := fun o => by rw [y]; rfl
  have y2 : ∀ o, (w.alloc o).cell? ⟨g, 2, none⟩ = some (.string s2) := fun o => by rw [y]; rfl
  have y3 : ∀ o, (w.alloc o).cell? ⟨g, 3, none⟩ = some (.string s3) := fun o => by rw [y]; rfl
  have y4 : ∀ o, (w.alloc o).cell? ⟨g, 4, none⟩ = some (.string s4) := fun o => by rw [y]; rfl
  have y5 : ∀ o, (w.alloc o).cell? ⟨g, 5, none⟩ = some (.string s5) := fun o => by rw [y]; rfl
  have y6 : ∀ o, (w.alloc o).cell? ⟨g, 6, none⟩ = some (.string s6) := fun o => by rw [y]; rfl
  have y7 : ∀ o, (w.alloc o).cell? ⟨g, 7, none⟩ = some (.string s7) := fun o => by rw [y]; rfl
  have y8 : ∀ o, (w.alloc o).cell? ⟨g, 8, none⟩ = some (.string s8) := fun o => by rw [y]; rfl
  have y9 : ∀ o, (w.alloc o).cell? ⟨g, 9, none⟩ = some (.string s9) := fun o => by rw [y]; rfl
  have y10 : ∀ o, (w.alloc o).cell? ⟨g, 10, none⟩ = some (.string s10) := fun o => by rw [y]; rfl
  have y11 : ∀ o, (w.alloc o).cell? ⟨g, 11, none⟩ = some (.string s11) := fun o => by rw [y]; rfl
  have y12 : ∀ o, (w.alloc o).cell? ⟨g, 12, none⟩ = some (.string s12) := fun o => by rw [y]; rfl
  have y13 : ∀ o, (w.alloc o).cell? ⟨g, 13, none⟩ = some (.string s13) := fun o => by rw [y]; rfl
  have y14 : ∀ o, (w.alloc o).cell? ⟨g, 14, none⟩ = some (.string s14) := fun o => by rw [y]; rfl
  have y15 : ∀ o, (w.alloc o).cell? ⟨g, 15, none⟩ = some (.string s15) := fun o => by rw [y]; rfl
  clear y h
  have hName := fun w => mName w g
  have hCenter := fun w => mCenter w g
  have hRow := fun w => mRow w g
  have hColumn := fun w => mColumn w g
  have hTopLeft := fun w => mTopLeft w g
  have hTopMid := fun w => mTopMid w g
  have hTopRight := fun w => mTopRight w g
  have hMidLeft := fun w => mMidLeft w g
  have hMidRight := fun w => mMidRight w g
  have hBottomLeft := fun w => mBottomLeft w g
  have hBottomMid := fun w => mBottomMid w g
  have hBottomRight := fun w => mBottomRight w g
  have hHeaderLeft := fun w => mHeaderLeft w g
  have hHeaderMid := fun w => mHeaderMid w g
  have hHeaderRight := fun w => mHeaderRight w g
  go_enter Try.func8, Try.ntmps8
  go_wp2
  refine bodyPost_ret (v := .agg #[.string s0, .slice (some ⟨w.heap.size + 1, 0, none⟩) 14 14]) ?_ rfl ⟨rfl, rfl⟩
  simp [results, go_sem]
end Go.Proofs.Ytpceflnbomegiaa.Sz
