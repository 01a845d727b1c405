/- TwBoxes of a name that it does not know: nil. -/
import Derived.Test.YtpceflnbomegiaaGSyBodyx
import Derived.Lib.OthersKept
import Derived.WalkKit
namespace Go.Proofs.Ytpceflnbomegiaa.Sb
open Go.RowKit
set_option maxRecDepth 100000 in
set_option maxHeartbeats 1000000 in
theorem nil (s : ByteArray) (e1 : (s.toList == [97, 115, 99, 105, 105]) = false) (e2 : (s.toList == [108, 105, 103, 104, 116]) = false) (e3 : (s.toList == [104, 101, 97, 118, 121]) = false) (e4 : (s.toList == [100, 111, 117, 98, 108, 101]) = false) (e5 : (s.toList == [114, 111, 117, 110, 100, 101, 100]) = false) (e6 : (s.toList == [110, 111, 116, 104, 105, 110, 103]) = false) (w : World) :
    Calls Try.prog 6 #[.string s] w fun e w' => e = .returned (.slice none 0 0) ∧ Below w.heap.size w w' := by
  have hnx : ∀ ty, (Instr.next (.pointer (some ⟨w.heap.size, 0, none⟩)) true ty).run Try.prog (w.iter ⟨#[]⟩ 0) = _ := fun ty => Lib.run_next_end_at (w.iter ⟨#[]⟩ 0) w.heap.size ⟨#[]⟩ 0 ty (World.iter_heap w _ _) (by decide)
  go_enter Try.func6, Try.ntmps6
  go_wp2_with fail
  refine wp_loop_once ?_
  go_wp2_with fail
  go_ret
  exact ⟨rfl, (Below.refl _ w).alloc (Nat.le_refl _) _⟩
end Go.Proofs.Ytpceflnbomegiaa.Sb
