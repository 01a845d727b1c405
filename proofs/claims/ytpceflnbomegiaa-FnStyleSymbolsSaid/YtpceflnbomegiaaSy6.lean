/- Written by gen_sym.py: the walks of tw's NewSymbols, one for each style. -/
import Derived.Test.YtpceflnbomegiaaProg
import Derived.WalkKit
import Derived.OwnWalk
import Derived.Test.YtpceflnbomegiaaSyD
namespace Go.Proofs.Ytpceflnbomegiaa.Sy
open Go.RowKit
set_option maxRecDepth 100000 in
set_option maxHeartbeats 3000000 in
theorem new6 (w : World) : Calls Try.prog 9 #[.int .i64 6] w fun e w' => e = .returned (.iface 36 (.pointer (some ⟨w.heap.size, 0, none⟩))) ∧ w' = w.alloc (.cells #[.string (⟨#[108, 105, 103, 104, 116, 104, 101, 97, 118, 121]⟩ : ByteArray), .string (⟨#[226, 148, 128]⟩ : ByteArray), .string (⟨#[226, 148, 131]⟩ : ByteArray), .string (⟨#[226, 149, 130]⟩ : ByteArray), .string (⟨#[226, 148, 141]⟩ : ByteArray), .string (⟨#[226, 148, 175]⟩ : ByteArray), .string (⟨#[226, 148, 145]⟩ : ByteArray), .string (⟨#[226, 148, 157]⟩ : ByteArray), .string (⟨#[226, 149, 130]⟩ : ByteArray), .string (⟨#[226, 148, 165]⟩ : ByteArray), .string (⟨#[226, 148, 149]⟩ : ByteArray), .string (⟨#[226, 148, 183]⟩ : ByteArray), .string (⟨#[226, 148, 153]⟩ : ByteArray), .string (⟨#[226, 148, 157]⟩ : ByteArray), .string (⟨#[226, 149, 130]⟩ : ByteArray), .string (⟨#[226, 148, 165]⟩ : ByteArray)] 40) := by
  go_enter Try.func9, Try.ntmps9
  go_wp2_with fail
  go_ret
  exact ⟨rfl, rfl⟩
set_option maxRecDepth 100000 in
set_option maxHeartbeats 3000000 in
theorem new15 (w : World) : Calls Try.prog 9 #[.int .i64 15] w fun e w' => e = .returned (.iface 36 (.pointer (some ⟨w.heap.size, 0, none⟩))) ∧ w' = w.alloc (.cells #[.string (⟨#[100, 111, 116, 116, 101, 100]⟩ : ByteArray), .string (⟨#[194, 183]⟩ : ByteArray), .string (⟨#[58]⟩ : ByteArray), .string (⟨#[43]⟩ : ByteArray), .string (⟨#[46]⟩ : ByteArray), .string (⟨#[194, 183]⟩ : ByteArray), .string (⟨#[46]⟩ : ByteArray), .string (⟨#[58]⟩ : ByteArray), .string (⟨#[43]⟩ : ByteArray), .string (⟨#[58]⟩ : ByteArray), .string (⟨#[39]⟩ : ByteArray), .string (⟨#[194, 183]⟩ : ByteArray), .string (⟨#[39]⟩ : ByteArray), .string (⟨#[58]⟩ : ByteArray), .string (⟨#[43]⟩ : ByteArray), .string (⟨#[58]⟩ : ByteArray)] 40) := by
  go_enter Try.func9, Try.ntmps9
  go_wp2_with fail
  go_ret
  exact ⟨rfl, rfl⟩
set_option maxRecDepth 100000 in
set_option maxHeartbeats 3000000 in
theorem new24 (w : World) : Calls Try.prog 9 #[.int .i64 24] w fun e w' => e = .returned (.iface 36 (.pointer (some ⟨w.heap.size, 0, none⟩))) ∧ w' = w.alloc (.cells #[.string (⟨#[100, 111, 116, 115]⟩ : ByteArray), .string (⟨#[194, 183]⟩ : ByteArray), .string (⟨#[32]⟩ : ByteArray), .string (⟨#[194, 183]⟩ : ByteArray), .string (⟨#[194, 183]⟩ : ByteArray), .string (⟨#[194, 183]⟩ : ByteArray), .string (⟨#[194, 183]⟩ : ByteArray), .string (⟨#[32]⟩ : ByteArray), .string (⟨#[194, 183]⟩ : ByteArray), .string (⟨#[32]⟩ : ByteArray), .string (⟨#[194, 183]⟩ : ByteArray), .string (⟨#[194, 183]⟩ : ByteArray), .string (⟨#[194, 183]⟩ : ByteArray), .string (⟨#[32]⟩ : ByteArray), .string (⟨#[194, 183]⟩ : ByteArray), .string (⟨#[32]⟩ : ByteArray)] 40) := by
  go_enter Try.func9, Try.ntmps9
  go_wp2_with fail
  go_ret
  exact ⟨rfl, rfl⟩
set_option maxRecDepth 100000 in
set_option maxHeartbeats 3000000 in
theorem new33 (w : World) : Calls Try.prog 9 #[.int .i64 33] w fun e w' => e = .returned (.iface 36 (.pointer (some ⟨w.heap.size, 0, none⟩))) ∧ w' = w.alloc (.cells #[.string (⟨#[105, 110, 100, 117, 115, 116, 114, 105, 97, 108]⟩ : ByteArray), .string (⟨#[226, 148, 129, 226, 149, 139, 226, 148, 129]⟩ : ByteArray), .string (⟨#[226, 148, 131]⟩ : ByteArray), .string (⟨#[226, 149, 139]⟩ : ByteArray), .string (⟨#[226, 148, 143, 226, 149, 139, 226, 148, 129]⟩ : ByteArray), .string (⟨#[226, 149, 139, 226, 148, 129, 226, 149, 139]⟩ : ByteArray), .string (⟨#[226, 148, 129, 226, 149, 139, 226, 148, 147]⟩ : ByteArray), .string (⟨#[226, 148, 131, 32]⟩ : ByteArray), .string (⟨#[226, 149, 139, 32]⟩ : ByteArray), .string (⟨#[32, 226, 148, 131]⟩ : ByteArray), .string (⟨#[226, 148, 151, 226, 149, 139, 226, 148, 129]⟩ : ByteArray), .string (⟨#[226, 149, 139, 226, 148, 129, 226, 149, 139]⟩ : ByteArray), .string (⟨#[226, 148, 129, 226, 149, 139, 226, 148, 155]⟩ : ByteArray), .string (⟨#[226, 148, 163, 226, 149, 139, 226, 148, 129]⟩ : ByteArray), .string (⟨#[226, 149, 139, 226, 148, 129, 226, 149, 139]⟩ : ByteArray), .string (⟨#[226, 148, 129, 226, 149, 139, 226, 148, 171]⟩ : ByteArray)] 40) := by
  go_enter Try.func9, Try.ntmps9
  go_wp2_with fail
  go_ret
  exact ⟨rfl, rfl⟩
set_option maxRecDepth 100000 in
set_option maxHeartbeats 3000000 in
theorem new42 (w : World) : Calls Try.prog 9 #[.int .i64 42] w fun e w' => e = .returned (.iface 36 (.pointer (some ⟨w.heap.size, 0, none⟩))) ∧ w' = w.alloc (.cells #[.string (⟨#[106, 97, 122, 122]⟩ : ByteArray), .string (⟨#[226, 153, 172, 226, 153, 172]⟩ : ByteArray), .string (⟨#[226, 150, 183]⟩ : ByteArray), .string (⟨#[226, 152, 133]⟩ : ByteArray), .string (⟨#[226, 153, 148, 226, 153, 172]⟩ : ByteArray), .string (⟨#[226, 153, 172, 226, 153, 172]⟩ : ByteArray), .string (⟨#[226, 153, 172, 226, 153, 148]⟩ : ByteArray), .string (⟨#[226, 150, 183, 32]⟩ : ByteArray), .string (⟨#[226, 152, 133, 32]⟩ : ByteArray), .string (⟨#[32, 226, 151, 129]⟩ : ByteArray), .string (⟨#[226, 153, 149, 226, 153, 172]⟩ : ByteArray), .string (⟨#[226, 153, 172, 226, 153, 172]⟩ : ByteArray), .string (⟨#[226, 153, 172, 226, 153, 149]⟩ : ByteArray), .string (⟨#[226, 150, 183, 226, 153, 172]⟩ : ByteArray), .string (⟨#[226, 152, 133, 226, 153, 172]⟩ : ByteArray), .string (⟨#[226, 153, 172, 226, 151, 129]⟩ : ByteArray)] 40) := by
  go_enter Try.func9, Try.ntmps9
  go_wp2_with fail
  go_ret
  exact ⟨rfl, rfl⟩
end Go.Proofs.Ytpceflnbomegiaa.Sy
