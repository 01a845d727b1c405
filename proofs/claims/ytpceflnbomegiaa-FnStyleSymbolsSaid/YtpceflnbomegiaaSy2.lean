/- Written by gen_sym.py: the walks of tw's NewSymbols, one for each style. -/
import Derived.Test.YtpceflnbomegiaaProg
import Derived.WalkKit
import Derived.OwnWalk
import Derived.Test.YtpceflnbomegiaaSyD
namespace Go.Proofs.Ytpceflnbomegiaa.Sy
open Go.RowKit
set_option maxRecDepth 100000 in
set_option maxHeartbeats 3000000 in
theorem new2 (w : World) : Calls Try.prog 9 #[.int .i64 2] w fun e w' => e = .returned (.iface 36 (.pointer (some ⟨w.heap.size, 0, none⟩))) ∧ w' = w.alloc (.cells #[.string (⟨#[108, 105, 103, 104, 116]⟩ : ByteArray), .string (⟨#[226, 148, 128]⟩ : ByteArray), .string (⟨#[226, 148, 130]⟩ : ByteArray), .string (⟨#[226, 148, 188]⟩ : ByteArray), .string (⟨#[226, 148, 140]⟩ : ByteArray), .string (⟨#[226, 148, 172]⟩ : ByteArray), .string (⟨#[226, 148, 144]⟩ : ByteArray), .string (⟨#[226, 148, 156]⟩ : ByteArray), .string (⟨#[226, 148, 188]⟩ : ByteArray), .string (⟨#[226, 148, 164]⟩ : ByteArray), .string (⟨#[226, 148, 148]⟩ : ByteArray), .string (⟨#[226, 148, 180]⟩ : ByteArray), .string (⟨#[226, 148, 152]⟩ : ByteArray), .string (⟨#[226, 148, 156]⟩ : ByteArray), .string (⟨#[226, 148, 188]⟩ : ByteArray), .string (⟨#[226, 148, 164]⟩ : ByteArray)] 40) := by
  go_enter Try.func9, Try.ntmps9
  go_wp2_with fail
  go_ret
  exact ⟨rfl, rfl⟩
set_option maxRecDepth 100000 in
set_option maxHeartbeats 3000000 in
theorem new11 (w : World) : Calls Try.prog 9 #[.int .i64 11] w fun e w' => e = .returned (.iface 36 (.pointer (some ⟨w.heap.size, 0, none⟩))) ∧ w' = w.alloc (.cells #[.string (⟨#[109, 97, 114, 107, 100, 111, 119, 110]⟩ : ByteArray), .string (⟨#[45]⟩ : ByteArray), .string (⟨#[124]⟩ : ByteArray), .string (⟨#[124]⟩ : ByteArray), .string (⟨#[]⟩ : ByteArray), .string (⟨#[]⟩ : ByteArray), .string (⟨#[]⟩ : ByteArray), .string (⟨#[124]⟩ : ByteArray), .string (⟨#[124]⟩ : ByteArray), .string (⟨#[124]⟩ : ByteArray), .string (⟨#[]⟩ : ByteArray), .string (⟨#[]⟩ : ByteArray), .string (⟨#[]⟩ : ByteArray), .string (⟨#[124]⟩ : ByteArray), .string (⟨#[124]⟩ : ByteArray), .string (⟨#[124]⟩ : ByteArray)] 40) := by
  go_enter Try.func9, Try.ntmps9
  go_wp2_with fail
  go_ret
  exact ⟨rfl, rfl⟩
set_option maxRecDepth 100000 in
set_option maxHeartbeats 3000000 in
theorem new20 (w : World) : Calls Try.prog 9 #[.int .i64 20] w fun e w' => e = .returned (.iface 36 (.pointer (some ⟨w.heap.size, 0, none⟩))) ∧ w' = w.alloc (.cells #[.string (⟨#[110, 97, 116, 117, 114, 101]⟩ : ByteArray), .string (⟨#[126]⟩ : ByteArray), .string (⟨#[124]⟩ : ByteArray), .string (⟨#[226, 157, 128]⟩ : ByteArray), .string (⟨#[240, 159, 140, 177]⟩ : ByteArray), .string (⟨#[240, 159, 140, 191]⟩ : ByteArray), .string (⟨#[240, 159, 140, 177]⟩ : ByteArray), .string (⟨#[240, 159, 141, 131]⟩ : ByteArray), .string (⟨#[226, 157, 128]⟩ : ByteArray), .string (⟨#[240, 159, 141, 131]⟩ : ByteArray), .string (⟨#[240, 159, 140, 187]⟩ : ByteArray), .string (⟨#[240, 159, 140, 190]⟩ : ByteArray), .string (⟨#[240, 159, 140, 187]⟩ : ByteArray), .string (⟨#[240, 159, 141, 131]⟩ : ByteArray), .string (⟨#[226, 157, 128]⟩ : ByteArray), .string (⟨#[240, 159, 141, 131]⟩ : ByteArray)] 40) := by
  go_enter Try.func9, Try.ntmps9
  go_wp2_with fail
  go_ret
  exact ⟨rfl, rfl⟩
set_option maxRecDepth 100000 in
set_option maxHeartbeats 3000000 in
theorem new29 (w : World) : Calls Try.prog 9 #[.int .i64 29] w fun e w' => e = .returned (.iface 36 (.pointer (some ⟨w.heap.size, 0, none⟩))) ∧ w' = w.alloc (.cells #[.string (⟨#[97, 114, 114, 111, 119, 100, 111, 117, 98, 108, 101]⟩ : ByteArray), .string (⟨#[194, 187, 194, 187]⟩ : ByteArray), .string (⟨#[226, 171, 184]⟩ : ByteArray), .string (⟨#[226, 156, 191]⟩ : ByteArray), .string (⟨#[226, 140, 156, 194, 187]⟩ : ByteArray), .string (⟨#[194, 187, 194, 187]⟩ : ByteArray), .string (⟨#[194, 187, 226, 140, 157]⟩ : ByteArray), .string (⟨#[226, 171, 184, 32]⟩ : ByteArray), .string (⟨#[226, 156, 191, 32]⟩ : ByteArray), .string (⟨#[32, 226, 171, 183]⟩ : ByteArray), .string (⟨#[226, 140, 158, 194, 187]⟩ : ByteArray), .string (⟨#[194, 187, 194, 187]⟩ : ByteArray), .string (⟨#[194, 187, 226, 140, 159]⟩ : ByteArray), .string (⟨#[226, 171, 184, 194, 187]⟩ : ByteArray), .string (⟨#[226, 156, 191, 194, 187]⟩ : ByteArray), .string (⟨#[194, 187, 226, 171, 183]⟩ : ByteArray)] 40) := by
  go_enter Try.func9, Try.ntmps9
  go_wp2_with fail
  go_ret
  exact ⟨rfl, rfl⟩
set_option maxRecDepth 100000 in
set_option maxHeartbeats 3000000 in
theorem new38 (w : World) : Calls Try.prog 9 #[.int .i64 38] w fun e w' => e = .returned (.iface 36 (.pointer (some ⟨w.heap.size, 0, none⟩))) ∧ w' = w.alloc (.cells #[.string (⟨#[109, 111, 115, 97, 105, 99]⟩ : ByteArray), .string (⟨#[226, 150, 176, 226, 150, 177]⟩ : ByteArray), .string (⟨#[226, 167, 137]⟩ : ByteArray), .string (⟨#[226, 172, 150]⟩ : ByteArray), .string (⟨#[226, 167, 160, 226, 150, 176]⟩ : ByteArray), .string (⟨#[226, 150, 176, 226, 150, 177]⟩ : ByteArray), .string (⟨#[226, 150, 177, 226, 167, 160]⟩ : ByteArray), .string (⟨#[226, 167, 137, 32]⟩ : ByteArray), .string (⟨#[226, 172, 150, 32]⟩ : ByteArray), .string (⟨#[32, 226, 167, 137]⟩ : ByteArray), .string (⟨#[226, 167, 133, 226, 150, 176]⟩ : ByteArray), .string (⟨#[226, 150, 176, 226, 150, 177]⟩ : ByteArray), .string (⟨#[226, 150, 177, 226, 167, 133]⟩ : ByteArray), .string (⟨#[226, 167, 137, 226, 150, 176]⟩ : ByteArray), .string (⟨#[226, 172, 150, 226, 150, 177]⟩ : ByteArray), .string (⟨#[226, 150, 176, 226, 167, 137]⟩ : ByteArray)] 40) := by
  go_enter Try.func9, Try.ntmps9
  go_wp2_with fail
  go_ret
  exact ⟨rfl, rfl⟩
end Go.Proofs.Ytpceflnbomegiaa.Sy
