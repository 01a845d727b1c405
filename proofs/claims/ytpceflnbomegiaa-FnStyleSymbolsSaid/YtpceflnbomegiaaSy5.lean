/- Written by gen_sym.py: the walks of tw's NewSymbols, one for each style. -/
import Derived.Test.YtpceflnbomegiaaProg
import Derived.WalkKit
import Derived.OwnWalk
import Derived.Test.YtpceflnbomegiaaSyD
namespace Go.Proofs.Ytpceflnbomegiaa.Sy
open Go.RowKit
set_option maxRecDepth 100000 in
set_option maxHeartbeats 3000000 in
theorem new5 (w : World) : Calls Try.prog 9 #[.int .i64 5] w fun e w' => e = .returned (.iface 36 (.pointer (some ⟨w.heap.size, 0, none⟩))) ∧ w' = w.alloc (.cells #[.string (⟨#[100, 111, 117, 98, 108, 101, 108, 111, 110, 103]⟩ : ByteArray), .string (⟨#[226, 149, 144, 226, 149, 161, 226, 149, 144]⟩ : ByteArray), .string (⟨#[226, 149, 158]⟩ : ByteArray), .string (⟨#[226, 149, 170]⟩ : ByteArray), .string (⟨#[226, 149, 148, 226, 149, 144, 226, 149, 161]⟩ : ByteArray), .string (⟨#[226, 149, 144, 226, 149, 164, 226, 149, 144]⟩ : ByteArray), .string (⟨#[226, 149, 161, 226, 149, 144, 226, 149, 151]⟩ : ByteArray), .string (⟨#[226, 149, 159, 32]⟩ : ByteArray), .string (⟨#[226, 149, 170, 32]⟩ : ByteArray), .string (⟨#[32, 226, 149, 162]⟩ : ByteArray), .string (⟨#[226, 149, 154, 226, 149, 144, 226, 149, 161]⟩ : ByteArray), .string (⟨#[226, 149, 144, 226, 149, 167, 226, 149, 144]⟩ : ByteArray), .string (⟨#[226, 149, 161, 226, 149, 144, 226, 149, 157]⟩ : ByteArray), .string (⟨#[226, 149, 159, 226, 149, 144, 226, 149, 161]⟩ : ByteArray), .string (⟨#[226, 149, 170, 226, 149, 144, 226, 149, 161]⟩ : ByteArray), .string (⟨#[226, 149, 161, 226, 149, 144, 226, 149, 162]⟩ : ByteArray)] 40) := by
  go_enter Try.func9, Try.ntmps9
  go_wp2_with fail
  go_ret
  exact ⟨rfl, rfl⟩
set_option maxRecDepth 100000 in
set_option maxHeartbeats 3000000 in
theorem new14 (w : World) : Calls Try.prog 9 #[.int .i64 14] w fun e w' => e = .returned (.iface 36 (.pointer (some ⟨w.heap.size, 0, none⟩))) ∧ w' = w.alloc (.cells #[.string (⟨#[108, 105, 103, 104, 116]⟩ : ByteArray), .string (⟨#[226, 148, 128]⟩ : ByteArray), .string (⟨#[226, 148, 130]⟩ : ByteArray), .string (⟨#[226, 148, 188]⟩ : ByteArray), .string (⟨#[226, 148, 140]⟩ : ByteArray), .string (⟨#[226, 148, 172]⟩ : ByteArray), .string (⟨#[226, 148, 144]⟩ : ByteArray), .string (⟨#[226, 148, 156]⟩ : ByteArray), .string (⟨#[226, 148, 188]⟩ : ByteArray), .string (⟨#[226, 148, 164]⟩ : ByteArray), .string (⟨#[226, 148, 148]⟩ : ByteArray), .string (⟨#[226, 148, 180]⟩ : ByteArray), .string (⟨#[226, 148, 152]⟩ : ByteArray), .string (⟨#[226, 148, 156]⟩ : ByteArray), .string (⟨#[226, 148, 188]⟩ : ByteArray), .string (⟨#[226, 148, 164]⟩ : ByteArray)] 40) := by
  go_enter Try.func9, Try.ntmps9
  go_wp2_with fail
  go_ret
  exact ⟨rfl, rfl⟩
set_option maxRecDepth 100000 in
set_option maxHeartbeats 3000000 in
theorem new23 (w : World) : Calls Try.prog 9 #[.int .i64 23] w fun e w' => e = .returned (.iface 36 (.pointer (some ⟨w.heap.size, 0, none⟩))) ∧ w' = w.alloc (.cells #[.string (⟨#[99, 104, 97, 111, 115]⟩ : ByteArray), .string (⟨#[226, 137, 136]⟩ : ByteArray), .string (⟨#[194, 167]⟩ : ByteArray), .string (⟨#[226, 152, 175]⟩ : ByteArray), .string (⟨#[226, 140, 152]⟩ : ByteArray), .string (⟨#[226, 136, 158]⟩ : ByteArray), .string (⟨#[226, 140, 165]⟩ : ByteArray), .string (⟨#[226, 154, 161]⟩ : ByteArray), .string (⟨#[226, 152, 175]⟩ : ByteArray), .string (⟨#[226, 153, 158]⟩ : ByteArray), .string (⟨#[226, 140, 130]⟩ : ByteArray), .string (⟨#[226, 136, 134]⟩ : ByteArray), .string (⟨#[226, 151, 138]⟩ : ByteArray), .string (⟨#[226, 154, 161]⟩ : ByteArray), .string (⟨#[226, 152, 175]⟩ : ByteArray), .string (⟨#[226, 153, 158]⟩ : ByteArray)] 40) := by
  go_enter Try.func9, Try.ntmps9
  go_wp2_with fail
  go_ret
  exact ⟨rfl, rfl⟩
set_option maxRecDepth 100000 in
set_option maxHeartbeats 3000000 in
theorem new32 (w : World) : Calls Try.prog 9 #[.int .i64 32] w fun e w' => e = .returned (.iface 36 (.pointer (some ⟨w.heap.size, 0, none⟩))) ∧ w' = w.alloc (.cells #[.string (⟨#[114, 117, 110, 105, 99]⟩ : ByteArray), .string (⟨#[225, 155, 150, 225, 155, 150, 225, 155, 150]⟩ : ByteArray), .string (⟨#[225, 155, 159]⟩ : ByteArray), .string (⟨#[225, 155, 158]⟩ : ByteArray), .string (⟨#[225, 155, 143, 225, 155, 150, 225, 155, 150]⟩ : ByteArray), .string (⟨#[225, 155, 150, 225, 155, 150, 225, 155, 150]⟩ : ByteArray), .string (⟨#[225, 155, 150, 225, 155, 150, 225, 155, 143]⟩ : ByteArray), .string (⟨#[225, 155, 159, 32]⟩ : ByteArray), .string (⟨#[225, 155, 158, 32]⟩ : ByteArray), .string (⟨#[32, 225, 155, 159]⟩ : ByteArray), .string (⟨#[225, 155, 151, 225, 155, 150, 225, 155, 150]⟩ : ByteArray), .string (⟨#[225, 155, 150, 225, 155, 150, 225, 155, 150]⟩ : ByteArray), .string (⟨#[225, 155, 150, 225, 155, 150, 225, 155, 151]⟩ : ByteArray), .string (⟨#[225, 155, 159, 225, 155, 150, 225, 155, 150]⟩ : ByteArray), .string (⟨#[225, 155, 158, 225, 155, 150, 225, 155, 150]⟩ : ByteArray), .string (⟨#[225, 155, 150, 225, 155, 150, 225, 155, 159]⟩ : ByteArray)] 40) := by
  go_enter Try.func9, Try.ntmps9
  go_wp2_with fail
  go_ret
  exact ⟨rfl, rfl⟩
set_option maxRecDepth 100000 in
set_option maxHeartbeats 3000000 in
theorem new41 (w : World) : Calls Try.prog 9 #[.int .i64 41] w fun e w' => e = .returned (.iface 36 (.pointer (some ⟨w.heap.size, 0, none⟩))) ∧ w' = w.alloc (.cells #[.string (⟨#[103, 97, 108, 97, 120, 121]⟩ : ByteArray), .string (⟨#[226, 137, 139, 226, 137, 139]⟩ : ByteArray), .string (⟨#[226, 153, 134]⟩ : ByteArray), .string (⟨#[226, 152, 132, 239, 184, 143]⟩ : ByteArray), .string (⟨#[226, 140, 135, 226, 137, 139]⟩ : ByteArray), .string (⟨#[226, 137, 139, 226, 137, 139]⟩ : ByteArray), .string (⟨#[226, 137, 139, 226, 140, 135]⟩ : ByteArray), .string (⟨#[226, 153, 134, 32]⟩ : ByteArray), .string (⟨#[226, 152, 132, 239, 184, 143, 32]⟩ : ByteArray), .string (⟨#[32, 226, 153, 134]⟩ : ByteArray), .string (⟨#[226, 140, 135, 226, 137, 139]⟩ : ByteArray), .string (⟨#[226, 137, 139, 226, 137, 139]⟩ : ByteArray), .string (⟨#[226, 137, 139, 226, 140, 135]⟩ : ByteArray), .string (⟨#[226, 153, 134, 226, 137, 139]⟩ : ByteArray), .string (⟨#[226, 152, 132, 239, 184, 143, 226, 137, 139]⟩ : ByteArray), .string (⟨#[226, 137, 139, 226, 153, 134]⟩ : ByteArray)] 40) := by
  go_enter Try.func9, Try.ntmps9
  go_wp2_with fail
  go_ret
  exact ⟨rfl, rfl⟩
end Go.Proofs.Ytpceflnbomegiaa.Sy
