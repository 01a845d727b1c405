/- Written by gen_sym.py: the walks of tw's NewSymbols, one for each style. -/
import Derived.Test.YtpceflnbomegiaaProg
import Derived.WalkKit
import Derived.OwnWalk
import Derived.Test.YtpceflnbomegiaaSyD
namespace Go.Proofs.Ytpceflnbomegiaa.Sy
open Go.RowKit
set_option maxRecDepth 100000 in
set_option maxHeartbeats 3000000 in
theorem new8 (w : World) : Calls Try.prog 9 #[.int .i64 8] w fun e w' => e = .returned (.iface 36 (.pointer (some ⟨w.heap.size, 0, none⟩))) ∧ w' = w.alloc (.cells #[.string (⟨#[108, 105, 103, 104, 116, 100, 111, 117, 98, 108, 101]⟩ : ByteArray), .string (⟨#[226, 148, 128]⟩ : ByteArray), .string (⟨#[226, 149, 145]⟩ : ByteArray), .string (⟨#[226, 149, 171]⟩ : ByteArray), .string (⟨#[226, 149, 147]⟩ : ByteArray), .string (⟨#[226, 149, 165]⟩ : ByteArray), .string (⟨#[226, 149, 150]⟩ : ByteArray), .string (⟨#[226, 149, 159]⟩ : ByteArray), .string (⟨#[226, 149, 171]⟩ : ByteArray), .string (⟨#[226, 149, 162]⟩ : ByteArray), .string (⟨#[226, 149, 153]⟩ : ByteArray), .string (⟨#[226, 149, 168]⟩ : ByteArray), .string (⟨#[226, 149, 156]⟩ : ByteArray), .string (⟨#[226, 149, 159]⟩ : ByteArray), .string (⟨#[226, 149, 171]⟩ : ByteArray), .string (⟨#[226, 149, 162]⟩ : ByteArray)] 40) := by
  go_enter Try.func9, Try.ntmps9
  go_wp2_with fail
  go_ret
  exact ⟨rfl, rfl⟩
set_option maxRecDepth 100000 in
set_option maxHeartbeats 3000000 in
theorem new17 (w : World) : Calls Try.prog 9 #[.int .i64 17] w fun e w' => e = .returned (.iface 36 (.pointer (some ⟨w.heap.size, 0, none⟩))) ∧ w' = w.alloc (.cells #[.string (⟨#[115, 116, 97, 114, 114, 121]⟩ : ByteArray), .string (⟨#[226, 152, 133]⟩ : ByteArray), .string (⟨#[226, 152, 134]⟩ : ByteArray), .string (⟨#[226, 156, 182]⟩ : ByteArray), .string (⟨#[226, 156, 167]⟩ : ByteArray), .string (⟨#[226, 156, 175]⟩ : ByteArray), .string (⟨#[226, 156, 167]⟩ : ByteArray), .string (⟨#[226, 156, 166]⟩ : ByteArray), .string (⟨#[226, 156, 182]⟩ : ByteArray), .string (⟨#[226, 156, 166]⟩ : ByteArray), .string (⟨#[226, 156, 167]⟩ : ByteArray), .string (⟨#[226, 156, 175]⟩ : ByteArray), .string (⟨#[226, 156, 167]⟩ : ByteArray), .string (⟨#[226, 156, 166]⟩ : ByteArray), .string (⟨#[226, 156, 182]⟩ : ByteArray), .string (⟨#[226, 156, 166]⟩ : ByteArray)] 40) := by
  go_enter Try.func9, Try.ntmps9
  go_wp2_with fail
  go_ret
  exact ⟨rfl, rfl⟩
set_option maxRecDepth 100000 in
set_option maxHeartbeats 3000000 in
theorem new26 (w : World) : Calls Try.prog 9 #[.int .i64 26] w fun e w' => e = .returned (.iface 36 (.pointer (some ⟨w.heap.size, 0, none⟩))) ∧ w' = w.alloc (.cells #[.string (⟨#[122, 101, 110]⟩ : ByteArray), .string (⟨#[126]⟩ : ByteArray), .string (⟨#[32]⟩ : ByteArray), .string (⟨#[226, 152, 175]⟩ : ByteArray), .string (⟨#[32]⟩ : ByteArray), .string (⟨#[226, 153, 168]⟩ : ByteArray), .string (⟨#[32]⟩ : ByteArray), .string (⟨#[32]⟩ : ByteArray), .string (⟨#[226, 152, 175]⟩ : ByteArray), .string (⟨#[32]⟩ : ByteArray), .string (⟨#[32]⟩ : ByteArray), .string (⟨#[226, 153, 168]⟩ : ByteArray), .string (⟨#[32]⟩ : ByteArray), .string (⟨#[32]⟩ : ByteArray), .string (⟨#[226, 152, 175]⟩ : ByteArray), .string (⟨#[32]⟩ : ByteArray)] 40) := by
  go_enter Try.func9, Try.ntmps9
  go_wp2_with fail
  go_ret
  exact ⟨rfl, rfl⟩
set_option maxRecDepth 100000 in
set_option maxHeartbeats 3000000 in
theorem new35 (w : World) : Calls Try.prog 9 #[.int .i64 35] w fun e w' => e = .returned (.iface 36 (.pointer (some ⟨w.heap.size, 0, none⟩))) ∧ w' = w.alloc (.cells #[.string (⟨#[97, 114, 99, 97, 100, 101]⟩ : ByteArray), .string (⟨#[226, 150, 160, 226, 150, 161]⟩ : ByteArray), .string (⟨#[226, 150, 144]⟩ : ByteArray), .string (⟨#[226, 151, 137]⟩ : ByteArray), .string (⟨#[226, 150, 158, 226, 150, 160]⟩ : ByteArray), .string (⟨#[226, 150, 160, 226, 150, 161]⟩ : ByteArray), .string (⟨#[226, 150, 161, 226, 150, 154]⟩ : ByteArray), .string (⟨#[226, 150, 144, 32]⟩ : ByteArray), .string (⟨#[226, 151, 137, 32]⟩ : ByteArray), .string (⟨#[32, 226, 150, 144]⟩ : ByteArray), .string (⟨#[226, 150, 154, 226, 150, 160]⟩ : ByteArray), .string (⟨#[226, 150, 160, 226, 150, 161]⟩ : ByteArray), .string (⟨#[226, 150, 161, 226, 150, 158]⟩ : ByteArray), .string (⟨#[226, 150, 144, 226, 150, 160]⟩ : ByteArray), .string (⟨#[226, 151, 137, 226, 150, 161]⟩ : ByteArray), .string (⟨#[226, 150, 160, 226, 150, 144]⟩ : ByteArray)] 40) := by
  go_enter Try.func9, Try.ntmps9
  go_wp2_with fail
  go_ret
  exact ⟨rfl, rfl⟩
set_option maxRecDepth 100000 in
set_option maxHeartbeats 3000000 in
theorem new44 (w : World) : Calls Try.prog 9 #[.int .i64 44] w fun e w' => e = .returned (.iface 36 (.pointer (some ⟨w.heap.size, 0, none⟩))) ∧ w' = w.alloc (.cells #[.string (⟨#[104, 121, 112, 110, 111]⟩ : ByteArray), .string (⟨#[226, 151, 156, 226, 151, 157]⟩ : ByteArray), .string (⟨#[234, 169, 156]⟩ : ByteArray), .string (⟨#[226, 131, 176]⟩ : ByteArray), .string (⟨#[226, 151, 159, 226, 151, 156]⟩ : ByteArray), .string (⟨#[226, 151, 156, 226, 151, 157]⟩ : ByteArray), .string (⟨#[226, 151, 157, 226, 151, 158]⟩ : ByteArray), .string (⟨#[234, 169, 156, 32]⟩ : ByteArray), .string (⟨#[226, 131, 176, 32]⟩ : ByteArray), .string (⟨#[32, 234, 169, 156]⟩ : ByteArray), .string (⟨#[226, 151, 159, 226, 151, 156]⟩ : ByteArray), .string (⟨#[226, 151, 156, 226, 151, 157]⟩ : ByteArray), .string (⟨#[226, 151, 157, 226, 151, 158]⟩ : ByteArray), .string (⟨#[234, 169, 156, 226, 151, 156]⟩ : ByteArray), .string (⟨#[226, 131, 176, 226, 151, 157]⟩ : ByteArray), .string (⟨#[226, 151, 156, 234, 169, 156]⟩ : ByteArray)] 40) := by
  go_enter Try.func9, Try.ntmps9
  go_wp2_with fail
  go_ret
  exact ⟨rfl, rfl⟩
end Go.Proofs.Ytpceflnbomegiaa.Sy
