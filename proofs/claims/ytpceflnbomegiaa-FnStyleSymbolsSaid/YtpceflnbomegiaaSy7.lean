/- Written by gen_sym.py: the walks of tw's NewSymbols, one for each style. -/
import Derived.Test.YtpceflnbomegiaaProg
import Derived.WalkKit
import Derived.OwnWalk
import Derived.Test.YtpceflnbomegiaaSyD
namespace Go.Proofs.Ytpceflnbomegiaa.Sy
open Go.RowKit
set_option maxRecDepth 100000 in
set_option maxHeartbeats 3000000 in
theorem new7 (w : World) : Calls Try.prog 9 #[.int .i64 7] w fun e w' => e = .returned (.iface 36 (.pointer (some ⟨w.heap.size, 0, none⟩))) ∧ w' = w.alloc (.cells #[.string (⟨#[104, 101, 97, 118, 121, 108, 105, 103, 104, 116]⟩ : ByteArray), .string (⟨#[226, 148, 129]⟩ : ByteArray), .string (⟨#[226, 148, 130]⟩ : ByteArray), .string (⟨#[226, 148, 191]⟩ : ByteArray), .string (⟨#[226, 148, 142]⟩ : ByteArray), .string (⟨#[226, 148, 176]⟩ : ByteArray), .string (⟨#[226, 148, 146]⟩ : ByteArray), .string (⟨#[226, 148, 160]⟩ : ByteArray), .string (⟨#[226, 148, 191]⟩ : ByteArray), .string (⟨#[226, 148, 168]⟩ : ByteArray), .string (⟨#[226, 148, 150]⟩ : ByteArray), .string (⟨#[226, 148, 184]⟩ : ByteArray), .string (⟨#[226, 148, 154]⟩ : ByteArray), .string (⟨#[226, 148, 160]⟩ : ByteArray), .string (⟨#[226, 148, 191]⟩ : ByteArray), .string (⟨#[226, 148, 168]⟩ : ByteArray)] 40) := by
  go_enter Try.func9, Try.ntmps9
  go_wp2_with fail
  go_ret
  exact ⟨rfl, rfl⟩
set_option maxRecDepth 100000 in
set_option maxHeartbeats 3000000 in
theorem new16 (w : World) : Calls Try.prog 9 #[.int .i64 16] w fun e w' => e = .returned (.iface 36 (.pointer (some ⟨w.heap.size, 0, none⟩))) ∧ w' = w.alloc (.cells #[.string (⟨#[97, 114, 114, 111, 119]⟩ : ByteArray), .string (⟨#[226, 134, 146]⟩ : ByteArray), .string (⟨#[226, 134, 147]⟩ : ByteArray), .string (⟨#[226, 134, 148]⟩ : ByteArray), .string (⟨#[226, 134, 151]⟩ : ByteArray), .string (⟨#[226, 134, 145]⟩ : ByteArray), .string (⟨#[226, 134, 150]⟩ : ByteArray), .string (⟨#[226, 134, 146]⟩ : ByteArray), .string (⟨#[226, 134, 148]⟩ : ByteArray), .string (⟨#[226, 134, 144]⟩ : ByteArray), .string (⟨#[226, 134, 152]⟩ : ByteArray), .string (⟨#[226, 134, 147]⟩ : ByteArray), .string (⟨#[226, 134, 153]⟩ : ByteArray), .string (⟨#[226, 134, 146]⟩ : ByteArray), .string (⟨#[226, 134, 148]⟩ : ByteArray), .string (⟨#[226, 134, 144]⟩ : ByteArray)] 40) := by
  go_enter Try.func9, Try.ntmps9
  go_wp2_with fail
  go_ret
  exact ⟨rfl, rfl⟩
set_option maxRecDepth 100000 in
set_option maxHeartbeats 3000000 in
theorem new25 (w : World) : Calls Try.prog 9 #[.int .i64 25] w fun e w' => e = .returned (.iface 36 (.pointer (some ⟨w.heap.size, 0, none⟩))) ∧ w' = w.alloc (.cells #[.string (⟨#[98, 108, 111, 99, 107, 115]⟩ : ByteArray), .string (⟨#[226, 150, 128]⟩ : ByteArray), .string (⟨#[226, 150, 136]⟩ : ByteArray), .string (⟨#[226, 150, 136]⟩ : ByteArray), .string (⟨#[226, 150, 155]⟩ : ByteArray), .string (⟨#[226, 150, 128]⟩ : ByteArray), .string (⟨#[226, 150, 156]⟩ : ByteArray), .string (⟨#[226, 150, 140]⟩ : ByteArray), .string (⟨#[226, 150, 136]⟩ : ByteArray), .string (⟨#[226, 150, 144]⟩ : ByteArray), .string (⟨#[226, 150, 153]⟩ : ByteArray), .string (⟨#[226, 150, 132]⟩ : ByteArray), .string (⟨#[226, 150, 159]⟩ : ByteArray), .string (⟨#[226, 150, 140]⟩ : ByteArray), .string (⟨#[226, 150, 136]⟩ : ByteArray), .string (⟨#[226, 150, 144]⟩ : ByteArray)] 40) := by
  go_enter Try.func9, Try.ntmps9
  go_wp2_with fail
  go_ret
  exact ⟨rfl, rfl⟩
set_option maxRecDepth 100000 in
set_option maxHeartbeats 3000000 in
theorem new34 (w : World) : Calls Try.prog 9 #[.int .i64 34] w fun e w' => e = .returned (.iface 36 (.pointer (some ⟨w.heap.size, 0, none⟩))) ∧ w' = w.alloc (.cells #[.string (⟨#[105, 110, 107]⟩ : ByteArray), .string (⟨#[239, 185, 140]⟩ : ByteArray), .string (⟨#[239, 184, 177]⟩ : ByteArray), .string (⟨#[226, 156, 146]⟩ : ByteArray), .string (⟨#[239, 185, 143]⟩ : ByteArray), .string (⟨#[239, 185, 140]⟩ : ByteArray), .string (⟨#[239, 185, 143]⟩ : ByteArray), .string (⟨#[239, 184, 177, 32]⟩ : ByteArray), .string (⟨#[226, 156, 146, 32]⟩ : ByteArray), .string (⟨#[32, 239, 184, 177]⟩ : ByteArray), .string (⟨#[239, 185, 139]⟩ : ByteArray), .string (⟨#[239, 185, 140]⟩ : ByteArray), .string (⟨#[239, 185, 139]⟩ : ByteArray), .string (⟨#[239, 184, 177, 239, 185, 140]⟩ : ByteArray), .string (⟨#[226, 156, 146, 239, 185, 140]⟩ : ByteArray), .string (⟨#[239, 185, 140, 239, 184, 177]⟩ : ByteArray)] 40) := by
  go_enter Try.func9, Try.ntmps9
  go_wp2_with fail
  go_ret
  exact ⟨rfl, rfl⟩
set_option maxRecDepth 100000 in
set_option maxHeartbeats 3000000 in
theorem new43 (w : World) : Calls Try.prog 9 #[.int .i64 43] w fun e w' => e = .returned (.iface 36 (.pointer (some ⟨w.heap.size, 0, none⟩))) ∧ w' = w.alloc (.cells #[.string (⟨#[112, 117, 122, 122, 108, 101]⟩ : ByteArray), .string (⟨#[226, 150, 163, 226, 150, 163]⟩ : ByteArray), .string (⟨#[226, 151, 171]⟩ : ByteArray), .string (⟨#[226, 156, 154]⟩ : ByteArray), .string (⟨#[226, 151, 169, 226, 150, 163]⟩ : ByteArray), .string (⟨#[226, 150, 163, 226, 150, 163]⟩ : ByteArray), .string (⟨#[226, 150, 163, 226, 151, 170]⟩ : ByteArray), .string (⟨#[226, 151, 171, 32]⟩ : ByteArray), .string (⟨#[226, 156, 154, 32]⟩ : ByteArray), .string (⟨#[32, 226, 151, 171]⟩ : ByteArray), .string (⟨#[226, 151, 167, 226, 150, 163]⟩ : ByteArray), .string (⟨#[226, 150, 163, 226, 150, 163]⟩ : ByteArray), .string (⟨#[226, 150, 163, 226, 151, 168]⟩ : ByteArray), .string (⟨#[226, 151, 171, 226, 150, 163]⟩ : ByteArray), .string (⟨#[226, 156, 154, 226, 150, 163]⟩ : ByteArray), .string (⟨#[226, 150, 163, 226, 151, 171]⟩ : ByteArray)] 40) := by
  go_enter Try.func9, Try.ntmps9
  go_wp2_with fail
  go_ret
  exact ⟨rfl, rfl⟩
end Go.Proofs.Ytpceflnbomegiaa.Sy
