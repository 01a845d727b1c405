/- Written by gen_sym.py: the walks of tw's NewSymbols, one for each style. -/
import Derived.Test.YtpceflnbomegiaaProg
import Derived.WalkKit
import Derived.OwnWalk
import Derived.Test.YtpceflnbomegiaaSyD
namespace Go.Proofs.Ytpceflnbomegiaa.Sy
open Go.RowKit
set_option maxRecDepth 100000 in
set_option maxHeartbeats 3000000 in
theorem new4 (w : World) : Calls Try.prog 9 #[.int .i64 4] w fun e w' => e = .returned (.iface 36 (.pointer (some ⟨w.heap.size, 0, none⟩))) ∧ w' = w.alloc (.cells #[.string (⟨#[100, 111, 117, 98, 108, 101]⟩ : ByteArray), .string (⟨#[226, 149, 144]⟩ : ByteArray), .string (⟨#[226, 149, 145]⟩ : ByteArray), .string (⟨#[226, 149, 172]⟩ : ByteArray), .string (⟨#[226, 149, 148]⟩ : ByteArray), .string (⟨#[226, 149, 166]⟩ : ByteArray), .string (⟨#[226, 149, 151]⟩ : ByteArray), .string (⟨#[226, 149, 160]⟩ : ByteArray), .string (⟨#[226, 149, 172]⟩ : ByteArray), .string (⟨#[226, 149, 163]⟩ : ByteArray), .string (⟨#[226, 149, 154]⟩ : ByteArray), .string (⟨#[226, 149, 169]⟩ : ByteArray), .string (⟨#[226, 149, 157]⟩ : ByteArray), .string (⟨#[226, 149, 160]⟩ : ByteArray), .string (⟨#[226, 149, 172]⟩ : ByteArray), .string (⟨#[226, 149, 163]⟩ : ByteArray)] 40) := by
  go_enter Try.func9, Try.ntmps9
  go_wp2_with fail
  go_ret
  exact ⟨rfl, rfl⟩
set_option maxRecDepth 100000 in
set_option maxHeartbeats 3000000 in
theorem new13 (w : World) : Calls Try.prog 9 #[.int .i64 13] w fun e w' => e = .returned (.iface 36 (.pointer (some ⟨w.heap.size, 0, none⟩))) ∧ w' = w.alloc (.cells #[.string (⟨#[109, 101, 114, 103, 101, 114]⟩ : ByteArray), .string (⟨#[226, 148, 128]⟩ : ByteArray), .string (⟨#[226, 148, 130]⟩ : ByteArray), .string (⟨#[43]⟩ : ByteArray), .string (⟨#[226, 148, 140]⟩ : ByteArray), .string (⟨#[226, 148, 172]⟩ : ByteArray), .string (⟨#[226, 148, 144]⟩ : ByteArray), .string (⟨#[226, 148, 156]⟩ : ByteArray), .string (⟨#[226, 148, 188]⟩ : ByteArray), .string (⟨#[226, 148, 164]⟩ : ByteArray), .string (⟨#[226, 148, 148]⟩ : ByteArray), .string (⟨#[226, 148, 180]⟩ : ByteArray), .string (⟨#[226, 148, 152]⟩ : ByteArray), .string (⟨#[226, 148, 156]⟩ : ByteArray), .string (⟨#[43]⟩ : ByteArray), .string (⟨#[226, 148, 164]⟩ : ByteArray)] 40) := by
  go_enter Try.func9, Try.ntmps9
  go_wp2_with fail
  go_ret
  exact ⟨rfl, rfl⟩
set_option maxRecDepth 100000 in
set_option maxHeartbeats 3000000 in
theorem new22 (w : World) : Calls Try.prog 9 #[.int .i64 22] w fun e w' => e = .returned (.iface 36 (.pointer (some ⟨w.heap.size, 0, none⟩))) ∧ w' = w.alloc (.cells #[.string (⟨#[56, 98, 105, 116]⟩ : ByteArray), .string (⟨#[226, 150, 160]⟩ : ByteArray), .string (⟨#[226, 150, 136]⟩ : ByteArray), .string (⟨#[226, 153, 166]⟩ : ByteArray), .string (⟨#[226, 149, 148]⟩ : ByteArray), .string (⟨#[226, 150, 178]⟩ : ByteArray), .string (⟨#[226, 149, 151]⟩ : ByteArray), .string (⟨#[226, 151, 132]⟩ : ByteArray), .string (⟨#[226, 153, 166]⟩ : ByteArray), .string (⟨#[226, 150, 186]⟩ : ByteArray), .string (⟨#[226, 149, 154]⟩ : ByteArray), .string (⟨#[226, 150, 188]⟩ : ByteArray), .string (⟨#[226, 149, 157]⟩ : ByteArray), .string (⟨#[226, 151, 132]⟩ : ByteArray), .string (⟨#[226, 153, 166]⟩ : ByteArray), .string (⟨#[226, 150, 186]⟩ : ByteArray)] 40) := by
  go_enter Try.func9, Try.ntmps9
  go_wp2_with fail
  go_ret
  exact ⟨rfl, rfl⟩
set_option maxRecDepth 100000 in
set_option maxHeartbeats 3000000 in
theorem new31 (w : World) : Calls Try.prog 9 #[.int .i64 31] w fun e w' => e = .returned (.iface 36 (.pointer (some ⟨w.heap.size, 0, none⟩))) ∧ w' = w.alloc (.cells #[.string (⟨#[99, 121, 98, 101, 114]⟩ : ByteArray), .string (⟨#[226, 149, 144, 226, 149, 166, 226, 149, 144]⟩ : ByteArray), .string (⟨#[226, 149, 145]⟩ : ByteArray), .string (⟨#[226, 149, 172]⟩ : ByteArray), .string (⟨#[226, 149, 148, 226, 149, 166, 226, 149, 144]⟩ : ByteArray), .string (⟨#[226, 149, 166, 226, 149, 144, 226, 149, 166]⟩ : ByteArray), .string (⟨#[226, 149, 144, 226, 149, 166, 226, 149, 151]⟩ : ByteArray), .string (⟨#[226, 149, 145, 32]⟩ : ByteArray), .string (⟨#[226, 149, 172, 32]⟩ : ByteArray), .string (⟨#[32, 226, 149, 145]⟩ : ByteArray), .string (⟨#[226, 149, 154, 226, 149, 169, 226, 149, 144]⟩ : ByteArray), .string (⟨#[226, 149, 169, 226, 149, 144, 226, 149, 169]⟩ : ByteArray), .string (⟨#[226, 149, 144, 226, 149, 169, 226, 149, 157]⟩ : ByteArray), .string (⟨#[226, 149, 160, 226, 149, 166, 226, 149, 144]⟩ : ByteArray), .string (⟨#[226, 149, 172, 226, 149, 144, 226, 149, 166]⟩ : ByteArray), .string (⟨#[226, 149, 144, 226, 149, 166, 226, 149, 163]⟩ : ByteArray)] 40) := by
  go_enter Try.func9, Try.ntmps9
  go_wp2_with fail
  go_ret
  exact ⟨rfl, rfl⟩
set_option maxRecDepth 100000 in
set_option maxHeartbeats 3000000 in
theorem new40 (w : World) : Calls Try.prog 9 #[.int .i64 40] w fun e w' => e = .returned (.iface 36 (.pointer (some ⟨w.heap.size, 0, none⟩))) ∧ w' = w.alloc (.cells #[.string (⟨#[115, 116, 101, 97, 109, 112, 117, 110, 107]⟩ : ByteArray), .string (⟨#[226, 149, 144, 226, 154, 153, 226, 149, 144]⟩ : ByteArray), .string (⟨#[226, 155, 147, 239, 184, 143]⟩ : ByteArray), .string (⟨#[226, 154, 148, 239, 184, 143]⟩ : ByteArray), .string (⟨#[240, 159, 156, 130, 226, 154, 153, 226, 149, 144]⟩ : ByteArray), .string (⟨#[226, 149, 144, 226, 154, 153, 226, 149, 144]⟩ : ByteArray), .string (⟨#[226, 149, 144, 226, 154, 153, 240, 159, 156, 130]⟩ : ByteArray), .string (⟨#[226, 155, 147, 239, 184, 143, 32]⟩ : ByteArray), .string (⟨#[226, 154, 148, 239, 184, 143, 32]⟩ : ByteArray), .string (⟨#[32, 226, 155, 147, 239, 184, 143]⟩ : ByteArray), .string (⟨#[240, 159, 156, 132, 226, 154, 153, 226, 149, 144]⟩ : ByteArray), .string (⟨#[226, 149, 144, 226, 154, 153, 226, 149, 144]⟩ : ByteArray), .string (⟨#[226, 149, 144, 226, 154, 153, 240, 159, 156, 132]⟩ : ByteArray), .string (⟨#[226, 155, 147, 239, 184, 143, 226, 154, 153, 226, 149, 144]⟩ : ByteArray), .string (⟨#[226, 154, 148, 239, 184, 143, 226, 149, 144, 226, 154, 153]⟩ : ByteArray), .string (⟨#[226, 149, 144, 226, 154, 153, 226, 155, 147, 239, 184, 143]⟩ : ByteArray)] 40) := by
  go_enter Try.func9, Try.ntmps9
  go_wp2_with fail
  go_ret
  exact ⟨rfl, rfl⟩
end Go.Proofs.Ytpceflnbomegiaa.Sy
