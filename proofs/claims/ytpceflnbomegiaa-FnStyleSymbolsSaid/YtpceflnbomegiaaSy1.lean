/- Written by gen_sym.py: the walks of tw's NewSymbols, one for each style. -/
import Derived.Test.YtpceflnbomegiaaProg
import Derived.WalkKit
import Derived.OwnWalk
import Derived.Test.YtpceflnbomegiaaSyD
namespace Go.Proofs.Ytpceflnbomegiaa.Sy
open Go.RowKit
set_option maxRecDepth 100000 in
set_option maxHeartbeats 3000000 in
theorem new1 (w : World) : Calls Try.prog 9 #[.int .i64 1] w fun e w' => e = .returned (.iface 36 (.pointer (some ⟨w.heap.size, 0, none⟩))) ∧ w' = w.alloc (.cells #[.string (⟨#[97, 115, 99, 105, 105]⟩ : ByteArray), .string (⟨#[45]⟩ : ByteArray), .string (⟨#[124]⟩ : ByteArray), .string (⟨#[43]⟩ : ByteArray), .string (⟨#[43]⟩ : ByteArray), .string (⟨#[43]⟩ : ByteArray), .string (⟨#[43]⟩ : ByteArray), .string (⟨#[43]⟩ : ByteArray), .string (⟨#[43]⟩ : ByteArray), .string (⟨#[43]⟩ : ByteArray), .string (⟨#[43]⟩ : ByteArray), .string (⟨#[43]⟩ : ByteArray), .string (⟨#[43]⟩ : ByteArray), .string (⟨#[43]⟩ : ByteArray), .string (⟨#[43]⟩ : ByteArray), .string (⟨#[43]⟩ : ByteArray)] 40) := by
  go_enter Try.func9, Try.ntmps9
  go_wp2_with fail
  go_ret
  exact ⟨rfl, rfl⟩
set_option maxRecDepth 100000 in
set_option maxHeartbeats 3000000 in
theorem new10 (w : World) : Calls Try.prog 9 #[.int .i64 10] w fun e w' => e = .returned (.iface 36 (.pointer (some ⟨w.heap.size, 0, none⟩))) ∧ w' = w.alloc (.cells #[.string (⟨#[114, 111, 117, 110, 100, 101, 100]⟩ : ByteArray), .string (⟨#[226, 148, 128]⟩ : ByteArray), .string (⟨#[226, 148, 130]⟩ : ByteArray), .string (⟨#[226, 148, 188]⟩ : ByteArray), .string (⟨#[226, 149, 173]⟩ : ByteArray), .string (⟨#[226, 148, 172]⟩ : ByteArray), .string (⟨#[226, 149, 174]⟩ : ByteArray), .string (⟨#[226, 148, 156]⟩ : ByteArray), .string (⟨#[226, 148, 188]⟩ : ByteArray), .string (⟨#[226, 148, 164]⟩ : ByteArray), .string (⟨#[226, 149, 176]⟩ : ByteArray), .string (⟨#[226, 148, 180]⟩ : ByteArray), .string (⟨#[226, 149, 175]⟩ : ByteArray), .string (⟨#[226, 148, 156]⟩ : ByteArray), .string (⟨#[226, 148, 188]⟩ : ByteArray), .string (⟨#[226, 148, 164]⟩ : ByteArray)] 40) := by
  go_enter Try.func9, Try.ntmps9
  go_wp2_with fail
  go_ret
  exact ⟨rfl, rfl⟩
set_option maxRecDepth 100000 in
set_option maxHeartbeats 3000000 in
theorem new19 (w : World) : Calls Try.prog 9 #[.int .i64 19] w fun e w' => e = .returned (.iface 36 (.pointer (some ⟨w.heap.size, 0, none⟩))) ∧ w' = w.alloc (.cells #[.string (⟨#[99, 105, 114, 99, 117, 105, 116]⟩ : ByteArray), .string (⟨#[61]⟩ : ByteArray), .string (⟨#[124, 124]⟩ : ByteArray), .string (⟨#[60, 62]⟩ : ByteArray), .string (⟨#[47, 42]⟩ : ByteArray), .string (⟨#[35, 35]⟩ : ByteArray), .string (⟨#[42, 47]⟩ : ByteArray), .string (⟨#[47, 47]⟩ : ByteArray), .string (⟨#[60, 62]⟩ : ByteArray), .string (⟨#[92]⟩ : ByteArray), .string (⟨#[92, 42]⟩ : ByteArray), .string (⟨#[35, 35]⟩ : ByteArray), .string (⟨#[42, 47]⟩ : ByteArray), .string (⟨#[47, 47]⟩ : ByteArray), .string (⟨#[60, 62]⟩ : ByteArray), .string (⟨#[92]⟩ : ByteArray)] 40) := by
  go_enter Try.func9, Try.ntmps9
  go_wp2_with fail
  go_ret
  exact ⟨rfl, rfl⟩
set_option maxRecDepth 100000 in
set_option maxHeartbeats 3000000 in
theorem new28 (w : World) : Calls Try.prog 9 #[.int .i64 28] w fun e w' => e = .returned (.iface 36 (.pointer (some ⟨w.heap.size, 0, none⟩))) ∧ w' = w.alloc (.cells #[.string (⟨#[115, 107, 101, 116, 99, 104]⟩ : ByteArray), .string (⟨#[126, 126]⟩ : ByteArray), .string (⟨#[47]⟩ : ByteArray), .string (⟨#[43]⟩ : ByteArray), .string (⟨#[32, 46]⟩ : ByteArray), .string (⟨#[126, 126]⟩ : ByteArray), .string (⟨#[46, 32]⟩ : ByteArray), .string (⟨#[47, 32]⟩ : ByteArray), .string (⟨#[43, 32]⟩ : ByteArray), .string (⟨#[32, 92]⟩ : ByteArray), .string (⟨#[32, 39]⟩ : ByteArray), .string (⟨#[126, 126]⟩ : ByteArray), .string (⟨#[96, 32]⟩ : ByteArray), .string (⟨#[47, 126]⟩ : ByteArray), .string (⟨#[43, 126]⟩ : ByteArray), .string (⟨#[126, 92]⟩ : ByteArray)] 40) := by
  go_enter Try.func9, Try.ntmps9
  go_wp2_with fail
  go_ret
  exact ⟨rfl, rfl⟩
set_option maxRecDepth 100000 in
set_option maxHeartbeats 3000000 in
theorem new37 (w : World) : Calls Try.prog 9 #[.int .i64 37] w fun e w' => e = .returned (.iface 36 (.pointer (some ⟨w.heap.size, 0, none⟩))) ∧ w' = w.alloc (.cells #[.string (⟨#[102, 114, 111, 115, 116, 101, 100]⟩ : ByteArray), .string (⟨#[226, 150, 145, 226, 150, 146, 226, 150, 145]⟩ : ByteArray), .string (⟨#[226, 150, 147]⟩ : ByteArray), .string (⟨#[226, 151, 141]⟩ : ByteArray), .string (⟨#[226, 151, 140, 226, 150, 145, 226, 150, 146]⟩ : ByteArray), .string (⟨#[226, 150, 145, 226, 150, 146, 226, 150, 145]⟩ : ByteArray), .string (⟨#[226, 150, 146, 226, 150, 145, 226, 151, 140]⟩ : ByteArray), .string (⟨#[226, 150, 147, 32]⟩ : ByteArray), .string (⟨#[226, 151, 141, 32]⟩ : ByteArray), .string (⟨#[32, 226, 150, 147]⟩ : ByteArray), .string (⟨#[226, 151, 140, 226, 150, 145, 226, 150, 146]⟩ : ByteArray), .string (⟨#[226, 150, 145, 226, 150, 146, 226, 150, 145]⟩ : ByteArray), .string (⟨#[226, 150, 146, 226, 150, 145, 226, 151, 140]⟩ : ByteArray), .string (⟨#[226, 150, 147, 226, 150, 145, 226, 150, 146]⟩ : ByteArray), .string (⟨#[226, 151, 141, 226, 150, 146, 226, 150, 145]⟩ : ByteArray), .string (⟨#[226, 150, 145, 226, 150, 146, 226, 150, 147]⟩ : ByteArray)] 40) := by
  go_enter Try.func9, Try.ntmps9
  go_wp2_with fail
  go_ret
  exact ⟨rfl, rfl⟩
end Go.Proofs.Ytpceflnbomegiaa.Sy
