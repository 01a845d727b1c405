/- Written by gen_sym.py: the walks of tw's NewSymbols, one for each style. -/
import Derived.Test.YtpceflnbomegiaaProg
import Derived.WalkKit
import Derived.OwnWalk
import Derived.Test.YtpceflnbomegiaaSyD
namespace Go.Proofs.Ytpceflnbomegiaa.Sy
open Go.RowKit
set_option maxRecDepth 100000 in
set_option maxHeartbeats 3000000 in
theorem new0 (w : World) : Calls Try.prog 9 #[.int .i64 0] w fun e w' => e = .returned (.iface 36 (.pointer (some ⟨w.heap.size, 0, none⟩))) ∧ w' = w.alloc (.cells #[.string (⟨#[110, 111, 116, 104, 105, 110, 103]⟩ : ByteArray), .string (⟨#[]⟩ : ByteArray), .string (⟨#[]⟩ : ByteArray), .string (⟨#[]⟩ : ByteArray), .string (⟨#[]⟩ : ByteArray), .string (⟨#[]⟩ : ByteArray), .string (⟨#[]⟩ : ByteArray), .string (⟨#[]⟩ : ByteArray), .string (⟨#[]⟩ : ByteArray), .string (⟨#[]⟩ : ByteArray), .string (⟨#[]⟩ : ByteArray), .string (⟨#[]⟩ : ByteArray), .string (⟨#[]⟩ : ByteArray), .string (⟨#[]⟩ : ByteArray), .string (⟨#[]⟩ : ByteArray), .string (⟨#[]⟩ : ByteArray)] 40) := by
  go_enter Try.func9, Try.ntmps9
  go_wp2_with fail
  go_ret
  exact ⟨rfl, rfl⟩
set_option maxRecDepth 100000 in
set_option maxHeartbeats 3000000 in
theorem new9 (w : World) : Calls Try.prog 9 #[.int .i64 9] w fun e w' => e = .returned (.iface 36 (.pointer (some ⟨w.heap.size, 0, none⟩))) ∧ w' = w.alloc (.cells #[.string (⟨#[100, 111, 117, 98, 108, 101, 108, 105, 103, 104, 116]⟩ : ByteArray), .string (⟨#[226, 149, 144]⟩ : ByteArray), .string (⟨#[226, 148, 130]⟩ : ByteArray), .string (⟨#[226, 149, 170]⟩ : ByteArray), .string (⟨#[226, 149, 146]⟩ : ByteArray), .string (⟨#[226, 149, 164]⟩ : ByteArray), .string (⟨#[226, 149, 149]⟩ : ByteArray), .string (⟨#[226, 149, 158]⟩ : ByteArray), .string (⟨#[226, 149, 170]⟩ : ByteArray), .string (⟨#[226, 149, 161]⟩ : ByteArray), .string (⟨#[226, 149, 152]⟩ : ByteArray), .string (⟨#[226, 149, 167]⟩ : ByteArray), .string (⟨#[226, 149, 155]⟩ : ByteArray), .string (⟨#[226, 149, 158]⟩ : ByteArray), .string (⟨#[226, 149, 170]⟩ : ByteArray), .string (⟨#[226, 149, 161]⟩ : ByteArray)] 40) := by
  go_enter Try.func9, Try.ntmps9
  go_wp2_with fail
  go_ret
  exact ⟨rfl, rfl⟩
set_option maxRecDepth 100000 in
set_option maxHeartbeats 3000000 in
theorem new18 (w : World) : Calls Try.prog 9 #[.int .i64 18] w fun e w' => e = .returned (.iface 36 (.pointer (some ⟨w.heap.size, 0, none⟩))) ∧ w' = w.alloc (.cells #[.string (⟨#[104, 101, 97, 114, 116, 115]⟩ : ByteArray), .string (⟨#[226, 153, 165]⟩ : ByteArray), .string (⟨#[226, 157, 164]⟩ : ByteArray), .string (⟨#[226, 156, 154]⟩ : ByteArray), .string (⟨#[226, 157, 165]⟩ : ByteArray), .string (⟨#[226, 153, 161]⟩ : ByteArray), .string (⟨#[226, 157, 165]⟩ : ByteArray), .string (⟨#[226, 157, 163]⟩ : ByteArray), .string (⟨#[226, 156, 154]⟩ : ByteArray), .string (⟨#[226, 157, 163]⟩ : ByteArray), .string (⟨#[226, 157, 166]⟩ : ByteArray), .string (⟨#[226, 153, 161]⟩ : ByteArray), .string (⟨#[226, 157, 166]⟩ : ByteArray), .string (⟨#[226, 157, 163]⟩ : ByteArray), .string (⟨#[226, 156, 154]⟩ : ByteArray), .string (⟨#[226, 157, 163]⟩ : ByteArray)] 40) := by
  go_enter Try.func9, Try.ntmps9
  go_wp2_with fail
  go_ret
  exact ⟨rfl, rfl⟩
set_option maxRecDepth 100000 in
set_option maxHeartbeats 3000000 in
theorem new27 (w : World) : Calls Try.prog 9 #[.int .i64 27] w fun e w' => e = .returned (.iface 36 (.pointer (some ⟨w.heap.size, 0, none⟩))) ∧ w' = w.alloc (.cells #[.string (⟨#[118, 105, 110, 116, 97, 103, 101]⟩ : ByteArray), .string (⟨#[226, 148, 128, 226, 148, 128, 226, 148, 128, 226, 148, 128]⟩ : ByteArray), .string (⟨#[32, 226, 129, 156, 32]⟩ : ByteArray), .string (⟨#[32, 226, 156, 160, 32]⟩ : ByteArray), .string (⟨#[226, 149, 148, 226, 149, 144, 226, 149, 144]⟩ : ByteArray), .string (⟨#[226, 149, 144, 226, 149, 144, 226, 149, 164]⟩ : ByteArray), .string (⟨#[226, 149, 144, 226, 149, 144, 226, 149, 151]⟩ : ByteArray), .string (⟨#[32, 226, 129, 156, 32]⟩ : ByteArray), .string (⟨#[32, 226, 156, 160, 32]⟩ : ByteArray), .string (⟨#[32, 226, 129, 156, 32]⟩ : ByteArray), .string (⟨#[226, 149, 154, 226, 149, 144, 226, 149, 144]⟩ : ByteArray), .string (⟨#[226, 149, 144, 226, 149, 144, 226, 149, 167]⟩ : ByteArray), .string (⟨#[226, 149, 144, 226, 149, 144, 226, 149, 157]⟩ : ByteArray), .string (⟨#[32, 226, 148, 156, 226, 148, 128]⟩ : ByteArray), .string (⟨#[226, 148, 128, 226, 156, 160, 226, 148, 128]⟩ : ByteArray), .string (⟨#[226, 148, 128, 226, 148, 164, 32]⟩ : ByteArray)] 40) := by
  go_enter Try.func9, Try.ntmps9
  go_wp2_with fail
  go_ret
  exact ⟨rfl, rfl⟩
set_option maxRecDepth 100000 in
set_option maxHeartbeats 3000000 in
theorem new36 (w : World) : Calls Try.prog 9 #[.int .i64 36] w fun e w' => e = .returned (.iface 36 (.pointer (some ⟨w.heap.size, 0, none⟩))) ∧ w' = w.alloc (.cells #[.string (⟨#[98, 108, 111, 115, 115, 111, 109]⟩ : ByteArray), .string (⟨#[240, 159, 140, 184]⟩ : ByteArray), .string (⟨#[240, 159, 140, 191]⟩ : ByteArray), .string (⟨#[226, 156, 191]⟩ : ByteArray), .string (⟨#[240, 159, 140, 183]⟩ : ByteArray), .string (⟨#[240, 159, 140, 184]⟩ : ByteArray), .string (⟨#[240, 159, 140, 183]⟩ : ByteArray), .string (⟨#[240, 159, 140, 191]⟩ : ByteArray), .string (⟨#[226, 156, 191]⟩ : ByteArray), .string (⟨#[240, 159, 140, 191]⟩ : ByteArray), .string (⟨#[240, 159, 140, 177]⟩ : ByteArray), .string (⟨#[240, 159, 140, 184]⟩ : ByteArray), .string (⟨#[240, 159, 140, 177]⟩ : ByteArray), .string (⟨#[240, 159, 140, 191, 240, 159, 140, 184]⟩ : ByteArray), .string (⟨#[226, 156, 191, 240, 159, 140, 184]⟩ : ByteArray), .string (⟨#[240, 159, 140, 184, 240, 159, 140, 191]⟩ : ByteArray)] 40) := by
  go_enter Try.func9, Try.ntmps9
  go_wp2_with fail
  go_ret
  exact ⟨rfl, rfl⟩
end Go.Proofs.Ytpceflnbomegiaa.Sy
