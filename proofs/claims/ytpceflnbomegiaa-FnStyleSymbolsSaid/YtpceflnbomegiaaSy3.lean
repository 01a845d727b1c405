/- Written by gen_sym.py: the walks of tw's NewSymbols, one for each style. -/
import Derived.Test.YtpceflnbomegiaaProg
import Derived.WalkKit
import Derived.OwnWalk
import Derived.Test.YtpceflnbomegiaaSyD
namespace Go.Proofs.Ytpceflnbomegiaa.Sy
open Go.RowKit
set_option maxRecDepth 100000 in
set_option maxHeartbeats 3000000 in
theorem new3 (w : World) : Calls Try.prog 9 #[.int .i64 3] w fun e w' => e = .returned (.iface 36 (.pointer (some ⟨w.heap.size, 0, none⟩))) ∧ w' = w.alloc (.cells #[.string (⟨#[104, 101, 97, 118, 121]⟩ : ByteArray), .string (⟨#[226, 148, 129]⟩ : ByteArray), .string (⟨#[226, 148, 131]⟩ : ByteArray), .string (⟨#[226, 149, 139]⟩ : ByteArray), .string (⟨#[226, 148, 143]⟩ : ByteArray), .string (⟨#[226, 148, 179]⟩ : ByteArray), .string (⟨#[226, 148, 147]⟩ : ByteArray), .string (⟨#[226, 148, 163]⟩ : ByteArray), .string (⟨#[226, 149, 139]⟩ : ByteArray), .string (⟨#[226, 148, 171]⟩ : ByteArray), .string (⟨#[226, 148, 151]⟩ : ByteArray), .string (⟨#[226, 148, 187]⟩ : ByteArray), .string (⟨#[226, 148, 155]⟩ : ByteArray), .string (⟨#[226, 148, 163]⟩ : ByteArray), .string (⟨#[226, 149, 139]⟩ : ByteArray), .string (⟨#[226, 148, 171]⟩ : ByteArray)] 40) := by
  go_enter Try.func9, Try.ntmps9
  go_wp2_with fail
  go_ret
  exact ⟨rfl, rfl⟩
set_option maxRecDepth 100000 in
set_option maxHeartbeats 3000000 in
theorem new12 (w : World) : Calls Try.prog 9 #[.int .i64 12] w fun e w' => e = .returned (.iface 36 (.pointer (some ⟨w.heap.size, 0, none⟩))) ∧ w' = w.alloc (.cells #[.string (⟨#[103, 114, 97, 112, 104, 105, 99, 97, 108]⟩ : ByteArray), .string (⟨#[226, 148, 132, 226, 148, 132]⟩ : ByteArray), .string (⟨#[226, 148, 134]⟩ : ByteArray), .string (⟨#[226, 149, 130]⟩ : ByteArray), .string (⟨#[226, 148, 140, 226, 148, 132]⟩ : ByteArray), .string (⟨#[226, 148, 132, 226, 148, 132]⟩ : ByteArray), .string (⟨#[226, 148, 132, 226, 148, 144]⟩ : ByteArray), .string (⟨#[226, 148, 134, 32]⟩ : ByteArray), .string (⟨#[226, 149, 130, 32]⟩ : ByteArray), .string (⟨#[32, 226, 148, 134]⟩ : ByteArray), .string (⟨#[226, 148, 148, 226, 148, 132]⟩ : ByteArray), .string (⟨#[226, 148, 132, 226, 148, 132]⟩ : ByteArray), .string (⟨#[226, 148, 132, 226, 148, 152]⟩ : ByteArray), .string (⟨#[226, 148, 156, 226, 148, 132]⟩ : ByteArray), .string (⟨#[226, 149, 130, 226, 148, 132]⟩ : ByteArray), .string (⟨#[226, 148, 132, 226, 148, 164]⟩ : ByteArray)] 40) := by
  go_enter Try.func9, Try.ntmps9
  go_wp2_with fail
  go_ret
  exact ⟨rfl, rfl⟩
set_option maxRecDepth 100000 in
set_option maxHeartbeats 3000000 in
theorem new21 (w : World) : Calls Try.prog 9 #[.int .i64 21] w fun e w' => e = .returned (.iface 36 (.pointer (some ⟨w.heap.size, 0, none⟩))) ∧ w' = w.alloc (.cells #[.string (⟨#[97, 114, 116, 105, 115, 116, 105, 99]⟩ : ByteArray), .string (⟨#[226, 150, 172]⟩ : ByteArray), .string (⟨#[226, 150, 144]⟩ : ByteArray), .string (⟨#[226, 172, 148]⟩ : ByteArray), .string (⟨#[226, 151, 136]⟩ : ByteArray), .string (⟨#[226, 151, 138]⟩ : ByteArray), .string (⟨#[226, 151, 136]⟩ : ByteArray), .string (⟨#[226, 151, 128]⟩ : ByteArray), .string (⟨#[226, 172, 148]⟩ : ByteArray), .string (⟨#[226, 150, 182]⟩ : ByteArray), .string (⟨#[226, 151, 173]⟩ : ByteArray), .string (⟨#[226, 150, 163]⟩ : ByteArray), .string (⟨#[226, 151, 174]⟩ : ByteArray), .string (⟨#[226, 151, 128]⟩ : ByteArray), .string (⟨#[226, 172, 148]⟩ : ByteArray), .string (⟨#[226, 150, 182]⟩ : ByteArray)] 40) := by
  go_enter Try.func9, Try.ntmps9
  go_wp2_with fail
  go_ret
  exact ⟨rfl, rfl⟩
set_option maxRecDepth 100000 in
set_option maxHeartbeats 3000000 in
theorem new30 (w : World) : Calls Try.prog 9 #[.int .i64 30] w fun e w' => e = .returned (.iface 36 (.pointer (some ⟨w.heap.size, 0, none⟩))) ∧ w' = w.alloc (.cells #[.string (⟨#[99, 101, 108, 101, 115, 116, 105, 97, 108]⟩ : ByteArray), .string (⟨#[226, 156, 166, 226, 156, 167]⟩ : ByteArray), .string (⟨#[226, 152, 189]⟩ : ByteArray), .string (⟨#[226, 152, 128]⟩ : ByteArray), .string (⟨#[226, 156, 167, 226, 156, 166]⟩ : ByteArray), .string (⟨#[226, 156, 166, 226, 156, 167]⟩ : ByteArray), .string (⟨#[226, 156, 166, 226, 156, 167]⟩ : ByteArray), .string (⟨#[226, 152, 189, 32]⟩ : ByteArray), .string (⟨#[226, 152, 128, 32]⟩ : ByteArray), .string (⟨#[32, 226, 152, 190]⟩ : ByteArray), .string (⟨#[226, 156, 167, 226, 156, 166]⟩ : ByteArray), .string (⟨#[226, 156, 166, 226, 156, 167]⟩ : ByteArray), .string (⟨#[226, 156, 166, 226, 156, 167]⟩ : ByteArray), .string (⟨#[226, 152, 189, 226, 156, 166]⟩ : ByteArray), .string (⟨#[226, 152, 128, 226, 156, 167]⟩ : ByteArray), .string (⟨#[226, 156, 166, 226, 152, 190]⟩ : ByteArray)] 40) := by
  go_enter Try.func9, Try.ntmps9
  go_wp2_with fail
  go_ret
  exact ⟨rfl, rfl⟩
set_option maxRecDepth 100000 in
set_option maxHeartbeats 3000000 in
theorem new39 (w : World) : Calls Try.prog 9 #[.int .i64 39] w fun e w' => e = .returned (.iface 36 (.pointer (some ⟨w.heap.size, 0, none⟩))) ∧ w' = w.alloc (.cells #[.string (⟨#[117, 102, 111]⟩ : ByteArray), .string (⟨#[226, 138, 154, 226, 138, 154]⟩ : ByteArray), .string (⟨#[226, 152, 189]⟩ : ByteArray), .string (⟨#[226, 152, 162]⟩ : ByteArray), .string (⟨#[226, 140, 150, 226, 138, 154]⟩ : ByteArray), .string (⟨#[226, 138, 154, 226, 138, 154]⟩ : ByteArray), .string (⟨#[226, 138, 154, 226, 140, 150]⟩ : ByteArray), .string (⟨#[226, 152, 189, 32]⟩ : ByteArray), .string (⟨#[226, 152, 162, 32]⟩ : ByteArray), .string (⟨#[32, 226, 152, 189]⟩ : ByteArray), .string (⟨#[226, 140, 151, 226, 138, 154]⟩ : ByteArray), .string (⟨#[226, 138, 154, 226, 138, 154]⟩ : ByteArray), .string (⟨#[226, 138, 154, 226, 140, 151]⟩ : ByteArray), .string (⟨#[226, 152, 189, 226, 138, 154]⟩ : ByteArray), .string (⟨#[226, 152, 162, 226, 138, 154]⟩ : ByteArray), .string (⟨#[226, 138, 154, 226, 152, 189]⟩ : ByteArray)] 40) := by
  go_enter Try.func9, Try.ntmps9
  go_wp2_with fail
  go_ret
  exact ⟨rfl, rfl⟩
end Go.Proofs.Ytpceflnbomegiaa.Sy
