/- The walk of laws.FnTextDirection: for each of the three directions modulo 3 the call answers true. -/
import Derived.Test.YtcjnoadamfdgeaaPFnTextDirectionx1
import Derived.Outline
import Derived.Lib.Hide
import Derived.OpenShut
namespace Go.Proofs.Ytcjnoadamfdgeaa.Td
open Go.RowKit Go.Proofs.Ytcjnoadamfdgeaa.PFnTextDirection Go.Proofs.YtcjnoadamfdgeaaW.PrintWords Go.Proofs.YtcjnoadamfdgeaaW.PrintLast Go.Proofs.YtcjnoadamfdgeaaW.PrintMore

def want (k : Nat) : ByteArray := if k = 0 then ⟨#[]⟩ else if k = 1 then ⟨#[226, 128, 170]⟩ else ⟨#[226, 128, 171]⟩

theorem index_any (k : Nat) (hk : k < 3) (w : World) :
    (Instr.index 24 (.agg #[.string ⟨#[]⟩, .string ⟨#[226, 128, 170]⟩, .string ⟨#[226, 128, 171]⟩]) (.int .u8 (k : Int))).run Try.prog w = .ok (.string (want k)) w := by
  obtain rfl | rfl | rfl : k = 0 ∨ k = 1 ∨ k = 2 := by omega
  · kernel_rfl
  · kernel_rfl
  · kernel_rfl

theorem dir_any (k : Nat) (hk : k < 3) : impl_TextDirection.f (k : Int) = some (want k) := by
  obtain rfl | rfl | rfl : k = 0 ∨ k = 1 ∨ k = 2 := by omega
  · rfl
  · rfl
  · rfl

theorem byte_bounds (a0 : Int) (w0 : (Lit.int .u8 a0).wf = true) : 0 ≤ a0 ∧ a0 ≤ 255 := by
  simpa using Go.bounds_u8 w0

set_option maxRecDepth 100000 in
set_option maxHeartbeats 400000 in
theorem walk (a0 : Int) (w : World) (w0 : (Lit.int .u8 a0).wf = true) :
    Calls Try.prog 4 #[.int .u8 a0] w fun e w' => e = .returned (.bool true) ∧ Below w.heap.size w w' := by
  have hb : 0 ≤ a0 ∧ a0 ≤ 255 := byte_bounds a0 w0
  obtain ⟨h0, h1⟩ := hb
  obtain ⟨k, hk, hm⟩ : ∃ k : Nat, k < 3 ∧ a0 % 3 = (k : Int) := ⟨(a0 % 3).toNat, by omega, by omega⟩
  have hi := index_any k hk
  have hd := Lib.hid (dir_any k hk)
  go_enter Try.func4, Try.ntmps4
  go_wp2_with (go_at_call 10; refine (impl_TextDirection.calls _ _ _ hd.out).mono ?_; rintro e w' ⟨rfl, ⟨nd, rfl⟩⟩)
  go_ret
  exact ⟨by simp, (⟨nd, rfl⟩ : Drawn0 w _).below⟩
end Go.Proofs.Ytcjnoadamfdgeaa.Td
