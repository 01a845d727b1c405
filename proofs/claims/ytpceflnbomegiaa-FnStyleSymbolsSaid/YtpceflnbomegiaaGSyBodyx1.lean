-- Written by gprint.py, a program of this session over the kit's printer, with contracts of its own for what the printer does not take. Not trusted: Lean checks it.
import Derived.Test.YtpceflnbomegiaaGSyBodyx0
namespace Go.Proofs.Ytpceflnbomegiaa.GSyBody
open Go.RowKit Go.Proofs.Ytpceflnbomegiaa.Itr Go.Proofs.YtpceflnbomegiaaW.PrintWords Go.Proofs.YtpceflnbomegiaaW.PrintLast Go.Proofs.YtpceflnbomegiaaW.PrintMore
attribute [local go_sem] max2_int min2_int max_two min_two max_three min_three max_four min_four   -- for this text's walks alone
set_option linter.unusedVariables false
set_option linter.unusedSimpArgs false

/-! ### spec_TwStyles: function 4 -/
def spec_TwStyles.f  : Option (List ByteArray) := some (([(⟨#[110, 111, 116, 104, 105, 110, 103]⟩ : ByteArray), (⟨#[97, 115, 99, 105, 105]⟩ : ByteArray), (⟨#[108, 105, 103, 104, 116]⟩ : ByteArray), (⟨#[104, 101, 97, 118, 121]⟩ : ByteArray), (⟨#[100, 111, 117, 98, 108, 101]⟩ : ByteArray), (⟨#[100, 111, 117, 98, 108, 101, 108, 111, 110, 103]⟩ : ByteArray), (⟨#[108, 105, 103, 104, 116, 104, 101, 97, 118, 121]⟩ : ByteArray), (⟨#[104, 101, 97, 118, 121, 108, 105, 103, 104, 116]⟩ : ByteArray), (⟨#[108, 105, 103, 104, 116, 100, 111, 117, 98, 108, 101]⟩ : ByteArray), (⟨#[100, 111, 117, 98, 108, 101, 108, 105, 103, 104, 116]⟩ : ByteArray), (⟨#[114, 111, 117, 110, 100, 101, 100]⟩ : ByteArray), (⟨#[109, 97, 114, 107, 100, 111, 119, 110]⟩ : ByteArray), (⟨#[103, 114, 97, 112, 104, 105, 99, 97, 108]⟩ : ByteArray), (⟨#[109, 101, 114, 103, 101, 114]⟩ : ByteArray), (⟨#[]⟩ : ByteArray), (⟨#[100, 111, 116, 116, 101, 100]⟩ : ByteArray), (⟨#[97, 114, 114, 111, 119]⟩ : ByteArray), (⟨#[115, 116, 97, 114, 114, 121]⟩ : ByteArray), (⟨#[104, 101, 97, 114, 116, 115]⟩ : ByteArray), (⟨#[99, 105, 114, 99, 117, 105, 116]⟩ : ByteArray), (⟨#[110, 97, 116, 117, 114, 101]⟩ : ByteArray), (⟨#[97, 114, 116, 105, 115, 116, 105, 99]⟩ : ByteArray), (⟨#[56, 98, 105, 116]⟩ : ByteArray), (⟨#[99, 104, 97, 111, 115]⟩ : ByteArray), (⟨#[100, 111, 116, 115]⟩ : ByteArray), (⟨#[98, 108, 111, 99, 107, 115]⟩ : ByteArray), (⟨#[122, 101, 110]⟩ : ByteArray), (⟨#[118, 105, 110, 116, 97, 103, 101]⟩ : ByteArray), (⟨#[115, 107, 101, 116, 99, 104]⟩ : ByteArray), (⟨#[97, 114, 114, 111, 119, 100, 111, 117, 98, 108, 101]⟩ : ByteArray), (⟨#[99, 101, 108, 101, 115, 116, 105, 97, 108]⟩ : ByteArray), (⟨#[99, 121, 98, 101, 114]⟩ : ByteArray), (⟨#[114, 117, 110, 105, 99]⟩ : ByteArray), (⟨#[105, 110, 100, 117, 115, 116, 114, 105, 97, 108]⟩ : ByteArray), (⟨#[105, 110, 107]⟩ : ByteArray), (⟨#[97, 114, 99, 97, 100, 101]⟩ : ByteArray), (⟨#[98, 108, 111, 115, 115, 111, 109]⟩ : ByteArray), (⟨#[102, 114, 111, 115, 116, 101, 100]⟩ : ByteArray), (⟨#[109, 111, 115, 97, 105, 99]⟩ : ByteArray), (⟨#[117, 102, 111]⟩ : ByteArray), (⟨#[115, 116, 101, 97, 109, 112, 117, 110, 107]⟩ : ByteArray), (⟨#[103, 97, 108, 97, 120, 121]⟩ : ByteArray), (⟨#[106, 97, 122, 122]⟩ : ByteArray), (⟨#[112, 117, 122, 122, 108, 101]⟩ : ByteArray), (⟨#[104, 121, 112, 110, 111]⟩ : ByteArray)] : List ByteArray))
set_option maxHeartbeats 8000000 in
set_option maxRecDepth 100000 in
theorem spec_TwStyles.calls  (r : List ByteArray) (w : World) (h : spec_TwStyles.f  = some r) :
    Calls Try.prog 4 #[] w fun e w' => ∃ v0_ : Value, e = .returned (v0_) ∧ Kd.R Kd.string 9 w' w.heap.size (fun _ => True) v0_ r ∧ Below w.heap.size w w' := by
  have HB := Aside0.mk (Below.refl w.heap.size w)
  have H : (some (([(⟨#[110, 111, 116, 104, 105, 110, 103]⟩ : ByteArray), (⟨#[97, 115, 99, 105, 105]⟩ : ByteArray), (⟨#[108, 105, 103, 104, 116]⟩ : ByteArray), (⟨#[104, 101, 97, 118, 121]⟩ : ByteArray), (⟨#[100, 111, 117, 98, 108, 101]⟩ : ByteArray), (⟨#[100, 111, 117, 98, 108, 101, 108, 111, 110, 103]⟩ : ByteArray), (⟨#[108, 105, 103, 104, 116, 104, 101, 97, 118, 121]⟩ : ByteArray), (⟨#[104, 101, 97, 118, 121, 108, 105, 103, 104, 116]⟩ : ByteArray), (⟨#[108, 105, 103, 104, 116, 100, 111, 117, 98, 108, 101]⟩ : ByteArray), (⟨#[100, 111, 117, 98, 108, 101, 108, 105, 103, 104, 116]⟩ : ByteArray), (⟨#[114, 111, 117, 110, 100, 101, 100]⟩ : ByteArray), (⟨#[109, 97, 114, 107, 100, 111, 119, 110]⟩ : ByteArray), (⟨#[103, 114, 97, 112, 104, 105, 99, 97, 108]⟩ : ByteArray), (⟨#[109, 101, 114, 103, 101, 114]⟩ : ByteArray), (⟨#[]⟩ : ByteArray), (⟨#[100, 111, 116, 116, 101, 100]⟩ : ByteArray), (⟨#[97, 114, 114, 111, 119]⟩ : ByteArray), (⟨#[115, 116, 97, 114, 114, 121]⟩ : ByteArray), (⟨#[104, 101, 97, 114, 116, 115]⟩ : ByteArray), (⟨#[99, 105, 114, 99, 117, 105, 116]⟩ : ByteArray), (⟨#[110, 97, 116, 117, 114, 101]⟩ : ByteArray), (⟨#[97, 114, 116, 105, 115, 116, 105, 99]⟩ : ByteArray), (⟨#[56, 98, 105, 116]⟩ : ByteArray), (⟨#[99, 104, 97, 111, 115]⟩ : ByteArray), (⟨#[100, 111, 116, 115]⟩ : ByteArray), (⟨#[98, 108, 111, 99, 107, 115]⟩ : ByteArray), (⟨#[122, 101, 110]⟩ : ByteArray), (⟨#[118, 105, 110, 116, 97, 103, 101]⟩ : ByteArray), (⟨#[115, 107, 101, 116, 99, 104]⟩ : ByteArray), (⟨#[97, 114, 114, 111, 119, 100, 111, 117, 98, 108, 101]⟩ : ByteArray), (⟨#[99, 101, 108, 101, 115, 116, 105, 97, 108]⟩ : ByteArray), (⟨#[99, 121, 98, 101, 114]⟩ : ByteArray), (⟨#[114, 117, 110, 105, 99]⟩ : ByteArray), (⟨#[105, 110, 100, 117, 115, 116, 114, 105, 97, 108]⟩ : ByteArray), (⟨#[105, 110, 107]⟩ : ByteArray), (⟨#[97, 114, 99, 97, 100, 101]⟩ : ByteArray), (⟨#[98, 108, 111, 115, 115, 111, 109]⟩ : ByteArray), (⟨#[102, 114, 111, 115, 116, 101, 100]⟩ : ByteArray), (⟨#[109, 111, 115, 97, 105, 99]⟩ : ByteArray), (⟨#[117, 102, 111]⟩ : ByteArray), (⟨#[115, 116, 101, 97, 109, 112, 117, 110, 107]⟩ : ByteArray), (⟨#[103, 97, 108, 97, 120, 121]⟩ : ByteArray), (⟨#[106, 97, 122, 122]⟩ : ByteArray), (⟨#[112, 117, 122, 122, 108, 101]⟩ : ByteArray), (⟨#[104, 121, 112, 110, 111]⟩ : ByteArray)] : List ByteArray))) = some r := h
  clear h
  obtain ⟨y101, hy101⟩ : ∃ y_ : List ByteArray, y_ = (([(⟨#[110, 111, 116, 104, 105, 110, 103]⟩ : ByteArray), (⟨#[97, 115, 99, 105, 105]⟩ : ByteArray), (⟨#[108, 105, 103, 104, 116]⟩ : ByteArray), (⟨#[104, 101, 97, 118, 121]⟩ : ByteArray), (⟨#[100, 111, 117, 98, 108, 101]⟩ : ByteArray), (⟨#[100, 111, 117, 98, 108, 101, 108, 111, 110, 103]⟩ : ByteArray), (⟨#[108, 105, 103, 104, 116, 104, 101, 97, 118, 121]⟩ : ByteArray), (⟨#[104, 101, 97, 118, 121, 108, 105, 103, 104, 116]⟩ : ByteArray), (⟨#[108, 105, 103, 104, 116, 100, 111, 117, 98, 108, 101]⟩ : ByteArray), (⟨#[100, 111, 117, 98, 108, 101, 108, 105, 103, 104, 116]⟩ : ByteArray), (⟨#[114, 111, 117, 110, 100, 101, 100]⟩ : ByteArray), (⟨#[109, 97, 114, 107, 100, 111, 119, 110]⟩ : ByteArray), (⟨#[103, 114, 97, 112, 104, 105, 99, 97, 108]⟩ : ByteArray), (⟨#[109, 101, 114, 103, 101, 114]⟩ : ByteArray), (⟨#[]⟩ : ByteArray), (⟨#[100, 111, 116, 116, 101, 100]⟩ : ByteArray), (⟨#[97, 114, 114, 111, 119]⟩ : ByteArray), (⟨#[115, 116, 97, 114, 114, 121]⟩ : ByteArray), (⟨#[104, 101, 97, 114, 116, 115]⟩ : ByteArray), (⟨#[99, 105, 114, 99, 117, 105, 116]⟩ : ByteArray), (⟨#[110, 97, 116, 117, 114, 101]⟩ : ByteArray), (⟨#[97, 114, 116, 105, 115, 116, 105, 99]⟩ : ByteArray), (⟨#[56, 98, 105, 116]⟩ : ByteArray), (⟨#[99, 104, 97, 111, 115]⟩ : ByteArray), (⟨#[100, 111, 116, 115]⟩ : ByteArray), (⟨#[98, 108, 111, 99, 107, 115]⟩ : ByteArray), (⟨#[122, 101, 110]⟩ : ByteArray), (⟨#[118, 105, 110, 116, 97, 103, 101]⟩ : ByteArray), (⟨#[115, 107, 101, 116, 99, 104]⟩ : ByteArray), (⟨#[97, 114, 114, 111, 119, 100, 111, 117, 98, 108, 101]⟩ : ByteArray), (⟨#[99, 101, 108, 101, 115, 116, 105, 97, 108]⟩ : ByteArray), (⟨#[99, 121, 98, 101, 114]⟩ : ByteArray), (⟨#[114, 117, 110, 105, 99]⟩ : ByteArray), (⟨#[105, 110, 100, 117, 115, 116, 114, 105, 97, 108]⟩ : ByteArray), (⟨#[105, 110, 107]⟩ : ByteArray), (⟨#[97, 114, 99, 97, 100, 101]⟩ : ByteArray), (⟨#[98, 108, 111, 115, 115, 111, 109]⟩ : ByteArray), (⟨#[102, 114, 111, 115, 116, 101, 100]⟩ : ByteArray), (⟨#[109, 111, 115, 97, 105, 99]⟩ : ByteArray), (⟨#[117, 102, 111]⟩ : ByteArray), (⟨#[115, 116, 101, 97, 109, 112, 117, 110, 107]⟩ : ByteArray), (⟨#[103, 97, 108, 97, 120, 121]⟩ : ByteArray), (⟨#[106, 97, 122, 122]⟩ : ByteArray), (⟨#[112, 117, 122, 122, 108, 101]⟩ : ByteArray), (⟨#[104, 121, 112, 110, 111]⟩ : ByteArray)] : List ByteArray)) := ⟨_, rfl⟩
  replace H : (some y101) = some r := by first | (rw [hy101]; with_reducible exact H) | (have H2_ := (Option.bind_some _ _).symm.trans H; rw [hy101]; with_reducible exact H2_) | (have H2_ := (Option.bind_some _ _).symm.trans H; with_reducible exact H2_) | with_reducible exact H | (rw [hy101]; exact H) | exact H
  have Ny101 := Aside0.mk hy101
  clear hy101
  obtain rfl := Option.some.inj H
  go_enter Try.func4, Try.ntmps4
  go_wp2_with (first | ((with_reducible refine gate_dst (N := 1) rfl ?_); refine Kd.R_lit Kd.string _ 9 ?hg (N := 1) ?hd (xs := ([(⟨#[110, 111, 116, 104, 105, 110, 103]⟩ : ByteArray), (⟨#[97, 115, 99, 105, 105]⟩ : ByteArray), (⟨#[108, 105, 103, 104, 116]⟩ : ByteArray), (⟨#[104, 101, 97, 118, 121]⟩ : ByteArray), (⟨#[100, 111, 117, 98, 108, 101]⟩ : ByteArray), (⟨#[100, 111, 117, 98, 108, 101, 108, 111, 110, 103]⟩ : ByteArray), (⟨#[108, 105, 103, 104, 116, 104, 101, 97, 118, 121]⟩ : ByteArray), (⟨#[104, 101, 97, 118, 121, 108, 105, 103, 104, 116]⟩ : ByteArray), (⟨#[108, 105, 103, 104, 116, 100, 111, 117, 98, 108, 101]⟩ : ByteArray), (⟨#[100, 111, 117, 98, 108, 101, 108, 105, 103, 104, 116]⟩ : ByteArray), (⟨#[114, 111, 117, 110, 100, 101, 100]⟩ : ByteArray), (⟨#[109, 97, 114, 107, 100, 111, 119, 110]⟩ : ByteArray), (⟨#[103, 114, 97, 112, 104, 105, 99, 97, 108]⟩ : ByteArray), (⟨#[109, 101, 114, 103, 101, 114]⟩ : ByteArray), (⟨#[]⟩ : ByteArray), (⟨#[100, 111, 116, 116, 101, 100]⟩ : ByteArray), (⟨#[97, 114, 114, 111, 119]⟩ : ByteArray), (⟨#[115, 116, 97, 114, 114, 121]⟩ : ByteArray), (⟨#[104, 101, 97, 114, 116, 115]⟩ : ByteArray), (⟨#[99, 105, 114, 99, 117, 105, 116]⟩ : ByteArray), (⟨#[110, 97, 116, 117, 114, 101]⟩ : ByteArray), (⟨#[97, 114, 116, 105, 115, 116, 105, 99]⟩ : ByteArray), (⟨#[56, 98, 105, 116]⟩ : ByteArray), (⟨#[99, 104, 97, 111, 115]⟩ : ByteArray), (⟨#[100, 111, 116, 115]⟩ : ByteArray), (⟨#[98, 108, 111, 99, 107, 115]⟩ : ByteArray), (⟨#[122, 101, 110]⟩ : ByteArray), (⟨#[118, 105, 110, 116, 97, 103, 101]⟩ : ByteArray), (⟨#[115, 107, 101, 116, 99, 104]⟩ : ByteArray), (⟨#[97, 114, 114, 111, 119, 100, 111, 117, 98, 108, 101]⟩ : ByteArray), (⟨#[99, 101, 108, 101, 115, 116, 105, 97, 108]⟩ : ByteArray), (⟨#[99, 121, 98, 101, 114]⟩ : ByteArray), (⟨#[114, 117, 110, 105, 99]⟩ : ByteArray), (⟨#[105, 110, 100, 117, 115, 116, 114, 105, 97, 108]⟩ : ByteArray), (⟨#[105, 110, 107]⟩ : ByteArray), (⟨#[97, 114, 99, 97, 100, 101]⟩ : ByteArray), (⟨#[98, 108, 111, 115, 115, 111, 109]⟩ : ByteArray), (⟨#[102, 114, 111, 115, 116, 101, 100]⟩ : ByteArray), (⟨#[109, 111, 115, 97, 105, 99]⟩ : ByteArray), (⟨#[117, 102, 111]⟩ : ByteArray), (⟨#[115, 116, 101, 97, 109, 112, 117, 110, 107]⟩ : ByteArray), (⟨#[103, 97, 108, 97, 120, 121]⟩ : ByteArray), (⟨#[106, 97, 122, 122]⟩ : ByteArray), (⟨#[112, 117, 122, 122, 108, 101]⟩ : ByteArray), (⟨#[104, 121, 112, 110, 111]⟩ : ByteArray)] : List ByteArray)) (inner := [.string (⟨#[110, 111, 116, 104, 105, 110, 103]⟩ : ByteArray), .string (⟨#[97, 115, 99, 105, 105]⟩ : ByteArray), .string (⟨#[108, 105, 103, 104, 116]⟩ : ByteArray), .string (⟨#[104, 101, 97, 118, 121]⟩ : ByteArray), .string (⟨#[100, 111, 117, 98, 108, 101]⟩ : ByteArray), .string (⟨#[100, 111, 117, 98, 108, 101, 108, 111, 110, 103]⟩ : ByteArray), .string (⟨#[108, 105, 103, 104, 116, 104, 101, 97, 118, 121]⟩ : ByteArray), .string (⟨#[104, 101, 97, 118, 121, 108, 105, 103, 104, 116]⟩ : ByteArray), .string (⟨#[108, 105, 103, 104, 116, 100, 111, 117, 98, 108, 101]⟩ : ByteArray), .string (⟨#[100, 111, 117, 98, 108, 101, 108, 105, 103, 104, 116]⟩ : ByteArray), .string (⟨#[114, 111, 117, 110, 100, 101, 100]⟩ : ByteArray), .string (⟨#[109, 97, 114, 107, 100, 111, 119, 110]⟩ : ByteArray), .string (⟨#[103, 114, 97, 112, 104, 105, 99, 97, 108]⟩ : ByteArray), .string (⟨#[109, 101, 114, 103, 101, 114]⟩ : ByteArray), .string (⟨#[]⟩ : ByteArray), .string (⟨#[100, 111, 116, 116, 101, 100]⟩ : ByteArray), .string (⟨#[97, 114, 114, 111, 119]⟩ : ByteArray), .string (⟨#[115, 116, 97, 114, 114, 121]⟩ : ByteArray), .string (⟨#[104, 101, 97, 114, 116, 115]⟩ : ByteArray), .string (⟨#[99, 105, 114, 99, 117, 105, 116]⟩ : ByteArray), .string (⟨#[110, 97, 116, 117, 114, 101]⟩ : ByteArray), .string (⟨#[97, 114, 116, 105, 115, 116, 105, 99]⟩ : ByteArray), .string (⟨#[56, 98, 105, 116]⟩ : ByteArray), .string (⟨#[99, 104, 97, 111, 115]⟩ : ByteArray), .string (⟨#[100, 111, 116, 115]⟩ : ByteArray), .string (⟨#[98, 108, 111, 99, 107, 115]⟩ : ByteArray), .string (⟨#[122, 101, 110]⟩ : ByteArray), .string (⟨#[118, 105, 110, 116, 97, 103, 101]⟩ : ByteArray), .string (⟨#[115, 107, 101, 116, 99, 104]⟩ : ByteArray), .string (⟨#[97, 114, 114, 111, 119, 100, 111, 117, 98, 108, 101]⟩ : ByteArray), .string (⟨#[99, 101, 108, 101, 115, 116, 105, 97, 108]⟩ : ByteArray), .string (⟨#[99, 121, 98, 101, 114]⟩ : ByteArray), .string (⟨#[114, 117, 110, 105, 99]⟩ : ByteArray), .string (⟨#[105, 110, 100, 117, 115, 116, 114, 105, 97, 108]⟩ : ByteArray), .string (⟨#[105, 110, 107]⟩ : ByteArray), .string (⟨#[97, 114, 99, 97, 100, 101]⟩ : ByteArray), .string (⟨#[98, 108, 111, 115, 115, 111, 109]⟩ : ByteArray), .string (⟨#[102, 114, 111, 115, 116, 101, 100]⟩ : ByteArray), .string (⟨#[109, 111, 115, 97, 105, 99]⟩ : ByteArray), .string (⟨#[117, 102, 111]⟩ : ByteArray), .string (⟨#[115, 116, 101, 97, 109, 112, 117, 110, 107]⟩ : ByteArray), .string (⟨#[103, 97, 108, 97, 120, 121]⟩ : ByteArray), .string (⟨#[106, 97, 122, 122]⟩ : ByteArray), .string (⟨#[112, 117, 122, 122, 108, 101]⟩ : ByteArray), .string (⟨#[104, 121, 112, 110, 111]⟩ : ByteArray)]) (ok := fun _ => True) (okp := fun _ => True) ?hr ?hp (fun _ hk => hk) trivial (Below.refl _ _) (Nat.le_refl _) (by simp) ?_; (case hd => rfl); (case hg => rfl); (case hr => first | (go_simp; done) | (go_simp; rfl)); (case hp => exact (Reps.one (show Kd.M Kd.string _ _ _ (⟨#[110, 111, 116, 104, 105, 110, 103]⟩ : ByteArray) [.string (⟨#[110, 111, 116, 104, 105, 110, 103]⟩ : ByteArray)] from rfl) (Reps.one (show Kd.M Kd.string _ _ _ (⟨#[97, 115, 99, 105, 105]⟩ : ByteArray) [.string (⟨#[97, 115, 99, 105, 105]⟩ : ByteArray)] from rfl) (Reps.one (show Kd.M Kd.string _ _ _ (⟨#[108, 105, 103, 104, 116]⟩ : ByteArray) [.string (⟨#[108, 105, 103, 104, 116]⟩ : ByteArray)] from rfl) (Reps.one (show Kd.M Kd.string _ _ _ (⟨#[104, 101, 97, 118, 121]⟩ : ByteArray) [.string (⟨#[104, 101, 97, 118, 121]⟩ : ByteArray)] from rfl) (Reps.one (show Kd.M Kd.string _ _ _ (⟨#[100, 111, 117, 98, 108, 101]⟩ : ByteArray) [.string (⟨#[100, 111, 117, 98, 108, 101]⟩ : ByteArray)] from rfl) (Reps.one (show Kd.M Kd.string _ _ _ (⟨#[100, 111, 117, 98, 108, 101, 108, 111, 110, 103]⟩ : ByteArray) [.string (⟨#[100, 111, 117, 98, 108, 101, 108, 111, 110, 103]⟩ : ByteArray)] from rfl) (Reps.one (show Kd.M Kd.string _ _ _ (⟨#[108, 105, 103, 104, 116, 104, 101, 97, 118, 121]⟩ : ByteArray) [.string (⟨#[108, 105, 103, 104, 116, 104, 101, 97, 118, 121]⟩ : ByteArray)] from rfl) (Reps.one (show Kd.M Kd.string _ _ _ (⟨#[104, 101, 97, 118, 121, 108, 105, 103, 104, 116]⟩ : ByteArray) [.string (⟨#[104, 101, 97, 118, 121, 108, 105, 103, 104, 116]⟩ : ByteArray)] from rfl) (Reps.one (show Kd.M Kd.string _ _ _ (⟨#[108, 105, 103, 104, 116, 100, 111, 117, 98, 108, 101]⟩ : ByteArray) [.string (⟨#[108, 105, 103, 104, 116, 100, 111, 117, 98, 108, 101]⟩ : ByteArray)] from rfl) (Reps.one (show Kd.M Kd.string _ _ _ (⟨#[100, 111, 117, 98, 108, 101, 108, 105, 103, 104, 116]⟩ : ByteArray) [.string (⟨#[100, 111, 117, 98, 108, 101, 108, 105, 103, 104, 116]⟩ : ByteArray)] from rfl) (Reps.one (show Kd.M Kd.string _ _ _ (⟨#[114, 111, 117, 110, 100, 101, 100]⟩ : ByteArray) [.string (⟨#[114, 111, 117, 110, 100, 101, 100]⟩ : ByteArray)] from rfl) (Reps.one (show Kd.M Kd.string _ _ _ (⟨#[109, 97, 114, 107, 100, 111, 119, 110]⟩ : ByteArray) [.string (⟨#[109, 97, 114, 107, 100, 111, 119, 110]⟩ : ByteArray)] from rfl) (Reps.one (show Kd.M Kd.string _ _ _ (⟨#[103, 114, 97, 112, 104, 105, 99, 97, 108]⟩ : ByteArray) [.string (⟨#[103, 114, 97, 112, 104, 105, 99, 97, 108]⟩ : ByteArray)] from rfl) (Reps.one (show Kd.M Kd.string _ _ _ (⟨#[109, 101, 114, 103, 101, 114]⟩ : ByteArray) [.string (⟨#[109, 101, 114, 103, 101, 114]⟩ : ByteArray)] from rfl) (Reps.one (show Kd.M Kd.string _ _ _ (⟨#[]⟩ : ByteArray) [.string (⟨#[]⟩ : ByteArray)] from rfl) (Reps.one (show Kd.M Kd.string _ _ _ (⟨#[100, 111, 116, 116, 101, 100]⟩ : ByteArray) [.string (⟨#[100, 111, 116, 116, 101, 100]⟩ : ByteArray)] from rfl) (Reps.one (show Kd.M Kd.string _ _ _ (⟨#[97, 114, 114, 111, 119]⟩ : ByteArray) [.string (⟨#[97, 114, 114, 111, 119]⟩ : ByteArray)] from rfl) (Reps.one (show Kd.M Kd.string _ _ _ (⟨#[115, 116, 97, 114, 114, 121]⟩ : ByteArray) [.string (⟨#[115, 116, 97, 114, 114, 121]⟩ : ByteArray)] from rfl) (Reps.one (show Kd.M Kd.string _ _ _ (⟨#[104, 101, 97, 114, 116, 115]⟩ : ByteArray) [.string (⟨#[104, 101, 97, 114, 116, 115]⟩ : ByteArray)] from rfl) (Reps.one (show Kd.M Kd.string _ _ _ (⟨#[99, 105, 114, 99, 117, 105, 116]⟩ : ByteArray) [.string (⟨#[99, 105, 114, 99, 117, 105, 116]⟩ : ByteArray)] from rfl) (Reps.one (show Kd.M Kd.string _ _ _ (⟨#[110, 97, 116, 117, 114, 101]⟩ : ByteArray) [.string (⟨#[110, 97, 116, 117, 114, 101]⟩ : ByteArray)] from rfl) (Reps.one (show Kd.M Kd.string _ _ _ (⟨#[97, 114, 116, 105, 115, 116, 105, 99]⟩ : ByteArray) [.string (⟨#[97, 114, 116, 105, 115, 116, 105, 99]⟩ : ByteArray)] from rfl) (Reps.one (show Kd.M Kd.string _ _ _ (⟨#[56, 98, 105, 116]⟩ : ByteArray) [.string (⟨#[56, 98, 105, 116]⟩ : ByteArray)] from rfl) (Reps.one (show Kd.M Kd.string _ _ _ (⟨#[99, 104, 97, 111, 115]⟩ : ByteArray) [.string (⟨#[99, 104, 97, 111, 115]⟩ : ByteArray)] from rfl) (Reps.one (show Kd.M Kd.string _ _ _ (⟨#[100, 111, 116, 115]⟩ : ByteArray) [.string (⟨#[100, 111, 116, 115]⟩ : ByteArray)] from rfl) (Reps.one (show Kd.M Kd.string _ _ _ (⟨#[98, 108, 111, 99, 107, 115]⟩ : ByteArray) [.string (⟨#[98, 108, 111, 99, 107, 115]⟩ : ByteArray)] from rfl) (Reps.one (show Kd.M Kd.string _ _ _ (⟨#[122, 101, 110]⟩ : ByteArray) [.string (⟨#[122, 101, 110]⟩ : ByteArray)] from rfl) (Reps.one (show Kd.M Kd.string _ _ _ (⟨#[118, 105, 110, 116, 97, 103, 101]⟩ : ByteArray) [.string (⟨#[118, 105, 110, 116, 97, 103, 101]⟩ : ByteArray)] from rfl) (Reps.one (show Kd.M Kd.string _ _ _ (⟨#[115, 107, 101, 116, 99, 104]⟩ : ByteArray) [.string (⟨#[115, 107, 101, 116, 99, 104]⟩ : ByteArray)] from rfl) (Reps.one (show Kd.M Kd.string _ _ _ (⟨#[97, 114, 114, 111, 119, 100, 111, 117, 98, 108, 101]⟩ : ByteArray) [.string (⟨#[97, 114, 114, 111, 119, 100, 111, 117, 98, 108, 101]⟩ : ByteArray)] from rfl) (Reps.one (show Kd.M Kd.string _ _ _ (⟨#[99, 101, 108, 101, 115, 116, 105, 97, 108]⟩ : ByteArray) [.string (⟨#[99, 101, 108, 101, 115, 116, 105, 97, 108]⟩ : ByteArray)] from rfl) (Reps.one (show Kd.M Kd.string _ _ _ (⟨#[99, 121, 98, 101, 114]⟩ : ByteArray) [.string (⟨#[99, 121, 98, 101, 114]⟩ : ByteArray)] from rfl) (Reps.one (show Kd.M Kd.string _ _ _ (⟨#[114, 117, 110, 105, 99]⟩ : ByteArray) [.string (⟨#[114, 117, 110, 105, 99]⟩ : ByteArray)] from rfl) (Reps.one (show Kd.M Kd.string _ _ _ (⟨#[105, 110, 100, 117, 115, 116, 114, 105, 97, 108]⟩ : ByteArray) [.string (⟨#[105, 110, 100, 117, 115, 116, 114, 105, 97, 108]⟩ : ByteArray)] from rfl) (Reps.one (show Kd.M Kd.string _ _ _ (⟨#[105, 110, 107]⟩ : ByteArray) [.string (⟨#[105, 110, 107]⟩ : ByteArray)] from rfl) (Reps.one (show Kd.M Kd.string _ _ _ (⟨#[97, 114, 99, 97, 100, 101]⟩ : ByteArray) [.string (⟨#[97, 114, 99, 97, 100, 101]⟩ : ByteArray)] from rfl) (Reps.one (show Kd.M Kd.string _ _ _ (⟨#[98, 108, 111, 115, 115, 111, 109]⟩ : ByteArray) [.string (⟨#[98, 108, 111, 115, 115, 111, 109]⟩ : ByteArray)] from rfl) (Reps.one (show Kd.M Kd.string _ _ _ (⟨#[102, 114, 111, 115, 116, 101, 100]⟩ : ByteArray) [.string (⟨#[102, 114, 111, 115, 116, 101, 100]⟩ : ByteArray)] from rfl) (Reps.one (show Kd.M Kd.string _ _ _ (⟨#[109, 111, 115, 97, 105, 99]⟩ : ByteArray) [.string (⟨#[109, 111, 115, 97, 105, 99]⟩ : ByteArray)] from rfl) (Reps.one (show Kd.M Kd.string _ _ _ (⟨#[117, 102, 111]⟩ : ByteArray) [.string (⟨#[117, 102, 111]⟩ : ByteArray)] from rfl) (Reps.one (show Kd.M Kd.string _ _ _ (⟨#[115, 116, 101, 97, 109, 112, 117, 110, 107]⟩ : ByteArray) [.string (⟨#[115, 116, 101, 97, 109, 112, 117, 110, 107]⟩ : ByteArray)] from rfl) (Reps.one (show Kd.M Kd.string _ _ _ (⟨#[103, 97, 108, 97, 120, 121]⟩ : ByteArray) [.string (⟨#[103, 97, 108, 97, 120, 121]⟩ : ByteArray)] from rfl) (Reps.one (show Kd.M Kd.string _ _ _ (⟨#[106, 97, 122, 122]⟩ : ByteArray) [.string (⟨#[106, 97, 122, 122]⟩ : ByteArray)] from rfl) (Reps.one (show Kd.M Kd.string _ _ _ (⟨#[112, 117, 122, 122, 108, 101]⟩ : ByteArray) [.string (⟨#[112, 117, 122, 122, 108, 101]⟩ : ByteArray)] from rfl) (Reps.one (show Kd.M Kd.string _ _ _ (⟨#[104, 121, 112, 110, 111]⟩ : ByteArray) [.string (⟨#[104, 121, 112, 110, 111]⟩ : ByteArray)] from rfl) (Reps.none _ _))))))))))))))))))))))))))))))))))))))))))))))); intro v102 w1 ho2 hb hg_ hnew_; clear hg_ hnew_; (first | rw [← Ny101.out] at ho2 | (simp only [Int.reduceToNat] at ho2; rw [← Ny101.out] at ho2)); have n0_ := Aside0.mk (Kd.R_lower ho2 (below_size (by repeat (first | (with_reducible first | exact HB.out | apply below_alloc | apply pw_below_drewN | apply below_drew1) | exact HB.out)))); have n1_ := Aside0.mk (below_step (by repeat (first | (with_reducible first | exact HB.out | apply below_alloc | apply pw_below_drewN | apply below_drew1) | exact HB.out)) hb); clear HB; have HO103 := n0_; have HB := n1_; clear n0_ n1_; clear hb ho2))
  go_ret
  exact ⟨_, by first | rfl | (simp [errW_none, errW_some] <;> rfl) | (simp [*, errW_none, errW_some] <;> rfl), by (with_reducible repeat (first | apply Kd.R_alloc | apply Kd.R_drewN | apply Kd.R_drew)); exact HO103.out, by repeat (first | (with_reducible first | exact HB.out | apply below_alloc | apply pw_below_drewN | apply below_drew1) | exact HB.out)⟩

-- NOT PRINTED: function 8 (impl_symbols)

-- NOT PRINTED: function 9 (tw_NewSymbols)

-- NOT PRINTED: function 5 (impl_TwSymbolsOf)

/-! ### spec_TwBoxes: function 6 -/
mutual
def spec_TwBoxes.j0 : Nat → ByteArray → Option (List ByteArray)
  | 0, _ => none
  | k + 1, x3 => (itr_make.f x3).bind fun bt108 => (spec_TwBoxes.l0 k ([] : List ByteArray) bt108.1 bt108.2)
def spec_TwBoxes.l0 : Nat → List ByteArray → ByteArray → Int → Option (List ByteArray)
  | 0, _, _, _ => none
  | k + 1, x4, x111000, x111001 => if x111001 < (x111000.size : Int) then ((itr_more.f x111000 x111001).bind fun bt111 => (if x4.length < 8796093022208 then (spec_TwBoxes.l0 k (x4 ++ [Utf8.encode bt111.2.1]) x111000 bt111.2.2) else (none))) else ((itr_end.f x111000 x111001).bind fun t117 => (some x4))
end
def spec_TwBoxes.f (k : Nat) (a0 : ByteArray) : Option (List ByteArray) := if a0.toList = ([97, 115, 99, 105, 105] : List UInt8) then (spec_TwBoxes.j0 k (⟨#[43, 45, 124, 43, 43, 43, 43, 43, 43, 43, 43, 43, 43, 43]⟩ : ByteArray)) else (if a0.toList = ([108, 105, 103, 104, 116] : List UInt8) then (spec_TwBoxes.j0 k (⟨#[226, 148, 188, 226, 148, 128, 226, 148, 130, 226, 148, 140, 226, 148, 172, 226, 148, 144, 226, 148, 156, 226, 148, 164, 226, 148, 148, 226, 148, 180, 226, 148, 152, 226, 148, 156, 226, 148, 188, 226, 148, 164]⟩ : ByteArray)) else (if a0.toList = ([104, 101, 97, 118, 121] : List UInt8) then (spec_TwBoxes.j0 k (⟨#[226, 149, 139, 226, 148, 129, 226, 148, 131, 226, 148, 143, 226, 148, 179, 226, 148, 147, 226, 148, 163, 226, 148, 171, 226, 148, 151, 226, 148, 187, 226, 148, 155, 226, 148, 163, 226, 149, 139, 226, 148, 171]⟩ : ByteArray)) else (if a0.toList = ([100, 111, 117, 98, 108, 101] : List UInt8) then (spec_TwBoxes.j0 k (⟨#[226, 149, 172, 226, 149, 144, 226, 149, 145, 226, 149, 148, 226, 149, 166, 226, 149, 151, 226, 149, 160, 226, 149, 163, 226, 149, 154, 226, 149, 169, 226, 149, 157, 226, 149, 160, 226, 149, 172, 226, 149, 163]⟩ : ByteArray)) else (if a0.toList = ([114, 111, 117, 110, 100, 101, 100] : List UInt8) then (spec_TwBoxes.j0 k (⟨#[226, 148, 188, 226, 148, 128, 226, 148, 130, 226, 149, 173, 226, 148, 172, 226, 149, 174, 226, 148, 156, 226, 148, 164, 226, 149, 176, 226, 148, 180, 226, 149, 175, 226, 148, 156, 226, 148, 188, 226, 148, 164]⟩ : ByteArray)) else (if a0.toList = ([110, 111, 116, 104, 105, 110, 103] : List UInt8) then (if 14 ≤ 17592186044416 then (some (List.replicate 14 (⟨#[]⟩ : ByteArray))) else (none)) else (spec_TwBoxes.j0 k (⟨#[]⟩ : ByteArray)))))))
theorem spec_TwBoxes.mono_l : ∀ k, (∀ y0, LeO (spec_TwBoxes.j0 k y0) (spec_TwBoxes.j0 (k + 1) y0)) ∧ (∀ y0 y1 y2, LeO (spec_TwBoxes.l0 k y0 y1 y2) (spec_TwBoxes.l0 (k + 1) y0 y1 y2))
  | 0 => ⟨fun _ r h => by simp [spec_TwBoxes.j0] at h, fun _ _ _ r h => by simp [spec_TwBoxes.l0] at h⟩
  | k + 1 => by
    obtain ⟨ih0, ih1⟩ := spec_TwBoxes.mono_l k
    refine ⟨?_, ?_⟩
    · intro y0
      unfold spec_TwBoxes.j0
      repeat' first
      | (with_reducible exact ih0 _)
      | (with_reducible exact ih1 _ _ _)
      | (with_reducible exact LeO.refl _)
      | (with_reducible exact LeO.none _)
      | (with_reducible refine LeO.ite ?_ ?_)
      | (with_reducible refine LeO.bind ?_ (fun _ => ?_))
      | exact ih0 _
      | exact ih1 _ _ _
      | exact LeO.none _
      | refine LeO.ite ?_ ?_
      | refine LeO.bind ?_ (fun _ => ?_)
    · intro y0 y1 y2
      unfold spec_TwBoxes.l0
      repeat' first
      | (with_reducible exact ih0 _)
      | (with_reducible exact ih1 _ _ _)
      | (with_reducible exact LeO.refl _)
      | (with_reducible exact LeO.none _)
      | (with_reducible refine LeO.ite ?_ ?_)
      | (with_reducible refine LeO.bind ?_ (fun _ => ?_))
      | exact ih0 _
      | exact ih1 _ _ _
      | exact LeO.none _
      | refine LeO.ite ?_ ?_
      | refine LeO.bind ?_ (fun _ => ?_)
theorem spec_TwBoxes.mono : ∀ a0 k, LeO (spec_TwBoxes.f k a0) (spec_TwBoxes.f (k + 1) a0) := by
  intro a0 k
  obtain ⟨ih0, ih1⟩ := spec_TwBoxes.mono_l k
  unfold spec_TwBoxes.f
  repeat' first
      | (with_reducible exact ih0 _)
      | (with_reducible exact ih1 _ _ _)
      | (with_reducible exact LeO.refl _)
      | (with_reducible exact LeO.none _)
      | (with_reducible refine LeO.ite ?_ ?_)
      | (with_reducible refine LeO.bind ?_ (fun _ => ?_))
      | exact ih0 _
      | exact ih1 _ _ _
      | exact LeO.none _
      | refine LeO.ite ?_ ?_
      | refine LeO.bind ?_ (fun _ => ?_)
set_option maxHeartbeats 8000000 in
set_option maxRecDepth 100000 in
theorem spec_TwBoxes.calls (k : Nat) (a0 : ByteArray) (r : List ByteArray) (w : World) (h : spec_TwBoxes.f k a0 = some r) :
    Calls Try.prog 6 #[.string a0] w fun e w' => ∃ v0_ : Value, e = .returned (v0_) ∧ Kd.R Kd.string 9 w' w.heap.size (fun _ => True) v0_ r ∧ Below w.heap.size w w' := by
  have HB := Aside0.mk (Below.refl w.heap.size w)
  have H : (if a0.toList = ([97, 115, 99, 105, 105] : List UInt8) then (spec_TwBoxes.j0 k (⟨#[43, 45, 124, 43, 43, 43, 43, 43, 43, 43, 43, 43, 43, 43]⟩ : ByteArray)) else (if a0.toList = ([108, 105, 103, 104, 116] : List UInt8) then (spec_TwBoxes.j0 k (⟨#[226, 148, 188, 226, 148, 128, 226, 148, 130, 226, 148, 140, 226, 148, 172, 226, 148, 144, 226, 148, 156, 226, 148, 164, 226, 148, 148, 226, 148, 180, 226, 148, 152, 226, 148, 156, 226, 148, 188, 226, 148, 164]⟩ : ByteArray)) else (if a0.toList = ([104, 101, 97, 118, 121] : List UInt8) then (spec_TwBoxes.j0 k (⟨#[226, 149, 139, 226, 148, 129, 226, 148, 131, 226, 148, 143, 226, 148, 179, 226, 148, 147, 226, 148, 163, 226, 148, 171, 226, 148, 151, 226, 148, 187, 226, 148, 155, 226, 148, 163, 226, 149, 139, 226, 148, 171]⟩ : ByteArray)) else (if a0.toList = ([100, 111, 117, 98, 108, 101] : List UInt8) then (spec_TwBoxes.j0 k (⟨#[226, 149, 172, 226, 149, 144, 226, 149, 145, 226, 149, 148, 226, 149, 166, 226, 149, 151, 226, 149, 160, 226, 149, 163, 226, 149, 154, 226, 149, 169, 226, 149, 157, 226, 149, 160, 226, 149, 172, 226, 149, 163]⟩ : ByteArray)) else (if a0.toList = ([114, 111, 117, 110, 100, 101, 100] : List UInt8) then (spec_TwBoxes.j0 k (⟨#[226, 148, 188, 226, 148, 128, 226, 148, 130, 226, 149, 173, 226, 148, 172, 226, 149, 174, 226, 148, 156, 226, 148, 164, 226, 149, 176, 226, 148, 180, 226, 149, 175, 226, 148, 156, 226, 148, 188, 226, 148, 164]⟩ : ByteArray)) else (if a0.toList = ([110, 111, 116, 104, 105, 110, 103] : List UInt8) then (if 14 ≤ 17592186044416 then (some (List.replicate 14 (⟨#[]⟩ : ByteArray))) else (none)) else (spec_TwBoxes.j0 k (⟨#[]⟩ : ByteArray)))))))) = some r := h
  clear h
  have HC2 := Aside0.mk H
  clear H
  go_enter Try.func6, Try.ntmps6
  go_upto_block 0 with (fail)
  go_cut [3] (fun v3 wc => ∃ (kq : Nat) (x3_1 : ByteArray), v3 = .string x3_1 ∧ Aside0 (spec_TwBoxes.j0 kq x3_1 = some r) ∧ Aside0 (kq ≤ k) ∧ Aside0 (Below w.heap.size w wc))
  case first =>
    have H := HC2.out
    clear HC2
    by_cases c3 : a0.toList = ([97, 115, 99, 105, 105] : List UInt8)
    · rw [if_pos c3] at H
      have c3b0 : (a0.toList == ([97, 115, 99, 105, 105] : List UInt8)) = true := beq_iff_eq.mpr c3
      have c3b1 : (a0.toList != ([97, 115, 99, 105, 105] : List UInt8)) = false := bne_eq_false_iff_eq.mpr c3
      clear c3
      (first | rw [c3b0] | (simp only [i64_w, i32_w]; rw [c3b0]) | skip)
      have H' := Aside0.mk H
      clear H
      go_wp2
      go_meet
      case rel => exact ⟨_, ((⟨#[43, 45, 124, 43, 43, 43, 43, 43, 43, 43, 43, 43, 43, 43]⟩ : ByteArray)), (by first | rfl | (simp; done) | (simp [*]; done)), H', ⟨by first | omega | exact Nat.le_refl _⟩, ⟨by repeat (first | (with_reducible first | exact HB.out | apply below_alloc | apply pw_below_drewN | apply below_drew1) | exact HB.out)⟩⟩
    · rw [if_neg c3] at H
      have c3b0 : (a0.toList == ([97, 115, 99, 105, 105] : List UInt8)) = false := beq_eq_false_iff_ne.mpr c3
      have c3b1 : (a0.toList != ([97, 115, 99, 105, 105] : List UInt8)) = true := bne_iff_ne.mpr c3
      (first | rw [c3b0] | (simp only [i64_w, i32_w]; rw [c3b0]) | skip)
      by_cases c4 : a0.toList = ([108, 105, 103, 104, 116] : List UInt8)
      · rw [if_pos c4] at H
        have c4b0 : (a0.toList == ([108, 105, 103, 104, 116] : List UInt8)) = true := beq_iff_eq.mpr c4
        have c4b1 : (a0.toList != ([108, 105, 103, 104, 116] : List UInt8)) = false := bne_eq_false_iff_eq.mpr c4
        clear c4
        have H' := Aside0.mk H
        clear H
        go_wp2
        go_meet
        case rel => exact ⟨_, ((⟨#[226, 148, 188, 226, 148, 128, 226, 148, 130, 226, 148, 140, 226, 148, 172, 226, 148, 144, 226, 148, 156, 226, 148, 164, 226, 148, 148, 226, 148, 180, 226, 148, 152, 226, 148, 156, 226, 148, 188, 226, 148, 164]⟩ : ByteArray)), (by first | rfl | (simp; done) | (simp [*]; done)), H', ⟨by first | omega | exact Nat.le_refl _⟩, ⟨by repeat (first | (with_reducible first | exact HB.out | apply below_alloc | apply pw_below_drewN | apply below_drew1) | exact HB.out)⟩⟩
      · rw [if_neg c4] at H
        have c4b0 : (a0.toList == ([108, 105, 103, 104, 116] : List UInt8)) = false := beq_eq_false_iff_ne.mpr c4
        have c4b1 : (a0.toList != ([108, 105, 103, 104, 116] : List UInt8)) = true := bne_iff_ne.mpr c4
        by_cases c5 : a0.toList = ([104, 101, 97, 118, 121] : List UInt8)
        · rw [if_pos c5] at H
          have c5b0 : (a0.toList == ([104, 101, 97, 118, 121] : List UInt8)) = true := beq_iff_eq.mpr c5
          have c5b1 : (a0.toList != ([104, 101, 97, 118, 121] : List UInt8)) = false := bne_eq_false_iff_eq.mpr c5
          clear c5
          have H' := Aside0.mk H
          clear H
          go_wp2
          go_meet
          case rel => exact ⟨_, ((⟨#[226, 149, 139, 226, 148, 129, 226, 148, 131, 226, 148, 143, 226, 148, 179, 226, 148, 147, 226, 148, 163, 226, 148, 171, 226, 148, 151, 226, 148, 187, 226, 148, 155, 226, 148, 163, 226, 149, 139, 226, 148, 171]⟩ : ByteArray)), (by first | rfl | (simp; done) | (simp [*]; done)), H', ⟨by first | omega | exact Nat.le_refl _⟩, ⟨by repeat (first | (with_reducible first | exact HB.out | apply below_alloc | apply pw_below_drewN | apply below_drew1) | exact HB.out)⟩⟩
        · rw [if_neg c5] at H
          have c5b0 : (a0.toList == ([104, 101, 97, 118, 121] : List UInt8)) = false := beq_eq_false_iff_ne.mpr c5
          have c5b1 : (a0.toList != ([104, 101, 97, 118, 121] : List UInt8)) = true := bne_iff_ne.mpr c5
          by_cases c6 : a0.toList = ([100, 111, 117, 98, 108, 101] : List UInt8)
          · rw [if_pos c6] at H
            have c6b0 : (a0.toList == ([100, 111, 117, 98, 108, 101] : List UInt8)) = true := beq_iff_eq.mpr c6
            have c6b1 : (a0.toList != ([100, 111, 117, 98, 108, 101] : List UInt8)) = false := bne_eq_false_iff_eq.mpr c6
            clear c6
            have H' := Aside0.mk H
            clear H
            go_wp2
            go_meet
            case rel => exact ⟨_, ((⟨#[226, 149, 172, 226, 149, 144, 226, 149, 145, 226, 149, 148, 226, 149, 166, 226, 149, 151, 226, 149, 160, 226, 149, 163, 226, 149, 154, 226, 149, 169, 226, 149, 157, 226, 149, 160, 226, 149, 172, 226, 149, 163]⟩ : ByteArray)), (by first | rfl | (simp; done) | (simp [*]; done)), H', ⟨by first | omega | exact Nat.le_refl _⟩, ⟨by repeat (first | (with_reducible first | exact HB.out | apply below_alloc | apply pw_below_drewN | apply below_drew1) | exact HB.out)⟩⟩
          · rw [if_neg c6] at H
            have c6b0 : (a0.toList == ([100, 111, 117, 98, 108, 101] : List UInt8)) = false := beq_eq_false_iff_ne.mpr c6
            have c6b1 : (a0.toList != ([100, 111, 117, 98, 108, 101] : List UInt8)) = true := bne_iff_ne.mpr c6
            by_cases c7 : a0.toList = ([114, 111, 117, 110, 100, 101, 100] : List UInt8)
            · rw [if_pos c7] at H
              have c7b0 : (a0.toList == ([114, 111, 117, 110, 100, 101, 100] : List UInt8)) = true := beq_iff_eq.mpr c7
              have c7b1 : (a0.toList != ([114, 111, 117, 110, 100, 101, 100] : List UInt8)) = false := bne_eq_false_iff_eq.mpr c7
              clear c7
              have H' := Aside0.mk H
              clear H
              go_wp2
              go_meet
              case rel => exact ⟨_, ((⟨#[226, 148, 188, 226, 148, 128, 226, 148, 130, 226, 149, 173, 226, 148, 172, 226, 149, 174, 226, 148, 156, 226, 148, 164, 226, 149, 176, 226, 148, 180, 226, 149, 175, 226, 148, 156, 226, 148, 188, 226, 148, 164]⟩ : ByteArray)), (by first | rfl | (simp; done) | (simp [*]; done)), H', ⟨by first | omega | exact Nat.le_refl _⟩, ⟨by repeat (first | (with_reducible first | exact HB.out | apply below_alloc | apply pw_below_drewN | apply below_drew1) | exact HB.out)⟩⟩
            · rw [if_neg c7] at H
              have c7b0 : (a0.toList == ([114, 111, 117, 110, 100, 101, 100] : List UInt8)) = false := beq_eq_false_iff_ne.mpr c7
              have c7b1 : (a0.toList != ([114, 111, 117, 110, 100, 101, 100] : List UInt8)) = true := bne_iff_ne.mpr c7
              by_cases c8 : a0.toList = ([110, 111, 116, 104, 105, 110, 103] : List UInt8)
              · rw [if_pos c8] at H
                have c8b0 : (a0.toList == ([110, 111, 116, 104, 105, 110, 103] : List UInt8)) = true := beq_iff_eq.mpr c8
                have c8b1 : (a0.toList != ([110, 111, 116, 104, 105, 110, 103] : List UInt8)) = false := bne_eq_false_iff_eq.mpr c8
                clear c8
                by_cases c9 : 14 ≤ 17592186044416
                · rw [if_pos c9] at H
                  have c9b0 := eq_true c9
                  have c9b1 : decide (14 ≤ 17592186044416) = true := decide_eq_true c9
                  clear c9
                  obtain ⟨y105, hy105⟩ : ∃ y_ : List ByteArray, y_ = (List.replicate 14 (⟨#[]⟩ : ByteArray)) := ⟨_, rfl⟩
                  replace H : (some y105) = some r := by first | (rw [hy105]; with_reducible exact H) | (have H2_ := (Option.bind_some _ _).symm.trans H; rw [hy105]; with_reducible exact H2_) | (have H2_ := (Option.bind_some _ _).symm.trans H; with_reducible exact H2_) | with_reducible exact H | (rw [hy105]; exact H) | exact H
                  have Ny105 := Aside0.mk hy105
                  clear hy105
                  obtain rfl := Option.some.inj H
                  go_wp2_with (first | ((with_reducible refine gate_dst (N := 20) rfl ?_); refine Kd.R_make Kd.string _ 9 rfl (N := 20) rfl 22 _ _ rfl 14 rfl rfl Try.underlying22 (.string ⟨#[]⟩) 16 info9 rfl (by decide) (by omega) (⟨#[]⟩ : ByteArray) (ok := fun _ => True) (okp := fun _ => True) rfl (fun _ hk => hk) trivial (by omega) (by omega) (Below.refl _ _) (Nat.le_refl _) ?_; intro v106 w10 ho11 hb hg_ hnew_; clear hg_ hnew_; (first | rw [← Ny105.out] at ho11 | (simp only [Int.reduceToNat] at ho11; rw [← Ny105.out] at ho11)); have n0_ := Aside0.mk (Kd.R_lower ho11 (below_size (by repeat (first | (with_reducible first | exact HB.out | apply below_alloc | apply pw_below_drewN | apply below_drew1) | exact HB.out)))); have n1_ := Aside0.mk (below_step (by repeat (first | (with_reducible first | exact HB.out | apply below_alloc | apply pw_below_drewN | apply below_drew1) | exact HB.out)) hb); clear HB; have HO107 := n0_; have HB := n1_; clear n0_ n1_; clear hb ho11))
                  go_ret
                  exact ⟨_, by first | rfl | (simp [errW_none, errW_some] <;> rfl) | (simp [*, errW_none, errW_some] <;> rfl), by (with_reducible repeat (first | apply Kd.R_alloc | apply Kd.R_drewN | apply Kd.R_drew)); exact HO107.out, by repeat (first | (with_reducible first | exact HB.out | apply below_alloc | apply pw_below_drewN | apply below_drew1) | exact HB.out)⟩
                · rw [if_neg c9] at H
                  exact absurd H (by simp)
              · rw [if_neg c8] at H
                have c8b0 : (a0.toList == ([110, 111, 116, 104, 105, 110, 103] : List UInt8)) = false := beq_eq_false_iff_ne.mpr c8
                have c8b1 : (a0.toList != ([110, 111, 116, 104, 105, 110, 103] : List UInt8)) = true := bne_iff_ne.mpr c8
                have H' := Aside0.mk H
                clear H
                go_wp2
                go_meet
                case rel => exact ⟨_, ((⟨#[]⟩ : ByteArray)), (by first | rfl | (simp; done) | (simp [*]; done)), H', ⟨by first | omega | exact Nat.le_refl _⟩, ⟨by repeat (first | (with_reducible first | exact HB.out | apply below_alloc | apply pw_below_drewN | apply below_drew1) | exact HB.out)⟩⟩
  case rest =>
    clear HC2
    try clear p2
    try clear c3
    try clear c3b0
    try clear c3b1
    try clear c4
    try clear c4b0
    try clear c4b1
    try clear c5
    try clear c5b0
    try clear c5b1
    try clear c6
    try clear c6b0
    try clear c6b1
    try clear c7
    try clear c7b0
    try clear c7b1
    try clear c8
    try clear c8b0
    try clear c8b1
    try clear c9
    try clear c9b0
    try clear c9b1
    obtain ⟨kq, x3_1, rfl, HA, HJ1, HB⟩ := hcut
    cases kq with
    | zero => exact absurd HA.out (by simp [spec_TwBoxes.j0])
    | succ kj1 =>
      have H := HA.out
      clear HA
      simp only [spec_TwBoxes.j0] at H
      replace H := Option.bind_eq_some_iff.mp H
      obtain ⟨⟨t108, t109⟩, A120, H⟩ := H
      replace H : (spec_TwBoxes.l0 kj1 ([] : List ByteArray) t108 t109) = some r := H
      have A12 := Aside0.mk A120
      clear A120
      have H' := Aside0.mk H
      clear H
      go_wp2_with (first | ((with_reducible refine gate_dst (N := 22) rfl ?_); refine rangeL_ (some 22) rfl rfl rfl Try.underlying9 x3_1 rfl ?_; (with_reducible refine (itr_make.calls x3_1 t108 t109 w _ ?side1 A12.out).mono ?_); (case side1 => repeat (first | (with_reducible first | exact HB.out | apply below_alloc | apply pw_below_drewN | apply below_drew1) | exact HB.out)); rintro e w13 ⟨g110, rfl, hi, hb, hb2, hge⟩; refine ⟨_, rfl, ?_⟩; have n0_ := Aside0.mk (hb); have n1_ := Aside0.mk (hi); clear HB; have HB := n0_; have HI110 := n1_; clear n0_ n1_; (try clear hb); (try clear hb2); (try clear hk); (try clear hi)))
      (try simp only [Act.put, List.setIfInBounds_toArray, List.set_cons_zero, List.set_cons_succ])
      go_loopg [4] kj1 (fun kq v4 w' => ∃ (x4_2 : List ByteArray) (x111001_2 : Int), Aside0 (spec_TwBoxes.l0 kq x4_2 t108 x111001_2 = some r) ∧ Aside0 (kq ≤ kj1) ∧ Aside0 (Kd.R Kd.string 9 w' w.heap.size (fun _ => True) v4 x4_2) ∧ Aside0 (IsS57 w w' g110 t108 x111001_2) ∧ Aside0 (Below w.heap.size w w'))
      case atStart => exact ⟨(([] : List ByteArray)), (t109), H', ⟨Nat.le_refl _⟩, ⟨by first | exact Kd.R_nil _ _ _ _ _ | exact Kd.N_nil _ _ _ _ _ | exact Kd.V_nil _ _ _ _ _ | exact Kd.Q_nil _ _ _ _ _ | exact Kd.S_nil _ _ _ _ _⟩, ⟨by repeat (first | (with_reducible first | exact HI110.out | apply IsS57.alloc | apply IsS57.drewN | apply IsS57.drew | apply IsS57.set_1) | exact HI110.out)⟩, ⟨by repeat (first | (with_reducible first | exact HB.out | apply below_alloc | apply pw_below_drewN | apply below_drew1 | refine below_set ?_ (IsS57.ge HI110.out)) | exact HB.out)⟩⟩
      case round =>
        clear H'
        try clear p2
        try clear c3
        try clear c3b0
        try clear c3b1
        try clear c4
        try clear c4b0
        try clear c4b1
        try clear c5
        try clear c5b0
        try clear c5b1
        try clear c6
        try clear c6b0
        try clear c6b1
        try clear c7
        try clear c7b0
        try clear c7b1
        try clear c8
        try clear c8b0
        try clear c8b1
        try clear c9
        try clear c9b0
        try clear c9b1
        try clear p2
        obtain ⟨x4_2, x111001_2, HA, HK2, HO_4, HI110, HB⟩ := hrel
        cases gk with
        | zero => exact absurd HA.out (by simp [spec_TwBoxes.l0])
        | succ k2 =>
          have H := HA.out
          clear HA
          simp only [spec_TwBoxes.l0] at H
          by_cases c14 : x111001_2 < (t108.size : Int)
          · rw [if_pos c14] at H
            have c14b0 : decide (x111001_2 < (t108.size : Int)) = true := decide_eq_true c14
            clear c14
            replace H := Option.bind_eq_some_iff.mp H
            obtain ⟨⟨t111, t112, t113⟩, A150, H⟩ := H
            replace H : (if x4_2.length < 8796093022208 then (spec_TwBoxes.l0 k2 (x4_2 ++ [Utf8.encode t112]) t108 t113) else (none)) = some r := H
            have A15 := Aside0.mk A150
            clear A150
            by_cases c16 : x4_2.length < 8796093022208
            · rw [if_pos c16] at H
              have LMc16 := Aside0.mk c16
              clear c16
              obtain ⟨y114, hy114⟩ : ∃ y_ : List ByteArray, y_ = (x4_2 ++ [Utf8.encode t112]) := ⟨_, rfl⟩
              replace H : (spec_TwBoxes.l0 k2 y114 t108 t113) = some r := by first | (rw [hy114]; with_reducible exact H) | (have H2_ := (Option.bind_some _ _).symm.trans H; rw [hy114]; with_reducible exact H2_) | (have H2_ := (Option.bind_some _ _).symm.trans H; with_reducible exact H2_) | with_reducible exact H | (rw [hy114]; exact H) | exact H
              have Ny114 := Aside0.mk hy114
              clear hy114
              have H' := Aside0.mk H
              clear H
              go_wp2_with (first | ((with_reducible refine gate_dst (N := 23) rfl ?_); refine nextL_ (some 23) rfl rfl rfl (.pointer (some ⟨g110, 0, none⟩)) rfl ?_; (with_reducible refine (itr_more.calls g110 t108 x111001_2 t111 t112 t113 w _ ?side1 ?side2 A15.out).mono ?_); (case side1 => repeat (first | (with_reducible first | exact HI110.out | apply IsS57.alloc | apply IsS57.drewN | apply IsS57.drew | apply IsS57.set_1) | exact HI110.out)); (case side2 => repeat (first | (with_reducible first | exact HB.out | apply below_alloc | apply pw_below_drewN | apply below_drew1 | refine below_set ?_ (IsS57.ge HI110.out)) | exact HB.out)); rintro e w17 ⟨rfl, hi, hb, hk⟩; refine ⟨_, rfl, ?_⟩; have n0_ := Aside0.mk (Kd.R_mono (Kd.R_keep (IsS57.apart (show IsS57 w _ g110 t108 x111001_2 from by repeat (first | (with_reducible first | exact HI110.out | apply IsS57.alloc | apply IsS57.drewN | apply IsS57.drew | apply IsS57.set_1) | exact HI110.out)) (by (with_reducible repeat (first | apply Kd.R_alloc | apply Kd.R_drewN | apply Kd.R_drew)); exact HO_4.out) (by decide)) hk (fun _ h => h.2)) (fun _ h => h.1)); have n1_ := Aside0.mk (hb); have n2_ := Aside0.mk (hi); clear HO_4; clear HB; clear HI110; have HO_4 := n0_; have HB := n1_; have HI110 := n2_; clear n0_ n1_ n2_; (try clear hb); (try clear hb2); (try clear hk); (try clear hi)) | ((with_reducible refine gate_builtin (b := .append) (xs := #[.tmp 26, .tmp 29]) rfl ?_); at_builtin; refine Kd.R_append Kd.string (w0 := w) w.heap.size rfl (.tmp 26) (.tmp 29) 22 9 (.string ⟨#[]⟩) 16 rfl Try.underlying22 info9 rfl (by decide) (by omega) u4 x4_2 (Utf8.encode t112) [.string (Utf8.encode t112)] (fun _ => True) (fun _ => False) rfl rfl ?aP (fun _ hk => hk.elim) ?aF ?aO ?aB ?aS ?aL ?_; (case aP => exact rfl); (case aB => exact (by repeat (first | (with_reducible first | exact HB.out | apply below_alloc | apply pw_below_drewN | apply below_drew1 | refine below_set ?_ (IsS57.ge HI110.out)) | exact HB.out))); (case aF => exact (fun _ _ => trivial)); (case aO => exact (by (with_reducible repeat (first | apply Kd.R_alloc | apply Kd.R_drewN | apply Kd.R_drew)); exact HO_4.out)); (case aS => exact (below_size (by repeat (first | (with_reducible first | exact HB.out | apply below_alloc | apply pw_below_drewN | apply below_drew1 | refine below_set ?_ (IsS57.ge HI110.out)) | exact HB.out)))); (case aL => have := LMc16.out; omega); intro v115 w18 ho hb hg hat; rw [← Ny114.out] at ho; have n0_ := Aside0.mk (IsS57.grown (by repeat (first | (with_reducible first | exact HI110.out | apply IsS57.alloc | apply IsS57.drewN | apply IsS57.drew | apply IsS57.set_1) | exact HI110.out)) hg (IsS57.own_ne HI110.out HO_4.out (by decide))); have n1_ := Aside0.mk (hb); have n2_ := Aside0.mk (ho); clear HI110; clear HB; clear HO_4; have HI110 := n0_; have HB := n1_; have HO116 := n2_; clear n0_ n1_ n2_; clear ho hb hg hat))
              go_roundg k2
              case measure => have := HJ1.out; have := HK2.out; omega
              case rel => exact ⟨(y114), (t113), H', ⟨by have := HJ1.out; have := HK2.out; omega⟩, ⟨by (with_reducible repeat (first | apply Kd.R_alloc | apply Kd.R_drewN | apply Kd.R_drew)); exact HO116.out⟩, ⟨by repeat (first | (with_reducible first | exact HI110.out | apply IsS57.alloc | apply IsS57.drewN | apply IsS57.drew | apply IsS57.set_1) | exact HI110.out)⟩, ⟨by repeat (first | (with_reducible first | exact HB.out | apply below_alloc | apply pw_below_drewN | apply below_drew1 | refine below_set ?_ (IsS57.ge HI110.out)) | exact HB.out)⟩⟩
            · rw [if_neg c16] at H
              exact absurd H (by simp)
          · rw [if_neg c14] at H
            have c14b0 : decide (x111001_2 < (t108.size : Int)) = false := decide_eq_false c14
            clear c14
            replace H := Option.bind_eq_some_iff.mp H
            obtain ⟨t117, A190, H⟩ := H
            replace H : (some x4_2) = some r := H
            have A19 := Aside0.mk A190
            clear A190
            obtain rfl := Option.some.inj H
            go_wp2_with (first | ((with_reducible refine gate_dst (N := 23) rfl ?_); refine nextL_ (some 23) rfl rfl rfl (.pointer (some ⟨g110, 0, none⟩)) rfl ?_; (with_reducible refine (itr_end.calls g110 t108 x111001_2 t117 w _ ?side1 ?side2 A19.out).mono ?_); (case side1 => repeat (first | (with_reducible first | exact HI110.out | apply IsS57.alloc | apply IsS57.drewN | apply IsS57.drew | apply IsS57.set_1) | exact HI110.out)); (case side2 => repeat (first | (with_reducible first | exact HB.out | apply below_alloc | apply pw_below_drewN | apply below_drew1 | refine below_set ?_ (IsS57.ge HI110.out)) | exact HB.out)); rintro e w20 ⟨rfl, hi, hb, hk⟩; refine ⟨_, rfl, ?_⟩; have n0_ := Aside0.mk (Kd.R_mono (Kd.R_keep (IsS57.apart (show IsS57 w _ g110 t108 x111001_2 from by repeat (first | (with_reducible first | exact HI110.out | apply IsS57.alloc | apply IsS57.drewN | apply IsS57.drew | apply IsS57.set_1) | exact HI110.out)) (by (with_reducible repeat (first | apply Kd.R_alloc | apply Kd.R_drewN | apply Kd.R_drew)); exact HO_4.out) (by decide)) hk (fun _ h => h.2)) (fun _ h => h.1)); have n1_ := Aside0.mk (hb); have n2_ := Aside0.mk (hi); clear HO_4; clear HB; clear HI110; have HO_4 := n0_; have HB := n1_; have HI110 := n2_; clear n0_ n1_ n2_; (try clear hb); (try clear hb2); (try clear hk); (try clear hi)))
            go_ret
            exact ⟨_, by first | rfl | (simp [errW_none, errW_some] <;> rfl) | (simp [*, errW_none, errW_some] <;> rfl), by (with_reducible repeat (first | apply Kd.R_alloc | apply Kd.R_drewN | apply Kd.R_drew)); exact HO_4.out, by repeat (first | (with_reducible first | exact HB.out | apply below_alloc | apply pw_below_drewN | apply below_drew1 | refine below_set ?_ (IsS57.ge HI110.out)) | exact HB.out)⟩

/-! ### spec_TwTexts: function 7 -/
def spec_TwTexts.l0 : Nat → List ByteArray → List ByteArray → Int → Option (Bool)
  | 0, _, _, _ => none
  | k + 1, x0, x1, x5 => if x5 < (x0.length : Int) then (if 0 ≤ x5 then (if x5 < (x1.length : Int) then (if (rdOf ByteArray.empty x0 x5).toList = (rdOf ByteArray.empty x1 x5).toList then (spec_TwTexts.l0 k x0 x1 (wrap64 (x5 + 1))) else (some false)) else (none)) else (none)) else (some true)
def spec_TwTexts.f (k : Nat) (l0 : List ByteArray) (l1 : List ByteArray) : Option (Bool) := if (l0.length : Int) = (l1.length : Int) then (spec_TwTexts.l0 k l0 l1 0) else (some false)
theorem spec_TwTexts.mono_l : ∀ k, (∀ y0 y1 y2, LeO (spec_TwTexts.l0 k y0 y1 y2) (spec_TwTexts.l0 (k + 1) y0 y1 y2))
  | 0 => fun _ _ _ r h => by simp [spec_TwTexts.l0] at h
  | k + 1 => by
    have ih0 := spec_TwTexts.mono_l k
    · intro y0 y1 y2
      unfold spec_TwTexts.l0
      repeat' first
      | (with_reducible exact ih0 _ _ _)
      | (with_reducible exact LeO.refl _)
      | (with_reducible exact LeO.none _)
      | (with_reducible refine LeO.ite ?_ ?_)
      | (with_reducible refine LeO.bind ?_ (fun _ => ?_))
      | exact ih0 _ _ _
      | exact LeO.none _
      | refine LeO.ite ?_ ?_
      | refine LeO.bind ?_ (fun _ => ?_)
theorem spec_TwTexts.mono : ∀ a0 a1 k, LeO (spec_TwTexts.f k a0 a1) (spec_TwTexts.f (k + 1) a0 a1) := by
  intro a0 a1 k
  have ih0 := spec_TwTexts.mono_l k
  unfold spec_TwTexts.f
  repeat' first
      | (with_reducible exact ih0 _ _ _)
      | (with_reducible exact LeO.refl _)
      | (with_reducible exact LeO.none _)
      | (with_reducible refine LeO.ite ?_ ?_)
      | (with_reducible refine LeO.bind ?_ (fun _ => ?_))
      | exact ih0 _ _ _
      | exact LeO.none _
      | refine LeO.ite ?_ ?_
      | refine LeO.bind ?_ (fun _ => ?_)
set_option maxHeartbeats 8000000 in
set_option maxRecDepth 100000 in
theorem spec_TwTexts.calls (k : Nat) (A0 : Option Addr) (c0 : Nat) (l0 : List ByteArray) (A1 : Option Addr) (c1 : Nat) (l1 : List ByteArray) (r : Bool) (w : World) (hr0 : Kd.C Kd.string w A0 l0.length l0) (hc0 : l0.length ≤ c0) (hr1 : Kd.C Kd.string w A1 l1.length l1) (hc1 : l1.length ≤ c1) (h : spec_TwTexts.f k l0 l1 = some r) :
    Calls Try.prog 7 #[.slice A0 l0.length c0, .slice A1 l1.length c1] w fun e w' => e = .returned (.bool r) ∧ Drawn0 w w' := by
  have HR0 := Aside0.mk hr0
  have HC0 := Aside0.mk hc0
  clear hr0 hc0
  have HR1 := Aside0.mk hr1
  have HC1 := Aside0.mk hc1
  clear hr1 hc1
  have H : (if (l0.length : Int) = (l1.length : Int) then (spec_TwTexts.l0 k l0 l1 0) else (some false)) = some r := h
  clear h
  by_cases c3 : (l0.length : Int) = (l1.length : Int)
  · rw [if_pos c3] at H
    have c3b0 : ((l0.length : Int) == (l1.length : Int)) = true := beq_iff_eq.mpr c3
    have c3b1 : ((l0.length : Int) != (l1.length : Int)) = false := bne_eq_false_iff_eq.mpr c3
    have c3b2 : (l0.length == l1.length) = true := by first | simpa using c3 | (simp at c3 ⊢; omega)
    clear c3
    have H' := Aside0.mk H
    clear H
    go_enter Try.func7, Try.ntmps7
    go_wp2
    repeat (go_quiet (fail); try go_wp2)
    (try simp only [Act.put, List.setIfInBounds_toArray, List.set_cons_zero, List.set_cons_succ])
    go_loopg [5] k (fun kq v5 w' => ∃ (x5_1 : Int), v5 = .int .i64 x5_1 ∧ Aside0 (spec_TwTexts.l0 kq l0 l1 x5_1 = some r) ∧ Aside0 (kq ≤ k) ∧ Drawn0 w w')
    case atStart => exact ⟨(0), (by first | rfl | (simp; done) | (simp [*]; done)), H', ⟨Nat.le_refl _⟩, by repeat (first | exact Drawn0.refl _ | apply Drawn0.step)⟩
    case round =>
      clear H'
      try clear c1
      try clear p2
      try clear c3
      try clear c3b0
      try clear c3b1
      try clear c3b2
      obtain ⟨x5_1, rfl, HA, HK1, ⟨m1, rfl⟩⟩ := hrel
      cases gk with
      | zero => exact absurd HA.out (by simp [spec_TwTexts.l0])
      | succ k1 =>
        have H := HA.out
        clear HA
        simp only [spec_TwTexts.l0] at H
        by_cases c4 : x5_1 < (l0.length : Int)
        · rw [if_pos c4] at H
          have c4b0 : decide (x5_1 < (l0.length : Int)) = true := decide_eq_true c4
          clear c4
          by_cases c5 : 0 ≤ x5_1
          · rw [if_pos c5] at H
            have c5b0 : decide (0 ≤ x5_1) = true := decide_eq_true c5
            clear c5
            by_cases c6 : x5_1 < (l1.length : Int)
            · rw [if_pos c6] at H
              have c6b0 : decide (x5_1 < (l1.length : Int)) = true := decide_eq_true c6
              clear c6
              by_cases c7 : (rdOf ByteArray.empty l0 x5_1).toList = (rdOf ByteArray.empty l1 x5_1).toList
              · rw [if_pos c7] at H
                have c7b0 : ((rdOf ByteArray.empty l0 x5_1).toList == (rdOf ByteArray.empty l1 x5_1).toList) = true := beq_iff_eq.mpr c7
                have c7b1 : ((rdOf ByteArray.empty l0 x5_1).toList != (rdOf ByteArray.empty l1 x5_1).toList) = false := bne_eq_false_iff_eq.mpr c7
                clear c7
                have H' := Aside0.mk H
                clear H
                have p118 : 0 ≤ (x5_1 : Int) := of_decide_eq_true (by first | (with_reducible assumption) | assumption)
                have q118 : x5_1 < (l0.length : Int) := of_decide_eq_true (by first | (with_reducible assumption) | assumption)
                obtain ⟨ad118, e118, hx118_0⟩ := Kd.at_string HR0.out x5_1 p118 q118
                cases e118
                replace p118 := eq_true p118
                replace q118 := eq_true q118
                have p119 : 0 ≤ (x5_1 : Int) := of_decide_eq_true (by first | (with_reducible assumption) | assumption)
                have q119 : x5_1 < (l1.length : Int) := of_decide_eq_true (by first | (with_reducible assumption) | assumption)
                obtain ⟨ad119, e119, hx119_0⟩ := Kd.at_string HR1.out x5_1 p119 q119
                cases e119
                replace p119 := eq_true p119
                replace q119 := eq_true q119
                go_wp2
                repeat (go_quiet (fail); try go_wp2)
                go_roundg k1
                case measure => have := HK1.out; omega
                case rel => exact ⟨(wrap64 (x5_1 + 1)), (by first | rfl | (simp; done) | (simp [*]; done)), H', ⟨by have := HK1.out; omega⟩, by repeat (first | exact Drawn0.refl _ | apply Drawn0.step)⟩
              · rw [if_neg c7] at H
                have c7b0 : ((rdOf ByteArray.empty l0 x5_1).toList == (rdOf ByteArray.empty l1 x5_1).toList) = false := beq_eq_false_iff_ne.mpr c7
                have c7b1 : ((rdOf ByteArray.empty l0 x5_1).toList != (rdOf ByteArray.empty l1 x5_1).toList) = true := bne_iff_ne.mpr c7
                obtain rfl := Option.some.inj H
                have p118 : 0 ≤ (x5_1 : Int) := of_decide_eq_true (by first | (with_reducible assumption) | assumption)
                have q118 : x5_1 < (l0.length : Int) := of_decide_eq_true (by first | (with_reducible assumption) | assumption)
                obtain ⟨ad118, e118, hx118_0⟩ := Kd.at_string HR0.out x5_1 p118 q118
                cases e118
                replace p118 := eq_true p118
                replace q118 := eq_true q118
                have p119 : 0 ≤ (x5_1 : Int) := of_decide_eq_true (by first | (with_reducible assumption) | assumption)
                have q119 : x5_1 < (l1.length : Int) := of_decide_eq_true (by first | (with_reducible assumption) | assumption)
                obtain ⟨ad119, e119, hx119_0⟩ := Kd.at_string HR1.out x5_1 p119 q119
                cases e119
                replace p119 := eq_true p119
                replace q119 := eq_true q119
                go_wp2
                repeat (go_quiet (fail); try go_wp2)
                go_ret
                exact ⟨by first | rfl | (simp; done) | (simp [*]; done), by repeat (first | exact Drawn0.refl _ | apply Drawn0.step)⟩
            · rw [if_neg c6] at H
              exact absurd H (by simp)
          · rw [if_neg c5] at H
            exact absurd H (by simp)
        · rw [if_neg c4] at H
          have c4b0 : decide (x5_1 < (l0.length : Int)) = false := decide_eq_false c4
          clear c4
          obtain rfl := Option.some.inj H
          go_wp2
          repeat (go_quiet (fail); try go_wp2)
          go_ret
          exact ⟨by first | rfl | (simp; done) | (simp [*]; done), by repeat (first | exact Drawn0.refl _ | apply Drawn0.step)⟩
  · rw [if_neg c3] at H
    have c3b0 : ((l0.length : Int) == (l1.length : Int)) = false := beq_eq_false_iff_ne.mpr c3
    have c3b1 : ((l0.length : Int) != (l1.length : Int)) = true := bne_iff_ne.mpr c3
    have c3b2 : (l0.length == l1.length) = false := by first | simpa using c3 | (simp at c3 ⊢; omega)
    obtain rfl := Option.some.inj H
    go_enter Try.func7, Try.ntmps7
    go_wp2
    repeat (go_quiet (fail); try go_wp2)
    go_ret
    exact ⟨by first | rfl | (simp; done) | (simp [*]; done), by repeat (first | exact Drawn0.refl _ | apply Drawn0.step)⟩

-- NOT PRINTED: function 3 (laws_FnStyleSymbols)

end Go.Proofs.Ytpceflnbomegiaa.GSyBody
