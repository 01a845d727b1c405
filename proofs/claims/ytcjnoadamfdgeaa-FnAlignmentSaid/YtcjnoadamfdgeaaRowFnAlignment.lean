/- An alignment is made of so many, and has another one where it is set, as tablewriter's MakeAlign, Set and Copy do it. -/
import Derived.Test.YtcjnoadamfdgeaaRows
import Derived.Test.YtcjnoadamfdgeaaPureFnAlignment
import Derived.WalkKit
import Derived.ProofKit
import Derived.OpenShut
import Derived.ShutString
import Derived.ChangeOld
import Derived.Below
import Derived.SizedLaws
namespace Go.Proofs.Ytcjnoadamfdgeaa.fnAlignmentRowOf
open Go.ChangeShapes Go.WideShapes Go.ChangeAt Go.RowKit Go.Proofs.Ytcjnoadamfdgeaa.GFnAlignment Go.Proofs.Ytcjnoadamfdgeaa.Opn Go.Proofs.Ytcjnoadamfdgeaa.OpnFnAlignment Go.Proofs.YtcjnoadamfdgeaaW.PrintWords
open Go.ChangeMaps (open_string shut_string)
set_option linter.unusedVariables false
theorem own : ownKnob Try.prog.godebug = none := by kernel_rfl
theorem laidOut : laidOutB Try.prog = true := by kernel_rfl
set_option maxRecDepth 100000 in
theorem lifted (os : Os) (started : os.Started) (H : Type) (enc : TypeId × Value → H) :
    ReturnsInHanded {} Try.checked os 5 .any (Rows.fnAlignmentSpec.pre6 enc Try.prog Try.f5 Rows.fnAlignmentRow.domain false) (Rows.fnAlignmentSpec.post enc Try.prog Try.f5 false true false false) := by
  refine returnsInHanded_of_change_sized (C := Try.checked) own started (by kernel_rfl) Try.func5
    (ChangeSpec.witness6 (enc := enc) (C := Try.checked) false ⟨#[], #[.int .u8 0, .string ByteArray.empty, .slice none 0 0], []⟩ 8 (by kernel_rfl) (by kernel_rfl) (by kernel_rfl) (by kernel_rfl)) ?_
  intro W base args ds gs before hval0 hW hcnd hsz0 _
  have hsz : (DataW.weightsEach Try.prog (Try.f5.params.toList ++ Rows.fnAlignmentSpec.plain.varTypes Try.prog) (ds ++ gs)).all (· ≤ reachBytes) = true := hsz0
  have hval : ∀ (j : Nat) t v, Try.f5.params[j]? = some t → args[j]? = some v → Value.okWide Try.prog W .any base t v := hval0
  have hW' := hW
  obtain ⟨p, q, hA0, hV, rfl, hfz, hnd⟩ := hW
  have hA : DataW.TrodAll enc Try.prog W 0 (fun _ => true) true Try.f5.params.toList args.toList ds p := hA0
  rw [Try.params5] at hA hval hsz
  obtain ⟨v0, vs0, d0, ds0, p0, q0, hargs, rfl, rfl, h0, r0⟩ := trodAll_cons hA
  obtain ⟨v1, vs1, d1, ds1, p1, q1, rfl, rfl, rfl, h1, r1⟩ := trodAll_cons r0
  obtain ⟨v2, vs2, d2, ds2, p2, q2, rfl, rfl, rfl, h2, r2⟩ := trodAll_cons r1
  obtain ⟨rfl, rfl, rfl⟩ := trodAll_nil r2
  obtain rfl : args = #[v0, v1, v2] := by cases args; simp_all
  obtain ⟨rfl, rfl⟩ := trodVars_none hV
  obtain ⟨a0, rfl, rfl, rfl, w0⟩ := open_int Try.underlying5 (hval 0 5 v0 rfl rfl) h0
  obtain ⟨a1, rfl, rfl, rfl, y1⟩ := open_string Try.underlying9 (hval 1 9 v1 rfl rfl) h1
  have w1 : a1.size ≤ 140737488351232 := by
    have z := sized_string hsz (j := 1) (t := 9) rfl rfl
    rw [Array.length_toList] at z
    exact z
  obtain ⟨A2, n2, c2, rfl⟩ := okWide_slice Try.underlying26 (hval 2 26 v2 rfl rfl)
  have k2 := h2
  have lt2 : ∀ x ∈ p2, x.block < W.heap.size := by obtain ⟨m, hm⟩ := k2; exact DataW.trod_lt m _ _ _ hm
  obtain ⟨l2, rfl, m2, C2, O2⟩ : ∃ xs : List (S30), xs.length = n2 ∧ n2 ≤ c2 ∧ Kd.C k30 W A2 n2 xs ∧ (∀ x ∈ xs, ok30 x) := by
    obtain ⟨fuel, hf⟩ := h2
    obtain ⟨A', xs, c', hcs, hl, hC, hok⟩ := slice_opens Try.underlying26 opens30 hf
    simp [Value.cells] at hcs
    obtain ⟨rfl, rfl, rfl⟩ := hcs
    exact ⟨xs, rfl, hl, hC, hok⟩
  clear hA0 hval0 hsz0 hsz
  obtain ⟨k, hpure⟩ := Pure.FnAlignment a0 a1 l2 w0 w1 (by have := C2.2.1; simpa only [maxLen] using this) O2
  refine (laws_FnAlignment.calls k a0 a1 A2 c2 l2 true W C2 m2 hpure).mono fun e W' ⟨he, bel0⟩ => ?_
  have bel : Below W.heap.size W W' := bel0
  subst he
  exact ⟨_, rfl, _, _, _, [], _, [], hW', trodAll_mk1 (shut_bool Try.underlying4 _), (trodAll_cons_mk (shut_int Try.underlying5 w0) (trodAll_cons_mk (shut_string Try.underlying9 y1) (trodAll_cons_mk (Below.trod laidOut (by kernel_rfl) (of_decide_eq_true (by kernel_rfl)) k2 bel lt2) trodAll_mk0))), rfl, bel.frame _, fun h => by cases h⟩
theorem over : Rows.fnAlignmentRow.holds Try.pinned (OpenSpec.ofChange Rows.fnAlignmentSpec) :=
  OpenClaim.holds_of_wide 5 Try.f5 rfl rfl rfl rfl rfl rfl rfl ⟨rfl, rfl, rfl, rfl, rfl⟩ rfl rfl rfl rfl rfl (by kernel_rfl) Try.func5 (by kernel_rfl)
    (of_decide_eq_true (by kernel_rfl)) (by unfold Func.isWrapper; first | (rw [if_pos (by decide +kernel)]; kernel_rfl) | (rw [if_neg (by decide +kernel)]; exact ⟨rfl, rfl⟩))
    (fun os started H enc _ => lifted os started H enc)
theorem proved : Rows.FnAlignmentSaid := over
#print axioms proved
end Go.Proofs.Ytcjnoadamfdgeaa.fnAlignmentRowOf
namespace Go.Proofs.Ytcjnoadamfdgeaa
/-- The row, under a short name, for the claim. -/
theorem fnAlignment_holds : Rows.FnAlignmentSaid := fnAlignmentRowOf.proved
end Go.Proofs.Ytcjnoadamfdgeaa
