/- Hiding some columns, and then others of those that are left, is hiding them together; asked of at most 60 rows, and of at most 60 columns that are hidden or not, each time. -/
import Derived.Test.YtjpdkmmpofddlaaRows
import Derived.Test.YtjpdkmmpofddlaaPureFnHiddenTwice
import Derived.WalkKit
import Derived.ProofKit
import Derived.OpenShut
import Derived.ShutString
import Derived.ChangeOld
import Derived.Below
import Derived.SizedLaws
namespace Go.Proofs.Ytjpdkmmpofddlaa.fnHiddenTwiceRowOf
open Go.ChangeShapes Go.WideShapes Go.ChangeAt Go.RowKit Go.Proofs.Ytjpdkmmpofddlaa.GFnHiddenTwice Go.Proofs.Ytjpdkmmpofddlaa.Opn Go.Proofs.Ytjpdkmmpofddlaa.OpnFnHiddenTwice Go.Proofs.YtjpdkmmpofddlaaW.PrintWords
open Go.ChangeMaps (open_string shut_string)
set_option linter.unusedVariables false
theorem own : ownKnob Try.prog.godebug = none := by kernel_rfl
theorem laidOut : laidOutB Try.prog = true := by kernel_rfl
set_option maxRecDepth 100000 in
theorem lifted (os : Os) (started : os.Started) (H : Type) (enc : TypeId × Value → H) :
    ReturnsInHanded {} Try.checked os 4 .any (Rows.fnHiddenTwiceSpec.pre6 enc Try.prog Try.f4 Rows.fnHiddenTwiceRow.domain false) (Rows.fnHiddenTwiceSpec.post enc Try.prog Try.f4 false true false false) := by
  refine returnsInHanded_of_change_sized (C := Try.checked) own started (by kernel_rfl) Try.func4
    (ChangeSpec.witness6 (enc := enc) (C := Try.checked) false ⟨#[], #[.slice none 0 0, .slice none 0 0, .slice none 0 0], []⟩ 8 (by kernel_rfl) (by kernel_rfl) (by kernel_rfl) (by kernel_rfl)) ?_
  intro W base args ds gs before hval0 hW hcnd hsz0 _
  have hsz : (DataW.weightsEach Try.prog (Try.f4.params.toList ++ Rows.fnHiddenTwiceSpec.plain.varTypes Try.prog) (ds ++ gs)).all (· ≤ reachBytes) = true := hsz0
  have hval : ∀ (j : Nat) t v, Try.f4.params[j]? = some t → args[j]? = some v → Value.okWide Try.prog W .any base t v := hval0
  have hW' := hW
  obtain ⟨p, q, hA0, hV, rfl, hfz, hnd⟩ := hW
  have hA : DataW.TrodAll enc Try.prog W 0 (fun _ => true) true Try.f4.params.toList args.toList ds p := hA0
  rw [Try.params4] at hA hval hsz
  obtain ⟨v0, vs0, d0, ds0, p0, q0, hargs, rfl, rfl, h0, r0⟩ := trodAll_cons hA
  obtain ⟨v1, vs1, d1, ds1, p1, q1, rfl, rfl, rfl, h1, r1⟩ := trodAll_cons r0
  obtain ⟨v2, vs2, d2, ds2, p2, q2, rfl, rfl, rfl, h2, r2⟩ := trodAll_cons r1
  obtain ⟨rfl, rfl, rfl⟩ := trodAll_nil r2
  obtain rfl : args = #[v0, v1, v2] := by cases args; simp_all
  obtain ⟨rfl, rfl⟩ := trodVars_none hV
  obtain ⟨A0, n0, c0, rfl⟩ := okWide_slice Try.underlying27 (hval 0 27 v0 rfl rfl)
  have k0 := h0
  have lt0 : ∀ x ∈ p0, x.block < W.heap.size := by obtain ⟨m, hm⟩ := k0; exact DataW.trod_lt m _ _ _ hm
  obtain ⟨l0, rfl, m0, C0, O0⟩ : ∃ xs : List (List (ByteArray)), xs.length = n0 ∧ n0 ≤ c0 ∧ Kd.C (Kd.slice 9 Kd.string) W A0 n0 xs ∧ (∀ x ∈ xs, ok33 x) := by
    obtain ⟨fuel, hf⟩ := h0
    obtain ⟨A', xs, c', hcs, hl, hC, hok⟩ := slice_opens Try.underlying27 opens33 hf
    simp [Value.cells] at hcs
    obtain ⟨rfl, rfl, rfl⟩ := hcs
    exact ⟨xs, rfl, hl, hC, hok⟩
  obtain ⟨A1, n1, c1, rfl⟩ := okWide_slice Try.underlying28 (hval 1 28 v1 rfl rfl)
  have k1 := h1
  have lt1 : ∀ x ∈ p1, x.block < W.heap.size := by obtain ⟨m, hm⟩ := k1; exact DataW.trod_lt m _ _ _ hm
  obtain ⟨l1, rfl, m1, C1, O1⟩ : ∃ xs : List (Bool), xs.length = n1 ∧ n1 ≤ c1 ∧ Kd.C Kd.bool W A1 n1 xs ∧ (∀ x ∈ xs, ok4 x) := by
    obtain ⟨fuel, hf⟩ := h1
    obtain ⟨A', xs, c', hcs, hl, hC, hok⟩ := slice_opens Try.underlying28 opens4 hf
    simp [Value.cells] at hcs
    obtain ⟨rfl, rfl, rfl⟩ := hcs
    exact ⟨xs, rfl, hl, hC, hok⟩
  obtain ⟨A2, n2, c2, rfl⟩ := okWide_slice Try.underlying28 (hval 2 28 v2 rfl rfl)
  have k2 := h2
  have lt2 : ∀ x ∈ p2, x.block < W.heap.size := by obtain ⟨m, hm⟩ := k2; exact DataW.trod_lt m _ _ _ hm
  obtain ⟨l2, rfl, m2, C2, O2⟩ : ∃ xs : List (Bool), xs.length = n2 ∧ n2 ≤ c2 ∧ Kd.C Kd.bool W A2 n2 xs ∧ (∀ x ∈ xs, ok4 x) := by
    obtain ⟨fuel, hf⟩ := h2
    obtain ⟨A', xs, c', hcs, hl, hC, hok⟩ := slice_opens Try.underlying28 opens4 hf
    simp [Value.cells] at hcs
    obtain ⟨rfl, rfl, rfl⟩ := hcs
    exact ⟨xs, rfl, hl, hC, hok⟩
  clear hA0 hval0 hsz0 hsz
  have hpure := Pure.FnHiddenTwice l0 l1 l2 (by have := C0.2.1; simpa only [maxLen] using this) O0 (by have := C1.2.1; simpa only [maxLen] using this) O1 (by have := C2.2.1; simpa only [maxLen] using this) O2
  refine (laws_FnHiddenTwice.calls A0 c0 l0 A1 c1 l1 A2 c2 l2 true W C0 m0 C1 m1 C2 m2 hpure).mono fun e W' ⟨he, bel0⟩ => ?_
  have bel : Below W.heap.size W W' := bel0
  subst he
  exact ⟨_, rfl, _, _, _, [], _, [], hW', trodAll_mk1 (shut_bool Try.underlying4 _), (trodAll_cons_mk (Below.trod laidOut (by kernel_rfl) (of_decide_eq_true (by kernel_rfl)) k0 bel lt0) (trodAll_cons_mk (Below.trod laidOut (by kernel_rfl) (of_decide_eq_true (by kernel_rfl)) k1 bel lt1) (trodAll_cons_mk (Below.trod laidOut (by kernel_rfl) (of_decide_eq_true (by kernel_rfl)) k2 bel lt2) trodAll_mk0))), rfl, bel.frame _, fun h => by cases h⟩
theorem over : Rows.fnHiddenTwiceRow.holds Try.pinned (OpenSpec.ofChange Rows.fnHiddenTwiceSpec) :=
  OpenClaim.holds_of_wide 4 Try.f4 rfl rfl rfl rfl rfl rfl rfl ⟨rfl, rfl, rfl, rfl, rfl⟩ rfl rfl rfl rfl rfl (by kernel_rfl) Try.func4 (by kernel_rfl)
    (of_decide_eq_true (by kernel_rfl)) (by unfold Func.isWrapper; first | (rw [if_pos (by decide +kernel)]; kernel_rfl) | (rw [if_neg (by decide +kernel)]; exact ⟨rfl, rfl⟩))
    (fun os started H enc _ => lifted os started H enc)
theorem proved : Rows.FnHiddenTwiceSaid := over
#print axioms proved
end Go.Proofs.Ytjpdkmmpofddlaa.fnHiddenTwiceRowOf
namespace Go.Proofs.Ytjpdkmmpofddlaa
/-- The row, under a short name, for the claim. -/
theorem fnHiddenTwice_holds : Rows.FnHiddenTwiceSaid := fnHiddenTwiceRowOf.proved
end Go.Proofs.Ytjpdkmmpofddlaa
