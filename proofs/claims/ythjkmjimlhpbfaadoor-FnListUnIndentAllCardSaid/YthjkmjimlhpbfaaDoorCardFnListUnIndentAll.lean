/- Un-indenting all is un-indenting as often as the last item stands deep, and more is not done: a list, all un-indented and one more item, and the same list un-indented so many times or up to three times more and that item, are rendered as the list with that item at the top; asked where the list is right (at most 60 items of at most 200 octets of known characters, each no more than one level deeper than the one ahead, the first at the top), not empty, the last text is of known characters and at most 200 octets, and the style is of known texts of at most 20 octets, with the plain format and line ends. -/
import Derived.Test.YthjkmjimlhpbfaaDoorCards
import Derived.Test.YthjkmjimlhpbfaaDoorTie
import Derived.Lay
import Derived.LaidOnce
import Derived.LaidMore
import Derived.LaidHandle
import Derived.Stop.Joined
import Derived.SevenTiedAt
import Derived.Stop.LaidErr
/- Un-indenting all is un-indenting as often as the last item stands deep, and more is not done: a list, all un-indented and one more item, and the same list un-indented so many times or up to three times more and that item, are rendered as the list with that item at the top; asked where the list is right (at most 60 items of at most 200 octets of known characters, each no more than one level deeper than the one ahead, the first at the top), not empty, the last text is of known characters and at most 200 octets, and the style is of known texts of at most 20 octets, with the plain format and line ends. -/
import Derived.Test.YthjkmjimlhpbfaaDoorRows
import Derived.Test.YthjkmjimlhpbfaaDoorPureFnListUnIndentAll
import Derived.WalkKit
import Derived.ProofKit
import Derived.OpenShut
import Derived.ShutString
import Derived.ChangeOld
import Derived.Below
import Derived.SizedLaws
namespace Go.Proofs.YthjkmjimlhpbfaaDoor.fnListUnIndentAllRowOf
open Go.ChangeShapes Go.WideShapes Go.ChangeAt Go.RowKit Go.Proofs.YthjkmjimlhpbfaaDoor.GFnListUnIndentAll Go.Proofs.YthjkmjimlhpbfaaDoor.Opn Go.Proofs.YthjkmjimlhpbfaaDoor.OpnFnListUnIndentAll Go.Proofs.YthjkmjimlhpbfaaDoorW.PrintWords
open Go.ChangeMaps (open_string shut_string)
set_option linter.unusedVariables false
theorem own : ownKnob Tryd.prog.godebug = none := by kernel_rfl
theorem laidOut : laidOutB Tryd.prog = true := by kernel_rfl
theorem laid_met (os : Os) (args : Array Value) : laidMetH Tryd.prog Rows.fnListUnIndentAllRow.laid ((World.laidAll Tryd.prog os Rows.fnListUnIndentAllRow.laid).forCall (fun _ _ => 0) ⟨#[], args, []⟩).memory := by
  rw [MakeChecks.laidMetH_plain _ _ _ (by kernel_rfl)]
  exact laidMet_laidAll _ (by kernel_rfl) (by kernel_rfl)
set_option maxRecDepth 100000 in
theorem lifted (os : Os) (started : os.Started) (H : Type) (enc : TypeId × Value → H) :
    ReturnsInHanded {} Tryd.checked os 4 .any (fun w args => (Rows.fnListUnIndentAllSpec.pre enc Tryd.prog Tryd.f4 [] false w args ∧ laidMetH Tryd.prog Rows.fnListUnIndentAllRow.laid w) ∧ sizedMet enc Tryd.prog Tryd.f4 (OpenSpec.ofChange Rows.fnListUnIndentAllSpec) false w args)
      (Rows.fnListUnIndentAllSpec.post enc Tryd.prog Tryd.f4 false true false false) := by
  refine returnsInHanded_of_change_and (C := Tryd.checked) (X := fun w _ => laidMetH Tryd.prog Rows.fnListUnIndentAllRow.laid w) (fun _ _ _ hh h => h.of_heap hh) own started (by kernel_rfl) Tryd.func4
    (ChangeSpec.witness_shaped (enc := enc) (C := Tryd.checked) (os := os) (X := fun w _ => laidMetH Tryd.prog Rows.fnListUnIndentAllRow.laid w) false (World.laidAll Tryd.prog os Rows.fnListUnIndentAllRow.laid) #[.slice none 0 0, .string ByteArray.empty, .int .u8 0, .agg #[.int .i64 0, .string ByteArray.empty, .string ByteArray.empty, .string ByteArray.empty, .string ByteArray.empty, .string ByteArray.empty, .string ByteArray.empty, .string ByteArray.empty, .string ByteArray.empty]] 8 (World.laidAll_os _ _ _) (World.shaped_of_ZipB (by kernel_rfl) (by kernel_rfl)) (by kernel_rfl) (by kernel_rfl) (by kernel_rfl) (laid_met os _)) ?_
  intro W base args ds gs before hval0 hW hcnd hsz0 hL _
  have hsz : (DataW.weightsEach Tryd.prog (Tryd.f4.params.toList ++ Rows.fnListUnIndentAllSpec.plain.varTypes Tryd.prog) (ds ++ gs)).all (· ≤ reachBytes) = true := hsz0
  have hval : ∀ (j : Nat) t v, Tryd.f4.params[j]? = some t → args[j]? = some v → Value.okWide Tryd.prog W .any base t v := hval0
  have hW' := hW
  obtain ⟨p, q, hA0, hV, rfl, hfz, hnd⟩ := hW
  have hA : DataW.TrodAll enc Tryd.prog W 0 (fun _ => true) true Tryd.f4.params.toList args.toList ds p := hA0
  rw [Tryd.params4] at hA hval hsz
  obtain ⟨v0, vs0, d0, ds0, p0, q0, hargs, rfl, rfl, h0, r0⟩ := trodAll_cons hA
  obtain ⟨v1, vs1, d1, ds1, p1, q1, rfl, rfl, rfl, h1, r1⟩ := trodAll_cons r0
  obtain ⟨v2, vs2, d2, ds2, p2, q2, rfl, rfl, rfl, h2, r2⟩ := trodAll_cons r1
  obtain ⟨v3, vs3, d3, ds3, p3, q3, rfl, rfl, rfl, h3, r3⟩ := trodAll_cons r2
  obtain ⟨rfl, rfl, rfl⟩ := trodAll_nil r3
  obtain rfl : args = #[v0, v1, v2, v3] := by cases args; simp_all
  obtain ⟨rfl, rfl⟩ := trodVars_none hV
  obtain ⟨A0, n0, c0, rfl⟩ := okWide_slice Tryd.underlying22 (hval 0 22 v0 rfl rfl)
  have k0 := h0
  have lt0 : ∀ x ∈ p0, x.block < W.heap.size := by obtain ⟨m, hm⟩ := k0; exact DataW.trod_lt m _ _ _ hm
  obtain ⟨l0, rfl, m0, C0, O0⟩ : ∃ xs : List (S38), xs.length = n0 ∧ n0 ≤ c0 ∧ Kd.C k38 W A0 n0 xs ∧ (∀ x ∈ xs, ok38 x) := by
    obtain ⟨fuel, hf⟩ := h0
    obtain ⟨A', xs, c', hcs, hl, hC, hok⟩ := slice_opens Tryd.underlying22 opens38 hf
    simp [Value.cells] at hcs
    obtain ⟨rfl, rfl, rfl⟩ := hcs
    exact ⟨xs, rfl, hl, hC, hok⟩
  obtain ⟨a1, rfl, rfl, rfl, y1⟩ := open_string Tryd.underlying9 (hval 1 9 v1 rfl rfl) h1
  have w1 : a1.size ≤ 140737488351232 := by
    have z := sized_string hsz (j := 1) (t := 9) rfl rfl
    rw [Array.length_toList] at z
    exact z
  obtain ⟨a2, rfl, rfl, rfl, w2⟩ := open_int Tryd.underlying5 (hval 2 5 v2 rfl rfl) h2
  obtain ⟨cs3, rfl, _⟩ := okWide_struct Tryd.underlying24 (hval 3 24 v3 rfl rfl)
  have k3 := h3
  have lt3 : ∀ x ∈ p3, x.block < W.heap.size := by obtain ⟨m, hm⟩ := k3; exact DataW.trod_lt m _ _ _ hm
  obtain ⟨fuel3, hf3⟩ := h3
  obtain ⟨x3, hK3, O3⟩ := opens24.op hf3
  obtain ⟨_, rfl⟩ : ∃ _u : Unit, cs3 = #[.int .i64 x3.f0, .string x3.f1, .string x3.f2, .string x3.f3, .string x3.f4, .string x3.f5, .string x3.f6, .string x3.f7, .string x3.f8] := by
    have hcs := k24_open hK3
    exact ⟨(), by cases cs3; simpa [Value.cells] using hcs⟩
  clear hA0 hval0 hsz0 hsz
  obtain ⟨k, hpure⟩ := Pure.FnListUnIndentAll l0 a1 a2 x3 (by have := C0.2.1; simpa only [maxLen] using this) O0 w1 w2 O3
  refine (laws_FnListUnIndentAll.calls k A0 c0 l0 a1 a2 x3.f0 x3.f1 x3.f2 x3.f3 x3.f4 x3.f5 x3.f6 x3.f7 x3.f8 true W C0 m0 hpure).mono fun e W' ⟨he, bel0⟩ => ?_
  have bel : Below W.heap.size W W' := bel0
  subst he
  exact ⟨_, rfl, _, _, _, [], _, [], hW', trodAll_mk1 (shut_bool Tryd.underlying4 _), (trodAll_cons_mk (Below.trod laidOut (by kernel_rfl) (of_decide_eq_true (by kernel_rfl)) k0 bel lt0) (trodAll_cons_mk (shut_string Tryd.underlying9 y1) (trodAll_cons_mk (shut_int Tryd.underlying5 w2) (trodAll_cons_mk (Below.trod laidOut (by kernel_rfl) (of_decide_eq_true (by kernel_rfl)) k3 bel lt3) trodAll_mk0)))), rfl, bel.frame _, fun h => by cases h⟩
theorem over : Rows.fnListUnIndentAllRow.holds Tryd.pinned (OpenSpec.ofChange Rows.fnListUnIndentAllSpec) :=
  OpenClaim.holds_of_wide 4 Tryd.f4 rfl rfl rfl rfl rfl rfl rfl ⟨rfl, rfl, rfl, rfl, rfl⟩ rfl rfl rfl rfl rfl (by kernel_rfl) Tryd.func4 (by kernel_rfl)
    (of_decide_eq_true (by kernel_rfl)) (by unfold Func.isWrapper; first | (rw [if_pos (by decide +kernel)]; kernel_rfl) | (rw [if_neg (by decide +kernel)]; exact ⟨rfl, rfl⟩))
    (fun os started H enc _ => lifted os started H enc)
theorem card : Rows.FnListUnIndentAllCardSaid :=
  Claim7.holds_tied_plain_at .later [] _ _ _ _ over (fun _ h => by cases h) (by kernel_rfl) (fun _ h => by cases h) fnListUnIndentAll_row_tie rfl ⟨rfl, rfl⟩ (by kernel_rfl) rfl
    (fun f fn hf hfn => by
      obtain rfl : f = 4 := Option.some.inj ((show Tryd.prog.funcNamed "pub-pinstripe/laws.FnListUnIndentAll" = some 4 by kernel_rfl).symm.trans hf) |>.symm
      obtain rfl : fn = Tryd.f4 := (Option.some.inj (Tryd.func4.symm.trans hfn)).symm
      exact ⟨by kernel_rfl, fun j t ht => by
        rw [Tryd.params4] at ht
        have hm : t ∈ [22, 9, 5, 24] := by simpa using Array.mem_of_getElem? ht
        have hall : ([22, 9, 5, 24].all fun u => !Tryd.prog.wantsStandIn u) = true := by kernel_rfl
        exact (show Tryd.prog.wantsStandIn t = false by simpa using List.all_eq_true.1 hall t hm)⟩)
    (by kernel_rfl)
#print axioms card
end Go.Proofs.YthjkmjimlhpbfaaDoor.fnListUnIndentAllRowOf
namespace Go.Proofs.YthjkmjimlhpbfaaDoor
/-- The card, under a short name, for the claim. -/
theorem fnListUnIndentAll_card_holds : Rows.FnListUnIndentAllCardSaid := fnListUnIndentAllRowOf.card
end Go.Proofs.YthjkmjimlhpbfaaDoor
