/- An empty sequence changes nothing in a text that turns nothing off: the encoding of a text with the empty sequence is the text itself; asked where the pieces of the text are good ones (known characters, at most 40 pieces of at most 500 octets, at most 4 codes each) and none of their codes is 0, over arguments of bulk at most 1048576. -/
import Derived.Test.YtenclpkeffhjaaaDoorRows
import Derived.Test.YtenclpkeffhjaaaDoorCards
import Derived.Test.YtenclpkeffhjaaaDoorTie
import Derived.Test.YtenclpkeffhjaaaDoorEnp
import Derived.WalkKit
import Derived.ProofKit
import Derived.LaidMore
import Derived.OpenShut
import Derived.ChangeOld
import Derived.Below
import Derived.SizedLaws
import Derived.Stop.Joined
import Derived.SevenTiedAt
import Derived.Stop.LaidErr
import Derived.Deep.DeepHandedRow
import Derived.Deep.DeepWitnessRowRef
namespace Go.Proofs.YtenclpkeffhjaaaDoor.EnRow
open Go Go.ChangeShapes Go.WideShapes Go.ChangeAt Go.RowKit Go.Proofs.YtenclpkeffhjaaaDoor.GFnTextEscapeNone Go.Proofs.YtenclpkeffhjaaaDoorW.PrintWords Go.Proofs.YtenclpkeffhjaaaDoor.OpnB
set_option linter.unusedVariables false
theorem own : ownKnob Tryd.prog.godebug = none := by kernel_rfl
theorem laidOut : laidOutB Tryd.prog = true := by kernel_rfl
theorem gT : Tryd.prog.globalNamed "internal/strconv.uint64pow10" = some 1 := by kernel_rfl
theorem tT : (Tryd.prog.globals[1]?).map (·.type) = some 78 := by kernel_rfl
theorem c70 : Tryd.prog.cellsOf 70 = 1 := by kernel_rfl
theorem c78 : Tryd.prog.cellsOf 78 = 20 := by kernel_rfl
theorem tab_data : (Rows.laid_internal_strconv_uint64pow10 : DataW Unit) = Lib.tabData .u64 Lib.pow10Tab := by kernel_rfl
theorem door_met (os : Os) (args : Array Value) : laidMetH Tryd.prog Rows.fnTextEscapeNoneUptoRow.laid ((World.doorLaid Tryd.prog 24 os).forCall (fun _ _ => 0) ⟨#[], args, []⟩).memory :=
  laidMetH_of_parts3 (fuel := 8) (laidMet_of_run' 8 (by kernel_rfl) (by kernel_rfl)) (by kernel_rfl) (by kernel_rfl)
theorem of_laid {W : World} (h : laidMetH Tryd.prog Rows.fnTextEscapeNoneUptoRow.laid W) : Es.Tb W := by
  rw [MakeChecks.laidMetH_plain _ _ _ (by kernel_rfl)] at h
  have h2 := laidMet.tail (laidMet.tail h)
  rw [tab_data] at h2
  exact Lib.tabIs_of_head gT tT Tryd.underlying78 Tryd.underlying70 c70 c78 h2
instance : Inhabited S26 := ⟨z26⟩
theorem opens26 : OpensB Tryd.prog 26 k26 (fun x => (∀ c ∈ x.f0, (Lit.int .i64 c).wf = true) ∧ x.f1.size ≤ maxLen) (fun x => bulkList (fun _ : Int => 1) x.f0 + 1 + (x.f1.size + 1) + 1) :=
  OpensB.struct (fun x : S26 => (x.f0, x.f1)) (fun p => ⟨p.1, p.2⟩) (fun _ => rfl) Tryd.underlying26 (by kernel_rfl)
    (FieldsB.cons (OpensB.slice Tryd.underlying24 (by kernel_rfl) (OpensB.int Tryd.underlying3 (by kernel_rfl))) rfl (FieldsB.last (OpensB.string Tryd.underlying9 (by kernel_rfl)) rfl))
theorem reads (os : Os) {H : Type} (enc : TypeId × Value → H) : ∃ places, DataW.whole enc Tryd.prog ((World.doorLaid Tryd.prog 24 os).forCall (fun _ _ => 0) ⟨#[], #[.slice none 0 0], []⟩).memory Tryd.f3.params.toList Rows.fnTextEscapeNoneSpec.vars false #[Value.slice none 0 0].toList 8 = some ([.nil], [], places) :=
  ⟨[], by kernel_rfl⟩
theorem wf64 (c : Int) (h : (Lit.int .i64 c).wf = true) : Sqa.In64 c := bounds_i64 h
set_option maxRecDepth 100000 in
theorem lifted (os : Os) (started : os.Started) (H : Type) (enc : TypeId × Value → H) (F : Stop.Interp) :
    ReturnsInHanded {} Tryd.checked os 3 .any ((Rows.OpenSpec.upto Rows.fnTextEscapeNoneSpec).preRow enc Tryd.prog Tryd.f3 Rows.fnTextEscapeNoneUptoRow.domain false Rows.fnTextEscapeNoneUptoRow.laid)
      (((Rows.OpenSpec.upto Rows.fnTextEscapeNoneSpec).at F).post enc Tryd.prog Tryd.f3 false true false false) := by
  obtain ⟨places, hx⟩ := reads os enc
  refine returnsInHanded_of_row (C := Tryd.checked) (s := Rows.OpenSpec.upto Rows.fnTextEscapeNoneSpec) own started (by kernel_rfl) Tryd.func3
    (witness_row_atRef (enc := enc) (C := Tryd.checked) false (World.doorLaid Tryd.prog 24 os) #[.slice none 0 0] rfl (by kernel_rfl) (by kernel_rfl) (by kernel_rfl)
      (OpenSpec.preRow_of_cond 8 hx (by kernel_rfl) (fun k hk => by cases hk; kernel_rfl) (by kernel_rfl) (door_met os _))) ?_
  intro W base args ds gs before hval0 hW _ hcond _ hL _ _
  have hval : ∀ (j : Nat) t v, Tryd.f3.params[j]? = some t → args[j]? = some v → Value.okWide Tryd.prog W .any base t v := hval0
  have hk := hcond _ rfl
  have hW' := hW
  obtain ⟨p, q, hA0, hV, rfl, hfz, hnd⟩ := hW
  have hA : DataW.TrodAll enc Tryd.prog W 0 (fun _ => true) true Tryd.f3.params.toList args.toList ds p := hA0
  rw [Tryd.params3] at hA hval
  obtain ⟨v0, vs0, d0, ds0, p0, q0, hargs, rfl, rfl, h0, r0⟩ := trodAll_cons hA
  obtain ⟨rfl, rfl, rfl⟩ := trodAll_nil r0
  obtain rfl : args = #[v0] := by cases args; simp_all
  obtain ⟨rfl, rfl⟩ := trodVars_none hV
  obtain ⟨a0, len0, cap0, rfl⟩ := okWide_slice Tryd.underlying22 (hval 0 22 v0 rfl rfl)
  have k0 := h0
  have lt0 : ∀ x ∈ p0, x.block < W.heap.size := by obtain ⟨m, hm⟩ := k0; exact DataW.trod_lt m _ _ _ hm
  obtain ⟨z0, e0, m0, C0, ok0, b0⟩ : ∃ xs : List S26, len0 = xs.length ∧ len0 ≤ cap0 ∧ Kd.C k26 W a0 len0 xs ∧ (∀ x ∈ xs, (∀ c ∈ x.f0, (Lit.int .i64 c).wf = true) ∧ x.f1.size ≤ maxLen) ∧ bulkList (fun x : S26 => bulkList (fun _ : Int => 1) x.f0 + 1 + (x.f1.size + 1) + 1) xs + 1 ≤ Rows.uptoBulk d0 := by
    obtain ⟨fuel, hf⟩ := h0
    obtain ⟨A', xs, c', hcs, hl, hC, hok, hb⟩ := OpnB.slice_opens Tryd.underlying22 opens26 hf
    simp [Value.cells] at hcs
    obtain ⟨rfl, rfl, rfl⟩ := hcs
    exact ⟨xs, rfl, hl, hC, hok, hb⟩
  have hT := of_laid hL
  have hbulk : bulkList (fun x : S26 => bulkList (fun _ : Int => 1) x.f0 + 1 + (x.f1.size + 1) + 1) z0 ≤ 1048576 := by
    have h1 : Rows.uptoBulkAll ([d0] ++ ([] : List (DataW H))) ≤ 1048576 := of_decide_eq_true hk
    simp only [List.append_nil, Rows.uptoBulkAll] at h1
    omega
  have hc64 : ∀ x ∈ z0, Enp.Codes64 x := fun x hx c hc => wf64 c ((ok0 x hx).1 c hc)
  obtain ⟨k, hlaw⟩ := Enp.law z0 hc64 (by have := Enp.wr_bulk z0 hc64; omega)
  clear hA0 hval0 hk hcond
  subst e0
  refine (laws_FnTextEscapeNone.calls k a0 cap0 z0 true W C0 m0 hlaw hT).mono fun e W' ⟨he, bel⟩ => ?_
  subst he
  exact ⟨_, rfl, _, _, _, [], _, [], hW', trodAll_mk1 (shut_bool Tryd.underlying4 _), (trodAll_cons_mk (Below.trod laidOut (by kernel_rfl) (of_decide_eq_true (by kernel_rfl)) k0 bel lt0) trodAll_mk0), rfl, bel.frame _, fun h => by cases h⟩
theorem over : Rows.FnTextEscapeNoneUptoSaid :=
  OpenClaim.holds_of_cond 3 Tryd.f3 rfl rfl rfl rfl rfl rfl rfl ⟨rfl, rfl, rfl, rfl, rfl⟩ rfl rfl rfl rfl rfl (by kernel_rfl) Tryd.func3 (by kernel_rfl)
    (of_decide_eq_true (by kernel_rfl)) (by unfold Func.isWrapper; first | (rw [if_pos (by decide +kernel)]; kernel_rfl) | (rw [if_neg (by decide +kernel)]; exact ⟨rfl, rfl⟩))
    (fun os started H enc _ F => by rw [OpenClaim.pre_eq_preRow]; exact lifted os started H enc F)
theorem card_holds : Rows.FnTextEscapeNoneUptoCardSaid :=
  Claim7.holds_tied_plain_at .later [] _ _ _ _ over (fun _ h => by cases h) (by kernel_rfl) (fun _ h => by cases h) fnTextEscapeNoneUpto_row_tie rfl ⟨rfl, rfl⟩ (by kernel_rfl) rfl
    (fun f fn hf hfn => by
      obtain rfl : f = 3 := Option.some.inj ((show Tryd.prog.funcNamed "pub-pinstripe/laws.FnTextEscapeNone" = some 3 by kernel_rfl).symm.trans hf) |>.symm
      obtain rfl : fn = Tryd.f3 := (Option.some.inj (Tryd.func3.symm.trans hfn)).symm
      exact ⟨by kernel_rfl, fun j t ht => by
        rw [Tryd.params3] at ht
        have hm : t ∈ [22] := by simpa using Array.mem_of_getElem? ht
        have hall : ([22].all fun u => !Tryd.prog.wantsStandIn u) = true := by kernel_rfl
        exact (show Tryd.prog.wantsStandIn t = false by simpa using List.all_eq_true.1 hall t hm)⟩)
    (by kernel_rfl)
#print axioms card_holds
end Go.Proofs.YtenclpkeffhjaaaDoor.EnRow
namespace Go.Proofs.YtenclpkeffhjaaaDoor
/-- The card, under a short name, for the claim. -/
theorem fnTextEscapeNone_upto_card_holds : Rows.FnTextEscapeNoneUptoCardSaid := EnRow.card_holds
end Go.Proofs.YtenclpkeffhjaaaDoor
