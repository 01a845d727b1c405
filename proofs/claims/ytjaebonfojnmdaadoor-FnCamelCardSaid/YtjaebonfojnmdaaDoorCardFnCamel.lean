/- A text of letters of ASCII is divided ahead of each capital that a small letter stands ahead of or behind: the parts are the pieces between these places; asked of texts of letters alone, at most 200 of them and at least one. -/
import Derived.Test.YtjaebonfojnmdaaDoorCards
import Derived.Test.YtjaebonfojnmdaaDoorTie
import Derived.Lay
import Derived.LaidOnce
import Derived.LaidMore
import Derived.LaidHandle
import Derived.Stop.Joined
import Derived.SevenTiedAt
import Derived.Stop.LaidErr
import Derived.Test.YtjaebonfojnmdaaDoorRows
import Derived.Test.YtjaebonfojnmdaaDoorGFnCamelx2
import Derived.Test.YtjaebonfojnmdaaDoorCmr
import Derived.Lib.LaidU8
import Derived.Lib.LaidTab
import Derived.WalkKit
import Derived.ProofKit
import Derived.OpenShut
import Derived.ShutString
import Derived.ChangeOld
import Derived.Below
import Derived.SizedLaws
namespace Go.Proofs.YtjaebonfojnmdaaDoor.fnCamel
open Go.ChangeShapes Go.WideShapes Go.ChangeAt Go.RowKit
open Go.Proofs.YtjaebonfojnmdaaDoorW.PrintWords
open Go.ChangeMaps (open_string shut_string)
set_option linter.unusedVariables false
theorem own : ownKnob Tryd.prog.godebug = none := by kernel_rfl
theorem laid_met (os : Os) (args : Array Value) : laidMetH Tryd.prog Rows.fnCamelRow.laid ((World.laidAll Tryd.prog os Rows.fnCamelRow.laid).forCall (fun _ _ => 0) ⟨#[], args, []⟩).memory := by
  rw [MakeChecks.laidMetH_plain _ _ _ (by kernel_rfl)]
  exact laidMet_laidAll _ (by kernel_rfl) (by kernel_rfl)
theorem extra : U8Extra Tryd.prog Tryd.lays260_ren := { n3 := by kernel_rfl, n4 := by kernel_rfl, y3 := by kernel_rfl, y4 := by kernel_rfl, c5 := by kernel_rfl, c119 := by kernel_rfl, c138 := by kernel_rfl }
theorem d_first : (Rows.laid_unicode_utf8_first : DataW Unit) = Lib.firstData := by kernel_rfl
theorem d_accept : (Rows.laid_unicode_utf8_acceptRanges : DataW Unit) = Lib.acceptData := by kernel_rfl
theorem d_props : (Rows.laid_unicode_properties : DataW Unit) = Lib.tabData .u8 Lib.propertiesTab := by kernel_rfl
theorem d_space : (Rows.laid_strings_asciiSpace : DataW Unit) = Lib.tabData .u8 Lib.asciiSpaceTab := by kernel_rfl
theorem of_laid {W : World} (h : laidMetH Tryd.prog Rows.fnCamelRow.laid W) : Cmb.Tp W := by
  rw [MakeChecks.laidMetH_plain _ _ _ (by kernel_rfl)] at h
  refine ⟨?_, ?_, ?_⟩
  · refine utf8Tabs_of_reads (ρ := Tryd.lays260_ren) Tryd.lays260 extra ?_ ?_
    · rw [← d_first]; exact Go.Lib.laidMet.reads h (by simp [Rows.fnCamelRow])
    · rw [← d_accept]; exact Go.Lib.laidMet.reads h (by simp [Rows.fnCamelRow])
  · have h2 := laidMet.tail (laidMet.tail h)
    rw [d_props] at h2
    exact Lib.tabIs_of_head (g := 2) (t := 32) (e := 5) (n := 256) (by kernel_rfl) (by kernel_rfl) Tryd.underlying32 Tryd.underlying5 (by kernel_rfl) (by kernel_rfl) h2
  · have h2 := laidMet.tail (laidMet.tail (laidMet.tail h))
    rw [d_space] at h2
    exact Lib.tabIs_of_head (g := 6) (t := 32) (e := 5) (n := 256) (by kernel_rfl) (by kernel_rfl) Tryd.underlying32 Tryd.underlying5 (by kernel_rfl) (by kernel_rfl) h2
set_option maxRecDepth 100000 in
theorem lifted (os : Os) (started : os.Started) (H : Type) (enc : TypeId × Value → H) :
    ReturnsInHanded {} Tryd.checked os 3 .any (fun w args => (Rows.fnCamelSpec.pre enc Tryd.prog Tryd.f3 [] false w args ∧ laidMetH Tryd.prog Rows.fnCamelRow.laid w) ∧ sizedMet enc Tryd.prog Tryd.f3 (OpenSpec.ofChange Rows.fnCamelSpec) false w args)
      (Rows.fnCamelSpec.post enc Tryd.prog Tryd.f3 false true false false) := by
  refine returnsInHanded_of_change_and (C := Tryd.checked) (X := fun w _ => laidMetH Tryd.prog Rows.fnCamelRow.laid w) (fun _ _ _ hh h => h.of_heap hh) own started (by kernel_rfl) Tryd.func3
    (ChangeSpec.witness_shaped (enc := enc) (C := Tryd.checked) (os := os) (X := fun w _ => laidMetH Tryd.prog Rows.fnCamelRow.laid w) false (World.laidAll Tryd.prog os Rows.fnCamelRow.laid) #[.string ByteArray.empty] 8 (World.laidAll_os _ _ _) (World.shaped_of_ZipB (by kernel_rfl) (by kernel_rfl)) (by kernel_rfl) (by kernel_rfl) (by kernel_rfl) (laid_met os _)) ?_
  intro W base args ds gs before hval0 hW hcnd hsz0 hL _
  have hsz : (DataW.weightsEach Tryd.prog (Tryd.f3.params.toList ++ Rows.fnCamelSpec.plain.varTypes Tryd.prog) (ds ++ gs)).all (· ≤ reachBytes) = true := hsz0
  have hval : ∀ (j : Nat) t v, Tryd.f3.params[j]? = some t → args[j]? = some v → Value.okWide Tryd.prog W .any base t v := hval0
  have hW' := hW
  obtain ⟨p, q, hA0, hV, rfl, hfz, hnd⟩ := hW
  have hA : DataW.TrodAll enc Tryd.prog W 0 (fun _ => true) true Tryd.f3.params.toList args.toList ds p := hA0
  rw [Tryd.params3] at hA hval hsz
  obtain ⟨v0, vs0, d0, ds0, p0, q0, hargs, rfl, rfl, h0, r0⟩ := trodAll_cons hA
  obtain ⟨rfl, rfl, rfl⟩ := trodAll_nil r0
  obtain rfl : args = #[v0] := by cases args; simp_all
  obtain ⟨rfl, rfl⟩ := trodVars_none hV
  obtain ⟨a0, rfl, rfl, rfl, y0⟩ := open_string Tryd.underlying9 (hval 0 9 v0 rfl rfl) h0
  have w0 : a0.size ≤ 140737488351232 := by
    have z := sized_string hsz (j := 0) (t := 9) rfl rfl
    rw [Array.length_toList] at z
    exact z
  clear hA0 hval0 hsz0 hsz
  have hT := of_laid hL
  obtain ⟨k, hlaw⟩ := Ev.rounds (Cmr.law a0)
  refine (GFnCamel.laws_FnCamel.calls k a0 true W hlaw hT).mono fun e W' ⟨he, bel⟩ => ?_
  subst he
  exact ⟨_, rfl, _, _, _, [], _, [], hW', trodAll_mk1 (shut_bool Tryd.underlying4 _), (trodAll_cons_mk (shut_string Tryd.underlying9 y0) trodAll_mk0), rfl, bel.frame _, fun h => by cases h⟩
theorem over : Rows.fnCamelRow.holds Tryd.pinned (OpenSpec.ofChange Rows.fnCamelSpec) :=
  OpenClaim.holds_of_wide 3 Tryd.f3 rfl rfl rfl rfl rfl rfl rfl ⟨rfl, rfl, rfl, rfl, rfl⟩ rfl rfl rfl rfl rfl (by kernel_rfl) Tryd.func3 (by kernel_rfl)
    (of_decide_eq_true (by kernel_rfl)) (by unfold Func.isWrapper; first | (rw [if_pos (by decide +kernel)]; kernel_rfl) | (rw [if_neg (by decide +kernel)]; exact ⟨rfl, rfl⟩))
    (fun os started H enc _ => lifted os started H enc)
theorem card : Rows.FnCamelCardSaid :=
  Claim7.holds_tied_plain_at .later [] _ _ _ _ over (fun _ h => by cases h) (by kernel_rfl) (fun _ h => by cases h) fnCamel_row_tie rfl ⟨rfl, rfl⟩ (by kernel_rfl) rfl
    (fun f fn hf hfn => by
      obtain rfl : f = 3 := Option.some.inj ((show Tryd.prog.funcNamed "pub-pinstripe/laws.FnCamel" = some 3 by kernel_rfl).symm.trans hf) |>.symm
      obtain rfl : fn = Tryd.f3 := (Option.some.inj (Tryd.func3.symm.trans hfn)).symm
      exact ⟨by kernel_rfl, fun j t ht => by
        rw [Tryd.params3] at ht
        have hm : t ∈ [9] := by simpa using Array.mem_of_getElem? ht
        have hall : ([9].all fun u => !Tryd.prog.wantsStandIn u) = true := by kernel_rfl
        exact (show Tryd.prog.wantsStandIn t = false by simpa using List.all_eq_true.1 hall t hm)⟩)
    (by kernel_rfl)
#print axioms card
end Go.Proofs.YtjaebonfojnmdaaDoor.fnCamel
namespace Go.Proofs.YtjaebonfojnmdaaDoor
/-- The card, under a short name, for the claim. -/
theorem fnCamel_card_holds : Rows.FnCamelCardSaid := fnCamel.card
end Go.Proofs.YtjaebonfojnmdaaDoor
