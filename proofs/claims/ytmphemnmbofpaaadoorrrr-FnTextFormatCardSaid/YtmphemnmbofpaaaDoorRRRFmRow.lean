/- A text of ASCII comes as it is, in the lower case, or in the upper case, and its sequences stay: formatting the written text of pieces is writing the pieces with their letters in that case; asked where the pieces are good ones (at most 40 pieces of at most 500 octets, at most 4 codes each), their text is of printed characters of ASCII and line ends, and the format is not the third. -/
import Derived.Test.YtmphemnmbofpaaaDoorRRRRows
import Derived.Test.YtmphemnmbofpaaaDoorRRRCards
import Derived.Test.YtmphemnmbofpaaaDoorRRRTie
import Derived.Test.YtmphemnmbofpaaaDoorRRRFmp
import Derived.Test.YtmphemnmbofpaaaDoorRRROpens
import Derived.WalkKit
import Derived.ProofKit
import Derived.Lay
import Derived.LaidOnce
import Derived.LaidMore
import Derived.LaidHandle
import Derived.OpenShut
import Derived.ChangeOld
import Derived.Below
import Derived.SizedLaws
import Derived.Stop.Joined
import Derived.SevenTiedAt
import Derived.Stop.LaidErr
namespace Go.Proofs.YtmphemnmbofpaaaDoorRRR.FmRow
open Go Go.ChangeShapes Go.WideShapes Go.ChangeAt Go.RowKit Go.Proofs.YtmphemnmbofpaaaDoorRRR.GFnTextFormat Go.Proofs.YtmphemnmbofpaaaDoorRRRW.PrintWords
set_option linter.unusedVariables false
theorem own : ownKnob Tryd.prog.godebug = none := by kernel_rfl
theorem laidOut : laidOutB Tryd.prog = true := by kernel_rfl
theorem gT : Tryd.prog.globalNamed "internal/strconv.uint64pow10" = some 8 := by kernel_rfl
theorem tT : (Tryd.prog.globals[8]?).map (·.type) = some 99 := by kernel_rfl
theorem c74 : Tryd.prog.cellsOf 74 = 1 := by kernel_rfl
theorem c99 : Tryd.prog.cellsOf 99 = 20 := by kernel_rfl
theorem tab_data : (Rows.laid_internal_strconv_uint64pow10 : DataW Unit) = Lib.tabData .u64 Lib.pow10Tab := by kernel_rfl
theorem laid_met (os : Os) (args : Array Value) : laidMetH Tryd.prog Rows.fnTextFormatRow.laid ((World.laidAll Tryd.prog os Rows.fnTextFormatRow.laid).forCall (fun _ _ => 0) ⟨#[], args, []⟩).memory := by
  rw [MakeChecks.laidMetH_plain _ _ _ (by kernel_rfl)]
  exact laidMet_laidAll _ (by kernel_rfl) (by kernel_rfl)
theorem of_laid {W : World} (h : laidMetH Tryd.prog Rows.fnTextFormatRow.laid W) : Sqa.Tb W := by
  rw [MakeChecks.laidMetH_plain _ _ _ (by kernel_rfl)] at h
  have h2 := laidMet.tail (laidMet.tail h)
  rw [tab_data] at h2
  exact Lib.tabIs_of_head gT tT Tryd.underlying99 Tryd.underlying74 c74 c99 h2
instance : Inhabited S32 := ⟨z32⟩
theorem opens32 : Opn.Opens Tryd.prog 32 k32 (fun x => (∀ c ∈ x.f0, (Lit.int .i64 c).wf = true) ∧ x.f1.size ≤ maxLen) :=
  Opn.Opens.struct (fun x : S32 => (x.f0, x.f1)) (fun p => ⟨p.1, p.2⟩) (fun _ => rfl) Tryd.underlying32 (by kernel_rfl)
    (Opn.Fields.cons (Opn.Opens.slice Tryd.underlying30 (by kernel_rfl) (Opn.Opens.int Tryd.underlying3 (by kernel_rfl))) rfl (Opn.Fields.last (Opn.Opens.string Tryd.underlying9 (by kernel_rfl)) rfl))
set_option maxRecDepth 100000 in
theorem lifted (os : Os) (started : os.Started) (H : Type) (enc : TypeId × Value → H) :
    ReturnsInHanded {} Tryd.checked os 3 .any (fun w args => (Rows.fnTextFormatSpec.pre enc Tryd.prog Tryd.f3 [] false w args ∧ laidMetH Tryd.prog Rows.fnTextFormatRow.laid w) ∧ sizedMet enc Tryd.prog Tryd.f3 (OpenSpec.ofChange Rows.fnTextFormatSpec) false w args)
      (Rows.fnTextFormatSpec.post enc Tryd.prog Tryd.f3 false true false false) := by
  refine returnsInHanded_of_change_and (C := Tryd.checked) (X := fun w _ => laidMetH Tryd.prog Rows.fnTextFormatRow.laid w) (fun _ _ _ hh h => h.of_heap hh) own started (by kernel_rfl) Tryd.func3
    (ChangeSpec.witness_shaped (enc := enc) (C := Tryd.checked) (os := os) (X := fun w _ => laidMetH Tryd.prog Rows.fnTextFormatRow.laid w) false (World.laidAll Tryd.prog os Rows.fnTextFormatRow.laid) #[.int .u8 0, .slice none 0 0] 8 (World.laidAll_os _ _ _) (World.shaped_of_ZipB (by kernel_rfl) (by kernel_rfl)) (by kernel_rfl) (by kernel_rfl) (by kernel_rfl) (laid_met os _)) ?_
  intro W base args ds gs before hval0 hW _ _ hL _
  have hval : ∀ (j : Nat) t v, Tryd.f3.params[j]? = some t → args[j]? = some v → Value.okWide Tryd.prog W .any base t v := hval0
  have hW' := hW
  obtain ⟨p, q, hA0, hV, rfl, hfz, hnd⟩ := hW
  have hA : DataW.TrodAll enc Tryd.prog W 0 (fun _ => true) true Tryd.f3.params.toList args.toList ds p := hA0
  rw [Tryd.params3] at hA hval
  obtain ⟨v0, vs0, d0, ds0, p0, q0, hargs, rfl, rfl, h0, r0⟩ := trodAll_cons hA
  obtain ⟨v1, vs1, d1, ds1, p1, q1, rfl, rfl, rfl, h1, r1⟩ := trodAll_cons r0
  obtain ⟨rfl, rfl, rfl⟩ := trodAll_nil r1
  obtain rfl : args = #[v0, v1] := by cases args; simp_all
  obtain ⟨rfl, rfl⟩ := trodVars_none hV
  obtain ⟨x0, rfl, rfl, rfl, wx⟩ := open_int Tryd.underlying5 (hval 0 5 v0 rfl rfl) h0
  obtain ⟨a1, len1, cap1, rfl⟩ := okWide_slice Tryd.underlying22 (hval 1 22 v1 rfl rfl)
  have k1 := h1
  have lt1 : ∀ x ∈ p1, x.block < W.heap.size := by obtain ⟨m, hm⟩ := k1; exact DataW.trod_lt m _ _ _ hm
  obtain ⟨z1, e1, m1, C1, ok1⟩ : ∃ xs : List S32, len1 = xs.length ∧ len1 ≤ cap1 ∧ Kd.C k32 W a1 len1 xs ∧ (∀ x ∈ xs, (∀ c ∈ x.f0, (Lit.int .i64 c).wf = true) ∧ x.f1.size ≤ maxLen) := by
    obtain ⟨fuel, hf⟩ := h1
    obtain ⟨A', xs, c', hcs, hl, hC, hok⟩ := Opn.slice_opens Tryd.underlying22 opens32 hf
    simp [Value.cells] at hcs
    obtain ⟨rfl, rfl, rfl⟩ := hcs
    exact ⟨xs, rfl, hl, hC, hok⟩
  have hT := of_laid hL
  have hx := bounds_u8 wx
  obtain ⟨k, hlaw⟩ := Fmp.law x0 hx.1 hx.2 z1 (fun x hx c hc => bounds_i64 ((ok1 x hx).1 c hc))
  clear hA0 hval0
  subst e1
  refine (laws_FnTextFormat.calls k x0 a1 cap1 z1 true W C1 m1 hlaw hT).mono fun e W' ⟨he, bel⟩ => ?_
  subst he
  exact ⟨_, rfl, _, _, _, [], _, [], hW', trodAll_mk1 (shut_bool Tryd.underlying4 _), (trodAll_cons_mk (shut_int Tryd.underlying5 wx) (trodAll_cons_mk (Below.trod laidOut (by kernel_rfl) (of_decide_eq_true (by kernel_rfl)) k1 bel lt1) trodAll_mk0)), rfl, bel.frame _, fun h => by cases h⟩
theorem over : Rows.fnTextFormatRow.holds Tryd.pinned (OpenSpec.ofChange Rows.fnTextFormatSpec) :=
  OpenClaim.holds_of_wide 3 Tryd.f3 rfl rfl rfl rfl rfl rfl rfl ⟨rfl, rfl, rfl, rfl, rfl⟩ rfl rfl rfl rfl rfl (by kernel_rfl) Tryd.func3 (by kernel_rfl)
    (of_decide_eq_true (by kernel_rfl)) (by unfold Func.isWrapper; first | (rw [if_pos (by decide +kernel)]; kernel_rfl) | (rw [if_neg (by decide +kernel)]; exact ⟨rfl, rfl⟩))
    (fun os started H enc _ => lifted os started H enc)
theorem card : Rows.FnTextFormatCardSaid :=
  Claim7.holds_tied_plain_at .later [] _ _ _ _ over (fun _ h => by cases h) (by kernel_rfl) (fun _ h => by cases h) fnTextFormat_row_tie rfl ⟨rfl, rfl⟩ (by kernel_rfl) rfl
    (fun f fn hf hfn => by
      obtain rfl : f = 3 := Option.some.inj ((show Tryd.prog.funcNamed "pub-pinstripe/laws.FnTextFormat" = some 3 by kernel_rfl).symm.trans hf) |>.symm
      obtain rfl : fn = Tryd.f3 := (Option.some.inj (Tryd.func3.symm.trans hfn)).symm
      exact ⟨by kernel_rfl, fun j t ht => by
        rw [Tryd.params3] at ht
        have hm : t ∈ [5, 22] := by simpa using Array.mem_of_getElem? ht
        have hall : ([5, 22].all fun u => !Tryd.prog.wantsStandIn u) = true := by kernel_rfl
        exact (show Tryd.prog.wantsStandIn t = false by simpa using List.all_eq_true.1 hall t hm)⟩)
    (by kernel_rfl)
#print axioms card
end Go.Proofs.YtmphemnmbofpaaaDoorRRR.FmRow
namespace Go.Proofs.YtmphemnmbofpaaaDoorRRR
/-- The card, under a short name, for the claim. -/
theorem fnTextFormat_card_holds : Rows.FnTextFormatCardSaid := FmRow.card
end Go.Proofs.YtmphemnmbofpaaaDoorRRR
