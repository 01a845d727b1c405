/- Printing some colors puts the sequence of all of them ahead of the texts and the end of it behind them; with no colors the texts stay as they are; asked where all of the colors are attributes or plain colors, at most 10 of them, and where the texts are simple ones, together not empty. -/
import Derived.Test.YtenclpkeffhjaaaDoorRows
import Derived.Test.YtenclpkeffhjaaaDoorCards
import Derived.Test.YtenclpkeffhjaaaDoorTie
import Derived.Test.YtenclpkeffhjaaaDoorClw
import Derived.Test.YtenclpkeffhjaaaDoorOpens
import Derived.WalkKit
import Derived.ProofKit
import Derived.LaidMore
import Derived.OpenShut
import Derived.ChangeOld
import Derived.Below
import Derived.SizedLaws
import Derived.Stop.Joined
import Derived.SevenTiedAt
import Derived.Stop.LaidErr
namespace Go.Proofs.YtenclpkeffhjaaaDoor.TpRow
open Go Go.ChangeShapes Go.WideShapes Go.ChangeAt Go.RowKit Go.Proofs.YtenclpkeffhjaaaDoorW.PrintWords
set_option linter.unusedVariables false
theorem own : ownKnob Tryd.prog.godebug = none := by kernel_rfl
theorem laidOut : laidOutB Tryd.prog = true := by kernel_rfl
theorem gT : Tryd.prog.globalNamed "internal/strconv.uint64pow10" = some 1 := by kernel_rfl
theorem tT : (Tryd.prog.globals[1]?).map (·.type) = some 78 := by kernel_rfl
theorem c70 : Tryd.prog.cellsOf 70 = 1 := by kernel_rfl
theorem c78 : Tryd.prog.cellsOf 78 = 20 := by kernel_rfl
theorem tab_data : (Rows.laid_internal_strconv_uint64pow10 : DataW Unit) = Lib.tabData .u64 Lib.pow10Tab := by kernel_rfl
theorem door_met (os : Os) (args : Array Value) : laidMetH Tryd.prog Rows.fnTextColorsPrintRow.laid ((World.doorLaid Tryd.prog 24 os).forCall (fun _ _ => 0) ⟨#[], args, []⟩).memory :=
  laidMetH_of_parts3 (fuel := 8) (laidMet_of_run' 8 (by kernel_rfl) (by kernel_rfl)) (by kernel_rfl) (by kernel_rfl)
theorem of_laid {W : World} (h : laidMetH Tryd.prog Rows.fnTextColorsPrintRow.laid W) : Es.Tb W := by
  rw [MakeChecks.laidMetH_plain _ _ _ (by kernel_rfl)] at h
  have h2 := laidMet.tail (laidMet.tail h)
  rw [tab_data] at h2
  exact Lib.tabIs_of_head gT tT Tryd.underlying78 Tryd.underlying70 c70 c78 h2
def IsRow (k : IntKind) (w : World) (a : Option Addr) (len cap : Nat) (zs : List Int) : Prop :=
  (a = none ∧ len = 0 ∧ cap = 0 ∧ zs = []) ∨
  ∃ x, a = some x ∧ len ≤ cap ∧ cap ≤ maxLen ∧ zs.length = cap ∧ (∀ i, i < zs.length → w.cell? (x.add i) = some (.int k (zs.getD i 0))) ∧ ∀ n ∈ zs, (Lit.int k n).wf = true
theorem row_C {W : World} {a : Option Addr} {len cap : Nat} {zs : List Int} (h : IsRow .i64 W a len cap zs) : len = (zs.take len).length ∧ len ≤ cap ∧ Kd.C (Kd.int .i64) W a len (zs.take len) := by
  rcases h with ⟨rfl, rfl, rfl, rfl⟩ | ⟨x, rfl, hl, hm, hz, hc, _⟩
  · exact ⟨rfl, Nat.le_refl _, Kd.C_nil _ _⟩
  · have h1 : (zs.take len).length = len := by rw [List.length_take]; omega
    refine ⟨h1.symm, hl, Kd.C_of_reads (d := (0 : Int)) ⟨h1, by unfold maxLen at hm; omega, fun _ => ⟨x, rfl, fun i hi => ?_⟩⟩⟩
    rw [hc i (by omega)]
    congr 2
    simp only [List.getD_eq_getElem?_getD]
    rw [List.getElem?_take_of_lt hi]
theorem opens9 : Opn.Opens Tryd.prog 9 Kd.string (fun s => s.size ≤ maxLen) := Opn.Opens.string Tryd.underlying9 (by kernel_rfl)
set_option maxRecDepth 100000 in
theorem lifted (os : Os) (started : os.Started) (H : Type) (enc : TypeId × Value → H) :
    ReturnsInHanded {} Tryd.checked os 5 .any (fun w args => (Rows.fnTextColorsPrintSpec.pre enc Tryd.prog Tryd.f5 [] false w args ∧ laidMetH Tryd.prog Rows.fnTextColorsPrintRow.laid w) ∧ sizedMet enc Tryd.prog Tryd.f5 (OpenSpec.ofChange Rows.fnTextColorsPrintSpec) false w args)
      (Rows.fnTextColorsPrintSpec.post enc Tryd.prog Tryd.f5 false true false false) := by
  refine returnsInHanded_of_change_and (C := Tryd.checked) (X := fun w _ => laidMetH Tryd.prog Rows.fnTextColorsPrintRow.laid w) (fun _ _ _ hh h => h.of_heap hh) own started (by kernel_rfl) Tryd.func5
    (ChangeSpec.witness_shaped (enc := enc) (C := Tryd.checked) (os := os) (X := fun w _ => laidMetH Tryd.prog Rows.fnTextColorsPrintRow.laid w) false (World.doorLaid Tryd.prog 24 os) #[.slice none 0 0, .slice none 0 0] 8 rfl (World.shaped_of_RefB (by kernel_rfl) (by kernel_rfl)) (by kernel_rfl) (by kernel_rfl) (by kernel_rfl) (door_met os _)) ?_
  intro W base args ds gs before hval0 hW _ _ hL _
  have hval : ∀ (j : Nat) t v, Tryd.f5.params[j]? = some t → args[j]? = some v → Value.okWide Tryd.prog W .any base t v := hval0
  have hW' := hW
  obtain ⟨p, q, hA0, hV, rfl, hfz, hnd⟩ := hW
  have hA : DataW.TrodAll enc Tryd.prog W 0 (fun _ => true) true Tryd.f5.params.toList args.toList ds p := hA0
  rw [Tryd.params5] at hA hval
  obtain ⟨v0, vs0, d0, ds0, p0, q0, hargs, rfl, rfl, h0, r0⟩ := trodAll_cons hA
  obtain ⟨v1, vs1, d1, ds1, p1, q1, rfl, rfl, rfl, h1, r1⟩ := trodAll_cons r0
  obtain ⟨rfl, rfl, rfl⟩ := trodAll_nil r1
  obtain rfl : args = #[v0, v1] := by cases args; simp_all
  obtain ⟨rfl, rfl⟩ := trodVars_none hV
  obtain ⟨a0, len0, cap0, rfl⟩ := okWide_slice Tryd.underlying24 (hval 0 24 v0 rfl rfl)
  obtain ⟨a1, len1, cap1, rfl⟩ := okWide_slice Tryd.underlying34 (hval 1 34 v1 rfl rfl)
  have k0 := h0
  have k1 := h1
  have lt1 : ∀ x ∈ p1, x.block < W.heap.size := by obtain ⟨m, hm⟩ := k1; exact DataW.trod_lt m _ _ _ hm
  obtain ⟨z1, e1, m1, C1⟩ : ∃ xs : List ByteArray, len1 = xs.length ∧ len1 ≤ cap1 ∧ Kd.C Kd.string W a1 len1 xs := by
    obtain ⟨fuel, hf⟩ := h1
    obtain ⟨A', xs, c', hcs, hl, hC, hok⟩ := Opn.slice_opens Tryd.underlying34 opens9 hf
    simp [Value.cells] at hcs
    obtain ⟨rfl, rfl, rfl⟩ := hcs
    exact ⟨xs, rfl, hl, hC⟩
  have lt0 : ∀ x ∈ p0, x.block < W.heap.size := by obtain ⟨m, hm⟩ := k0; exact DataW.trod_lt m _ _ _ hm
  obtain ⟨z0, w0⟩ : ∃ zs, IsRow .i64 W a0 len0 cap0 zs := by
    obtain ⟨fuel, hf⟩ := h0
    rcases open_ints Tryd.underlying24 Tryd.underlying3 (by kernel_rfl) hf with ⟨hcs, _⟩ | ⟨x, l, c, zs, hcs, _, hl, hm, hz, _, hcell, hwz⟩
    · simp [Value.cells] at hcs
      obtain ⟨rfl, rfl, rfl⟩ := hcs
      exact ⟨[], .inl ⟨rfl, rfl, rfl, rfl⟩⟩
    · simp [Value.cells] at hcs
      obtain ⟨rfl, rfl, rfl⟩ := hcs
      exact ⟨zs, .inr ⟨_, rfl, hl, hm, by simpa using hz, hcell, hwz⟩⟩
  obtain ⟨e0, m0, C0⟩ := row_C w0
  have hT := of_laid hL
  clear hA0 hval0
  refine (Clw.law_any a0 a1 cap0 cap1 len0 len1 (z0.take len0) z1 W hT e0 C0 m0 e1 C1 m1).mono fun e W' ⟨he, bel⟩ => ?_
  subst he
  exact ⟨_, rfl, _, _, _, [], _, [], hW', trodAll_mk1 (shut_bool Tryd.underlying4 _), (trodAll_cons_mk (Below.trod laidOut (by kernel_rfl) (of_decide_eq_true (by kernel_rfl)) k0 bel lt0) (trodAll_cons_mk (Below.trod laidOut (by kernel_rfl) (of_decide_eq_true (by kernel_rfl)) k1 bel lt1) trodAll_mk0)), rfl, bel.frame _, fun h => by cases h⟩
theorem over : Rows.fnTextColorsPrintRow.holds Tryd.pinned (OpenSpec.ofChange Rows.fnTextColorsPrintSpec) :=
  OpenClaim.holds_of_wide 5 Tryd.f5 rfl rfl rfl rfl rfl rfl rfl ⟨rfl, rfl, rfl, rfl, rfl⟩ rfl rfl rfl rfl rfl (by kernel_rfl) Tryd.func5 (by kernel_rfl)
    (of_decide_eq_true (by kernel_rfl)) (by unfold Func.isWrapper; first | (rw [if_pos (by decide +kernel)]; kernel_rfl) | (rw [if_neg (by decide +kernel)]; exact ⟨rfl, rfl⟩))
    (fun os started H enc _ => lifted os started H enc)
theorem card_holds : Rows.FnTextColorsPrintCardSaid :=
  Claim7.holds_tied_plain_at .later [] [.data, .data, .data] true (true, "584b177a1858e098b03ed6eed21cc20f26c1546c00e59d0b066a12332e2eeaad") false
    over (fun _ h => by cases h) (by kernel_rfl) (fun _ h => by cases h) fnTextColorsPrint_row_tie rfl ⟨rfl, rfl⟩ (by kernel_rfl) rfl
    (fun f fn hf hfn => by
      obtain rfl : f = 5 := Option.some.inj ((show Tryd.prog.funcNamed "pub-pinstripe/laws.FnTextColorsPrint" = some 5 by kernel_rfl).symm.trans hf) |>.symm
      obtain rfl : fn = Tryd.f5 := (Option.some.inj (Tryd.func5.symm.trans hfn)).symm
      exact ⟨by kernel_rfl, fun j t ht => by
        rw [Tryd.params5] at ht
        have hm : t ∈ [24, 34] := by simpa using Array.mem_of_getElem? ht
        have hall : ([24, 34].all fun u => !Tryd.prog.wantsStandIn u) = true := by kernel_rfl
        exact (show Tryd.prog.wantsStandIn t = false by simpa using List.all_eq_true.1 hall t hm)⟩)
    (by kernel_rfl)
#print axioms card_holds
end Go.Proofs.YtenclpkeffhjaaaDoor.TpRow
namespace Go.Proofs.YtenclpkeffhjaaaDoor
/-- The card, under a short name, for the claim. -/
theorem fnTextColorsPrint_card_holds : Rows.FnTextColorsPrintCardSaid := TpRow.card_holds
end Go.Proofs.YtenclpkeffhjaaaDoor
