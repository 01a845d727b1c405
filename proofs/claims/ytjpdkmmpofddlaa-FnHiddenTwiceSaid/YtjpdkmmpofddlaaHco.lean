/- The walk of hideColumns. -/
import Derived.Test.YtjpdkmmpofddlaaClo
import Derived.Deep.DeepCutAuto
import Derived.Deep.RegionWith
namespace Go.Proofs.Ytjpdkmmpofddlaa.Hco
open Go Go.RowKit Go.Proofs.YtjpdkmmpofddlaaW.PrintWords Go.Proofs.YtjpdkmmpofddlaaW.PrintMore Go.Proofs.Ytjpdkmmpofddlaa.Mp Go.Proofs.Ytjpdkmmpofddlaa.Cfg Go.Proofs.Ytjpdkmmpofddlaa.Tbl Go.Proofs.Ytjpdkmmpofddlaa.Hid Go.Proofs.Ytjpdkmmpofddlaa.Clo Go.Proofs.Ytjpdkmmpofddlaa.Small

section
variable {w0 w w' : World} {B c1 c2 c3 T Mp M2 : Nat} {tab : Array Value} {cs : List Cf} {num m2 : Nat}
theorem Cs.setTab (h : Cs w0 B c1 c2 c3 T Mp M2 tab cs num m2 w) (j : Nat) (hj : j ≠ 6) (v : Value) : Cs w0 B c1 c2 c3 T Mp M2 (tab.setIfInBounds j v) cs num m2 (w.setCell ⟨T, j, none⟩ v) := by
  have e : ∀ (b : Nat) (o : Obj), w.heap[b]? = some o → (∀ cells : Array Value, o ≠ Obj.cells cells 94 (0, 0)) → (w.setCell ⟨T, j, none⟩ v).heap[b]? = some o := fun b o hb ho => by
    rw [heap_setCell_other w _ b _ (fun e => by have e' : b = T := e; rw [e', h.ht] at hb; exact ho _ (by injection hb with hb; exact hb.symm))]; exact hb
  have em : ∀ {b m : Nat} {g : Lit → Option Value}, MapIs Try.prog 3 b m g w → MapIs Try.prog 3 b m g (w.setCell ⟨T, j, none⟩ v) := fun {b m g} hm => by
    obtain ⟨D, ⟨es, cl, h0, h1⟩, h2⟩ := hm
    exact ⟨D, ⟨es, cl, e _ _ h0 (by simp), h1⟩, h2⟩
  obtain ⟨m, g, hm, hmi⟩ := h.mi
  refine ⟨e _ _ h.h1 (by simp), e _ _ h.h2 (by simp), e _ _ h.h3 (by simp), heap_setCell_same w T j _ 94 v h.ht, by rw [Array.getElem?_setIfInBounds, if_neg hj]; exact h.t6, em h.mp, ⟨m, g, hm, em hmi⟩, h.bel.trans ⟨rfl, rfl, rfl, by simp [World.setCell], fun i hi => heap_setCell_other w _ i _ (fun e => ?_)⟩, h.lo, h.hi, by simpa [World.setCell] using h.hB, h.ne⟩
  have e' : i = T := e
  have := h.lo
  omega
theorem Cs.freeT (h : Cs w0 B c1 c2 c3 T Mp M2 tab cs num m2 w) (j : Nat) : w.frozen? ⟨T, j, none⟩ = false := frozen_of_row w T j _ 94 h.ht
end

/-- what one of the three statements leaves -/
structure Ps (w0 : World) (c1 c2 c3 T Mp M2 : Nat) (cs : List Cf) (num m2 : Nat) (tab : Array Value) (B : Nat) (v : Value) (out : List (List ByteArray)) (w : World) : Prop where
  cs : Cs w0 w.heap.size c1 c2 c3 T Mp M2 tab cs num m2 w
  row : Kd.R kt 100 w B (fun _ => True) v out
  t20 : tab[20]? = some v
  sz : tab.size = 43
  hBT : T < B

set_option linter.all false in
set_option maxRecDepth 100000 in
set_option maxHeartbeats 4000000 in
theorem hide {w0 w : World} {T Mp n c0 : Nat} {A0 : Option Addr} {tab : Array Value} {cs : List Cf} (okV : Nat → Prop) (rows : List (List ByteArray)) (hn : n = rows.length)
    (ht : w.heap[T]? = some (.cells tab 94 (0, 0))) (hsz : tab.size = 43) (t6 : tab[6]? = some (.map (some Mp))) (t20 : tab[20]? = some (.slice A0 n c0)) (t25 : tab[25]? = some (.slice none 0 0)) (t28 : tab[28]? = some (.slice none 0 0))
    (mp : MapIs Try.prog 3 Mp cs.length (cfgAt cs) w) (hF : Kd.F kt w okV A0 n rows) (hok : ∀ k, okV k → k < w.heap.size ∧ k ≠ T) (hB : Below w0.heap.size w0 w) (hT : w0.heap.size ≤ T)
    (hnb : n ≤ 2147483647) (hlen : ∀ r ∈ rows, r.length ≤ 2147483647) (htot : tot rows n < 9223372036854775807) :
    Calls Try.prog 21 #[.pointer (some ⟨T, 0, none⟩)] w fun e w' => ∃ v r tab', e = .returned r ∧ w'.heap[T]? = some (.cells tab' 94 (0, 0)) ∧ tab'[20]? = some v ∧ tab'[14]? = some (.int .i64 (maxTo cs rows 0 n)) ∧ Kd.R kt 100 w' (T + 1) (fun _ => True) v (rowsTo cs rows n) ∧ Below w0.heap.size w0 w' := by
  have hTl := lt_of_get ht
  have hMl := mp.lt
  have hmm := @run_makeMap Try.prog
  have hmf : ∀ (fn : Fn) (first cap : Array Value) (w : World), (Instr.makeFunc fn first cap).run Try.prog w = .ok (.func fn first cap) w := fun _ _ _ _ => rfl
  have S : Cs w0 (w.heap.size + 1 + 1 + 1 + 1) w.heap.size (w.heap.size + 1 + 1) (w.heap.size + 1 + 1 + 1) T Mp (w.heap.size + 1) tab cs 0 0 ((((w.alloc (.cells #[.pointer (some ⟨T, 0, none⟩)] 72)).alloc (.map #[] 0)).alloc (.cells #[.map (some (w.heap.size + 1))] 96)).alloc (.cells #[.int .i64 0] 3)) := by
    have hs := hB.size
    refine ⟨?_, ?_, ?_, ?_, t6, (((mp.alloc _).alloc _).alloc _).alloc _, ⟨0, _, Nat.le_refl _, made_of (cl := 0) ?_⟩, ?_, ?_, ?_, ?_, ?_⟩
    · exact old (old (old (new' rfl)))
    · exact old (new' (by simp only [World.size_alloc]))
    · exact new' (by simp only [World.size_alloc])
    · exact old (old (old (old ht)))
    · exact old (old (new' (by simp only [World.size_alloc])))
    · exact below_alloc (below_alloc (below_alloc (below_alloc hB _) _) _) _
    · omega
    · omega
    · simp only [World.size_alloc]; omega
    · omega
  have HF := Aside0.mk (Kd.F_alloc (Kd.F_alloc (Kd.F_alloc (Kd.F_alloc hF (.cells #[.pointer (some ⟨T, 0, none⟩)] 72)) (.map #[] 0)) (.cells #[.map (some (w.heap.size + 1))] 96)) (.cells #[.int .i64 0] 3))
  have HOK := Aside0.mk hok; have HL := Aside0.mk hlen; have HN := Aside0.mk hn; have H20 := Aside0.mk t20; have H25 := Aside0.mk t25; have H28 := Aside0.mk t28; have HSZ := Aside0.mk hsz
  clear hF hok hlen hn t20 t25 t28 hsz ht mp t6
  go_enter Try.func21, Try.ntmps21
  go_upto_region 4 with (fail)
  generalize hW : (((w.alloc _).alloc _).alloc _).alloc _ = W at S HF ⊢
  have hWs : W.heap.size = w.heap.size + 1 + 1 + 1 + 1 := by rw [← hW]; simp only [World.size_alloc]
  clear hW
  generalize e4 : w.heap.size + 1 + 1 + 1 + 1 = B at S hWs
  generalize e3 : w.heap.size + 1 + 1 + 1 = c3 at S e4 ⊢
  generalize e2 : w.heap.size + 1 + 1 = c2 at S e3 ⊢
  generalize e1 : w.heap.size + 1 = M2 at S e2 ⊢
  generalize e0 : w.heap.size = c1 at S e1 HOK hTl hMl ⊢
  have hord : c1 < M2 ∧ M2 < c2 ∧ c2 < c3 ∧ c3 < B := by omega
  have HOK2 : Aside0 (∀ k, okV k → k < B ∧ k ≠ M2 ∧ k ≠ c3) := ⟨fun k hk => by have := (HOK.out k hk).1; omega⟩
  clear e0 e1 e2 e3 e4 hmm hmf HOK
  go_cut [5] (fun v5 wx => ∃ (B' : Nat) (v : Value) (tab' : Array Value), v5 = Value.func (Fn.func 24) #[] #[.pointer (some ⟨c1, 0, none⟩), .pointer (some ⟨c2, 0, none⟩), .pointer (some ⟨c3, 0, none⟩)] ∧ B ≤ B' ∧ Cs w0 B' c1 c2 c3 T Mp M2 tab' cs (maxTo cs rows 0 n) (tot rows n) wx ∧ Aside0 (Kd.R kt 100 wx B (fun _ => True) v (rowsTo cs rows n)) ∧ Aside0 (tab'[20]? = some v) ∧ Aside0 (tab'[25]? = some (.slice none 0 0) ∨ False) ∧ Aside0 (tab'[28]? = some (.slice none 0 0) ∨ False) ∧ Aside0 (tab'.size = 43))
  case first =>
    have SD := S.below (below_drew1 (Below.refl _ _))
    have k1 := SD.cell1
    have k20 := (SD.cellT 20).trans H20.out
    have HFD := Aside0.mk (Kd.F_drew HF.out)
    go_region_with (go_at_call 24; refine (clos SD okV A0 c0 n rows HN.out HFD.out HOK2.out hnb HL.out (by omega)).mono ?_; rintro e w1 ⟨vv, rfl, S1, HR1, HK1⟩; have q1 := S1.cell1; have q20 := (S1.cellT 20).trans H20.out; have f20 := Cs.freeT S1 20; obtain ⟨Av, qv, rfl⟩ := Kd.R_slice HR1)
    all_goals go_wp2_with (fail)
    all_goals go_meet
    all_goals (case rel =>
      refine ⟨B, _, _, rfl, Nat.le_refl _, by have := Cs.setTab S1 20 (by decide) (.slice Av (rowsTo cs rows n).length qv); rw [Nat.zero_add] at this; exact this, ⟨Kd.R_mono (Kd.R_far (Kd.R_bound HR1) (fun k hk e => ?_) _) (fun _ _ => trivial)⟩, ⟨?_⟩, ⟨.inl ?_⟩, ⟨.inl ?_⟩, ⟨?_⟩⟩
      · have e' : k = T := e
        have := hk.2.1
        omega
      · rw [Array.getElem?_setIfInBounds, if_pos rfl, if_pos (by rw [HSZ.out]; decide)]
      · rw [Array.getElem?_setIfInBounds, if_neg (by decide)]; exact H25.out
      · rw [Array.getElem?_setIfInBounds, if_neg (by decide)]; exact H28.out
      · rw [Array.size_setIfInBounds]; exact HSZ.out)
  case rest =>
    clear S
    obtain ⟨B1, v, tab1, rfl, hBB, S, HRv, HT20, HT25, HT28, HTS⟩ := hcut
    have SU := S.up S.hB (Nat.le_refl _)
    go_upto_region 5 with (fail)
    go_cut [5] (fun v5 wx => ∃ (B' : Nat) (v : Value) (tab' : Array Value), v5 = Value.func (Fn.func 24) #[] #[.pointer (some ⟨c1, 0, none⟩), .pointer (some ⟨c2, 0, none⟩), .pointer (some ⟨c3, 0, none⟩)] ∧ B ≤ B' ∧ Cs w0 B' c1 c2 c3 T Mp M2 tab' cs (maxTo cs rows 0 n) (tot rows n) wx ∧ Aside0 (Kd.R kt 100 wx B (fun _ => True) v (rowsTo cs rows n)) ∧ Aside0 (tab'[20]? = some v) ∧ Aside0 (tab'[25]? = some (.slice none 0 0) ∨ True) ∧ Aside0 (tab'[28]? = some (.slice none 0 0) ∨ False) ∧ Aside0 (tab'.size = 43))
    case first =>
      have SD := SU.below (below_drew1 (Below.refl _ _))
      have k1 := SD.cell1
      have k20 := (SD.cellT 25).trans ((HT25.out).resolve_right id)
      have HN1 : Kd.F kt wc.drew (fun _ => False) none 0 [] := Kd.F_nil _ _ _
      go_region_with (go_at_call 24; refine (clos SD (fun _ => False) none 0 0 [] rfl HN1 (fun _ h => h.elim) (by omega) (fun _ h => by cases h) (by simp only [tot]; omega)).mono ?_; rintro e w1 ⟨vv, rfl, S1, HR1, HK1⟩; have q1 := S1.cell1; have q20 := (S1.cellT 25).trans ((HT25.out).resolve_right id); have f20 := Cs.freeT S1 25; obtain ⟨Av, qv, rfl⟩ := Kd.R_slice HR1)
      all_goals go_wp2_with (fail)
      all_goals go_meet
      all_goals (case rel =>
        refine ⟨_, _, _, rfl, Nat.le_trans hBB (S.hB), Cs.setTab S1 25 (by decide) (.slice Av 0 qv), ⟨Kd.R_mono (Kd.R_far (Kd.R_step (Kd.R_bound HRv.out) (fun k hk hlt => ?_)) (fun k hk e => ?_) _) (fun _ _ => trivial)⟩, ⟨?_⟩, ⟨.inr trivial⟩, ⟨?_⟩, ⟨?_⟩⟩
        · exact HK1 k hlt (fun e => by have := hk.2.1; omega) (fun e => by have := hk.2.1; omega)
        · have e' : k = T := e
          have := hk.2.1
          omega
        · rw [Array.getElem?_setIfInBounds, if_neg (by decide)]; exact HT20.out
        · exact .inl (by rw [Array.getElem?_setIfInBounds, if_neg (by decide)]; exact (HT28.out).resolve_right id)
        · rw [Array.size_setIfInBounds]; exact HTS.out)
    case rest =>
      clear S SU HRv HT20 HT25 HT28 HTS
      obtain ⟨B2, v, tab2, rfl, hBB, S, HRv, HT20, HT25, HT28, HTS⟩ := hcut
      have SU := S.up S.hB (Nat.le_refl _)
      go_upto_region 6 with (fail)
      go_cut [5] (fun v5 wx => ∃ (B' : Nat) (v : Value) (tab' : Array Value), v5 = Value.func (Fn.func 24) #[] #[.pointer (some ⟨c1, 0, none⟩), .pointer (some ⟨c2, 0, none⟩), .pointer (some ⟨c3, 0, none⟩)] ∧ B ≤ B' ∧ Cs w0 B' c1 c2 c3 T Mp M2 tab' cs (maxTo cs rows 0 n) (tot rows n) wx ∧ Aside0 (Kd.R kt 100 wx B (fun _ => True) v (rowsTo cs rows n)) ∧ Aside0 (tab'[20]? = some v) ∧ Aside0 (tab'[25]? = some (.slice none 0 0) ∨ True) ∧ Aside0 (tab'[28]? = some (.slice none 0 0) ∨ True) ∧ Aside0 (tab'.size = 43))
      case first =>
        have SD := SU.below (below_drew1 (Below.refl _ _))
        have k1 := SD.cell1
        have k20 := (SD.cellT 28).trans ((HT28.out).resolve_right id)
        have HN1 : Kd.F kt wc.drew (fun _ => False) none 0 [] := Kd.F_nil _ _ _
        go_region_with (go_at_call 24; refine (clos SD (fun _ => False) none 0 0 [] rfl HN1 (fun _ h => h.elim) (by omega) (fun _ h => by cases h) (by simp only [tot]; omega)).mono ?_; rintro e w1 ⟨vv, rfl, S1, HR1, HK1⟩; have q1 := S1.cell1; have q20 := (S1.cellT 28).trans ((HT28.out).resolve_right id); have f20 := Cs.freeT S1 28; obtain ⟨Av, qv, rfl⟩ := Kd.R_slice HR1)
        all_goals go_wp2_with (fail)
        all_goals go_meet
        all_goals (case rel =>
          refine ⟨_, _, _, rfl, Nat.le_trans hBB (S.hB), Cs.setTab S1 28 (by decide) (.slice Av 0 qv), ⟨Kd.R_mono (Kd.R_far (Kd.R_step (Kd.R_bound HRv.out) (fun k hk hlt => ?_)) (fun k hk e => ?_) _) (fun _ _ => trivial)⟩, ⟨?_⟩, ⟨.inr trivial⟩, ⟨.inr trivial⟩, ⟨?_⟩⟩
          · exact HK1 k hlt (fun e => by have := hk.2.1; omega) (fun e => by have := hk.2.1; omega)
          · have e' : k = T := e
            have := hk.2.1
            omega
          · rw [Array.getElem?_setIfInBounds, if_neg (by decide)]; exact HT20.out
          
          · rw [Array.size_setIfInBounds]; exact HTS.out)
      case rest =>
        clear SU HRv HT20 HT25 HT28 HTS
        clear S
        obtain ⟨B3, v, tab3, rfl, hBB, S, HRv, HT20, HT25, HT28, HTS⟩ := hcut
        have k1 := S.cell1
        have k2 := S.cell2
        have k3 := S.cell3
        have fT := Cs.freeT S 14
        have kT : wc.cell? ⟨T, 14, none⟩ = some (tab3.getD 14 undef) := by rw [S.cellT]; simp [Array.getD_eq_getD_getElem?, show 14 < tab3.size by rw [HTS.out]; decide]
        have SA := Aside0.mk (Cs.setTab S 14 (by decide) (.int .i64 (maxTo cs rows 0 n)))
        have hTB : T < B := by omega
        clear S
        go_wp2_with (fail)
        go_ret
        refine ⟨v, _, _, rfl, SA.out.ht, ?_, ?_, Kd.R_lower (Kd.R_mono (Kd.R_far (Kd.R_bound HRv.out) (p := ⟨T, 14, none⟩) (fun k hk e => ?_) _) (fun _ _ => trivial)) (by omega), SA.out.bel⟩
        · rw [Array.getElem?_setIfInBounds, if_neg (by decide)]; exact HT20.out
        · rw [Array.getElem?_setIfInBounds, if_pos rfl, if_pos (by rw [HTS.out]; decide)]
        · have e' : k = T := e
          have := hk.2.1
          omega
end Go.Proofs.Ytjpdkmmpofddlaa.Hco
