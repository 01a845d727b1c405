/- The walks of ZzHide and impl.HiddenOf. -/
import Derived.Test.YtjpdkmmpofddlaaHco
import Derived.Test.YtjpdkmmpofddlaaGro
namespace Go.Proofs.Ytjpdkmmpofddlaa.Hzz
open Go Go.RowKit Go.Proofs.YtjpdkmmpofddlaaW.PrintWords Go.Proofs.YtjpdkmmpofddlaaW.PrintMore Go.Proofs.Ytjpdkmmpofddlaa.Mp Go.Proofs.Ytjpdkmmpofddlaa.Cfg Go.Proofs.Ytjpdkmmpofddlaa.Tbl Go.Proofs.Ytjpdkmmpofddlaa.Hid Go.Proofs.Ytjpdkmmpofddlaa.Small Go.Proofs.Ytjpdkmmpofddlaa.GHidBody

theorem build69 {ops : Array Oper} {rest : List Oper} {o : Oper} {a : Act} {w : World} {Q : Exit → Act → World → Prop} (hg : o.guard = none) (ho : o.op = .build 69 #[])
    (h : wpList Try.prog ops Q rest (a.put o.dst (.agg (Gro.styleOf 0))) w) : wpList Try.prog ops Q (o :: rest) a w := by
  have e : Try.prog.built 69 [] = some (Gro.styleOf 0) := by kernel_rfl
  have e0 : ((#[] : Array (Nat × Operand)).map fun (i, x) => (i, a.eval x)).toList = [] := by simp
  refine wpList_build hg 69 _ ho ?_ ?_
  · rw [e0, e]; rfl
  · rw [e0, e]; exact h
theorem columns0 (A1 : Option Addr) (c1 m : Nat) (cs : List Cf) (w : World) (hm : m = cs.length) (hr1 : kd.C w A1 m cs) (h1 : m < 17592186044416) :
    Calls Try.prog 18 #[.slice none 0 0, .slice A1 m c1, .agg (Gro.styleOf 0)] w fun e w' => ∃ (T Mp Bl : Nat) (A : Option Addr) (k c : Nat), e = .returned (.pointer (some ⟨T, 0, none⟩)) ∧ St w 0 0 (Gro.styleOf 0) T Mp Bl A k c [] cs.length (cfgAt cs) w' := by
  subst hm
  exact columns none 0 [] A1 c1 cs (Gro.styleOf 0) w (Kd.C_nil _ _) hr1 rfl (by decide) h1

theorem take_snoc (l : List (List ByteArray)) (i : Nat) (h : i < l.length) : l.take i ++ [rd_L1 l (i : Int)] = l.take (i + 1) := by
  rw [take_succ_at l i h]
  simp [rd_L1, List.getElem?_eq_getElem h]
theorem rows_copy (l : List (List ByteArray)) (hl : l.length ≤ 2147483647) : ∀ d i : Nat, i + d = l.length → ∃ k, table_zzRows.l0 k (l.take i) l (l.length : Int) (i : Int) = some l := by
  intro d
  induction d with
  | zero =>
    intro i h
    refine ⟨1, ?_⟩
    simp only [table_zzRows.l0]
    rw [if_neg (by omega), List.take_of_length_le (by omega)]
  | succ d ih =>
    intro i h
    obtain ⟨k, hk⟩ := ih (i + 1) (by omega)
    refine ⟨k + 1, ?_⟩
    simp only [table_zzRows.l0]
    rw [if_pos (by omega), if_pos (by omega), if_pos (by omega), if_pos (by rw [List.length_take]; omega), take_snoc l i (by omega), wrap_succ i (by omega)]
    exact hk
theorem texts_copy (l : List (List ByteArray)) (hl : l.length ≤ 2147483647) : ∀ d i : Nat, i + d = l.length → ∃ k, table_zzTexts.l0 k (l.take i) l (l.length : Int) (i : Int) = some l := by
  intro d
  induction d with
  | zero =>
    intro i h
    refine ⟨1, ?_⟩
    simp only [table_zzTexts.l0]
    rw [if_neg (by omega), List.take_of_length_le (by omega)]
  | succ d ih =>
    intro i h
    obtain ⟨k, hk⟩ := ih (i + 1) (by omega)
    refine ⟨k + 1, ?_⟩
    simp only [table_zzTexts.l0]
    rw [if_pos (by omega), if_pos (by omega), if_pos (by omega), if_pos (by rw [List.length_take]; omega), take_snoc l i (by omega), wrap_succ i (by omega)]
    exact hk

theorem zrows (P0 : Nat → Prop) (A0 : Option Addr) (c0 n : Nat) (rows : List (List ByteArray)) (w : World) (hn : n = rows.length) (hF : Kd.F kt w P0 A0 n rows) (hc : n ≤ c0) (hnb : n ≤ 2147483647) :
    Calls Try.prog 20 #[.slice A0 n c0] w fun e w' => ∃ A c, e = .returned (.slice A n c) ∧ n ≤ c ∧ Kd.F kt w' (fun k => P0 k ∨ w.heap.size ≤ k) A n rows ∧ Below w.heap.size w w' := by
  subst hn
  obtain ⟨k, hk⟩ := rows_copy rows hnb rows.length 0 (by omega)
  refine (table_zzRows.calls k P0 A0 c0 rows rows w ⟨A0, c0, rfl, hc, hF⟩ hk).mono ?_
  rintro e w' ⟨v, rfl, hN, hb⟩
  obtain ⟨A, c, rfl, hl, hf⟩ := Kd.N_V (base' := 0) hN
  exact ⟨A, c, rfl, hl, hf, hb⟩
theorem ztexts (P0 : Nat → Prop) (A0 : Option Addr) (c0 n : Nat) (rows : List (List ByteArray)) (w : World) (hn : n = rows.length) (hF : Kd.F kt w P0 A0 n rows) (hc : n ≤ c0) (hnb : n ≤ 2147483647) :
    Calls Try.prog 22 #[.slice A0 n c0] w fun e w' => ∃ A c, e = .returned (.slice A n c) ∧ n ≤ c ∧ Kd.F kt w' (fun k => P0 k ∨ w.heap.size ≤ k) A n rows ∧ Below w.heap.size w w' := by
  subst hn
  obtain ⟨k, hk⟩ := texts_copy rows hnb rows.length 0 (by omega)
  refine (table_zzTexts.calls k P0 A0 c0 rows rows w ⟨A0, c0, rfl, hc, hF⟩ hk).mono ?_
  rintro e w' ⟨v, rfl, hN, hb⟩
  obtain ⟨A, c, rfl, hl, hf⟩ := Kd.N_V (base' := 0) hN
  exact ⟨A, c, rfl, hl, hf, hb⟩
theorem hide0 {w0 w : World} {T Mp Bl n c0 k c st : Nat} {A0 A : Option Addr} {cs : List Cf} (okV : Nat → Prop) (rows : List (List ByteArray)) (hn : n = rows.length)
    (ht : w.heap[T]? = some (.cells (tcells 0 0 (.slice A k c) (.slice (some ⟨Bl, 0, none⟩) 0 0) Mp st) 94 (0, 0))) (mp : MapIs Try.prog 3 Mp cs.length (cfgAt cs) w) (hF : Kd.F kt w okV A0 n rows) (hok : ∀ k, okV k → k < w.heap.size ∧ k ≠ T) (hB : Below w0.heap.size w0 w) (hT : w0.heap.size ≤ T)
    (hnb : n ≤ 2147483647) (hlen : ∀ r ∈ rows, r.length ≤ 2147483647) (htot : tot rows n < 9223372036854775807) :
    Calls Try.prog 21 #[.pointer (some ⟨T, 0, none⟩)] (w.setCell ⟨T, 20, none⟩ (.slice A0 n c0)) fun e w' => ∃ Av q r tab', e = .returned r ∧ w'.heap[T]? = some (.cells tab' 94 (0, 0)) ∧ tab'[20]? = some (.slice Av n q) ∧ tab'[14]? = some (.int .i64 (maxTo cs rows 0 n)) ∧ n ≤ q ∧ Kd.F kt w' (fun _ => True) Av n (rowsTo cs rows n) ∧ Below w0.heap.size w0 w' := by
  have h1 := heap_setCell_same w T 20 _ 94 (.slice A0 n c0) ht
  have hne : Mp ≠ T := fun e => by
    obtain ⟨D, ⟨es, cl, h0, _⟩, _⟩ := mp
    rw [e, ht] at h0; cases h0
  refine (Hco.hide okV rows hn h1 (by simp [tcells]) (Mp := Mp) (n := n) (c0 := c0) (A0 := A0) (by simp [tcells]) (by simp [tcells]) (by simp [tcells]) (by simp [tcells]) (mp.of_heap (heap_setCell_other w _ _ _ hne)) (Kd.F_far hF (fun k hk => (hok k hk).2) _) (fun k hk => by have := hok k hk; simpa [World.setCell] using this) (hB.trans ⟨rfl, rfl, rfl, by simp [World.setCell], fun i hi => heap_setCell_other w _ i _ (by show i ≠ T; omega)⟩) hT hnb hlen htot).mono ?_
  rintro e w' ⟨v, r, tab', he, h2, h3, h4, h5, h6⟩
  obtain ⟨Av, q, rfl, hq, _⟩ := Kd.R_reads h5
  have hF2 := Kd.R_F h5
  rw [rowsTo_len] at h3 hq hF2
  exact ⟨Av, q, r, tab', he, h2, h3, h4, hq, hF2, h6⟩

set_option linter.all false in
set_option maxRecDepth 100000 in
set_option maxHeartbeats 1000000 in
theorem zhide (A0 : Option Addr) (c0 n : Nat) (rows : List (List ByteArray)) (A1 : Option Addr) (c1 m : Nat) (cs : List Cf) (w : World) (hn : n = rows.length) (hm : m = cs.length) (hr0 : Kd.C kt w A0 n rows) (hc0 : n ≤ c0) (hr1 : kd.C w A1 m cs) (hm1 : m < 17592186044416)
    (hnb : n ≤ 2147483647) (hlen : ∀ r ∈ rows, r.length ≤ 2147483647) (htot : tot rows n < 9223372036854775807) :
    Calls Try.prog 17 #[.slice A0 n c0, .slice A1 m c1] w fun e w' => ∃ A c, e = .returned (.tuple #[.slice A n c, .int .i64 (maxTo cs rows 0 n)]) ∧ n ≤ c ∧ Kd.F kt w' (fun _ => True) A n (rowsTo cs rows n) ∧ Below w.heap.size w w' := by
  have HN := Aside0.mk hn; have HM := Aside0.mk hm; have HL := Aside0.mk hlen
  have HF := Aside0.mk (Kd.C_F (Kd.heap_slice 9 Kd.heap_string) hr0); have H1 := Aside0.mk hr1
  have hlr := rowsTo_len cs rows n
  clear hn hm hlen hr0 hr1
  go_enter Try.func17, Try.ntmps17
  go_wp2_with (first
    | ((with_reducible refine gate_dst (N := 8) rfl ?_); refine build69 rfl rfl ?_)
    | (go_at_call 18; refine (columns0 A1 c1 m cs w HM.out H1.out hm1).mono ?_
       rintro e w1 ⟨T, Mp, Bl, A, k, c, rfl, S⟩)
    | (go_at_call 20; refine (zrows (fun k => k < w.heap.size) A0 c0 n rows w1 HN.out (Kd.F_below HF.out S.bel) hc0 hnb).mono ?_
       rintro e w2 ⟨Ar, cr, rfl, hcr, hFr, hb2⟩
       have S2 := S.below hb2
       have k20 := S2.tcell 20
       have f20 := frozen_of_row w2 T 20 _ 94 S2.tab
       simp only [tcells] at k20
       have HFR := Aside0.mk (Kd.F_bound hFr); have HB2 := Aside0.mk hb2
       have hTw1 := lt_of_get S.tab
       clear hFr hb2)
    | (go_at_call 21; refine (hide0 _ rows HN.out S2.tab S2.map HFR.out (fun k hk => ⟨hk.2, fun e => by have := S2.hT; rcases hk.1 with h | h <;> omega⟩) S2.bel (Nat.le_of_lt S2.hT) hnb HL.out htot).mono ?_
       rintro e w3 ⟨Av, q, r, tab', rfl, h4, h20, h14, hq, hF4, hb4⟩))
  have h4d : w3.drew.heap[T]? = some (.cells tab' 94 (0, 0)) := h4
  have k20' : w3.drew.cell? ⟨T, 20, none⟩ = some (.slice Av n q) := (cell_of_row w3.drew T 20 _ 94 _ h4d).trans h20
  have k14' : w3.drew.cell? ⟨T, 14, none⟩ = some (.int .i64 (maxTo cs rows 0 n)) := (cell_of_row w3.drew T 14 _ 94 _ h4d).trans h14
  have HF5 := Aside0.mk (Kd.F_drew hF4)
  have HB4 := Aside0.mk hb4
  have hTs := lt_of_get h4d
  clear k20 f20 hF4 hb4 HFR HB2 S S2 h4
  go_region_with (go_at_call 22; refine (ztexts (fun _ => True) Av q n (rowsTo cs rows n) w3.drew hlr.symm HF5.out hq hnb).mono ?_; rintro e w4 ⟨Ax, cx, rfl, hcx, hF6, hb6⟩; have h4e : w4.heap[T]? = some (.cells tab' 94 (0, 0)) := (hb6.block T hTs).trans h4d; have q20 := (cell_of_row w4 T 20 _ 94 _ h4e).trans h20; have q14 := (cell_of_row w4 T 14 _ 94 _ h4e).trans h14)
  all_goals (try go_wp2)
  all_goals go_ret2
  all_goals exact ⟨_, _, rfl, hcx, Kd.F_mono hF6 (fun _ _ => trivial), HB4.out.trans ((below_drew1 (Below.refl _ _)).trans (hb6.mono (Nat.le_refl _)) |>.mono HB4.out.size)⟩

/-- the configs of columns that are hidden or not -/
def cf (hs : List Bool) : List Cf := hs.map fun h => (h, 0, 0)
theorem cf_len (hs : List Bool) : (cf hs).length = hs.length := by simp [cf]
theorem cf_take (hs : List Bool) (j : Nat) (hj : j < hs.length) : cf (hs.take (j + 1)) = cf (hs.take j) ++ [(hs.getD j false, 0, 0)] := by
  unfold cf
  rw [List.take_succ_eq_append_getElem hj]
  simp only [List.map_append, List.map_cons, List.map_nil, List.getD_eq_getElem?_getD, List.getElem?_eq_getElem hj, Option.getD_some]
theorem hid_cf (hs : List Bool) (i : Nat) : hid (cf hs) i = hs.getD i false := by
  unfold hid cf
  simp only [List.getD_eq_getElem?_getD, List.getElem?_map]
  cases hs[i]? <;> rfl

set_option linter.all false in
set_option maxRecDepth 100000 in
set_option maxHeartbeats 4000000 in
theorem hiddenOf (A0 : Option Addr) (c0 n : Nat) (rows : List (List ByteArray)) (A1 : Option Addr) (c1 m : Nat) (hs : List Bool) (w : World) (hn : n = rows.length) (hm : m = hs.length) (hr0 : Kd.C kt w A0 n rows) (hc0 : n ≤ c0) (hr1 : Kd.C Kd.bool w A1 m hs) (hm1 : m < 17592186044)
    (hnb : n ≤ 2147483647) (hlen : ∀ r ∈ rows, r.length ≤ 2147483647) (htot : tot rows n < 9223372036854775807) :
    Calls Try.prog 10 #[.slice A0 n c0, .slice A1 m c1] w fun e w' => ∃ A c, e = .returned (.tuple #[.slice A n c, .int .i64 (maxTo (cf hs) rows 0 n)]) ∧ n ≤ c ∧ Kd.F kt w' (fun _ => True) A n (rowsTo (cf hs) rows n) ∧ Below w.heap.size w w' := by
  have HN := Aside0.mk hn; have HM := Aside0.mk hm; have HL := Aside0.mk hlen; have HC0 := Aside0.mk hr0; have HC1 := Aside0.mk hr1
  clear hn hm hlen hr0 hr1
  go_enter Try.func10, Try.ntmps10
  go_wp2_with (fail)
  go_loopw [6, 11] (fun v i wr => ∃ j : Nat, j ≤ m ∧ i = .int .i64 j ∧ Kd.R kd 45 wr w.heap.size (fun _ => True) v (cf (hs.take j)) ∧ Below w.heap.size w wr) (fun _ i _ => m - (RowKit.intOf i).toNat)
  case atStart => exact ⟨0, by omega, rfl, Kd.R_nil _ _ _ _ _, Below.refl _ _⟩
  case round =>
    obtain ⟨j, hj, rfl, HO, HB⟩ := hrel
    have HOA := Aside0.mk HO
    have hlen : (cf (hs.take j)).length = j := by rw [cf_len, List.length_take, ← HM.out]; omega
    by_cases hlt : j < m
    · have hd : decide ((j : Int) < (m : Int)) = true := by simp; omega
      obtain ⟨ad, rfl, hcell⟩ := Kd.at_bool (Kd.C_below HC1.out HB) (j : Int) (by omega) (by omega)
      rw [rdOf_nat, Int.toNat_natCast] at hcell
      obtain ⟨b, hb⟩ : ∃ b, b = hs.getD j false := ⟨_, rfl⟩
      rw [← hb] at hcell
      have HBB := Aside0.mk hb
      clear HO hb
      go_wp2_with (first
        | ((with_reducible refine gate_builtin (b := .append) (xs := #[.tmp 15, .tmp 18]) rfl ?_); at_builtin; refine Kd.R_append kd (w0 := w) w.heap.size rfl (.tmp 15) (.tmp 18) 36 45 Gro.z45 184 rfl Try.underlying36 Gro.info45 rfl (by decide) (by omega) _ (cf (hs.take j)) (b, 0, 0) (enc (b, 0, 0)) (fun _ => True) (fun _ => False) rfl rfl rfl (fun _ hk => hk.elim) (fun _ _ => trivial) HOA.out HB HB.size (by rw [hlen]; omega) ?_; intro v1 w2 HO2 HB2 hg2 ha2; clear hg2 ha2))
      go_roundw
      case rel => exact ⟨j + 1, hlt, rfl, by rw [cf_take hs j (by rw [← HM.out]; exact hlt), ← HBB.out]; exact HO2, HB2⟩
      case measure => simp [RowKit.intOf]; omega
    · have hd : decide ((j : Int) < (m : Int)) = false := by simp; omega
      obtain rfl : j = m := by omega
      rw [HM.out, List.take_length] at HO hlen
      obtain ⟨A, c, rfl, hcl, hC⟩ := Kd.R_reads HO
      have hcf := cf_len hs
      rw [cf_len, ← HM.out] at hC
      rw [cf_len, ← HM.out] at hcl
      have CC := Aside0.mk hC
      have hlen2 : (cf hs).length = j := by rw [cf_len]; exact HM.out.symm
      clear HO HOA hC hlen hcf
      go_wp2_with (first
        | (go_at_call 17; rw [hlen2]; refine (zhide A0 c0 n rows A c j (cf hs) _ HN.out hlen2.symm (Kd.C_below HC0.out HB) hc0 CC.out (by omega) hnb HL.out htot).mono ?_; rintro e w1 ⟨Ax, cx, rfl, hcx, hF, hb⟩; have HF := Aside0.mk hF; replace HB := HB.trans (hb.mono HB.size)))
      go_ret2
      exact ⟨_, _, rfl, hcx, HF.out, HB⟩
end Go.Proofs.Ytjpdkmmpofddlaa.Hzz
