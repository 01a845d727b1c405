/- The law: the walk. -/
import Derived.Test.YtokdamfalhcnnaaLq
import Derived.Test.YtokdamfalhcnnaaWTab
namespace Go.Proofs.Ytokdamfalhcnnaa.Lw
open Go Go.Maps Go.ChangeMaps Go.MapKept Go.RowKit Go.Proofs.YtokdamfalhcnnaaW.PrintWords Go.Proofs.YtokdamfalhcnnaaW.PrintLast Go.Proofs.YtokdamfalhcnnaaW.PrintMore GMpBody Mp Mq Ms Mt Mu Small Mv Mo Mw Mx Pa Pb Pc Pe Pf Sd Sw Se Ri Sl Fa Fb Lq

set_option linter.all false
set_option maxRecDepth 1000000
set_option maxHeartbeats 8000000
-- TABLES
def T21 : Bool × List (List Nat × List Nat) := (true, [([], []), ([], []), ([], []), ([1, 2], [1, 2]), ([3], [3]), ([0, 4], [0, 4]), ([5, 5, 0, 1, 2, 3, 4, 5], [5])])
def B21 : List Nat := [0, 0, 0, 6, 14, 31, 63]
theorem tab21 : rtab .any (opsOf Try.f3 21) = T21 := by kernel_rfl
theorem bits21 : waitsOk T21.2 B21 = true := by kernel_rfl
def T22 : Bool × List (List Nat × List Nat) := (true, [([], []), ([], []), ([], []), ([], []), ([0, 1, 2, 3], [0, 1, 2, 3]), ([], []), ([], []), ([5, 6, 4], [5, 6]), ([4, 7, 7], [4, 7]), ([8, 8, 0, 1, 2, 3, 4, 5, 6, 7, 8], [8])])
def B22 : List Nat := [0, 0, 0, 0, 15, 0, 0, 127, 255, 511]
theorem tab22 : rtab .any (opsOf Try.f3 22) = T22 := by kernel_rfl
theorem bits22 : waitsOk T22.2 B22 = true := by kernel_rfl
-- END TABLES
structure Ar (w : World) (ks : List Int) (A0 : Option Addr) (c0 : Nat) (ops : List S32) (A1 : Option Addr) (c1 : Nat) (key : Int) : Prop where
  r0 : Kd.C (Kd.int .i64) w A0 ks.length ks
  c0 : ks.length ≤ c0
  r1 : Kd.C k32 w A1 ops.length ops
  c1 : ops.length ≤ c1
  hk : ∀ x ∈ ks, In64 x
  ho : ∀ x ∈ ops, In64 x.f0 ∧ In64 x.f1 ∧ In64 x.f2
  key : In64 key
theorem doneS {w : World} {nn : Bool} {ps : List Pr} {A A3 : Option Addr} {c c3 : Nat} (hr : Kd.C k29 w A (sps ps).length (sps ps)) (hc : (sps ps).length ≤ c) (hl : ps.length ≤ 90000) (hs : Srt ps) (x : S32) (hg : GoodO nn x) (h0 : nn = true → ps = []) (hr3 : Kd.C (Kd.int .i64) w A3 x.f3.length x.f3) (hc3 : x.f3.length ≤ c3) :
    Calls Try.prog 6 #[.agg #[.bool nn, .slice A (sps ps).length c], .agg #[.int .i64 x.f0, .int .i64 x.f1, .int .i64 x.f2, .slice A3 x.f3.length c3]] w (Dt w nn (stepO nn ps x)) := by
  have hlo := hg.lo
  have hhi := hg.hi
  have hni := hg.ni
  have hsm := hg.sm
  unfold stepO
  obtain ⟨d, k, v, l⟩ := x
  simp only at *
  cases nn with
  | true =>
    have hd := hni rfl
    obtain rfl := h0 rfl
    have e : Pe.step true [] d k v l = [] := rfl
    rw [e]
    have h8 : d = 0 ∨ d = 1 := by omega
    rcases h8 with rfl | rfl
    · exact done0t hr hc hl rfl
    · exact done1 hr hc hl
  | false =>
    have e : Pe.step false ps d k v l = doneP ps d k v l := rfl
    rw [e]
    have h8 : d = 0 ∨ d = 1 ∨ d = 2 ∨ d = 3 ∨ d = 4 ∨ d = 5 ∨ d = 6 ∨ d = 7 := by omega
    rcases h8 with rfl | rfl | rfl | rfl | rfl | rfl | rfl | rfl
    · exact done0f hr hc hl rfl hs
    · exact done1 hr hc hl
    · exact done2 hr hc hl
    · exact done3 hr hc hl
    · exact done4 hr hc hl
    · exact done5 hr hc hl hr3 hc3 hsm
    · exact done6 hr hc hl
    · exact done7 hr hc hl
def fK (K : Int) (x : Int) : Int := if K = 3 then x else 0
theorem start_eq {K : Int} (hK : K = 2 ∨ K = 3) (ks : List Int) : Pf.start K ks = build (fK K) ks := by
  unfold Pf.start
  rcases hK with rfl | rfl
  · rfl
  · rfl
theorem law_any (w : World) (kind : Int) (ks : List Int) (A0 : Option Addr) (c0 : Nat) (ops : List S32) (A1 : Option Addr) (c1 : Nat) (key : Int) (hkind : 0 ≤ kind ∧ kind ≤ 255) (ha : Ar w ks A0 c0 ops A1 c1 key) :
    Calls Try.prog 3 #[.int .u8 kind, .slice A0 ks.length c0, .slice A1 ops.length c1, .int .i64 key] w fun r w' => r = .returned (.bool true) ∧ Below w.heap.size w w' := by
  obtain ⟨kf, rf, hf, hfit⟩ := fits_f ops
  have c4 := laws_zzFits27.calls kf A1 c1 ops rf w ha.r1 ha.c1 hf
  have HA := Aside0.mk (And.intro ha hfit)
  clear ha hf hfit
  by_cases h1 : 2147483647 < ks.length
  · have d1 : decide ((2147483647 : Int) < (ks.length : Int)) = true := decide_eq_true (by omega)
    have d2 : decide (2147483647 < ks.length) = true := decide_eq_true h1
    clear c4 h1 hkind
    go_enter Try.func3, Try.ntmps3
    go_wp2_with (fail)
    go_ret
    exact ⟨rfl, Below.refl _ _⟩
  have d1 : decide ((2147483647 : Int) < (ks.length : Int)) = false := decide_eq_false (by omega)
  have d2 : decide (2147483647 < ks.length) = false := decide_eq_false h1
  clear h1
  cases rf with
  | false =>
    clear hkind
    go_enter Try.func3, Try.ntmps3
    go_wp2_with (first | (go_at_call 4; refine c4.mono ?_; rintro e w1 ⟨rfl, hb1⟩; have HB := Aside0.mk hb1; clear hb1))
    go_ret
    exact ⟨rfl, HB.out⟩
  | true =>
    obtain ⟨hol, hfit⟩ := HA.out.2 rfl
    by_cases h3 : 300 < ops.length
    · have d3 : decide ((300 : Int) < (ops.length : Int)) = true := decide_eq_true (by omega)
      have d4 : decide (300 < ops.length) = true := decide_eq_true h3
      clear hkind hol hfit h3
      go_enter Try.func3, Try.ntmps3
      go_wp2_with (first | (go_at_call 4; refine c4.mono ?_; rintro e w1 ⟨rfl, hb1⟩; have HB := Aside0.mk hb1; clear hb1))
      go_ret
      exact ⟨rfl, HB.out⟩
    have d3 : decide ((300 : Int) < (ops.length : Int)) = false := decide_eq_false (by omega)
    have d4 : decide (300 < ops.length) = false := decide_eq_false h3
    by_cases h5 : 100 < ks.length
    · have d5 : decide ((100 : Int) < (ks.length : Int)) = true := decide_eq_true (by omega)
      have d6 : decide (100 < ks.length) = true := decide_eq_true h5
      clear hkind hol hfit h3 h5
      go_enter Try.func3, Try.ntmps3
      go_wp2_with (first | (go_at_call 4; refine c4.mono ?_; rintro e w1 ⟨rfl, hb1⟩; have HB := Aside0.mk hb1; clear hb1))
      go_ret
      exact ⟨rfl, HB.out⟩
    have d5 : decide ((100 : Int) < (ks.length : Int)) = false := decide_eq_false (by omega)
    have d6 : decide (100 < ks.length) = false := decide_eq_false h5
    have HG := Aside0.mk (And.intro hol (And.intro hfit (And.intro h3 (And.intro h5 hkind))))
    clear hol hfit h3 h5 hkind
    obtain ⟨K, hK⟩ : ∃ K, (wrap64 kind).tmod 4 = K := ⟨_, rfl⟩
    have hK4 : 0 ≤ K ∧ K ≤ 3 := by
      have := HG.out.2.2.2.2
      rw [wrap_in (by omega) (by omega), Int.tmod_eq_emod_of_nonneg this.1] at hK
      omega
    have HK4 := Aside0.mk hK4
    have hcase : K ≤ 1 ∨ K = 2 ∨ K = 3 := by omega
    clear hK4
    rcases hcase with hk1 | hk2 | hk3
    · have e3 : (K == 3) = false := beq_eq_false_iff_ne.mpr (by omega)
      have eg : decide ((1 : Int) < K) = false := decide_eq_false (by omega)
      obtain ⟨nn, hnn⟩ : ∃ nn, (K == 1) = nn := ⟨_, rfl⟩
      have HN := Aside0.mk (show nn = nilK K by rw [← hnn]; unfold nilK; exact (Bool.beq_eq_decide_eq K 1))
      have HS := Aside0.mk (show Pf.start K ks = [] by unfold Pf.start; rw [if_neg (by omega), if_neg (by omega)])
      clear hk1
      go_enter Try.func3, Try.ntmps3
      go_wp2_with (first | (go_at_call 4; refine c4.mono ?_; rintro e w1 ⟨rfl, hb1⟩; have HB := Aside0.mk hb1; clear hb1 c4))
      obtain ⟨M, hM⟩ : ∃ M, M = w1.heap.size := ⟨_, rfl⟩
      obtain ⟨W, hW⟩ : ∃ W, w1.alloc (.cells #[.bool nn, .slice none 0 0] 27) = W := ⟨_, rfl⟩
      have hMW : W.heap[M]? = some (.cells #[.bool nn, .slice none 0 0] 27 (0, 0)) := by rw [← hW, hM]; exact heap_alloc_new w1 _
      have hbW : Below w.heap.size w W := by rw [← hW]; exact HB.out.trans ((Below.refl _ w1).alloc (by have := HB.out.size; omega) _)
      have hwM : w.heap.size ≤ M := by rw [hM]; exact HB.out.size
      simp only [← hM]
      rw [hW]
      have HM := Aside0.mk (And.intro hMW (And.intro hbW hwM))
      clear hMW hbW hwM hW hM HB w1
      by_cases hz : ks.length = 0
      · have q3 : decide ((0 : Int) < (ks.length : Int)) = false := decide_eq_false (by omega)
        have q4 : decide (0 < ks.length) = false := decide_eq_false (by omega)
        clear hz
        refine wp_loop_once ?_
        go_wp2_with (fail)
        have HS1 := Aside0.mk (show W.heap[M]? = some (.cells #[.bool nn, .slice none (sps (Pf.start K ks)).length 0] 27 (0, 0)) ∧ (sps (Pf.start K ks)).length ≤ 0 ∧ Kd.C k29 W none (sps (Pf.start K ks)).length (sps (Pf.start K ks)) ∧ Below w.heap.size w W by rw [HS.out]; exact ⟨HM.out.1, Nat.le_refl _, Kd.C_nil _ _, HM.out.2.1⟩)
        have HK3 := Aside0.mk (show K = 3 → 0 < ks.length from fun h => by rw [h] at e3; cases e3)
        obtain ⟨ps0, hps0⟩ : ∃ ps0, ps0 = Pf.start K ks := ⟨_, rfl⟩
        have hsrt0 : Srt ps0 := by rw [hps0]; exact srt_start _ _
        have hlen0 : ps0.length ≤ 100 := by rw [hps0]; have := len_start K ks; have := HG.out.2.2.2.1; omega
        have hnil0 : nn = true → ps0 = [] := fun h => by
          have hK1 : K = 1 := by
            have := HN.out
            rw [h] at this
            unfold nilK at this
            exact of_decide_eq_true this.symm
          rw [hps0]; unfold Pf.start; rw [if_neg (by omega), if_neg (by omega)]
        rw [← hps0] at HS1
        have HP0 := Aside0.mk (And.intro hsrt0 (And.intro hlen0 (And.intro hnil0 hps0)))
        clear hsrt0 hlen0 hnil0 hps0
        go_loopg [13] ops.length (fun gk v13 wx => ∃ (j : Nat) (A2 : Option Addr) (c2 : Nat), v13 = .int .i64 (j : Int) ∧ j ≤ ops.length ∧ wx.heap[M]? = some (.cells #[.bool nn, .slice A2 (sps (runO nn ps0 (ops.take j))).length c2] 27 (0, 0)) ∧ (sps (runO nn ps0 (ops.take j))).length ≤ c2 ∧ Kd.C k29 wx A2 (sps (runO nn ps0 (ops.take j))).length (sps (runO nn ps0 (ops.take j))) ∧ (∀ x ∈ ops.take j, GoodO nn x) ∧ Below w.heap.size w wx ∧ ops.length - j ≤ gk)
        case atStart => exact ⟨0, _, _, rfl, Nat.zero_le _, HS1.out.1, HS1.out.2.1, HS1.out.2.2.1, by simp, HS1.out.2.2.2, Nat.le_refl _⟩
        case round =>
          obtain ⟨j, A2, c2, rfl, hj, hMx, hcx, hrx, hgx, hbx, hlen⟩ := hrel
          have hl := HG.out.2.2.1
          by_cases hd : j < ops.length
          · have q3 : decide ((j : Int) < (ops.length : Int)) = true := decide_eq_true (by omega)
            have q5 : decide (j < ops.length) = true := decide_eq_true hd
            have p1 := eq_true (show 0 ≤ (j : Int) by omega)
            have q1 := eq_true (show (j : Int) < (ops.length : Int) by omega)
            have hwj := wrap_succ j (by omega)
            obtain ⟨ad, A3, c3, e, x0, x1, x2, x3, xl, xr⟩ := at_T32 (Kd.C_below HA.out.1.r1 hbx) (j : Int) (by omega) (by omega)
            cases e
            have er : rd_T32 ops (j : Int) = ops[j] := by simp [rd_T32, hd]
            have hio := HA.out.1.ho _ (List.getElem_mem hd)
            have hsm := HG.out.2.1 _ (List.getElem_mem hd)
            have htk : ops.take (j + 1) = ops.take j ++ [ops[j]] := List.take_succ_eq_append_getElem hd
            obtain ⟨x, hx⟩ : ∃ x, x = ops[j] := ⟨_, rfl⟩
            rw [er, ← hx, Int.toNat_natCast] at x0 x1 x2 x3
            rw [er, ← hx] at xl xr
            rw [← hx] at hio hsm htk
            obtain ⟨qs, hqs⟩ : ∃ qs, qs = runO nn ps0 (ops.take j) := ⟨_, rfl⟩
            rw [← hqs] at hMx hcx hrx
            have hsrt : Srt qs := by rw [hqs]; exact srt_run nn _ HP0.out.1
            have hqlen : qs.length ≤ 1000 := by rw [hqs]; have := len_run nn (ops.take j) ps0; have : (ops.take j).length ≤ j := List.length_take_le _ _; have := HP0.out.2.1; omega
            have hqnil : nn = true → qs = [] := fun h => by
              rw [hqs, HP0.out.2.2.1 h, h]
              have : ∀ (l : List S32), runO true [] l = [] := fun l => by
                induction l with
                | nil => rfl
                | cons a t ih => exact ih
              exact this _
            have hrun : runO nn ps0 (ops.take (j + 1)) = stepO nn qs x := by rw [htk, runO_snoc, ← hqs]
            have HQ0 := Aside0.mk hbx
            by_cases hneg : x.f0 < 0
            · have g1 : decide (x.f0 < 0) = true := decide_eq_true hneg
              clear hneg hsrt hqlen hqnil hrun hqs hMx hcx hrx hgx hbx hlen hio hsm htk hx er hj hl hd hwj
              go_wp2_with (fail)
              go_ret
              exact ⟨rfl, HQ0.out⟩
            have g1 : decide (x.f0 < 0) = false := decide_eq_false hneg
            by_cases hbig : 7 < x.f0
            · have g2 : decide (7 < x.f0) = true := decide_eq_true hbig
              clear hneg hbig hsrt hqlen hqnil hrun hqs hMx hcx hrx hgx hbx hlen hio hsm htk hx er hj hl hd hwj
              go_wp2_with (fail)
              go_ret
              exact ⟨rfl, HQ0.out⟩
            have g2 : decide (7 < x.f0) = false := decide_eq_false hbig
            by_cases hno : nn = true ∧ 1 < x.f0
            · have g3 : decide (1 < x.f0) = true := decide_eq_true hno.2
              have hnn' : (K == 1) = true := hnn.trans hno.1
              clear hnn hneg hbig hno hsrt hqlen hqnil hrun hqs hMx hcx hrx hgx hbx hlen hio hsm htk hx er hj hl hd hwj
              go_wp2_with (fail)
              go_ret
              exact ⟨rfl, HQ0.out⟩
            have hgood : GoodO nn x := ⟨by omega, by omega, fun h => by have := mt (And.intro h) hno; omega, hio.2.1, hio.2.2, by omega⟩
            have c6 := doneS (w := wr.drew) (Kd.C_drew hrx) hcx (by omega) hsrt x hgood hqnil (Kd.C_drew xr) xl
            have m0 : wr.cell? ⟨M, 0, none⟩ = some (.bool nn) := by rw [Lib.cell_of_heap hMx]; rfl
            have m1 : wr.cell? ⟨M, 1, none⟩ = some (.slice A2 (sps qs).length c2) := by rw [Lib.cell_of_heap hMx]; rfl
            have S0 : Aside0 (wr.cell? ⟨M, 0, none⟩ = some (.bool nn) ∧ wr.cell? ⟨M, 1, none⟩ = some (.slice A2 (sps qs).length c2) ∧ wr.cell? (ad.add (j * 4)) = some (.int .i64 x.f0) ∧ wr.cell? ⟨(ad.add (j * 4)).block, (ad.add (j * 4)).off + 1, none⟩ = some (.int .i64 x.f1) ∧ wr.cell? ⟨(ad.add (j * 4)).block, (ad.add (j * 4)).off + 2, none⟩ = some (.int .i64 x.f2) ∧ wr.cell? ⟨(ad.add (j * 4)).block, (ad.add (j * 4)).off + 3, none⟩ = some (.slice A3 x.f3.length c3)) := ⟨⟨m0, m1, x0, x1, x2, x3⟩⟩
            have hgx' : ∀ y ∈ ops.take (j + 1), GoodO nn y := fun y hy => by
              rw [htk] at hy
              rcases List.mem_append.1 hy with hy | hy
              · exact hgx y hy
              · obtain rfl := List.mem_singleton.1 hy
                exact hgood
            obtain ⟨g', rfl⟩ : ∃ g', gk = g' + 1 := ⟨gk - 1, by omega⟩
            have HQ := Aside0.mk (And.intro hd (And.intro hlen (And.intro hMx (And.intro hbx (And.intro hgx' (And.intro hrun hwj))))))
            have hnb : (nn = true ∧ x.f0 ≤ 1) ∨ nn = false := by
              cases hn : nn with
              | true => left; exact ⟨rfl, by have := mt (And.intro hn) hno; omega⟩
              | false => right; rfl
            clear hneg hbig hno hsrt hqlen hqnil hrun hqs hMx hcx hrx hgx hgx' hbx hlen hio hsm htk hx er hj hl hd hwj hgood xl xr m0 m1
            rcases hnb with hn | hn
            have hnn' : (K == 1) = true := hnn.trans hn.1
            have g3 : decide (1 < x.f0) = false := decide_eq_false (by omega)
            clear hn hnn
            go_wp2_with (fail)
            rotate_left
            have hnn' : (K == 1) = false := hnn.trans hn
            clear hn hnn
            go_wp2_with (fail)
            all_goals
              clear hnn'
              refine start_ (n := 7) (S := fun w' => w'.cell? ⟨M, 0, none⟩ = some (.bool nn) ∧ w'.cell? ⟨M, 1, none⟩ = some (.slice A2 (sps qs).length c2) ∧ w'.cell? (ad.add (j * 4)) = some (.int .i64 x.f0) ∧ w'.cell? ⟨(ad.add (j * 4)).block, (ad.add (j * 4)).off + 1, none⟩ = some (.int .i64 x.f1) ∧ w'.cell? ⟨(ad.add (j * 4)).block, (ad.add (j * 4)).off + 2, none⟩ = some (.int .i64 x.f2) ∧ w'.cell? ⟨(ad.add (j * 4)).block, (ad.add (j * 4)).off + 3, none⟩ = some (.slice A3 x.f3.length c3)) (ds := [6]) #[false, false, false, false, false, false, false] (by kernel_rfl) rfl rfl S0.out (fun hHeld => ?_); refine with_tabW tab21 bits21 (fun HT_ HW_ => ?_)
              refine take_ (i := 0) (N := some 100) (v := ?_) (a' := ?_) #[true, false, false, false, false, false, false] rfl rfl (take_ofW HT_.out HW_.out (by kernel_rfl)) (fun _ _ _ h => h) (Or.inl ⟨by rfl, ?_⟩) hHeld ?_ ?_
              rotate_left
              · rintro w' ⟨s0, s1, s2, s3, s4, s5⟩
                go_simp
                with_reducible rfl
              rotate_left
              · simp only [Act.put, List.setIfInBounds_toArray, List.set_cons_zero, List.set_cons_succ, i64_w, i32_w]
                rfl
              refine pure_ (i := 1) (N := some 101) (v := ?_) (a' := ?_) #[true, true, false, false, false, false, false] rfl rfl (any_of HT_.out (by kernel_rfl)) (fun _ _ _ h => h) (Or.inl ⟨by rfl, ?_⟩) ?_ ?_
              rotate_left
              · intro w'
                go_simp
                with_reducible rfl
              rotate_left
              · simp only [Act.put, List.setIfInBounds_toArray, List.set_cons_zero, List.set_cons_succ, i64_w, i32_w]
                rfl
              refine pure_ (i := 2) (N := some 102) (v := ?_) (a' := ?_) #[true, true, true, false, false, false, false] rfl rfl (any_of HT_.out (by kernel_rfl)) (fun _ _ _ h => h) (Or.inl ⟨by rfl, ?_⟩) ?_ ?_
              rotate_left
              · intro w'
                go_simp
                with_reducible rfl
              rotate_left
              · simp only [Act.put, List.setIfInBounds_toArray, List.set_cons_zero, List.set_cons_succ, i64_w, i32_w]
                rfl
              refine pure_ (i := 3) (N := some 103) (v := ?_) (a' := ?_) #[true, true, true, true, false, false, false] rfl rfl (any_of HT_.out (by kernel_rfl)) (fun _ _ _ h => h) (Or.inl ⟨by rfl, ?_⟩) ?_ ?_
              rotate_left
              · intro w'
                go_simp
                with_reducible rfl
              rotate_left
              · simp only [Act.put, List.setIfInBounds_toArray, List.set_cons_zero, List.set_cons_succ, i64_w, i32_w]
                rfl
              refine take_ (i := 4) (N := some 104) (v := ?_) (a' := ?_) #[true, true, true, true, true, false, false] rfl rfl (take_ofW HT_.out HW_.out (by kernel_rfl)) (fun _ _ _ h => h) (Or.inl ⟨by rfl, ?_⟩) hHeld ?_ ?_
              rotate_left
              · rintro w' ⟨s0, s1, s2, s3, s4, s5⟩
                go_simp
                with_reducible rfl
              rotate_left
              · simp only [Act.put, List.setIfInBounds_toArray, List.set_cons_zero, List.set_cons_succ, i64_w, i32_w]
                rfl
              refine one_ (i := 5) (N := some 105) #[true, true, true, true, true, true, false] rfl rfl (one_of HT_.out (by kernel_rfl)) (by decide) (fun Kc hKc => ?_)
              refine goes_ Try.func6 (by kernel_rfl) rfl #[.agg #[.bool nn, .slice A2 (sps qs).length c2], .agg #[.int .i64 x.f0, .int .i64 x.f1, .int .i64 x.f2, .slice A3 x.f3.length c3]] (by rfl) rfl rfl (by (try simp only [List.map_toArray, List.map_cons, List.map_nil]); first | done | rfl) ?_
              refine (c6).mono ?_
              rintro e w6 ⟨A6, k6, rfl, hc6, hr6, hb6⟩
              refine ⟨_, rfl, ?_⟩
              have hMl : M < wr.drew.heap.size := (Array.getElem?_eq_some_iff.1 HQ.out.2.2.1).1
              have hM6 := (hb6.block M hMl).trans HQ.out.2.2.1
              have SB : Aside0 (w6.cell? ⟨M, 0, none⟩ = some (.bool nn) ∧ w6.cell? ⟨M, 1, none⟩ = some (.slice A2 (sps qs).length c2) ∧ w6.cell? (ad.add (j * 4)) = some (.int .i64 x.f0) ∧ w6.cell? ⟨(ad.add (j * 4)).block, (ad.add (j * 4)).off + 1, none⟩ = some (.int .i64 x.f1) ∧ w6.cell? ⟨(ad.add (j * 4)).block, (ad.add (j * 4)).off + 2, none⟩ = some (.int .i64 x.f2) ∧ w6.cell? ⟨(ad.add (j * 4)).block, (ad.add (j * 4)).off + 3, none⟩ = some (.slice A3 x.f3.length c3)) := ⟨⟨by rw [Lib.cell_of_heap hM6]; rfl, by rw [Lib.cell_of_heap hM6]; rfl, (hb6.cell (World.block_lt_of_cell? _ _ S0.out.2.2.1)).trans S0.out.2.2.1, (hb6.cell (World.block_lt_of_cell? _ _ S0.out.2.2.2.1)).trans S0.out.2.2.2.1, (hb6.cell (World.block_lt_of_cell? _ _ S0.out.2.2.2.2.1)).trans S0.out.2.2.2.2.1, (hb6.cell (World.block_lt_of_cell? _ _ S0.out.2.2.2.2.2)).trans S0.out.2.2.2.2.2⟩⟩
              have n0 : w6.cell? ⟨M, 0, none⟩ = some (.bool nn) := SB.out.1
              have n1 : w6.cell? ⟨M, 1, none⟩ = some (.slice A2 (sps qs).length c2) := SB.out.2.1
              have nf : ∀ j, w6.frozen? ⟨M, j, none⟩ = false := fun j => by rw [Lib.frozen_of_heap hM6]
              have H6 := Aside0.mk (And.intro hM6 (And.intro hc6 (And.intro hr6 hb6)))
              clear hMl hM6 hc6 hr6 hb6 c6
              refine hKc.out _ _ SB.out (fun hHeld => ?_)
              clear hKc Kc
              refine norm_ (a' := ?_) ?_ ?_
              rotate_left
              · show Act.put _ (some 105) _ = _
                simp only [Act.put, List.setIfInBounds_toArray, List.set_cons_zero, List.set_cons_succ, i64_w, i32_w]
                rfl
              refine last_ (i := 6) (N := none) #[true, true, true, true, true, true, true] rfl rfl (one_of HT_.out (by kernel_rfl)) (by decide) (fun Kc hKc => ?_)
              refine skip_ (w1 := (w6.setCell ⟨M, 0, none⟩ (.bool nn)).setCell ⟨M, 1, none⟩ (.slice A6 (sps (stepO nn qs x)).length k6)) (by rfl) rfl ?_ ?_
              · go_simp
                try rfl
              refine hKc.out _ _ ?_
              clear hKc Kc
              refine done_ (done_of HT_.out (by kernel_rfl)) ?_
              clear hHeld S0 SB n0 n1 nf x0 x1 x2 x3
              go_wp2_with (fail)
              go_roundg g'
              case measure => exact Nat.lt_succ_self _
              case rel =>
                have h6 := H6.out
                have hwM := HM.out.2.2
                have hz := HQ.out.2.2.2.1.size
                have hz6 := h6.2.2.2.size
                have hzd : wr.drew.heap.size = wr.heap.size := rfl
                refine ⟨j + 1, A6, k6, by simp only [HQ.out.2.2.2.2.2.2], HQ.out.1, ?_, ?_, ?_, HQ.out.2.2.2.2.1, ?_, by have := HQ.out.2.1; omega⟩
                · rw [HQ.out.2.2.2.2.2.1]
                  exact (heap_setCell_same _ M 1 _ 27 _ (heap_setCell_same w6 M 0 _ 27 _ h6.1)).trans rfl
                · rw [HQ.out.2.2.2.2.2.1]; exact h6.2.1
                · rw [HQ.out.2.2.2.2.2.1]; exact C_set27 _ _ h6.2.2.1 h6.1
                · exact HQ.out.2.2.2.1.trans ((h6.2.2.2.mono (by omega) : Below w.heap.size wr.drew w6) |> fun h => (⟨h.os, h.tape, h.output, h.size, h.block⟩ : Below w.heap.size wr w6) |>.trans (below_grown (set2 (T := M) _ _ w6) (by omega) (fun k hk => by injection hk with hk; omega)))
          · have q3 : decide ((j : Int) < (ops.length : Int)) = false := decide_eq_false (by omega)
            have q5 : decide (j < ops.length) = false := decide_eq_false hd
            obtain rfl : j = ops.length := by omega
            rw [List.take_length] at hMx hcx hrx hgx
            obtain ⟨ps, hps⟩ : ∃ ps, ps = runO nn ps0 ops := ⟨_, rfl⟩
            rw [← hps] at hMx hcx hrx
            have hsrt : Srt ps := by rw [hps]; exact srt_run nn _ HP0.out.1
            have hplen : ps.length ≤ 1000 := by rw [hps]; have := len_run nn ops ps0; have := HP0.out.2.1; omega
            obtain ⟨vs, hvs⟩ : ∃ vs, vs = (vals ps).mergeSort leI := ⟨_, rfl⟩
            have HV := Aside0.mk hvs
            have hbd : Below w.heap.size w wr.drew := hbx.drew
            have c8 := twMapperT wr.drew ks A0 c0 ops A1 c1 key K HK4.out HK3.out (Kd.C_below HA.out.1.r0 hbd) (Kd.C_below HA.out.1.r1 hbd) (by have := HG.out.2.2.2.1; omega) (by omega) HA.out.1.hk (by rw [← HN.out]; exact hgx) HA.out.1.key
            rw [← HN.out, ← HP0.out.2.2.2, ← hps] at c8
            unfold Pf.Told at c8
            rw [← hvs] at c8
            have m0 : wr.cell? ⟨M, 0, none⟩ = some (.bool nn) := by rw [Lib.cell_of_heap hMx]; rfl
            have m1 : wr.cell? ⟨M, 1, none⟩ = some (.slice A2 (sps ps).length c2) := by rw [Lib.cell_of_heap hMx]; rfl
            have S0 : Aside0 (wr.cell? ⟨M, 0, none⟩ = some (.bool nn) ∧ wr.cell? ⟨M, 1, none⟩ = some (.slice A2 (sps ps).length c2)) := ⟨⟨m0, m1⟩⟩
            have HE := Aside0.mk (And.intro hMx (And.intro hcx (And.intro (show Kd.C k29 wr.drew A2 (sps ps).length (sps ps) from Kd.C_drew hrx) (And.intro hbx (And.intro hsrt (And.intro hplen trivial))))))
            clear hMx hcx hrx hgx hbx hps hsrt hplen hvs hbd m0 m1 hj hlen hd hl
            go_wp2_with (fail)
            refine start_ (n := 10) (S := fun w' => w'.cell? ⟨M, 0, none⟩ = some (.bool nn) ∧ w'.cell? ⟨M, 1, none⟩ = some (.slice A2 (sps ps).length c2)) (ds := []) #[false, false, false, false, false, false, false, false, false, false] (by kernel_rfl) rfl rfl S0.out (fun hHeld => ?_); refine with_tabW tab22 bits22 (fun HT_ HW_ => ?_)
            refine pure_ (i := 0) (N := some 106) (v := ?_) (a' := ?_) #[true, false, false, false, false, false, false, false, false, false] rfl rfl (any_of HT_.out (by kernel_rfl)) (fun _ _ _ h => h) (Or.inl ⟨by rfl, ?_⟩) ?_ ?_
            rotate_left
            · intro w'
              go_simp
              with_reducible rfl
            rotate_left
            · simp only [Act.put, List.setIfInBounds_toArray, List.set_cons_zero, List.set_cons_succ, i64_w, i32_w]
              rfl
            refine pure_ (i := 1) (N := some 107) (v := ?_) (a' := ?_) #[true, true, false, false, false, false, false, false, false, false] rfl rfl (any_of HT_.out (by kernel_rfl)) (fun _ _ _ h => h) (Or.inl ⟨by rfl, ?_⟩) ?_ ?_
            rotate_left
            · intro w'
              go_simp
              with_reducible rfl
            rotate_left
            · simp only [Act.put, List.setIfInBounds_toArray, List.set_cons_zero, List.set_cons_succ, i64_w, i32_w]
              rfl
            refine pure_ (i := 2) (N := some 108) (v := ?_) (a' := ?_) #[true, true, true, false, false, false, false, false, false, false] rfl rfl (any_of HT_.out (by kernel_rfl)) (fun _ _ _ h => h) (Or.inl ⟨by rfl, ?_⟩) ?_ ?_
            rotate_left
            · intro w'
              go_simp
              with_reducible rfl
            rotate_left
            · simp only [Act.put, List.setIfInBounds_toArray, List.set_cons_zero, List.set_cons_succ, i64_w, i32_w]
              rfl
            refine pure_ (i := 3) (N := some 109) (v := ?_) (a' := ?_) #[true, true, true, true, false, false, false, false, false, false] rfl rfl (any_of HT_.out (by kernel_rfl)) (fun _ _ _ h => h) (Or.inl ⟨by rfl, ?_⟩) ?_ ?_
            rotate_left
            · intro w'
              go_simp
              with_reducible rfl
            rotate_left
            · simp only [Act.put, List.setIfInBounds_toArray, List.set_cons_zero, List.set_cons_succ, i64_w, i32_w]
              rfl
            refine take_ (i := 5) (N := some 111) (v := ?_) (a' := ?_) #[true, true, true, true, false, true, false, false, false, false] rfl rfl (take_ofW HT_.out HW_.out (by kernel_rfl)) (fun _ _ _ h => h) (Or.inl ⟨by rfl, ?_⟩) hHeld ?_ ?_
            rotate_left
            · rintro w' ⟨s0, s1⟩
              go_simp
              with_reducible rfl
            rotate_left
            · simp only [Act.put, List.setIfInBounds_toArray, List.set_cons_zero, List.set_cons_succ, i64_w, i32_w]
              rfl
            refine pure_ (i := 6) (N := some 112) (v := ?_) (a' := ?_) #[true, true, true, true, false, true, true, false, false, false] rfl rfl (any_of HT_.out (by kernel_rfl)) (fun _ _ _ h => h) (Or.inl ⟨by rfl, ?_⟩) ?_ ?_
            rotate_left
            · intro w'
              go_simp
              with_reducible rfl
            rotate_left
            · simp only [Act.put, List.setIfInBounds_toArray, List.set_cons_zero, List.set_cons_succ, i64_w, i32_w]
              rfl
            refine one_ (i := 4) (N := some 110) #[true, true, true, true, true, true, true, false, false, false] rfl rfl (one_of HT_.out (by kernel_rfl)) (by decide) (fun Kc hKc => ?_)
            refine goes_ Try.func8 (by kernel_rfl) rfl #[.int .i64 K, .slice A0 ks.length c0, .slice A1 ops.length c1, .int .i64 key] (by rfl) rfl rfl (by (try simp only [List.map_toArray, List.map_cons, List.map_nil]); first | done | rfl) ?_
            refine (c8).mono ?_
            rintro e w8 ⟨B1, bb1, B2, bb2, B7, bb7, B8, bb8, B9, bb9, rfl, tB1, tB2, tB7, tB8, tB9, hb8⟩
            refine ⟨_, rfl, ?_⟩
            have hMl : M < wr.drew.heap.size := (Array.getElem?_eq_some_iff.1 HE.out.1).1
            have hM8 := (hb8.block M hMl).trans HE.out.1
            have SB : Aside0 (w8.cell? ⟨M, 0, none⟩ = some (.bool nn) ∧ w8.cell? ⟨M, 1, none⟩ = some (.slice A2 (sps ps).length c2)) := ⟨⟨by rw [Lib.cell_of_heap hM8]; rfl, by rw [Lib.cell_of_heap hM8]; rfl⟩⟩
            have c9 := factsT (nn := nn) (Kd.C_below HE.out.2.2.1 hb8) HE.out.2.1 (by have := HE.out.2.2.2.2.2.1; omega) HE.out.2.2.2.2.1 key
            unfold Pf.Told at c9
            rw [← HV.out] at c9
            have T8 := Aside0.mk (And.intro tB1 (And.intro tB2 (And.intro tB7 (And.intro tB8 (And.intro tB9 hb8)))))
            clear tB1 tB2 tB7 tB8 tB9 hMl hM8 hb8 c8
            refine hKc.out _ _ SB.out (fun hHeld => ?_)
            clear hKc Kc
            refine norm_ (a' := ?_) ?_ ?_
            rotate_left
            · show Act.put _ (some 110) _ = _
              simp only [Act.put, List.setIfInBounds_toArray, List.set_cons_zero, List.set_cons_succ, i64_w, i32_w]
              rfl
            refine one_ (i := 7) (N := some 113) #[true, true, true, true, true, true, true, true, false, false] rfl rfl (one_of HT_.out (by kernel_rfl)) (by decide) (fun Kc hKc => ?_)
            refine goes_ Try.func9 (by kernel_rfl) rfl #[.agg #[.bool nn, .slice A2 (sps ps).length c2], .int .i64 key] (by rfl) rfl rfl (by (try simp only [List.map_toArray, List.map_cons, List.map_nil]); first | done | rfl) ?_
            refine (c9).mono ?_
            rintro e w9 ⟨D1, bd1, D2, bd2, D7, bd7, D8, bd8, D9, bd9, rfl, tD1, tD2, tD7, tD8, tD9, hb9⟩
            refine ⟨_, rfl, ?_⟩
            have hMl : M < w8.heap.size := World.block_lt_of_cell? _ _ SB.out.1
            have SC : Aside0 (w9.cell? ⟨M, 0, none⟩ = some (.bool nn) ∧ w9.cell? ⟨M, 1, none⟩ = some (.slice A2 (sps ps).length c2)) := ⟨⟨(hb9.cell (p := ⟨M, 0, none⟩) hMl).trans SB.out.1, (hb9.cell (p := ⟨M, 1, none⟩) hMl).trans SB.out.2⟩⟩
            obtain ⟨kf, hkf⟩ := facts_f (ps.length : Int) (keys ps) vs (at_ ps key) (has_ ps key) (sps ps) (by have := HE.out.2.2.2.2.2.1; unfold keys; rw [List.length_map]; omega) (by have := HE.out.2.2.2.2.2.1; rw [HV.out, List.length_mergeSort]; unfold vals; rw [List.length_map]; omega) (by have := HE.out.2.2.2.2.2.1; rw [sps_len]; omega)
            have c7 := laws_twFacts.calls kf (ps.length : Int) B1 bb1 (keys ps) B2 bb2 (keys ps) (at_ ps key) (at_ ps key) (has_ ps key) (has_ ps key) B7 bb7 (sps ps) B8 bb8 (sps ps) B9 bb9 vs (ps.length : Int) D1 bd1 (keys ps) D2 bd2 (keys ps) (at_ ps key) (at_ ps key) (has_ ps key) (has_ ps key) D7 bd7 (sps ps) D8 bd8 (sps ps) D9 bd9 vs true w9 (Kd.C_below T8.out.1.2 hb9) T8.out.1.1 (Kd.C_below T8.out.2.1.2 hb9) T8.out.2.1.1 (Kd.C_below T8.out.2.2.1.2 hb9) T8.out.2.2.1.1 (Kd.C_below T8.out.2.2.2.1.2 hb9) T8.out.2.2.2.1.1 (Kd.C_below T8.out.2.2.2.2.1.2 hb9) T8.out.2.2.2.2.1.1 tD1.2 tD1.1 tD2.2 tD2.1 tD7.2 tD7.1 tD8.2 tD8.1 tD9.2 tD9.1 hkf
            have T9 := Aside0.mk hb9
            clear tD1 tD2 tD7 tD8 tD9 hMl hb9 c9 hkf
            refine hKc.out _ _ SC.out (fun hHeld => ?_)
            clear hKc Kc
            refine norm_ (a' := ?_) ?_ ?_
            rotate_left
            · show Act.put _ (some 113) _ = _
              simp only [Act.put, List.setIfInBounds_toArray, List.set_cons_zero, List.set_cons_succ, i64_w, i32_w]
              rfl
            refine one_ (i := 8) (N := some 114) #[true, true, true, true, true, true, true, true, true, false] rfl rfl (one_of HT_.out (by kernel_rfl)) (by decide) (fun Kc hKc => ?_)
            refine goes_ Try.func7 (by kernel_rfl) rfl #[.agg #[.int .i64 ps.length, .slice B1 (keys ps).length bb1, .slice B2 (keys ps).length bb2, .int .i64 (at_ ps key), .int .i64 (at_ ps key), .bool (has_ ps key), .bool (has_ ps key), .slice B7 (sps ps).length bb7, .slice B8 (sps ps).length bb8, .slice B9 vs.length bb9], .agg #[.int .i64 ps.length, .slice D1 (keys ps).length bd1, .slice D2 (keys ps).length bd2, .int .i64 (at_ ps key), .int .i64 (at_ ps key), .bool (has_ ps key), .bool (has_ ps key), .slice D7 (sps ps).length bd7, .slice D8 (sps ps).length bd8, .slice D9 vs.length bd9]] (by rfl) rfl rfl (by (try simp only [List.map_toArray, List.map_cons, List.map_nil]); first | done | rfl) ?_
            refine (c7).mono ?_
            rintro e w10 ⟨rfl, hb10⟩
            refine ⟨_, rfl, ?_⟩
            have hMl : M < w9.heap.size := World.block_lt_of_cell? _ _ SC.out.1
            have SE : Aside0 (w10.cell? ⟨M, 0, none⟩ = some (.bool nn) ∧ w10.cell? ⟨M, 1, none⟩ = some (.slice A2 (sps ps).length c2)) := ⟨⟨(hb10.cell (p := ⟨M, 0, none⟩) hMl).trans SC.out.1, (hb10.cell (p := ⟨M, 1, none⟩) hMl).trans SC.out.2⟩⟩
            have T10 := Aside0.mk hb10
            clear hMl hb10 c7
            refine hKc.out _ _ SE.out (fun hHeld => ?_)
            clear hKc Kc
            refine norm_ (a' := ?_) ?_ ?_
            rotate_left
            · show Act.put _ (some 114) _ = _
              simp only [Act.put, List.setIfInBounds_toArray, List.set_cons_zero, List.set_cons_succ, i64_w, i32_w]
              rfl
            refine pure_ (i := 9) (N := some 8) (v := ?_) (a' := ?_) #[true, true, true, true, true, true, true, true, true, true] rfl rfl (any_of HT_.out (by kernel_rfl)) (fun _ _ _ h => h) (Or.inl ⟨by rfl, ?_⟩) ?_ ?_
            rotate_left
            · intro w'
              go_simp
              with_reducible rfl
            rotate_left
            · simp only [Act.put, List.setIfInBounds_toArray, List.set_cons_zero, List.set_cons_succ, i64_w, i32_w]
              rfl
            refine done_ (done_of HT_.out (by kernel_rfl)) ?_
            clear hHeld
            go_wp2_with (fail)
            go_ret
            have hz := HE.out.2.2.2.1.size
            have hz8 := T8.out.2.2.2.2.2.size
            have hz9 := T9.out.size
            have hzd : wr.drew.heap.size = wr.heap.size := rfl
            exact ⟨rfl, (HE.out.2.2.2.1.drew).trans ((T8.out.2.2.2.2.2.mono (by omega)).trans ((T9.out.mono (by omega)).trans (T10.out.mono (by omega))))⟩
      · have q3 : decide ((0 : Int) < (ks.length : Int)) = true := decide_eq_true (by omega)
        have q4 : decide (0 < ks.length) = true := decide_eq_true (by omega)
        clear hz
        refine wp_loop_once ?_
        go_wp2_with (fail)
        have HS1 := Aside0.mk (show W.heap[M]? = some (.cells #[.bool nn, .slice none (sps (Pf.start K ks)).length 0] 27 (0, 0)) ∧ (sps (Pf.start K ks)).length ≤ 0 ∧ Kd.C k29 W none (sps (Pf.start K ks)).length (sps (Pf.start K ks)) ∧ Below w.heap.size w W by rw [HS.out]; exact ⟨HM.out.1, Nat.le_refl _, Kd.C_nil _ _, HM.out.2.1⟩)
        have HK3 := Aside0.mk (show K = 3 → 0 < ks.length from fun h => by rw [h] at e3; cases e3)
        obtain ⟨ps0, hps0⟩ : ∃ ps0, ps0 = Pf.start K ks := ⟨_, rfl⟩
        have hsrt0 : Srt ps0 := by rw [hps0]; exact srt_start _ _
        have hlen0 : ps0.length ≤ 100 := by rw [hps0]; have := len_start K ks; have := HG.out.2.2.2.1; omega
        have hnil0 : nn = true → ps0 = [] := fun h => by
          have hK1 : K = 1 := by
            have := HN.out
            rw [h] at this
            unfold nilK at this
            exact of_decide_eq_true this.symm
          rw [hps0]; unfold Pf.start; rw [if_neg (by omega), if_neg (by omega)]
        rw [← hps0] at HS1
        have HP0 := Aside0.mk (And.intro hsrt0 (And.intro hlen0 (And.intro hnil0 hps0)))
        clear hsrt0 hlen0 hnil0 hps0
        go_loopg [13] ops.length (fun gk v13 wx => ∃ (j : Nat) (A2 : Option Addr) (c2 : Nat), v13 = .int .i64 (j : Int) ∧ j ≤ ops.length ∧ wx.heap[M]? = some (.cells #[.bool nn, .slice A2 (sps (runO nn ps0 (ops.take j))).length c2] 27 (0, 0)) ∧ (sps (runO nn ps0 (ops.take j))).length ≤ c2 ∧ Kd.C k29 wx A2 (sps (runO nn ps0 (ops.take j))).length (sps (runO nn ps0 (ops.take j))) ∧ (∀ x ∈ ops.take j, GoodO nn x) ∧ Below w.heap.size w wx ∧ ops.length - j ≤ gk)
        case atStart => exact ⟨0, _, _, rfl, Nat.zero_le _, HS1.out.1, HS1.out.2.1, HS1.out.2.2.1, by simp, HS1.out.2.2.2, Nat.le_refl _⟩
        case round =>
          obtain ⟨j, A2, c2, rfl, hj, hMx, hcx, hrx, hgx, hbx, hlen⟩ := hrel
          have hl := HG.out.2.2.1
          by_cases hd : j < ops.length
          · have q3 : decide ((j : Int) < (ops.length : Int)) = true := decide_eq_true (by omega)
            have q5 : decide (j < ops.length) = true := decide_eq_true hd
            have p1 := eq_true (show 0 ≤ (j : Int) by omega)
            have q1 := eq_true (show (j : Int) < (ops.length : Int) by omega)
            have hwj := wrap_succ j (by omega)
            obtain ⟨ad, A3, c3, e, x0, x1, x2, x3, xl, xr⟩ := at_T32 (Kd.C_below HA.out.1.r1 hbx) (j : Int) (by omega) (by omega)
            cases e
            have er : rd_T32 ops (j : Int) = ops[j] := by simp [rd_T32, hd]
            have hio := HA.out.1.ho _ (List.getElem_mem hd)
            have hsm := HG.out.2.1 _ (List.getElem_mem hd)
            have htk : ops.take (j + 1) = ops.take j ++ [ops[j]] := List.take_succ_eq_append_getElem hd
            obtain ⟨x, hx⟩ : ∃ x, x = ops[j] := ⟨_, rfl⟩
            rw [er, ← hx, Int.toNat_natCast] at x0 x1 x2 x3
            rw [er, ← hx] at xl xr
            rw [← hx] at hio hsm htk
            obtain ⟨qs, hqs⟩ : ∃ qs, qs = runO nn ps0 (ops.take j) := ⟨_, rfl⟩
            rw [← hqs] at hMx hcx hrx
            have hsrt : Srt qs := by rw [hqs]; exact srt_run nn _ HP0.out.1
            have hqlen : qs.length ≤ 1000 := by rw [hqs]; have := len_run nn (ops.take j) ps0; have : (ops.take j).length ≤ j := List.length_take_le _ _; have := HP0.out.2.1; omega
            have hqnil : nn = true → qs = [] := fun h => by
              rw [hqs, HP0.out.2.2.1 h, h]
              have : ∀ (l : List S32), runO true [] l = [] := fun l => by
                induction l with
                | nil => rfl
                | cons a t ih => exact ih
              exact this _
            have hrun : runO nn ps0 (ops.take (j + 1)) = stepO nn qs x := by rw [htk, runO_snoc, ← hqs]
            have HQ0 := Aside0.mk hbx
            by_cases hneg : x.f0 < 0
            · have g1 : decide (x.f0 < 0) = true := decide_eq_true hneg
              clear hneg hsrt hqlen hqnil hrun hqs hMx hcx hrx hgx hbx hlen hio hsm htk hx er hj hl hd hwj
              go_wp2_with (fail)
              go_ret
              exact ⟨rfl, HQ0.out⟩
            have g1 : decide (x.f0 < 0) = false := decide_eq_false hneg
            by_cases hbig : 7 < x.f0
            · have g2 : decide (7 < x.f0) = true := decide_eq_true hbig
              clear hneg hbig hsrt hqlen hqnil hrun hqs hMx hcx hrx hgx hbx hlen hio hsm htk hx er hj hl hd hwj
              go_wp2_with (fail)
              go_ret
              exact ⟨rfl, HQ0.out⟩
            have g2 : decide (7 < x.f0) = false := decide_eq_false hbig
            by_cases hno : nn = true ∧ 1 < x.f0
            · have g3 : decide (1 < x.f0) = true := decide_eq_true hno.2
              have hnn' : (K == 1) = true := hnn.trans hno.1
              clear hnn hneg hbig hno hsrt hqlen hqnil hrun hqs hMx hcx hrx hgx hbx hlen hio hsm htk hx er hj hl hd hwj
              go_wp2_with (fail)
              go_ret
              exact ⟨rfl, HQ0.out⟩
            have hgood : GoodO nn x := ⟨by omega, by omega, fun h => by have := mt (And.intro h) hno; omega, hio.2.1, hio.2.2, by omega⟩
            have c6 := doneS (w := wr.drew) (Kd.C_drew hrx) hcx (by omega) hsrt x hgood hqnil (Kd.C_drew xr) xl
            have m0 : wr.cell? ⟨M, 0, none⟩ = some (.bool nn) := by rw [Lib.cell_of_heap hMx]; rfl
            have m1 : wr.cell? ⟨M, 1, none⟩ = some (.slice A2 (sps qs).length c2) := by rw [Lib.cell_of_heap hMx]; rfl
            have S0 : Aside0 (wr.cell? ⟨M, 0, none⟩ = some (.bool nn) ∧ wr.cell? ⟨M, 1, none⟩ = some (.slice A2 (sps qs).length c2) ∧ wr.cell? (ad.add (j * 4)) = some (.int .i64 x.f0) ∧ wr.cell? ⟨(ad.add (j * 4)).block, (ad.add (j * 4)).off + 1, none⟩ = some (.int .i64 x.f1) ∧ wr.cell? ⟨(ad.add (j * 4)).block, (ad.add (j * 4)).off + 2, none⟩ = some (.int .i64 x.f2) ∧ wr.cell? ⟨(ad.add (j * 4)).block, (ad.add (j * 4)).off + 3, none⟩ = some (.slice A3 x.f3.length c3)) := ⟨⟨m0, m1, x0, x1, x2, x3⟩⟩
            have hgx' : ∀ y ∈ ops.take (j + 1), GoodO nn y := fun y hy => by
              rw [htk] at hy
              rcases List.mem_append.1 hy with hy | hy
              · exact hgx y hy
              · obtain rfl := List.mem_singleton.1 hy
                exact hgood
            obtain ⟨g', rfl⟩ : ∃ g', gk = g' + 1 := ⟨gk - 1, by omega⟩
            have HQ := Aside0.mk (And.intro hd (And.intro hlen (And.intro hMx (And.intro hbx (And.intro hgx' (And.intro hrun hwj))))))
            have hnb : (nn = true ∧ x.f0 ≤ 1) ∨ nn = false := by
              cases hn : nn with
              | true => left; exact ⟨rfl, by have := mt (And.intro hn) hno; omega⟩
              | false => right; rfl
            clear hneg hbig hno hsrt hqlen hqnil hrun hqs hMx hcx hrx hgx hgx' hbx hlen hio hsm htk hx er hj hl hd hwj hgood xl xr m0 m1
            rcases hnb with hn | hn
            have hnn' : (K == 1) = true := hnn.trans hn.1
            have g3 : decide (1 < x.f0) = false := decide_eq_false (by omega)
            clear hn hnn
            go_wp2_with (fail)
            rotate_left
            have hnn' : (K == 1) = false := hnn.trans hn
            clear hn hnn
            go_wp2_with (fail)
            all_goals
              clear hnn'
              refine start_ (n := 7) (S := fun w' => w'.cell? ⟨M, 0, none⟩ = some (.bool nn) ∧ w'.cell? ⟨M, 1, none⟩ = some (.slice A2 (sps qs).length c2) ∧ w'.cell? (ad.add (j * 4)) = some (.int .i64 x.f0) ∧ w'.cell? ⟨(ad.add (j * 4)).block, (ad.add (j * 4)).off + 1, none⟩ = some (.int .i64 x.f1) ∧ w'.cell? ⟨(ad.add (j * 4)).block, (ad.add (j * 4)).off + 2, none⟩ = some (.int .i64 x.f2) ∧ w'.cell? ⟨(ad.add (j * 4)).block, (ad.add (j * 4)).off + 3, none⟩ = some (.slice A3 x.f3.length c3)) (ds := [6]) #[false, false, false, false, false, false, false] (by kernel_rfl) rfl rfl S0.out (fun hHeld => ?_); refine with_tabW tab21 bits21 (fun HT_ HW_ => ?_)
              refine take_ (i := 0) (N := some 100) (v := ?_) (a' := ?_) #[true, false, false, false, false, false, false] rfl rfl (take_ofW HT_.out HW_.out (by kernel_rfl)) (fun _ _ _ h => h) (Or.inl ⟨by rfl, ?_⟩) hHeld ?_ ?_
              rotate_left
              · rintro w' ⟨s0, s1, s2, s3, s4, s5⟩
                go_simp
                with_reducible rfl
              rotate_left
              · simp only [Act.put, List.setIfInBounds_toArray, List.set_cons_zero, List.set_cons_succ, i64_w, i32_w]
                rfl
              refine pure_ (i := 1) (N := some 101) (v := ?_) (a' := ?_) #[true, true, false, false, false, false, false] rfl rfl (any_of HT_.out (by kernel_rfl)) (fun _ _ _ h => h) (Or.inl ⟨by rfl, ?_⟩) ?_ ?_
              rotate_left
              · intro w'
                go_simp
                with_reducible rfl
              rotate_left
              · simp only [Act.put, List.setIfInBounds_toArray, List.set_cons_zero, List.set_cons_succ, i64_w, i32_w]
                rfl
              refine pure_ (i := 2) (N := some 102) (v := ?_) (a' := ?_) #[true, true, true, false, false, false, false] rfl rfl (any_of HT_.out (by kernel_rfl)) (fun _ _ _ h => h) (Or.inl ⟨by rfl, ?_⟩) ?_ ?_
              rotate_left
              · intro w'
                go_simp
                with_reducible rfl
              rotate_left
              · simp only [Act.put, List.setIfInBounds_toArray, List.set_cons_zero, List.set_cons_succ, i64_w, i32_w]
                rfl
              refine pure_ (i := 3) (N := some 103) (v := ?_) (a' := ?_) #[true, true, true, true, false, false, false] rfl rfl (any_of HT_.out (by kernel_rfl)) (fun _ _ _ h => h) (Or.inl ⟨by rfl, ?_⟩) ?_ ?_
              rotate_left
              · intro w'
                go_simp
                with_reducible rfl
              rotate_left
              · simp only [Act.put, List.setIfInBounds_toArray, List.set_cons_zero, List.set_cons_succ, i64_w, i32_w]
                rfl
              refine take_ (i := 4) (N := some 104) (v := ?_) (a' := ?_) #[true, true, true, true, true, false, false] rfl rfl (take_ofW HT_.out HW_.out (by kernel_rfl)) (fun _ _ _ h => h) (Or.inl ⟨by rfl, ?_⟩) hHeld ?_ ?_
              rotate_left
              · rintro w' ⟨s0, s1, s2, s3, s4, s5⟩
                go_simp
                with_reducible rfl
              rotate_left
              · simp only [Act.put, List.setIfInBounds_toArray, List.set_cons_zero, List.set_cons_succ, i64_w, i32_w]
                rfl
              refine one_ (i := 5) (N := some 105) #[true, true, true, true, true, true, false] rfl rfl (one_of HT_.out (by kernel_rfl)) (by decide) (fun Kc hKc => ?_)
              refine goes_ Try.func6 (by kernel_rfl) rfl #[.agg #[.bool nn, .slice A2 (sps qs).length c2], .agg #[.int .i64 x.f0, .int .i64 x.f1, .int .i64 x.f2, .slice A3 x.f3.length c3]] (by rfl) rfl rfl (by (try simp only [List.map_toArray, List.map_cons, List.map_nil]); first | done | rfl) ?_
              refine (c6).mono ?_
              rintro e w6 ⟨A6, k6, rfl, hc6, hr6, hb6⟩
              refine ⟨_, rfl, ?_⟩
              have hMl : M < wr.drew.heap.size := (Array.getElem?_eq_some_iff.1 HQ.out.2.2.1).1
              have hM6 := (hb6.block M hMl).trans HQ.out.2.2.1
              have SB : Aside0 (w6.cell? ⟨M, 0, none⟩ = some (.bool nn) ∧ w6.cell? ⟨M, 1, none⟩ = some (.slice A2 (sps qs).length c2) ∧ w6.cell? (ad.add (j * 4)) = some (.int .i64 x.f0) ∧ w6.cell? ⟨(ad.add (j * 4)).block, (ad.add (j * 4)).off + 1, none⟩ = some (.int .i64 x.f1) ∧ w6.cell? ⟨(ad.add (j * 4)).block, (ad.add (j * 4)).off + 2, none⟩ = some (.int .i64 x.f2) ∧ w6.cell? ⟨(ad.add (j * 4)).block, (ad.add (j * 4)).off + 3, none⟩ = some (.slice A3 x.f3.length c3)) := ⟨⟨by rw [Lib.cell_of_heap hM6]; rfl, by rw [Lib.cell_of_heap hM6]; rfl, (hb6.cell (World.block_lt_of_cell? _ _ S0.out.2.2.1)).trans S0.out.2.2.1, (hb6.cell (World.block_lt_of_cell? _ _ S0.out.2.2.2.1)).trans S0.out.2.2.2.1, (hb6.cell (World.block_lt_of_cell? _ _ S0.out.2.2.2.2.1)).trans S0.out.2.2.2.2.1, (hb6.cell (World.block_lt_of_cell? _ _ S0.out.2.2.2.2.2)).trans S0.out.2.2.2.2.2⟩⟩
              have n0 : w6.cell? ⟨M, 0, none⟩ = some (.bool nn) := SB.out.1
              have n1 : w6.cell? ⟨M, 1, none⟩ = some (.slice A2 (sps qs).length c2) := SB.out.2.1
              have nf : ∀ j, w6.frozen? ⟨M, j, none⟩ = false := fun j => by rw [Lib.frozen_of_heap hM6]
              have H6 := Aside0.mk (And.intro hM6 (And.intro hc6 (And.intro hr6 hb6)))
              clear hMl hM6 hc6 hr6 hb6 c6
              refine hKc.out _ _ SB.out (fun hHeld => ?_)
              clear hKc Kc
              refine norm_ (a' := ?_) ?_ ?_
              rotate_left
              · show Act.put _ (some 105) _ = _
                simp only [Act.put, List.setIfInBounds_toArray, List.set_cons_zero, List.set_cons_succ, i64_w, i32_w]
                rfl
              refine last_ (i := 6) (N := none) #[true, true, true, true, true, true, true] rfl rfl (one_of HT_.out (by kernel_rfl)) (by decide) (fun Kc hKc => ?_)
              refine skip_ (w1 := (w6.setCell ⟨M, 0, none⟩ (.bool nn)).setCell ⟨M, 1, none⟩ (.slice A6 (sps (stepO nn qs x)).length k6)) (by rfl) rfl ?_ ?_
              · go_simp
                try rfl
              refine hKc.out _ _ ?_
              clear hKc Kc
              refine done_ (done_of HT_.out (by kernel_rfl)) ?_
              clear hHeld S0 SB n0 n1 nf x0 x1 x2 x3
              go_wp2_with (fail)
              go_roundg g'
              case measure => exact Nat.lt_succ_self _
              case rel =>
                have h6 := H6.out
                have hwM := HM.out.2.2
                have hz := HQ.out.2.2.2.1.size
                have hz6 := h6.2.2.2.size
                have hzd : wr.drew.heap.size = wr.heap.size := rfl
                refine ⟨j + 1, A6, k6, by simp only [HQ.out.2.2.2.2.2.2], HQ.out.1, ?_, ?_, ?_, HQ.out.2.2.2.2.1, ?_, by have := HQ.out.2.1; omega⟩
                · rw [HQ.out.2.2.2.2.2.1]
                  exact (heap_setCell_same _ M 1 _ 27 _ (heap_setCell_same w6 M 0 _ 27 _ h6.1)).trans rfl
                · rw [HQ.out.2.2.2.2.2.1]; exact h6.2.1
                · rw [HQ.out.2.2.2.2.2.1]; exact C_set27 _ _ h6.2.2.1 h6.1
                · exact HQ.out.2.2.2.1.trans ((h6.2.2.2.mono (by omega) : Below w.heap.size wr.drew w6) |> fun h => (⟨h.os, h.tape, h.output, h.size, h.block⟩ : Below w.heap.size wr w6) |>.trans (below_grown (set2 (T := M) _ _ w6) (by omega) (fun k hk => by injection hk with hk; omega)))
          · have q3 : decide ((j : Int) < (ops.length : Int)) = false := decide_eq_false (by omega)
            have q5 : decide (j < ops.length) = false := decide_eq_false hd
            obtain rfl : j = ops.length := by omega
            rw [List.take_length] at hMx hcx hrx hgx
            obtain ⟨ps, hps⟩ : ∃ ps, ps = runO nn ps0 ops := ⟨_, rfl⟩
            rw [← hps] at hMx hcx hrx
            have hsrt : Srt ps := by rw [hps]; exact srt_run nn _ HP0.out.1
            have hplen : ps.length ≤ 1000 := by rw [hps]; have := len_run nn ops ps0; have := HP0.out.2.1; omega
            obtain ⟨vs, hvs⟩ : ∃ vs, vs = (vals ps).mergeSort leI := ⟨_, rfl⟩
            have HV := Aside0.mk hvs
            have hbd : Below w.heap.size w wr.drew := hbx.drew
            have c8 := twMapperT wr.drew ks A0 c0 ops A1 c1 key K HK4.out HK3.out (Kd.C_below HA.out.1.r0 hbd) (Kd.C_below HA.out.1.r1 hbd) (by have := HG.out.2.2.2.1; omega) (by omega) HA.out.1.hk (by rw [← HN.out]; exact hgx) HA.out.1.key
            rw [← HN.out, ← HP0.out.2.2.2, ← hps] at c8
            unfold Pf.Told at c8
            rw [← hvs] at c8
            have m0 : wr.cell? ⟨M, 0, none⟩ = some (.bool nn) := by rw [Lib.cell_of_heap hMx]; rfl
            have m1 : wr.cell? ⟨M, 1, none⟩ = some (.slice A2 (sps ps).length c2) := by rw [Lib.cell_of_heap hMx]; rfl
            have S0 : Aside0 (wr.cell? ⟨M, 0, none⟩ = some (.bool nn) ∧ wr.cell? ⟨M, 1, none⟩ = some (.slice A2 (sps ps).length c2)) := ⟨⟨m0, m1⟩⟩
            have HE := Aside0.mk (And.intro hMx (And.intro hcx (And.intro (show Kd.C k29 wr.drew A2 (sps ps).length (sps ps) from Kd.C_drew hrx) (And.intro hbx (And.intro hsrt (And.intro hplen trivial))))))
            clear hMx hcx hrx hgx hbx hps hsrt hplen hvs hbd m0 m1 hj hlen hd hl
            go_wp2_with (fail)
            refine start_ (n := 10) (S := fun w' => w'.cell? ⟨M, 0, none⟩ = some (.bool nn) ∧ w'.cell? ⟨M, 1, none⟩ = some (.slice A2 (sps ps).length c2)) (ds := []) #[false, false, false, false, false, false, false, false, false, false] (by kernel_rfl) rfl rfl S0.out (fun hHeld => ?_); refine with_tabW tab22 bits22 (fun HT_ HW_ => ?_)
            refine pure_ (i := 0) (N := some 106) (v := ?_) (a' := ?_) #[true, false, false, false, false, false, false, false, false, false] rfl rfl (any_of HT_.out (by kernel_rfl)) (fun _ _ _ h => h) (Or.inl ⟨by rfl, ?_⟩) ?_ ?_
            rotate_left
            · intro w'
              go_simp
              with_reducible rfl
            rotate_left
            · simp only [Act.put, List.setIfInBounds_toArray, List.set_cons_zero, List.set_cons_succ, i64_w, i32_w]
              rfl
            refine pure_ (i := 1) (N := some 107) (v := ?_) (a' := ?_) #[true, true, false, false, false, false, false, false, false, false] rfl rfl (any_of HT_.out (by kernel_rfl)) (fun _ _ _ h => h) (Or.inl ⟨by rfl, ?_⟩) ?_ ?_
            rotate_left
            · intro w'
              go_simp
              with_reducible rfl
            rotate_left
            · simp only [Act.put, List.setIfInBounds_toArray, List.set_cons_zero, List.set_cons_succ, i64_w, i32_w]
              rfl
            refine pure_ (i := 2) (N := some 108) (v := ?_) (a' := ?_) #[true, true, true, false, false, false, false, false, false, false] rfl rfl (any_of HT_.out (by kernel_rfl)) (fun _ _ _ h => h) (Or.inl ⟨by rfl, ?_⟩) ?_ ?_
            rotate_left
            · intro w'
              go_simp
              with_reducible rfl
            rotate_left
            · simp only [Act.put, List.setIfInBounds_toArray, List.set_cons_zero, List.set_cons_succ, i64_w, i32_w]
              rfl
            refine pure_ (i := 3) (N := some 109) (v := ?_) (a' := ?_) #[true, true, true, true, false, false, false, false, false, false] rfl rfl (any_of HT_.out (by kernel_rfl)) (fun _ _ _ h => h) (Or.inl ⟨by rfl, ?_⟩) ?_ ?_
            rotate_left
            · intro w'
              go_simp
              with_reducible rfl
            rotate_left
            · simp only [Act.put, List.setIfInBounds_toArray, List.set_cons_zero, List.set_cons_succ, i64_w, i32_w]
              rfl
            refine take_ (i := 5) (N := some 111) (v := ?_) (a' := ?_) #[true, true, true, true, false, true, false, false, false, false] rfl rfl (take_ofW HT_.out HW_.out (by kernel_rfl)) (fun _ _ _ h => h) (Or.inl ⟨by rfl, ?_⟩) hHeld ?_ ?_
            rotate_left
            · rintro w' ⟨s0, s1⟩
              go_simp
              with_reducible rfl
            rotate_left
            · simp only [Act.put, List.setIfInBounds_toArray, List.set_cons_zero, List.set_cons_succ, i64_w, i32_w]
              rfl
            refine pure_ (i := 6) (N := some 112) (v := ?_) (a' := ?_) #[true, true, true, true, false, true, true, false, false, false] rfl rfl (any_of HT_.out (by kernel_rfl)) (fun _ _ _ h => h) (Or.inl ⟨by rfl, ?_⟩) ?_ ?_
            rotate_left
            · intro w'
              go_simp
              with_reducible rfl
            rotate_left
            · simp only [Act.put, List.setIfInBounds_toArray, List.set_cons_zero, List.set_cons_succ, i64_w, i32_w]
              rfl
            refine one_ (i := 4) (N := some 110) #[true, true, true, true, true, true, true, false, false, false] rfl rfl (one_of HT_.out (by kernel_rfl)) (by decide) (fun Kc hKc => ?_)
            refine goes_ Try.func8 (by kernel_rfl) rfl #[.int .i64 K, .slice A0 ks.length c0, .slice A1 ops.length c1, .int .i64 key] (by rfl) rfl rfl (by (try simp only [List.map_toArray, List.map_cons, List.map_nil]); first | done | rfl) ?_
            refine (c8).mono ?_
            rintro e w8 ⟨B1, bb1, B2, bb2, B7, bb7, B8, bb8, B9, bb9, rfl, tB1, tB2, tB7, tB8, tB9, hb8⟩
            refine ⟨_, rfl, ?_⟩
            have hMl : M < wr.drew.heap.size := (Array.getElem?_eq_some_iff.1 HE.out.1).1
            have hM8 := (hb8.block M hMl).trans HE.out.1
            have SB : Aside0 (w8.cell? ⟨M, 0, none⟩ = some (.bool nn) ∧ w8.cell? ⟨M, 1, none⟩ = some (.slice A2 (sps ps).length c2)) := ⟨⟨by rw [Lib.cell_of_heap hM8]; rfl, by rw [Lib.cell_of_heap hM8]; rfl⟩⟩
            have c9 := factsT (nn := nn) (Kd.C_below HE.out.2.2.1 hb8) HE.out.2.1 (by have := HE.out.2.2.2.2.2.1; omega) HE.out.2.2.2.2.1 key
            unfold Pf.Told at c9
            rw [← HV.out] at c9
            have T8 := Aside0.mk (And.intro tB1 (And.intro tB2 (And.intro tB7 (And.intro tB8 (And.intro tB9 hb8)))))
            clear tB1 tB2 tB7 tB8 tB9 hMl hM8 hb8 c8
            refine hKc.out _ _ SB.out (fun hHeld => ?_)
            clear hKc Kc
            refine norm_ (a' := ?_) ?_ ?_
            rotate_left
            · show Act.put _ (some 110) _ = _
              simp only [Act.put, List.setIfInBounds_toArray, List.set_cons_zero, List.set_cons_succ, i64_w, i32_w]
              rfl
            refine one_ (i := 7) (N := some 113) #[true, true, true, true, true, true, true, true, false, false] rfl rfl (one_of HT_.out (by kernel_rfl)) (by decide) (fun Kc hKc => ?_)
            refine goes_ Try.func9 (by kernel_rfl) rfl #[.agg #[.bool nn, .slice A2 (sps ps).length c2], .int .i64 key] (by rfl) rfl rfl (by (try simp only [List.map_toArray, List.map_cons, List.map_nil]); first | done | rfl) ?_
            refine (c9).mono ?_
            rintro e w9 ⟨D1, bd1, D2, bd2, D7, bd7, D8, bd8, D9, bd9, rfl, tD1, tD2, tD7, tD8, tD9, hb9⟩
            refine ⟨_, rfl, ?_⟩
            have hMl : M < w8.heap.size := World.block_lt_of_cell? _ _ SB.out.1
            have SC : Aside0 (w9.cell? ⟨M, 0, none⟩ = some (.bool nn) ∧ w9.cell? ⟨M, 1, none⟩ = some (.slice A2 (sps ps).length c2)) := ⟨⟨(hb9.cell (p := ⟨M, 0, none⟩) hMl).trans SB.out.1, (hb9.cell (p := ⟨M, 1, none⟩) hMl).trans SB.out.2⟩⟩
            obtain ⟨kf, hkf⟩ := facts_f (ps.length : Int) (keys ps) vs (at_ ps key) (has_ ps key) (sps ps) (by have := HE.out.2.2.2.2.2.1; unfold keys; rw [List.length_map]; omega) (by have := HE.out.2.2.2.2.2.1; rw [HV.out, List.length_mergeSort]; unfold vals; rw [List.length_map]; omega) (by have := HE.out.2.2.2.2.2.1; rw [sps_len]; omega)
            have c7 := laws_twFacts.calls kf (ps.length : Int) B1 bb1 (keys ps) B2 bb2 (keys ps) (at_ ps key) (at_ ps key) (has_ ps key) (has_ ps key) B7 bb7 (sps ps) B8 bb8 (sps ps) B9 bb9 vs (ps.length : Int) D1 bd1 (keys ps) D2 bd2 (keys ps) (at_ ps key) (at_ ps key) (has_ ps key) (has_ ps key) D7 bd7 (sps ps) D8 bd8 (sps ps) D9 bd9 vs true w9 (Kd.C_below T8.out.1.2 hb9) T8.out.1.1 (Kd.C_below T8.out.2.1.2 hb9) T8.out.2.1.1 (Kd.C_below T8.out.2.2.1.2 hb9) T8.out.2.2.1.1 (Kd.C_below T8.out.2.2.2.1.2 hb9) T8.out.2.2.2.1.1 (Kd.C_below T8.out.2.2.2.2.1.2 hb9) T8.out.2.2.2.2.1.1 tD1.2 tD1.1 tD2.2 tD2.1 tD7.2 tD7.1 tD8.2 tD8.1 tD9.2 tD9.1 hkf
            have T9 := Aside0.mk hb9
            clear tD1 tD2 tD7 tD8 tD9 hMl hb9 c9 hkf
            refine hKc.out _ _ SC.out (fun hHeld => ?_)
            clear hKc Kc
            refine norm_ (a' := ?_) ?_ ?_
            rotate_left
            · show Act.put _ (some 113) _ = _
              simp only [Act.put, List.setIfInBounds_toArray, List.set_cons_zero, List.set_cons_succ, i64_w, i32_w]
              rfl
            refine one_ (i := 8) (N := some 114) #[true, true, true, true, true, true, true, true, true, false] rfl rfl (one_of HT_.out (by kernel_rfl)) (by decide) (fun Kc hKc => ?_)
            refine goes_ Try.func7 (by kernel_rfl) rfl #[.agg #[.int .i64 ps.length, .slice B1 (keys ps).length bb1, .slice B2 (keys ps).length bb2, .int .i64 (at_ ps key), .int .i64 (at_ ps key), .bool (has_ ps key), .bool (has_ ps key), .slice B7 (sps ps).length bb7, .slice B8 (sps ps).length bb8, .slice B9 vs.length bb9], .agg #[.int .i64 ps.length, .slice D1 (keys ps).length bd1, .slice D2 (keys ps).length bd2, .int .i64 (at_ ps key), .int .i64 (at_ ps key), .bool (has_ ps key), .bool (has_ ps key), .slice D7 (sps ps).length bd7, .slice D8 (sps ps).length bd8, .slice D9 vs.length bd9]] (by rfl) rfl rfl (by (try simp only [List.map_toArray, List.map_cons, List.map_nil]); first | done | rfl) ?_
            refine (c7).mono ?_
            rintro e w10 ⟨rfl, hb10⟩
            refine ⟨_, rfl, ?_⟩
            have hMl : M < w9.heap.size := World.block_lt_of_cell? _ _ SC.out.1
            have SE : Aside0 (w10.cell? ⟨M, 0, none⟩ = some (.bool nn) ∧ w10.cell? ⟨M, 1, none⟩ = some (.slice A2 (sps ps).length c2)) := ⟨⟨(hb10.cell (p := ⟨M, 0, none⟩) hMl).trans SC.out.1, (hb10.cell (p := ⟨M, 1, none⟩) hMl).trans SC.out.2⟩⟩
            have T10 := Aside0.mk hb10
            clear hMl hb10 c7
            refine hKc.out _ _ SE.out (fun hHeld => ?_)
            clear hKc Kc
            refine norm_ (a' := ?_) ?_ ?_
            rotate_left
            · show Act.put _ (some 114) _ = _
              simp only [Act.put, List.setIfInBounds_toArray, List.set_cons_zero, List.set_cons_succ, i64_w, i32_w]
              rfl
            refine pure_ (i := 9) (N := some 8) (v := ?_) (a' := ?_) #[true, true, true, true, true, true, true, true, true, true] rfl rfl (any_of HT_.out (by kernel_rfl)) (fun _ _ _ h => h) (Or.inl ⟨by rfl, ?_⟩) ?_ ?_
            rotate_left
            · intro w'
              go_simp
              with_reducible rfl
            rotate_left
            · simp only [Act.put, List.setIfInBounds_toArray, List.set_cons_zero, List.set_cons_succ, i64_w, i32_w]
              rfl
            refine done_ (done_of HT_.out (by kernel_rfl)) ?_
            clear hHeld
            go_wp2_with (fail)
            go_ret
            have hz := HE.out.2.2.2.1.size
            have hz8 := T8.out.2.2.2.2.2.size
            have hz9 := T9.out.size
            have hzd : wr.drew.heap.size = wr.heap.size := rfl
            exact ⟨rfl, (HE.out.2.2.2.1.drew).trans ((T8.out.2.2.2.2.2.mono (by omega)).trans ((T9.out.mono (by omega)).trans (T10.out.mono (by omega))))⟩
    · have e3 : (K == 3) = false := beq_eq_false_iff_ne.mpr (by omega)
      have eg : decide ((1 : Int) < K) = true := decide_eq_true (by omega)
      obtain ⟨nn, hnn⟩ : ∃ nn, (K == 1) = nn := ⟨_, rfl⟩
      have HN := Aside0.mk (show nn = nilK K by rw [← hnn]; unfold nilK; exact (Bool.beq_eq_decide_eq K 1))
      have HNF := Aside0.mk (show nn = false by rw [← hnn]; exact beq_eq_false_iff_ne.mpr (by omega))
      have HKK := Aside0.mk hk2
      clear hk2
      go_enter Try.func3, Try.ntmps3
      go_wp2_with (first | (go_at_call 4; refine c4.mono ?_; rintro e w1 ⟨rfl, hb1⟩; have HB := Aside0.mk hb1; clear hb1 c4))
      obtain ⟨M, hM⟩ : ∃ M, M = w1.heap.size := ⟨_, rfl⟩
      obtain ⟨W, hW⟩ : ∃ W, w1.alloc (.cells #[.bool nn, .slice none 0 0] 27) = W := ⟨_, rfl⟩
      have hMW : W.heap[M]? = some (.cells #[.bool nn, .slice none 0 0] 27 (0, 0)) := by rw [← hW, hM]; exact heap_alloc_new w1 _
      have hbW : Below w.heap.size w W := by rw [← hW]; exact HB.out.trans ((Below.refl _ w1).alloc (by have := HB.out.size; omega) _)
      have hwM : w.heap.size ≤ M := by rw [hM]; exact HB.out.size
      simp only [← hM]
      rw [hW]
      have HM := Aside0.mk (And.intro hMW (And.intro hbW hwM))
      clear hMW hbW hwM hW hM HB w1
      go_loopg [11, 12] ks.length (fun gk v11 v12 wx => ∃ (i : Nat) (A' : Option Addr) (c' : Nat), v11 = .int .i64 (i : Int) ∧ i ≤ ks.length ∧ wx.heap[M]? = some (.cells #[.bool nn, .slice A' (sps (build (fK K) (ks.take i))).length c'] 27 (0, 0)) ∧ (sps (build (fK K) (ks.take i))).length ≤ c' ∧ Kd.C k29 wx A' (sps (build (fK K) (ks.take i))).length (sps (build (fK K) (ks.take i))) ∧ Below w.heap.size w wx ∧ ks.length - i ≤ gk)
      case atStart => exact ⟨0, none, 0, rfl, Nat.zero_le _, HM.out.1, Nat.zero_le _, Kd.C_nil _ _, HM.out.2.1, Nat.le_refl _⟩
      case round =>
        obtain ⟨i, A', c', rfl, hi, hMx, hcx, hrx, hbx, hlen⟩ := hrel
        have hl := HG.out.2.2.2.1
        by_cases hd : i < ks.length
        · have q3 : decide ((i : Int) < (ks.length : Int)) = true := decide_eq_true (by omega)
          have q4 : decide (i < ks.length) = true := decide_eq_true hd
          have p1 := eq_true (show 0 ≤ (i : Int) by omega)
          have q1 := eq_true (show (i : Int) < (ks.length : Int) by omega)
          have hwj := wrap_succ i (by omega)
          obtain ⟨ad, e, hx⟩ := Kd.at_int (Kd.C_below HA.out.1.r0 hbx) (i : Int) (by omega) (by omega)
          cases e
          rw [rd_nat, getD_at _ _ _ hd, Int.toNat_natCast] at hx
          have hin := HA.out.1.hk _ (List.getElem_mem hd)
          have htk : ks.take (i + 1) = ks.take i ++ [ks[i]] := List.take_succ_eq_append_getElem hd
          obtain ⟨x, hxx⟩ : ∃ x, x = ks[i] := ⟨_, rfl⟩
          rw [← hxx] at hx hin htk
          obtain ⟨wz, hwz⟩ : ∃ wz, wr.alloc (.cells #[.int .i64 0, .int .i64 0] 29) = wz := ⟨_, rfl⟩
          have hpz : wz.heap[wr.heap.size]? = some (.cells #[.int .i64 0, .int .i64 0] 29 (0, 0)) := by rw [← hwz]; exact heap_alloc_new wr _
          have z0 : wz.cell? ⟨wr.heap.size, 0, none⟩ = some (.int .i64 0) := by rw [Lib.cell_of_heap hpz]; rfl
          have z1 : wz.cell? ⟨wr.heap.size, 1, none⟩ = some (.int .i64 0) := by rw [Lib.cell_of_heap hpz]; rfl
          have zf : ∀ j, wz.frozen? ⟨wr.heap.size, j, none⟩ = false := fun j => by rw [Lib.frozen_of_heap hpz]
          obtain ⟨w0, hw0⟩ : ∃ w0, (wz.setCell ⟨wr.heap.size, 0, none⟩ (.int .i64 x)).setCell ⟨wr.heap.size, 1, none⟩ (.int .i64 0) = w0 := ⟨_, rfl⟩
          have hbz : Below wr.heap.size wr wz := by rw [← hwz]; exact (Below.refl _ wr).alloc (Nat.le_refl _) _
          have hb0 : Below wr.heap.size wr w0 := by rw [← hw0]; exact hbz.trans (below_grown (set2 (T := wr.heap.size) _ _ wz) hbz.size (fun k hk => by injection hk with hk; omega))
          have hp0 : w0.heap[wr.heap.size]? = some (.cells #[.int .i64 x, .int .i64 0] 29 (0, 0)) := by rw [← hw0]; exact (heap_setCell_same _ _ 1 _ 29 _ (heap_setCell_same wz _ 0 _ 29 _ hpz)).trans rfl
          clear hpz hbz
          have hMl := (Array.getElem?_eq_some_iff.1 hMx).1
          have hx0 : w0.cell? (ad.add i) = some (.int .i64 x) := (hb0.cell (World.block_lt_of_cell? _ _ hx)).trans hx
          obtain ⟨w2, hw2⟩ : ∃ w2, w2 = w0 := ⟨_, rfl⟩
          have hg2 : w0.grownBy w2 (some wr.heap.size) := by rw [hw2]; exact ⟨rfl, rfl, rfl, Nat.le_refl _, fun _ _ _ => rfl⟩
          have hp2 : w2.heap[wr.heap.size]? = some (.cells #[.int .i64 x, .int .i64 (fK K x)] 29 (0, 0)) := by rw [hw2, hp0, show fK K x = 0 by rw [HKK.out]; rfl]
          rw [← hw2] at hw0
          have hb0 : Below wr.heap.size wr w0 := hb0
          rw [← hw2] at hb0 hg2 hx0
          clear hw2
          have hb2 : Below wr.heap.size wr w2 := hb0.trans (below_grown hg2 hb0.size (fun k hk => by injection hk with hk; omega))
          have hM2 := (hb2.block M hMl).trans hMx
          have m0 : w2.cell? ⟨M, 0, none⟩ = some (.bool nn) := by rw [Lib.cell_of_heap hM2]; rfl
          have m1 : w2.cell? ⟨M, 1, none⟩ = some (.slice A' (sps (build (fK K) (ks.take i))).length c') := by rw [Lib.cell_of_heap hM2]; rfl
          have y0 : w2.cell? ⟨wr.heap.size, 0, none⟩ = some (.int .i64 x) := by rw [Lib.cell_of_heap hp2]; rfl
          have y1 : w2.cell? ⟨wr.heap.size, 1, none⟩ = some (.int .i64 (fK K x)) := by rw [Lib.cell_of_heap hp2]; rfl
          have hbl := build_len (fK K) (ks.take i)
          have hlt : (ks.take i).length ≤ i := List.length_take_le _ _
          obtain ⟨kk, hkk⟩ := with_f nn (build_srt (fK K) (ks.take i)) (by omega) x (fK K x)
          have c5 := spec_TwMapped_With.calls kk nn A' c' (sps (build (fK K) (ks.take i))) x (fK K x) false (sps (ins (build (fK K) (ks.take i)) (x, fK K x))) w2 (Kd.C_below hrx hb2) hcx hkk
          obtain ⟨g', rfl⟩ : ∃ g', gk = g' + 1 := ⟨gk - 1, by omega⟩
          have HQ := Aside0.mk (And.intro hd (And.intro hbx (And.intro hlen (And.intro hwj (And.intro htk (And.intro hM2 (And.intro hb2 hMl)))))))
          clear hMx hcx hrx hbx hlen hi hd hwj hin htk hxx hb0 hp0 hMl hg2 hp2 hb2 hM2 hbl hlt hkk hl
          go_wp2_with (first | (go_at_call 5; refine c5.mono ?_; rintro e w5 ⟨v5, rfl, hR5, hb5⟩
                                obtain ⟨A5, k5, rfl, hc5, hr5⟩ := Kd.R_reads hR5
                                have hM5 := (hb5.block M (Nat.lt_of_lt_of_le HQ.out.2.2.2.2.2.2.2 HQ.out.2.2.2.2.2.2.1.size)).trans HQ.out.2.2.2.2.2.1
                                have n0 : w5.cell? ⟨M, 0, none⟩ = some (.bool nn) := (by rw [Lib.cell_of_heap hM5]; rfl)
                                have n1 : w5.cell? ⟨M, 1, none⟩ = some (.slice A' (sps (build (fK K) (ks.take i))).length c') := (by rw [Lib.cell_of_heap hM5]; rfl)
                                have nf : ∀ j, w5.frozen? ⟨M, j, none⟩ = false := (fun j => by rw [Lib.frozen_of_heap hM5])
                                have H5 := Aside0.mk (And.intro hM5 (And.intro hc5 (And.intro hr5 hb5)))
                                clear hR5 hc5 hr5 hM5 hb5 c5))
          go_roundg g'
          case measure => exact Nat.lt_succ_self _
          case rel =>
            have hq : ins (build (fK K) (ks.take i)) (x, fK K x) = build (fK K) (ks.take (i + 1)) := by rw [HQ.out.2.2.2.2.1, build_snoc]
            have h5 := H5.out
            rw [hq] at h5
            have hwM := HM.out.2.2
            have hz := HQ.out.2.1.size
            have hz2 := HQ.out.2.2.2.2.2.2.1.size
            have hz5 := h5.2.2.2.size
            refine ⟨i + 1, A5, k5, by simp only [HQ.out.2.2.2.1], HQ.out.1, ?_, h5.2.1, C_set27 _ _ h5.2.2.1 h5.1, ?_, by have := HQ.out.2.2.1; omega⟩
            · rw [hq]
              have := (heap_setCell_same _ M 1 _ 27 (.slice A5 (sps (build (fK K) (ks.take (i + 1)))).length k5) (heap_setCell_same w5 M 0 _ 27 (.bool false) h5.1))
              rw [HNF.out]
              exact this.trans rfl
            · exact HQ.out.2.1.trans ((HQ.out.2.2.2.2.2.2.1.mono hz).trans ((h5.2.2.2.mono (by omega)).trans (below_grown (set2 (T := M) _ _ w5) (by omega) (fun k hk => by injection hk with hk; omega))))
        · have q3 : decide ((i : Int) < (ks.length : Int)) = false := decide_eq_false (by omega)
          have q4 : decide (i < ks.length) = false := decide_eq_false hd
          obtain rfl : i = ks.length := by omega
          rw [List.take_length] at hMx hcx hrx
          have hst : build (fK K) ks = Pf.start K ks := (start_eq (.inl HKK.out) ks).symm
          rw [hst] at hMx hcx hrx
          have HS1 := Aside0.mk (And.intro hMx (And.intro hcx (And.intro hrx hbx)))
          clear hMx hcx hrx hbx hst hi hlen hd hl
          go_wp2_with (fail)
          have HK3 := Aside0.mk (show K = 3 → 0 < ks.length from fun h => by have := HKK.out; omega)
          obtain ⟨ps0, hps0⟩ : ∃ ps0, ps0 = Pf.start K ks := ⟨_, rfl⟩
          have hsrt0 : Srt ps0 := by rw [hps0]; exact srt_start _ _
          have hlen0 : ps0.length ≤ 100 := by rw [hps0]; have := len_start K ks; have := HG.out.2.2.2.1; omega
          have hnil0 : nn = true → ps0 = [] := fun h => by
            have hK1 : K = 1 := by
              have := HN.out
              rw [h] at this
              unfold nilK at this
              exact of_decide_eq_true this.symm
            rw [hps0]; unfold Pf.start; rw [if_neg (by omega), if_neg (by omega)]
          rw [← hps0] at HS1
          have HP0 := Aside0.mk (And.intro hsrt0 (And.intro hlen0 (And.intro hnil0 hps0)))
          clear hsrt0 hlen0 hnil0 hps0
          go_loopg [13] ops.length (fun gk v13 wx => ∃ (j : Nat) (A2 : Option Addr) (c2 : Nat), v13 = .int .i64 (j : Int) ∧ j ≤ ops.length ∧ wx.heap[M]? = some (.cells #[.bool nn, .slice A2 (sps (runO nn ps0 (ops.take j))).length c2] 27 (0, 0)) ∧ (sps (runO nn ps0 (ops.take j))).length ≤ c2 ∧ Kd.C k29 wx A2 (sps (runO nn ps0 (ops.take j))).length (sps (runO nn ps0 (ops.take j))) ∧ (∀ x ∈ ops.take j, GoodO nn x) ∧ Below w.heap.size w wx ∧ ops.length - j ≤ gk)
          case atStart => exact ⟨0, _, _, rfl, Nat.zero_le _, HS1.out.1, HS1.out.2.1, HS1.out.2.2.1, by simp, HS1.out.2.2.2, Nat.le_refl _⟩
          case round =>
            obtain ⟨j, A2, c2, rfl, hj, hMx, hcx, hrx, hgx, hbx, hlen⟩ := hrel
            have hl := HG.out.2.2.1
            by_cases hd : j < ops.length
            · have q3 : decide ((j : Int) < (ops.length : Int)) = true := decide_eq_true (by omega)
              have q5 : decide (j < ops.length) = true := decide_eq_true hd
              have p1 := eq_true (show 0 ≤ (j : Int) by omega)
              have q1 := eq_true (show (j : Int) < (ops.length : Int) by omega)
              have hwj := wrap_succ j (by omega)
              obtain ⟨ad, A3, c3, e, x0, x1, x2, x3, xl, xr⟩ := at_T32 (Kd.C_below HA.out.1.r1 hbx) (j : Int) (by omega) (by omega)
              cases e
              have er : rd_T32 ops (j : Int) = ops[j] := by simp [rd_T32, hd]
              have hio := HA.out.1.ho _ (List.getElem_mem hd)
              have hsm := HG.out.2.1 _ (List.getElem_mem hd)
              have htk : ops.take (j + 1) = ops.take j ++ [ops[j]] := List.take_succ_eq_append_getElem hd
              obtain ⟨x, hx⟩ : ∃ x, x = ops[j] := ⟨_, rfl⟩
              rw [er, ← hx, Int.toNat_natCast] at x0 x1 x2 x3
              rw [er, ← hx] at xl xr
              rw [← hx] at hio hsm htk
              obtain ⟨qs, hqs⟩ : ∃ qs, qs = runO nn ps0 (ops.take j) := ⟨_, rfl⟩
              rw [← hqs] at hMx hcx hrx
              have hsrt : Srt qs := by rw [hqs]; exact srt_run nn _ HP0.out.1
              have hqlen : qs.length ≤ 1000 := by rw [hqs]; have := len_run nn (ops.take j) ps0; have : (ops.take j).length ≤ j := List.length_take_le _ _; have := HP0.out.2.1; omega
              have hqnil : nn = true → qs = [] := fun h => by
                rw [hqs, HP0.out.2.2.1 h, h]
                have : ∀ (l : List S32), runO true [] l = [] := fun l => by
                  induction l with
                  | nil => rfl
                  | cons a t ih => exact ih
                exact this _
              have hrun : runO nn ps0 (ops.take (j + 1)) = stepO nn qs x := by rw [htk, runO_snoc, ← hqs]
              have HQ0 := Aside0.mk hbx
              by_cases hneg : x.f0 < 0
              · have g1 : decide (x.f0 < 0) = true := decide_eq_true hneg
                clear hneg hsrt hqlen hqnil hrun hqs hMx hcx hrx hgx hbx hlen hio hsm htk hx er hj hl hd hwj
                go_wp2_with (fail)
                go_ret
                exact ⟨rfl, HQ0.out⟩
              have g1 : decide (x.f0 < 0) = false := decide_eq_false hneg
              by_cases hbig : 7 < x.f0
              · have g2 : decide (7 < x.f0) = true := decide_eq_true hbig
                clear hneg hbig hsrt hqlen hqnil hrun hqs hMx hcx hrx hgx hbx hlen hio hsm htk hx er hj hl hd hwj
                go_wp2_with (fail)
                go_ret
                exact ⟨rfl, HQ0.out⟩
              have g2 : decide (7 < x.f0) = false := decide_eq_false hbig
              by_cases hno : nn = true ∧ 1 < x.f0
              · have g3 : decide (1 < x.f0) = true := decide_eq_true hno.2
                have hnn' : (K == 1) = true := hnn.trans hno.1
                clear hnn hneg hbig hno hsrt hqlen hqnil hrun hqs hMx hcx hrx hgx hbx hlen hio hsm htk hx er hj hl hd hwj
                go_wp2_with (fail)
                go_ret
                exact ⟨rfl, HQ0.out⟩
              have hgood : GoodO nn x := ⟨by omega, by omega, fun h => by have := mt (And.intro h) hno; omega, hio.2.1, hio.2.2, by omega⟩
              have c6 := doneS (w := wr.drew) (Kd.C_drew hrx) hcx (by omega) hsrt x hgood hqnil (Kd.C_drew xr) xl
              have m0 : wr.cell? ⟨M, 0, none⟩ = some (.bool nn) := by rw [Lib.cell_of_heap hMx]; rfl
              have m1 : wr.cell? ⟨M, 1, none⟩ = some (.slice A2 (sps qs).length c2) := by rw [Lib.cell_of_heap hMx]; rfl
              have S0 : Aside0 (wr.cell? ⟨M, 0, none⟩ = some (.bool nn) ∧ wr.cell? ⟨M, 1, none⟩ = some (.slice A2 (sps qs).length c2) ∧ wr.cell? (ad.add (j * 4)) = some (.int .i64 x.f0) ∧ wr.cell? ⟨(ad.add (j * 4)).block, (ad.add (j * 4)).off + 1, none⟩ = some (.int .i64 x.f1) ∧ wr.cell? ⟨(ad.add (j * 4)).block, (ad.add (j * 4)).off + 2, none⟩ = some (.int .i64 x.f2) ∧ wr.cell? ⟨(ad.add (j * 4)).block, (ad.add (j * 4)).off + 3, none⟩ = some (.slice A3 x.f3.length c3)) := ⟨⟨m0, m1, x0, x1, x2, x3⟩⟩
              have hgx' : ∀ y ∈ ops.take (j + 1), GoodO nn y := fun y hy => by
                rw [htk] at hy
                rcases List.mem_append.1 hy with hy | hy
                · exact hgx y hy
                · obtain rfl := List.mem_singleton.1 hy
                  exact hgood
              obtain ⟨g', rfl⟩ : ∃ g', gk = g' + 1 := ⟨gk - 1, by omega⟩
              have HQ := Aside0.mk (And.intro hd (And.intro hlen (And.intro hMx (And.intro hbx (And.intro hgx' (And.intro hrun hwj))))))
              have hnb : (nn = true ∧ x.f0 ≤ 1) ∨ nn = false := by
                cases hn : nn with
                | true => left; exact ⟨rfl, by have := mt (And.intro hn) hno; omega⟩
                | false => right; rfl
              clear hneg hbig hno hsrt hqlen hqnil hrun hqs hMx hcx hrx hgx hgx' hbx hlen hio hsm htk hx er hj hl hd hwj hgood xl xr m0 m1
              rcases hnb with hn | hn
              have hnn' : (K == 1) = true := hnn.trans hn.1
              have g3 : decide (1 < x.f0) = false := decide_eq_false (by omega)
              clear hn hnn
              go_wp2_with (fail)
              rotate_left
              have hnn' : (K == 1) = false := hnn.trans hn
              clear hn hnn
              go_wp2_with (fail)
              all_goals
                clear hnn'
                refine start_ (n := 7) (S := fun w' => w'.cell? ⟨M, 0, none⟩ = some (.bool nn) ∧ w'.cell? ⟨M, 1, none⟩ = some (.slice A2 (sps qs).length c2) ∧ w'.cell? (ad.add (j * 4)) = some (.int .i64 x.f0) ∧ w'.cell? ⟨(ad.add (j * 4)).block, (ad.add (j * 4)).off + 1, none⟩ = some (.int .i64 x.f1) ∧ w'.cell? ⟨(ad.add (j * 4)).block, (ad.add (j * 4)).off + 2, none⟩ = some (.int .i64 x.f2) ∧ w'.cell? ⟨(ad.add (j * 4)).block, (ad.add (j * 4)).off + 3, none⟩ = some (.slice A3 x.f3.length c3)) (ds := [6]) #[false, false, false, false, false, false, false] (by kernel_rfl) rfl rfl S0.out (fun hHeld => ?_); refine with_tabW tab21 bits21 (fun HT_ HW_ => ?_)
                refine take_ (i := 0) (N := some 100) (v := ?_) (a' := ?_) #[true, false, false, false, false, false, false] rfl rfl (take_ofW HT_.out HW_.out (by kernel_rfl)) (fun _ _ _ h => h) (Or.inl ⟨by rfl, ?_⟩) hHeld ?_ ?_
                rotate_left
                · rintro w' ⟨s0, s1, s2, s3, s4, s5⟩
                  go_simp
                  with_reducible rfl
                rotate_left
                · simp only [Act.put, List.setIfInBounds_toArray, List.set_cons_zero, List.set_cons_succ, i64_w, i32_w]
                  rfl
                refine pure_ (i := 1) (N := some 101) (v := ?_) (a' := ?_) #[true, true, false, false, false, false, false] rfl rfl (any_of HT_.out (by kernel_rfl)) (fun _ _ _ h => h) (Or.inl ⟨by rfl, ?_⟩) ?_ ?_
                rotate_left
                · intro w'
                  go_simp
                  with_reducible rfl
                rotate_left
                · simp only [Act.put, List.setIfInBounds_toArray, List.set_cons_zero, List.set_cons_succ, i64_w, i32_w]
                  rfl
                refine pure_ (i := 2) (N := some 102) (v := ?_) (a' := ?_) #[true, true, true, false, false, false, false] rfl rfl (any_of HT_.out (by kernel_rfl)) (fun _ _ _ h => h) (Or.inl ⟨by rfl, ?_⟩) ?_ ?_
                rotate_left
                · intro w'
                  go_simp
                  with_reducible rfl
                rotate_left
                · simp only [Act.put, List.setIfInBounds_toArray, List.set_cons_zero, List.set_cons_succ, i64_w, i32_w]
                  rfl
                refine pure_ (i := 3) (N := some 103) (v := ?_) (a' := ?_) #[true, true, true, true, false, false, false] rfl rfl (any_of HT_.out (by kernel_rfl)) (fun _ _ _ h => h) (Or.inl ⟨by rfl, ?_⟩) ?_ ?_
                rotate_left
                · intro w'
                  go_simp
                  with_reducible rfl
                rotate_left
                · simp only [Act.put, List.setIfInBounds_toArray, List.set_cons_zero, List.set_cons_succ, i64_w, i32_w]
                  rfl
                refine take_ (i := 4) (N := some 104) (v := ?_) (a' := ?_) #[true, true, true, true, true, false, false] rfl rfl (take_ofW HT_.out HW_.out (by kernel_rfl)) (fun _ _ _ h => h) (Or.inl ⟨by rfl, ?_⟩) hHeld ?_ ?_
                rotate_left
                · rintro w' ⟨s0, s1, s2, s3, s4, s5⟩
                  go_simp
                  with_reducible rfl
                rotate_left
                · simp only [Act.put, List.setIfInBounds_toArray, List.set_cons_zero, List.set_cons_succ, i64_w, i32_w]
                  rfl
                refine one_ (i := 5) (N := some 105) #[true, true, true, true, true, true, false] rfl rfl (one_of HT_.out (by kernel_rfl)) (by decide) (fun Kc hKc => ?_)
                refine goes_ Try.func6 (by kernel_rfl) rfl #[.agg #[.bool nn, .slice A2 (sps qs).length c2], .agg #[.int .i64 x.f0, .int .i64 x.f1, .int .i64 x.f2, .slice A3 x.f3.length c3]] (by rfl) rfl rfl (by (try simp only [List.map_toArray, List.map_cons, List.map_nil]); first | done | rfl) ?_
                refine (c6).mono ?_
                rintro e w6 ⟨A6, k6, rfl, hc6, hr6, hb6⟩
                refine ⟨_, rfl, ?_⟩
                have hMl : M < wr.drew.heap.size := (Array.getElem?_eq_some_iff.1 HQ.out.2.2.1).1
                have hM6 := (hb6.block M hMl).trans HQ.out.2.2.1
                have SB : Aside0 (w6.cell? ⟨M, 0, none⟩ = some (.bool nn) ∧ w6.cell? ⟨M, 1, none⟩ = some (.slice A2 (sps qs).length c2) ∧ w6.cell? (ad.add (j * 4)) = some (.int .i64 x.f0) ∧ w6.cell? ⟨(ad.add (j * 4)).block, (ad.add (j * 4)).off + 1, none⟩ = some (.int .i64 x.f1) ∧ w6.cell? ⟨(ad.add (j * 4)).block, (ad.add (j * 4)).off + 2, none⟩ = some (.int .i64 x.f2) ∧ w6.cell? ⟨(ad.add (j * 4)).block, (ad.add (j * 4)).off + 3, none⟩ = some (.slice A3 x.f3.length c3)) := ⟨⟨by rw [Lib.cell_of_heap hM6]; rfl, by rw [Lib.cell_of_heap hM6]; rfl, (hb6.cell (World.block_lt_of_cell? _ _ S0.out.2.2.1)).trans S0.out.2.2.1, (hb6.cell (World.block_lt_of_cell? _ _ S0.out.2.2.2.1)).trans S0.out.2.2.2.1, (hb6.cell (World.block_lt_of_cell? _ _ S0.out.2.2.2.2.1)).trans S0.out.2.2.2.2.1, (hb6.cell (World.block_lt_of_cell? _ _ S0.out.2.2.2.2.2)).trans S0.out.2.2.2.2.2⟩⟩
                have n0 : w6.cell? ⟨M, 0, none⟩ = some (.bool nn) := SB.out.1
                have n1 : w6.cell? ⟨M, 1, none⟩ = some (.slice A2 (sps qs).length c2) := SB.out.2.1
                have nf : ∀ j, w6.frozen? ⟨M, j, none⟩ = false := fun j => by rw [Lib.frozen_of_heap hM6]
                have H6 := Aside0.mk (And.intro hM6 (And.intro hc6 (And.intro hr6 hb6)))
                clear hMl hM6 hc6 hr6 hb6 c6
                refine hKc.out _ _ SB.out (fun hHeld => ?_)
                clear hKc Kc
                refine norm_ (a' := ?_) ?_ ?_
                rotate_left
                · show Act.put _ (some 105) _ = _
                  simp only [Act.put, List.setIfInBounds_toArray, List.set_cons_zero, List.set_cons_succ, i64_w, i32_w]
                  rfl
                refine last_ (i := 6) (N := none) #[true, true, true, true, true, true, true] rfl rfl (one_of HT_.out (by kernel_rfl)) (by decide) (fun Kc hKc => ?_)
                refine skip_ (w1 := (w6.setCell ⟨M, 0, none⟩ (.bool nn)).setCell ⟨M, 1, none⟩ (.slice A6 (sps (stepO nn qs x)).length k6)) (by rfl) rfl ?_ ?_
                · go_simp
                  try rfl
                refine hKc.out _ _ ?_
                clear hKc Kc
                refine done_ (done_of HT_.out (by kernel_rfl)) ?_
                clear hHeld S0 SB n0 n1 nf x0 x1 x2 x3
                go_wp2_with (fail)
                go_roundg g'
                case measure => exact Nat.lt_succ_self _
                case rel =>
                  have h6 := H6.out
                  have hwM := HM.out.2.2
                  have hz := HQ.out.2.2.2.1.size
                  have hz6 := h6.2.2.2.size
                  have hzd : wr.drew.heap.size = wr.heap.size := rfl
                  refine ⟨j + 1, A6, k6, by simp only [HQ.out.2.2.2.2.2.2], HQ.out.1, ?_, ?_, ?_, HQ.out.2.2.2.2.1, ?_, by have := HQ.out.2.1; omega⟩
                  · rw [HQ.out.2.2.2.2.2.1]
                    exact (heap_setCell_same _ M 1 _ 27 _ (heap_setCell_same w6 M 0 _ 27 _ h6.1)).trans rfl
                  · rw [HQ.out.2.2.2.2.2.1]; exact h6.2.1
                  · rw [HQ.out.2.2.2.2.2.1]; exact C_set27 _ _ h6.2.2.1 h6.1
                  · exact HQ.out.2.2.2.1.trans ((h6.2.2.2.mono (by omega) : Below w.heap.size wr.drew w6) |> fun h => (⟨h.os, h.tape, h.output, h.size, h.block⟩ : Below w.heap.size wr w6) |>.trans (below_grown (set2 (T := M) _ _ w6) (by omega) (fun k hk => by injection hk with hk; omega)))
            · have q3 : decide ((j : Int) < (ops.length : Int)) = false := decide_eq_false (by omega)
              have q5 : decide (j < ops.length) = false := decide_eq_false hd
              obtain rfl : j = ops.length := by omega
              rw [List.take_length] at hMx hcx hrx hgx
              obtain ⟨ps, hps⟩ : ∃ ps, ps = runO nn ps0 ops := ⟨_, rfl⟩
              rw [← hps] at hMx hcx hrx
              have hsrt : Srt ps := by rw [hps]; exact srt_run nn _ HP0.out.1
              have hplen : ps.length ≤ 1000 := by rw [hps]; have := len_run nn ops ps0; have := HP0.out.2.1; omega
              obtain ⟨vs, hvs⟩ : ∃ vs, vs = (vals ps).mergeSort leI := ⟨_, rfl⟩
              have HV := Aside0.mk hvs
              have hbd : Below w.heap.size w wr.drew := hbx.drew
              have c8 := twMapperT wr.drew ks A0 c0 ops A1 c1 key K HK4.out HK3.out (Kd.C_below HA.out.1.r0 hbd) (Kd.C_below HA.out.1.r1 hbd) (by have := HG.out.2.2.2.1; omega) (by omega) HA.out.1.hk (by rw [← HN.out]; exact hgx) HA.out.1.key
              rw [← HN.out, ← HP0.out.2.2.2, ← hps] at c8
              unfold Pf.Told at c8
              rw [← hvs] at c8
              have m0 : wr.cell? ⟨M, 0, none⟩ = some (.bool nn) := by rw [Lib.cell_of_heap hMx]; rfl
              have m1 : wr.cell? ⟨M, 1, none⟩ = some (.slice A2 (sps ps).length c2) := by rw [Lib.cell_of_heap hMx]; rfl
              have S0 : Aside0 (wr.cell? ⟨M, 0, none⟩ = some (.bool nn) ∧ wr.cell? ⟨M, 1, none⟩ = some (.slice A2 (sps ps).length c2)) := ⟨⟨m0, m1⟩⟩
              have HE := Aside0.mk (And.intro hMx (And.intro hcx (And.intro (show Kd.C k29 wr.drew A2 (sps ps).length (sps ps) from Kd.C_drew hrx) (And.intro hbx (And.intro hsrt (And.intro hplen trivial))))))
              clear hMx hcx hrx hgx hbx hps hsrt hplen hvs hbd m0 m1 hj hlen hd hl
              go_wp2_with (fail)
              refine start_ (n := 10) (S := fun w' => w'.cell? ⟨M, 0, none⟩ = some (.bool nn) ∧ w'.cell? ⟨M, 1, none⟩ = some (.slice A2 (sps ps).length c2)) (ds := []) #[false, false, false, false, false, false, false, false, false, false] (by kernel_rfl) rfl rfl S0.out (fun hHeld => ?_); refine with_tabW tab22 bits22 (fun HT_ HW_ => ?_)
              refine pure_ (i := 0) (N := some 106) (v := ?_) (a' := ?_) #[true, false, false, false, false, false, false, false, false, false] rfl rfl (any_of HT_.out (by kernel_rfl)) (fun _ _ _ h => h) (Or.inl ⟨by rfl, ?_⟩) ?_ ?_
              rotate_left
              · intro w'
                go_simp
                with_reducible rfl
              rotate_left
              · simp only [Act.put, List.setIfInBounds_toArray, List.set_cons_zero, List.set_cons_succ, i64_w, i32_w]
                rfl
              refine pure_ (i := 1) (N := some 107) (v := ?_) (a' := ?_) #[true, true, false, false, false, false, false, false, false, false] rfl rfl (any_of HT_.out (by kernel_rfl)) (fun _ _ _ h => h) (Or.inl ⟨by rfl, ?_⟩) ?_ ?_
              rotate_left
              · intro w'
                go_simp
                with_reducible rfl
              rotate_left
              · simp only [Act.put, List.setIfInBounds_toArray, List.set_cons_zero, List.set_cons_succ, i64_w, i32_w]
                rfl
              refine pure_ (i := 2) (N := some 108) (v := ?_) (a' := ?_) #[true, true, true, false, false, false, false, false, false, false] rfl rfl (any_of HT_.out (by kernel_rfl)) (fun _ _ _ h => h) (Or.inl ⟨by rfl, ?_⟩) ?_ ?_
              rotate_left
              · intro w'
                go_simp
                with_reducible rfl
              rotate_left
              · simp only [Act.put, List.setIfInBounds_toArray, List.set_cons_zero, List.set_cons_succ, i64_w, i32_w]
                rfl
              refine pure_ (i := 3) (N := some 109) (v := ?_) (a' := ?_) #[true, true, true, true, false, false, false, false, false, false] rfl rfl (any_of HT_.out (by kernel_rfl)) (fun _ _ _ h => h) (Or.inl ⟨by rfl, ?_⟩) ?_ ?_
              rotate_left
              · intro w'
                go_simp
                with_reducible rfl
              rotate_left
              · simp only [Act.put, List.setIfInBounds_toArray, List.set_cons_zero, List.set_cons_succ, i64_w, i32_w]
                rfl
              refine take_ (i := 5) (N := some 111) (v := ?_) (a' := ?_) #[true, true, true, true, false, true, false, false, false, false] rfl rfl (take_ofW HT_.out HW_.out (by kernel_rfl)) (fun _ _ _ h => h) (Or.inl ⟨by rfl, ?_⟩) hHeld ?_ ?_
              rotate_left
              · rintro w' ⟨s0, s1⟩
                go_simp
                with_reducible rfl
              rotate_left
              · simp only [Act.put, List.setIfInBounds_toArray, List.set_cons_zero, List.set_cons_succ, i64_w, i32_w]
                rfl
              refine pure_ (i := 6) (N := some 112) (v := ?_) (a' := ?_) #[true, true, true, true, false, true, true, false, false, false] rfl rfl (any_of HT_.out (by kernel_rfl)) (fun _ _ _ h => h) (Or.inl ⟨by rfl, ?_⟩) ?_ ?_
              rotate_left
              · intro w'
                go_simp
                with_reducible rfl
              rotate_left
              · simp only [Act.put, List.setIfInBounds_toArray, List.set_cons_zero, List.set_cons_succ, i64_w, i32_w]
                rfl
              refine one_ (i := 4) (N := some 110) #[true, true, true, true, true, true, true, false, false, false] rfl rfl (one_of HT_.out (by kernel_rfl)) (by decide) (fun Kc hKc => ?_)
              refine goes_ Try.func8 (by kernel_rfl) rfl #[.int .i64 K, .slice A0 ks.length c0, .slice A1 ops.length c1, .int .i64 key] (by rfl) rfl rfl (by (try simp only [List.map_toArray, List.map_cons, List.map_nil]); first | done | rfl) ?_
              refine (c8).mono ?_
              rintro e w8 ⟨B1, bb1, B2, bb2, B7, bb7, B8, bb8, B9, bb9, rfl, tB1, tB2, tB7, tB8, tB9, hb8⟩
              refine ⟨_, rfl, ?_⟩
              have hMl : M < wr.drew.heap.size := (Array.getElem?_eq_some_iff.1 HE.out.1).1
              have hM8 := (hb8.block M hMl).trans HE.out.1
              have SB : Aside0 (w8.cell? ⟨M, 0, none⟩ = some (.bool nn) ∧ w8.cell? ⟨M, 1, none⟩ = some (.slice A2 (sps ps).length c2)) := ⟨⟨by rw [Lib.cell_of_heap hM8]; rfl, by rw [Lib.cell_of_heap hM8]; rfl⟩⟩
              have c9 := factsT (nn := nn) (Kd.C_below HE.out.2.2.1 hb8) HE.out.2.1 (by have := HE.out.2.2.2.2.2.1; omega) HE.out.2.2.2.2.1 key
              unfold Pf.Told at c9
              rw [← HV.out] at c9
              have T8 := Aside0.mk (And.intro tB1 (And.intro tB2 (And.intro tB7 (And.intro tB8 (And.intro tB9 hb8)))))
              clear tB1 tB2 tB7 tB8 tB9 hMl hM8 hb8 c8
              refine hKc.out _ _ SB.out (fun hHeld => ?_)
              clear hKc Kc
              refine norm_ (a' := ?_) ?_ ?_
              rotate_left
              · show Act.put _ (some 110) _ = _
                simp only [Act.put, List.setIfInBounds_toArray, List.set_cons_zero, List.set_cons_succ, i64_w, i32_w]
                rfl
              refine one_ (i := 7) (N := some 113) #[true, true, true, true, true, true, true, true, false, false] rfl rfl (one_of HT_.out (by kernel_rfl)) (by decide) (fun Kc hKc => ?_)
              refine goes_ Try.func9 (by kernel_rfl) rfl #[.agg #[.bool nn, .slice A2 (sps ps).length c2], .int .i64 key] (by rfl) rfl rfl (by (try simp only [List.map_toArray, List.map_cons, List.map_nil]); first | done | rfl) ?_
              refine (c9).mono ?_
              rintro e w9 ⟨D1, bd1, D2, bd2, D7, bd7, D8, bd8, D9, bd9, rfl, tD1, tD2, tD7, tD8, tD9, hb9⟩
              refine ⟨_, rfl, ?_⟩
              have hMl : M < w8.heap.size := World.block_lt_of_cell? _ _ SB.out.1
              have SC : Aside0 (w9.cell? ⟨M, 0, none⟩ = some (.bool nn) ∧ w9.cell? ⟨M, 1, none⟩ = some (.slice A2 (sps ps).length c2)) := ⟨⟨(hb9.cell (p := ⟨M, 0, none⟩) hMl).trans SB.out.1, (hb9.cell (p := ⟨M, 1, none⟩) hMl).trans SB.out.2⟩⟩
              obtain ⟨kf, hkf⟩ := facts_f (ps.length : Int) (keys ps) vs (at_ ps key) (has_ ps key) (sps ps) (by have := HE.out.2.2.2.2.2.1; unfold keys; rw [List.length_map]; omega) (by have := HE.out.2.2.2.2.2.1; rw [HV.out, List.length_mergeSort]; unfold vals; rw [List.length_map]; omega) (by have := HE.out.2.2.2.2.2.1; rw [sps_len]; omega)
              have c7 := laws_twFacts.calls kf (ps.length : Int) B1 bb1 (keys ps) B2 bb2 (keys ps) (at_ ps key) (at_ ps key) (has_ ps key) (has_ ps key) B7 bb7 (sps ps) B8 bb8 (sps ps) B9 bb9 vs (ps.length : Int) D1 bd1 (keys ps) D2 bd2 (keys ps) (at_ ps key) (at_ ps key) (has_ ps key) (has_ ps key) D7 bd7 (sps ps) D8 bd8 (sps ps) D9 bd9 vs true w9 (Kd.C_below T8.out.1.2 hb9) T8.out.1.1 (Kd.C_below T8.out.2.1.2 hb9) T8.out.2.1.1 (Kd.C_below T8.out.2.2.1.2 hb9) T8.out.2.2.1.1 (Kd.C_below T8.out.2.2.2.1.2 hb9) T8.out.2.2.2.1.1 (Kd.C_below T8.out.2.2.2.2.1.2 hb9) T8.out.2.2.2.2.1.1 tD1.2 tD1.1 tD2.2 tD2.1 tD7.2 tD7.1 tD8.2 tD8.1 tD9.2 tD9.1 hkf
              have T9 := Aside0.mk hb9
              clear tD1 tD2 tD7 tD8 tD9 hMl hb9 c9 hkf
              refine hKc.out _ _ SC.out (fun hHeld => ?_)
              clear hKc Kc
              refine norm_ (a' := ?_) ?_ ?_
              rotate_left
              · show Act.put _ (some 113) _ = _
                simp only [Act.put, List.setIfInBounds_toArray, List.set_cons_zero, List.set_cons_succ, i64_w, i32_w]
                rfl
              refine one_ (i := 8) (N := some 114) #[true, true, true, true, true, true, true, true, true, false] rfl rfl (one_of HT_.out (by kernel_rfl)) (by decide) (fun Kc hKc => ?_)
              refine goes_ Try.func7 (by kernel_rfl) rfl #[.agg #[.int .i64 ps.length, .slice B1 (keys ps).length bb1, .slice B2 (keys ps).length bb2, .int .i64 (at_ ps key), .int .i64 (at_ ps key), .bool (has_ ps key), .bool (has_ ps key), .slice B7 (sps ps).length bb7, .slice B8 (sps ps).length bb8, .slice B9 vs.length bb9], .agg #[.int .i64 ps.length, .slice D1 (keys ps).length bd1, .slice D2 (keys ps).length bd2, .int .i64 (at_ ps key), .int .i64 (at_ ps key), .bool (has_ ps key), .bool (has_ ps key), .slice D7 (sps ps).length bd7, .slice D8 (sps ps).length bd8, .slice D9 vs.length bd9]] (by rfl) rfl rfl (by (try simp only [List.map_toArray, List.map_cons, List.map_nil]); first | done | rfl) ?_
              refine (c7).mono ?_
              rintro e w10 ⟨rfl, hb10⟩
              refine ⟨_, rfl, ?_⟩
              have hMl : M < w9.heap.size := World.block_lt_of_cell? _ _ SC.out.1
              have SE : Aside0 (w10.cell? ⟨M, 0, none⟩ = some (.bool nn) ∧ w10.cell? ⟨M, 1, none⟩ = some (.slice A2 (sps ps).length c2)) := ⟨⟨(hb10.cell (p := ⟨M, 0, none⟩) hMl).trans SC.out.1, (hb10.cell (p := ⟨M, 1, none⟩) hMl).trans SC.out.2⟩⟩
              have T10 := Aside0.mk hb10
              clear hMl hb10 c7
              refine hKc.out _ _ SE.out (fun hHeld => ?_)
              clear hKc Kc
              refine norm_ (a' := ?_) ?_ ?_
              rotate_left
              · show Act.put _ (some 114) _ = _
                simp only [Act.put, List.setIfInBounds_toArray, List.set_cons_zero, List.set_cons_succ, i64_w, i32_w]
                rfl
              refine pure_ (i := 9) (N := some 8) (v := ?_) (a' := ?_) #[true, true, true, true, true, true, true, true, true, true] rfl rfl (any_of HT_.out (by kernel_rfl)) (fun _ _ _ h => h) (Or.inl ⟨by rfl, ?_⟩) ?_ ?_
              rotate_left
              · intro w'
                go_simp
                with_reducible rfl
              rotate_left
              · simp only [Act.put, List.setIfInBounds_toArray, List.set_cons_zero, List.set_cons_succ, i64_w, i32_w]
                rfl
              refine done_ (done_of HT_.out (by kernel_rfl)) ?_
              clear hHeld
              go_wp2_with (fail)
              go_ret
              have hz := HE.out.2.2.2.1.size
              have hz8 := T8.out.2.2.2.2.2.size
              have hz9 := T9.out.size
              have hzd : wr.drew.heap.size = wr.heap.size := rfl
              exact ⟨rfl, (HE.out.2.2.2.1.drew).trans ((T8.out.2.2.2.2.2.mono (by omega)).trans ((T9.out.mono (by omega)).trans (T10.out.mono (by omega))))⟩
    · have e3 : (K == 3) = true := beq_iff_eq.mpr hk3
      have eg : decide ((1 : Int) < K) = true := decide_eq_true (by omega)
      obtain ⟨nn, hnn⟩ : ∃ nn, (K == 1) = nn := ⟨_, rfl⟩
      have HN := Aside0.mk (show nn = nilK K by rw [← hnn]; unfold nilK; exact (Bool.beq_eq_decide_eq K 1))
      have HNF := Aside0.mk (show nn = false by rw [← hnn]; exact beq_eq_false_iff_ne.mpr (by omega))
      have HKK := Aside0.mk hk3
      clear hk3
      by_cases hz : ks.length = 0
      · have ez : ((ks.length : Int) == 0) = true := beq_iff_eq.mpr (by omega)
        clear hz
        go_enter Try.func3, Try.ntmps3
        go_wp2_with (first | (go_at_call 4; refine c4.mono ?_; rintro e w1 ⟨rfl, hb1⟩; have HB := Aside0.mk hb1; clear hb1 c4))
        go_ret
        exact ⟨rfl, HB.out⟩
      have ez : ((ks.length : Int) == 0) = false := beq_eq_false_iff_ne.mpr (by omega)
      have HZ := Aside0.mk hz
      clear hz
      go_enter Try.func3, Try.ntmps3
      go_wp2_with (first | (go_at_call 4; refine c4.mono ?_; rintro e w1 ⟨rfl, hb1⟩; have HB := Aside0.mk hb1; clear hb1 c4))
      obtain ⟨M, hM⟩ : ∃ M, M = w1.heap.size := ⟨_, rfl⟩
      obtain ⟨W, hW⟩ : ∃ W, w1.alloc (.cells #[.bool nn, .slice none 0 0] 27) = W := ⟨_, rfl⟩
      have hMW : W.heap[M]? = some (.cells #[.bool nn, .slice none 0 0] 27 (0, 0)) := by rw [← hW, hM]; exact heap_alloc_new w1 _
      have hbW : Below w.heap.size w W := by rw [← hW]; exact HB.out.trans ((Below.refl _ w1).alloc (by have := HB.out.size; omega) _)
      have hwM : w.heap.size ≤ M := by rw [hM]; exact HB.out.size
      simp only [← hM]
      rw [hW]
      have HM := Aside0.mk (And.intro hMW (And.intro hbW hwM))
      clear hMW hbW hwM hW hM HB w1
      go_loopg [11, 12] ks.length (fun gk v11 v12 wx => ∃ (i : Nat) (A' : Option Addr) (c' : Nat), v11 = .int .i64 (i : Int) ∧ i ≤ ks.length ∧ wx.heap[M]? = some (.cells #[.bool nn, .slice A' (sps (build (fK K) (ks.take i))).length c'] 27 (0, 0)) ∧ (sps (build (fK K) (ks.take i))).length ≤ c' ∧ Kd.C k29 wx A' (sps (build (fK K) (ks.take i))).length (sps (build (fK K) (ks.take i))) ∧ Below w.heap.size w wx ∧ ks.length - i ≤ gk)
      case atStart => exact ⟨0, none, 0, rfl, Nat.zero_le _, HM.out.1, Nat.zero_le _, Kd.C_nil _ _, HM.out.2.1, Nat.le_refl _⟩
      case round =>
        obtain ⟨i, A', c', rfl, hi, hMx, hcx, hrx, hbx, hlen⟩ := hrel
        have hl := HG.out.2.2.2.1
        by_cases hd : i < ks.length
        · have q3 : decide ((i : Int) < (ks.length : Int)) = true := decide_eq_true (by omega)
          have q4 : decide (i < ks.length) = true := decide_eq_true hd
          have p1 := eq_true (show 0 ≤ (i : Int) by omega)
          have q1 := eq_true (show (i : Int) < (ks.length : Int) by omega)
          have hwj := wrap_succ i (by omega)
          obtain ⟨ad, e, hx⟩ := Kd.at_int (Kd.C_below HA.out.1.r0 hbx) (i : Int) (by omega) (by omega)
          cases e
          rw [rd_nat, getD_at _ _ _ hd, Int.toNat_natCast] at hx
          have hin := HA.out.1.hk _ (List.getElem_mem hd)
          have htk : ks.take (i + 1) = ks.take i ++ [ks[i]] := List.take_succ_eq_append_getElem hd
          obtain ⟨x, hxx⟩ : ∃ x, x = ks[i] := ⟨_, rfl⟩
          rw [← hxx] at hx hin htk
          obtain ⟨wz, hwz⟩ : ∃ wz, wr.alloc (.cells #[.int .i64 0, .int .i64 0] 29) = wz := ⟨_, rfl⟩
          have hpz : wz.heap[wr.heap.size]? = some (.cells #[.int .i64 0, .int .i64 0] 29 (0, 0)) := by rw [← hwz]; exact heap_alloc_new wr _
          have z0 : wz.cell? ⟨wr.heap.size, 0, none⟩ = some (.int .i64 0) := by rw [Lib.cell_of_heap hpz]; rfl
          have z1 : wz.cell? ⟨wr.heap.size, 1, none⟩ = some (.int .i64 0) := by rw [Lib.cell_of_heap hpz]; rfl
          have zf : ∀ j, wz.frozen? ⟨wr.heap.size, j, none⟩ = false := fun j => by rw [Lib.frozen_of_heap hpz]
          obtain ⟨w0, hw0⟩ : ∃ w0, (wz.setCell ⟨wr.heap.size, 0, none⟩ (.int .i64 x)).setCell ⟨wr.heap.size, 1, none⟩ (.int .i64 0) = w0 := ⟨_, rfl⟩
          have hbz : Below wr.heap.size wr wz := by rw [← hwz]; exact (Below.refl _ wr).alloc (Nat.le_refl _) _
          have hb0 : Below wr.heap.size wr w0 := by rw [← hw0]; exact hbz.trans (below_grown (set2 (T := wr.heap.size) _ _ wz) hbz.size (fun k hk => by injection hk with hk; omega))
          have hp0 : w0.heap[wr.heap.size]? = some (.cells #[.int .i64 x, .int .i64 0] 29 (0, 0)) := by rw [← hw0]; exact (heap_setCell_same _ _ 1 _ 29 _ (heap_setCell_same wz _ 0 _ 29 _ hpz)).trans rfl
          clear hpz hbz
          have hMl := (Array.getElem?_eq_some_iff.1 hMx).1
          have hx0 : w0.cell? (ad.add i) = some (.int .i64 x) := (hb0.cell (World.block_lt_of_cell? _ _ hx)).trans hx
          have b0 : w0.cell? ⟨wr.heap.size, 0, none⟩ = some (.int .i64 x) := by rw [Lib.cell_of_heap hp0]; rfl
          have b1 : w0.cell? ⟨wr.heap.size, 1, none⟩ = some (.int .i64 0) := by rw [Lib.cell_of_heap hp0]; rfl
          have bf : ∀ j, w0.frozen? ⟨wr.heap.size, j, none⟩ = false := fun j => by rw [Lib.frozen_of_heap hp0]
          obtain ⟨w2, hw2⟩ : ∃ w2, w0.setCell ⟨wr.heap.size, 1, none⟩ (.int .i64 x) = w2 := ⟨_, rfl⟩
          have hg2 : w0.grownBy w2 (some wr.heap.size) := by rw [← hw2]; exact setF w0 wr.heap.size 1 _
          have hp2 : w2.heap[wr.heap.size]? = some (.cells #[.int .i64 x, .int .i64 (fK K x)] 29 (0, 0)) := by rw [← hw2, show fK K x = x by rw [HKK.out]; rfl]; exact (heap_setCell_same w0 _ 1 _ 29 _ hp0).trans rfl
          have hb2 : Below wr.heap.size wr w2 := hb0.trans (below_grown hg2 hb0.size (fun k hk => by injection hk with hk; omega))
          have hM2 := (hb2.block M hMl).trans hMx
          have m0 : w2.cell? ⟨M, 0, none⟩ = some (.bool nn) := by rw [Lib.cell_of_heap hM2]; rfl
          have m1 : w2.cell? ⟨M, 1, none⟩ = some (.slice A' (sps (build (fK K) (ks.take i))).length c') := by rw [Lib.cell_of_heap hM2]; rfl
          have y0 : w2.cell? ⟨wr.heap.size, 0, none⟩ = some (.int .i64 x) := by rw [Lib.cell_of_heap hp2]; rfl
          have y1 : w2.cell? ⟨wr.heap.size, 1, none⟩ = some (.int .i64 (fK K x)) := by rw [Lib.cell_of_heap hp2]; rfl
          have hbl := build_len (fK K) (ks.take i)
          have hlt : (ks.take i).length ≤ i := List.length_take_le _ _
          obtain ⟨kk, hkk⟩ := with_f nn (build_srt (fK K) (ks.take i)) (by omega) x (fK K x)
          have c5 := spec_TwMapped_With.calls kk nn A' c' (sps (build (fK K) (ks.take i))) x (fK K x) false (sps (ins (build (fK K) (ks.take i)) (x, fK K x))) w2 (Kd.C_below hrx hb2) hcx hkk
          obtain ⟨g', rfl⟩ : ∃ g', gk = g' + 1 := ⟨gk - 1, by omega⟩
          have HQ := Aside0.mk (And.intro hd (And.intro hbx (And.intro hlen (And.intro hwj (And.intro htk (And.intro hM2 (And.intro hb2 hMl)))))))
          clear hMx hcx hrx hbx hlen hi hd hwj hin htk hxx hb0 hp0 hMl hg2 hp2 hb2 hM2 hbl hlt hkk hl
          go_wp2_with (first | (go_at_call 5; refine c5.mono ?_; rintro e w5 ⟨v5, rfl, hR5, hb5⟩
                                obtain ⟨A5, k5, rfl, hc5, hr5⟩ := Kd.R_reads hR5
                                have hM5 := (hb5.block M (Nat.lt_of_lt_of_le HQ.out.2.2.2.2.2.2.2 HQ.out.2.2.2.2.2.2.1.size)).trans HQ.out.2.2.2.2.2.1
                                have n0 : w5.cell? ⟨M, 0, none⟩ = some (.bool nn) := (by rw [Lib.cell_of_heap hM5]; rfl)
                                have n1 : w5.cell? ⟨M, 1, none⟩ = some (.slice A' (sps (build (fK K) (ks.take i))).length c') := (by rw [Lib.cell_of_heap hM5]; rfl)
                                have nf : ∀ j, w5.frozen? ⟨M, j, none⟩ = false := (fun j => by rw [Lib.frozen_of_heap hM5])
                                have H5 := Aside0.mk (And.intro hM5 (And.intro hc5 (And.intro hr5 hb5)))
                                clear hR5 hc5 hr5 hM5 hb5 c5))
          go_roundg g'
          case measure => exact Nat.lt_succ_self _
          case rel =>
            have hq : ins (build (fK K) (ks.take i)) (x, fK K x) = build (fK K) (ks.take (i + 1)) := by rw [HQ.out.2.2.2.2.1, build_snoc]
            have h5 := H5.out
            rw [hq] at h5
            have hwM := HM.out.2.2
            have hz := HQ.out.2.1.size
            have hz2 := HQ.out.2.2.2.2.2.2.1.size
            have hz5 := h5.2.2.2.size
            refine ⟨i + 1, A5, k5, by simp only [HQ.out.2.2.2.1], HQ.out.1, ?_, h5.2.1, C_set27 _ _ h5.2.2.1 h5.1, ?_, by have := HQ.out.2.2.1; omega⟩
            · rw [hq]
              have := (heap_setCell_same _ M 1 _ 27 (.slice A5 (sps (build (fK K) (ks.take (i + 1)))).length k5) (heap_setCell_same w5 M 0 _ 27 (.bool false) h5.1))
              rw [HNF.out]
              exact this.trans rfl
            · exact HQ.out.2.1.trans ((HQ.out.2.2.2.2.2.2.1.mono hz).trans ((h5.2.2.2.mono (by omega)).trans (below_grown (set2 (T := M) _ _ w5) (by omega) (fun k hk => by injection hk with hk; omega))))
        · have q3 : decide ((i : Int) < (ks.length : Int)) = false := decide_eq_false (by omega)
          have q4 : decide (i < ks.length) = false := decide_eq_false hd
          obtain rfl : i = ks.length := by omega
          rw [List.take_length] at hMx hcx hrx
          have hst : build (fK K) ks = Pf.start K ks := (start_eq (.inr HKK.out) ks).symm
          rw [hst] at hMx hcx hrx
          have HS1 := Aside0.mk (And.intro hMx (And.intro hcx (And.intro hrx hbx)))
          clear hMx hcx hrx hbx hst hi hlen hd hl
          go_wp2_with (fail)
          have HK3 := Aside0.mk (show K = 3 → 0 < ks.length from fun _ => by have := HZ.out; omega)
          obtain ⟨ps0, hps0⟩ : ∃ ps0, ps0 = Pf.start K ks := ⟨_, rfl⟩
          have hsrt0 : Srt ps0 := by rw [hps0]; exact srt_start _ _
          have hlen0 : ps0.length ≤ 100 := by rw [hps0]; have := len_start K ks; have := HG.out.2.2.2.1; omega
          have hnil0 : nn = true → ps0 = [] := fun h => by
            have hK1 : K = 1 := by
              have := HN.out
              rw [h] at this
              unfold nilK at this
              exact of_decide_eq_true this.symm
            rw [hps0]; unfold Pf.start; rw [if_neg (by omega), if_neg (by omega)]
          rw [← hps0] at HS1
          have HP0 := Aside0.mk (And.intro hsrt0 (And.intro hlen0 (And.intro hnil0 hps0)))
          clear hsrt0 hlen0 hnil0 hps0
          go_loopg [13] ops.length (fun gk v13 wx => ∃ (j : Nat) (A2 : Option Addr) (c2 : Nat), v13 = .int .i64 (j : Int) ∧ j ≤ ops.length ∧ wx.heap[M]? = some (.cells #[.bool nn, .slice A2 (sps (runO nn ps0 (ops.take j))).length c2] 27 (0, 0)) ∧ (sps (runO nn ps0 (ops.take j))).length ≤ c2 ∧ Kd.C k29 wx A2 (sps (runO nn ps0 (ops.take j))).length (sps (runO nn ps0 (ops.take j))) ∧ (∀ x ∈ ops.take j, GoodO nn x) ∧ Below w.heap.size w wx ∧ ops.length - j ≤ gk)
          case atStart => exact ⟨0, _, _, rfl, Nat.zero_le _, HS1.out.1, HS1.out.2.1, HS1.out.2.2.1, by simp, HS1.out.2.2.2, Nat.le_refl _⟩
          case round =>
            obtain ⟨j, A2, c2, rfl, hj, hMx, hcx, hrx, hgx, hbx, hlen⟩ := hrel
            have hl := HG.out.2.2.1
            by_cases hd : j < ops.length
            · have q3 : decide ((j : Int) < (ops.length : Int)) = true := decide_eq_true (by omega)
              have q5 : decide (j < ops.length) = true := decide_eq_true hd
              have p1 := eq_true (show 0 ≤ (j : Int) by omega)
              have q1 := eq_true (show (j : Int) < (ops.length : Int) by omega)
              have hwj := wrap_succ j (by omega)
              obtain ⟨ad, A3, c3, e, x0, x1, x2, x3, xl, xr⟩ := at_T32 (Kd.C_below HA.out.1.r1 hbx) (j : Int) (by omega) (by omega)
              cases e
              have er : rd_T32 ops (j : Int) = ops[j] := by simp [rd_T32, hd]
              have hio := HA.out.1.ho _ (List.getElem_mem hd)
              have hsm := HG.out.2.1 _ (List.getElem_mem hd)
              have htk : ops.take (j + 1) = ops.take j ++ [ops[j]] := List.take_succ_eq_append_getElem hd
              obtain ⟨x, hx⟩ : ∃ x, x = ops[j] := ⟨_, rfl⟩
              rw [er, ← hx, Int.toNat_natCast] at x0 x1 x2 x3
              rw [er, ← hx] at xl xr
              rw [← hx] at hio hsm htk
              obtain ⟨qs, hqs⟩ : ∃ qs, qs = runO nn ps0 (ops.take j) := ⟨_, rfl⟩
              rw [← hqs] at hMx hcx hrx
              have hsrt : Srt qs := by rw [hqs]; exact srt_run nn _ HP0.out.1
              have hqlen : qs.length ≤ 1000 := by rw [hqs]; have := len_run nn (ops.take j) ps0; have : (ops.take j).length ≤ j := List.length_take_le _ _; have := HP0.out.2.1; omega
              have hqnil : nn = true → qs = [] := fun h => by
                rw [hqs, HP0.out.2.2.1 h, h]
                have : ∀ (l : List S32), runO true [] l = [] := fun l => by
                  induction l with
                  | nil => rfl
                  | cons a t ih => exact ih
                exact this _
              have hrun : runO nn ps0 (ops.take (j + 1)) = stepO nn qs x := by rw [htk, runO_snoc, ← hqs]
              have HQ0 := Aside0.mk hbx
              by_cases hneg : x.f0 < 0
              · have g1 : decide (x.f0 < 0) = true := decide_eq_true hneg
                clear hneg hsrt hqlen hqnil hrun hqs hMx hcx hrx hgx hbx hlen hio hsm htk hx er hj hl hd hwj
                go_wp2_with (fail)
                go_ret
                exact ⟨rfl, HQ0.out⟩
              have g1 : decide (x.f0 < 0) = false := decide_eq_false hneg
              by_cases hbig : 7 < x.f0
              · have g2 : decide (7 < x.f0) = true := decide_eq_true hbig
                clear hneg hbig hsrt hqlen hqnil hrun hqs hMx hcx hrx hgx hbx hlen hio hsm htk hx er hj hl hd hwj
                go_wp2_with (fail)
                go_ret
                exact ⟨rfl, HQ0.out⟩
              have g2 : decide (7 < x.f0) = false := decide_eq_false hbig
              by_cases hno : nn = true ∧ 1 < x.f0
              · have g3 : decide (1 < x.f0) = true := decide_eq_true hno.2
                have hnn' : (K == 1) = true := hnn.trans hno.1
                clear hnn hneg hbig hno hsrt hqlen hqnil hrun hqs hMx hcx hrx hgx hbx hlen hio hsm htk hx er hj hl hd hwj
                go_wp2_with (fail)
                go_ret
                exact ⟨rfl, HQ0.out⟩
              have hgood : GoodO nn x := ⟨by omega, by omega, fun h => by have := mt (And.intro h) hno; omega, hio.2.1, hio.2.2, by omega⟩
              have c6 := doneS (w := wr.drew) (Kd.C_drew hrx) hcx (by omega) hsrt x hgood hqnil (Kd.C_drew xr) xl
              have m0 : wr.cell? ⟨M, 0, none⟩ = some (.bool nn) := by rw [Lib.cell_of_heap hMx]; rfl
              have m1 : wr.cell? ⟨M, 1, none⟩ = some (.slice A2 (sps qs).length c2) := by rw [Lib.cell_of_heap hMx]; rfl
              have S0 : Aside0 (wr.cell? ⟨M, 0, none⟩ = some (.bool nn) ∧ wr.cell? ⟨M, 1, none⟩ = some (.slice A2 (sps qs).length c2) ∧ wr.cell? (ad.add (j * 4)) = some (.int .i64 x.f0) ∧ wr.cell? ⟨(ad.add (j * 4)).block, (ad.add (j * 4)).off + 1, none⟩ = some (.int .i64 x.f1) ∧ wr.cell? ⟨(ad.add (j * 4)).block, (ad.add (j * 4)).off + 2, none⟩ = some (.int .i64 x.f2) ∧ wr.cell? ⟨(ad.add (j * 4)).block, (ad.add (j * 4)).off + 3, none⟩ = some (.slice A3 x.f3.length c3)) := ⟨⟨m0, m1, x0, x1, x2, x3⟩⟩
              have hgx' : ∀ y ∈ ops.take (j + 1), GoodO nn y := fun y hy => by
                rw [htk] at hy
                rcases List.mem_append.1 hy with hy | hy
                · exact hgx y hy
                · obtain rfl := List.mem_singleton.1 hy
                  exact hgood
              obtain ⟨g', rfl⟩ : ∃ g', gk = g' + 1 := ⟨gk - 1, by omega⟩
              have HQ := Aside0.mk (And.intro hd (And.intro hlen (And.intro hMx (And.intro hbx (And.intro hgx' (And.intro hrun hwj))))))
              have hnb : (nn = true ∧ x.f0 ≤ 1) ∨ nn = false := by
                cases hn : nn with
                | true => left; exact ⟨rfl, by have := mt (And.intro hn) hno; omega⟩
                | false => right; rfl
              clear hneg hbig hno hsrt hqlen hqnil hrun hqs hMx hcx hrx hgx hgx' hbx hlen hio hsm htk hx er hj hl hd hwj hgood xl xr m0 m1
              rcases hnb with hn | hn
              have hnn' : (K == 1) = true := hnn.trans hn.1
              have g3 : decide (1 < x.f0) = false := decide_eq_false (by omega)
              clear hn hnn
              go_wp2_with (fail)
              rotate_left
              have hnn' : (K == 1) = false := hnn.trans hn
              clear hn hnn
              go_wp2_with (fail)
              all_goals
                clear hnn'
                refine start_ (n := 7) (S := fun w' => w'.cell? ⟨M, 0, none⟩ = some (.bool nn) ∧ w'.cell? ⟨M, 1, none⟩ = some (.slice A2 (sps qs).length c2) ∧ w'.cell? (ad.add (j * 4)) = some (.int .i64 x.f0) ∧ w'.cell? ⟨(ad.add (j * 4)).block, (ad.add (j * 4)).off + 1, none⟩ = some (.int .i64 x.f1) ∧ w'.cell? ⟨(ad.add (j * 4)).block, (ad.add (j * 4)).off + 2, none⟩ = some (.int .i64 x.f2) ∧ w'.cell? ⟨(ad.add (j * 4)).block, (ad.add (j * 4)).off + 3, none⟩ = some (.slice A3 x.f3.length c3)) (ds := [6]) #[false, false, false, false, false, false, false] (by kernel_rfl) rfl rfl S0.out (fun hHeld => ?_); refine with_tabW tab21 bits21 (fun HT_ HW_ => ?_)
                refine take_ (i := 0) (N := some 100) (v := ?_) (a' := ?_) #[true, false, false, false, false, false, false] rfl rfl (take_ofW HT_.out HW_.out (by kernel_rfl)) (fun _ _ _ h => h) (Or.inl ⟨by rfl, ?_⟩) hHeld ?_ ?_
                rotate_left
                · rintro w' ⟨s0, s1, s2, s3, s4, s5⟩
                  go_simp
                  with_reducible rfl
                rotate_left
                · simp only [Act.put, List.setIfInBounds_toArray, List.set_cons_zero, List.set_cons_succ, i64_w, i32_w]
                  rfl
                refine pure_ (i := 1) (N := some 101) (v := ?_) (a' := ?_) #[true, true, false, false, false, false, false] rfl rfl (any_of HT_.out (by kernel_rfl)) (fun _ _ _ h => h) (Or.inl ⟨by rfl, ?_⟩) ?_ ?_
                rotate_left
                · intro w'
                  go_simp
                  with_reducible rfl
                rotate_left
                · simp only [Act.put, List.setIfInBounds_toArray, List.set_cons_zero, List.set_cons_succ, i64_w, i32_w]
                  rfl
                refine pure_ (i := 2) (N := some 102) (v := ?_) (a' := ?_) #[true, true, true, false, false, false, false] rfl rfl (any_of HT_.out (by kernel_rfl)) (fun _ _ _ h => h) (Or.inl ⟨by rfl, ?_⟩) ?_ ?_
                rotate_left
                · intro w'
                  go_simp
                  with_reducible rfl
                rotate_left
                · simp only [Act.put, List.setIfInBounds_toArray, List.set_cons_zero, List.set_cons_succ, i64_w, i32_w]
                  rfl
                refine pure_ (i := 3) (N := some 103) (v := ?_) (a' := ?_) #[true, true, true, true, false, false, false] rfl rfl (any_of HT_.out (by kernel_rfl)) (fun _ _ _ h => h) (Or.inl ⟨by rfl, ?_⟩) ?_ ?_
                rotate_left
                · intro w'
                  go_simp
                  with_reducible rfl
                rotate_left
                · simp only [Act.put, List.setIfInBounds_toArray, List.set_cons_zero, List.set_cons_succ, i64_w, i32_w]
                  rfl
                refine take_ (i := 4) (N := some 104) (v := ?_) (a' := ?_) #[true, true, true, true, true, false, false] rfl rfl (take_ofW HT_.out HW_.out (by kernel_rfl)) (fun _ _ _ h => h) (Or.inl ⟨by rfl, ?_⟩) hHeld ?_ ?_
                rotate_left
                · rintro w' ⟨s0, s1, s2, s3, s4, s5⟩
                  go_simp
                  with_reducible rfl
                rotate_left
                · simp only [Act.put, List.setIfInBounds_toArray, List.set_cons_zero, List.set_cons_succ, i64_w, i32_w]
                  rfl
                refine one_ (i := 5) (N := some 105) #[true, true, true, true, true, true, false] rfl rfl (one_of HT_.out (by kernel_rfl)) (by decide) (fun Kc hKc => ?_)
                refine goes_ Try.func6 (by kernel_rfl) rfl #[.agg #[.bool nn, .slice A2 (sps qs).length c2], .agg #[.int .i64 x.f0, .int .i64 x.f1, .int .i64 x.f2, .slice A3 x.f3.length c3]] (by rfl) rfl rfl (by (try simp only [List.map_toArray, List.map_cons, List.map_nil]); first | done | rfl) ?_
                refine (c6).mono ?_
                rintro e w6 ⟨A6, k6, rfl, hc6, hr6, hb6⟩
                refine ⟨_, rfl, ?_⟩
                have hMl : M < wr.drew.heap.size := (Array.getElem?_eq_some_iff.1 HQ.out.2.2.1).1
                have hM6 := (hb6.block M hMl).trans HQ.out.2.2.1
                have SB : Aside0 (w6.cell? ⟨M, 0, none⟩ = some (.bool nn) ∧ w6.cell? ⟨M, 1, none⟩ = some (.slice A2 (sps qs).length c2) ∧ w6.cell? (ad.add (j * 4)) = some (.int .i64 x.f0) ∧ w6.cell? ⟨(ad.add (j * 4)).block, (ad.add (j * 4)).off + 1, none⟩ = some (.int .i64 x.f1) ∧ w6.cell? ⟨(ad.add (j * 4)).block, (ad.add (j * 4)).off + 2, none⟩ = some (.int .i64 x.f2) ∧ w6.cell? ⟨(ad.add (j * 4)).block, (ad.add (j * 4)).off + 3, none⟩ = some (.slice A3 x.f3.length c3)) := ⟨⟨by rw [Lib.cell_of_heap hM6]; rfl, by rw [Lib.cell_of_heap hM6]; rfl, (hb6.cell (World.block_lt_of_cell? _ _ S0.out.2.2.1)).trans S0.out.2.2.1, (hb6.cell (World.block_lt_of_cell? _ _ S0.out.2.2.2.1)).trans S0.out.2.2.2.1, (hb6.cell (World.block_lt_of_cell? _ _ S0.out.2.2.2.2.1)).trans S0.out.2.2.2.2.1, (hb6.cell (World.block_lt_of_cell? _ _ S0.out.2.2.2.2.2)).trans S0.out.2.2.2.2.2⟩⟩
                have n0 : w6.cell? ⟨M, 0, none⟩ = some (.bool nn) := SB.out.1
                have n1 : w6.cell? ⟨M, 1, none⟩ = some (.slice A2 (sps qs).length c2) := SB.out.2.1
                have nf : ∀ j, w6.frozen? ⟨M, j, none⟩ = false := fun j => by rw [Lib.frozen_of_heap hM6]
                have H6 := Aside0.mk (And.intro hM6 (And.intro hc6 (And.intro hr6 hb6)))
                clear hMl hM6 hc6 hr6 hb6 c6
                refine hKc.out _ _ SB.out (fun hHeld => ?_)
                clear hKc Kc
                refine norm_ (a' := ?_) ?_ ?_
                rotate_left
                · show Act.put _ (some 105) _ = _
                  simp only [Act.put, List.setIfInBounds_toArray, List.set_cons_zero, List.set_cons_succ, i64_w, i32_w]
                  rfl
                refine last_ (i := 6) (N := none) #[true, true, true, true, true, true, true] rfl rfl (one_of HT_.out (by kernel_rfl)) (by decide) (fun Kc hKc => ?_)
                refine skip_ (w1 := (w6.setCell ⟨M, 0, none⟩ (.bool nn)).setCell ⟨M, 1, none⟩ (.slice A6 (sps (stepO nn qs x)).length k6)) (by rfl) rfl ?_ ?_
                · go_simp
                  try rfl
                refine hKc.out _ _ ?_
                clear hKc Kc
                refine done_ (done_of HT_.out (by kernel_rfl)) ?_
                clear hHeld S0 SB n0 n1 nf x0 x1 x2 x3
                go_wp2_with (fail)
                go_roundg g'
                case measure => exact Nat.lt_succ_self _
                case rel =>
                  have h6 := H6.out
                  have hwM := HM.out.2.2
                  have hz := HQ.out.2.2.2.1.size
                  have hz6 := h6.2.2.2.size
                  have hzd : wr.drew.heap.size = wr.heap.size := rfl
                  refine ⟨j + 1, A6, k6, by simp only [HQ.out.2.2.2.2.2.2], HQ.out.1, ?_, ?_, ?_, HQ.out.2.2.2.2.1, ?_, by have := HQ.out.2.1; omega⟩
                  · rw [HQ.out.2.2.2.2.2.1]
                    exact (heap_setCell_same _ M 1 _ 27 _ (heap_setCell_same w6 M 0 _ 27 _ h6.1)).trans rfl
                  · rw [HQ.out.2.2.2.2.2.1]; exact h6.2.1
                  · rw [HQ.out.2.2.2.2.2.1]; exact C_set27 _ _ h6.2.2.1 h6.1
                  · exact HQ.out.2.2.2.1.trans ((h6.2.2.2.mono (by omega) : Below w.heap.size wr.drew w6) |> fun h => (⟨h.os, h.tape, h.output, h.size, h.block⟩ : Below w.heap.size wr w6) |>.trans (below_grown (set2 (T := M) _ _ w6) (by omega) (fun k hk => by injection hk with hk; omega)))
            · have q3 : decide ((j : Int) < (ops.length : Int)) = false := decide_eq_false (by omega)
              have q5 : decide (j < ops.length) = false := decide_eq_false hd
              obtain rfl : j = ops.length := by omega
              rw [List.take_length] at hMx hcx hrx hgx
              obtain ⟨ps, hps⟩ : ∃ ps, ps = runO nn ps0 ops := ⟨_, rfl⟩
              rw [← hps] at hMx hcx hrx
              have hsrt : Srt ps := by rw [hps]; exact srt_run nn _ HP0.out.1
              have hplen : ps.length ≤ 1000 := by rw [hps]; have := len_run nn ops ps0; have := HP0.out.2.1; omega
              obtain ⟨vs, hvs⟩ : ∃ vs, vs = (vals ps).mergeSort leI := ⟨_, rfl⟩
              have HV := Aside0.mk hvs
              have hbd : Below w.heap.size w wr.drew := hbx.drew
              have c8 := twMapperT wr.drew ks A0 c0 ops A1 c1 key K HK4.out HK3.out (Kd.C_below HA.out.1.r0 hbd) (Kd.C_below HA.out.1.r1 hbd) (by have := HG.out.2.2.2.1; omega) (by omega) HA.out.1.hk (by rw [← HN.out]; exact hgx) HA.out.1.key
              rw [← HN.out, ← HP0.out.2.2.2, ← hps] at c8
              unfold Pf.Told at c8
              rw [← hvs] at c8
              have m0 : wr.cell? ⟨M, 0, none⟩ = some (.bool nn) := by rw [Lib.cell_of_heap hMx]; rfl
              have m1 : wr.cell? ⟨M, 1, none⟩ = some (.slice A2 (sps ps).length c2) := by rw [Lib.cell_of_heap hMx]; rfl
              have S0 : Aside0 (wr.cell? ⟨M, 0, none⟩ = some (.bool nn) ∧ wr.cell? ⟨M, 1, none⟩ = some (.slice A2 (sps ps).length c2)) := ⟨⟨m0, m1⟩⟩
              have HE := Aside0.mk (And.intro hMx (And.intro hcx (And.intro (show Kd.C k29 wr.drew A2 (sps ps).length (sps ps) from Kd.C_drew hrx) (And.intro hbx (And.intro hsrt (And.intro hplen trivial))))))
              clear hMx hcx hrx hgx hbx hps hsrt hplen hvs hbd m0 m1 hj hlen hd hl
              go_wp2_with (fail)
              refine start_ (n := 10) (S := fun w' => w'.cell? ⟨M, 0, none⟩ = some (.bool nn) ∧ w'.cell? ⟨M, 1, none⟩ = some (.slice A2 (sps ps).length c2)) (ds := []) #[false, false, false, false, false, false, false, false, false, false] (by kernel_rfl) rfl rfl S0.out (fun hHeld => ?_); refine with_tabW tab22 bits22 (fun HT_ HW_ => ?_)
              refine pure_ (i := 0) (N := some 106) (v := ?_) (a' := ?_) #[true, false, false, false, false, false, false, false, false, false] rfl rfl (any_of HT_.out (by kernel_rfl)) (fun _ _ _ h => h) (Or.inl ⟨by rfl, ?_⟩) ?_ ?_
              rotate_left
              · intro w'
                go_simp
                with_reducible rfl
              rotate_left
              · simp only [Act.put, List.setIfInBounds_toArray, List.set_cons_zero, List.set_cons_succ, i64_w, i32_w]
                rfl
              refine pure_ (i := 1) (N := some 107) (v := ?_) (a' := ?_) #[true, true, false, false, false, false, false, false, false, false] rfl rfl (any_of HT_.out (by kernel_rfl)) (fun _ _ _ h => h) (Or.inl ⟨by rfl, ?_⟩) ?_ ?_
              rotate_left
              · intro w'
                go_simp
                with_reducible rfl
              rotate_left
              · simp only [Act.put, List.setIfInBounds_toArray, List.set_cons_zero, List.set_cons_succ, i64_w, i32_w]
                rfl
              refine pure_ (i := 2) (N := some 108) (v := ?_) (a' := ?_) #[true, true, true, false, false, false, false, false, false, false] rfl rfl (any_of HT_.out (by kernel_rfl)) (fun _ _ _ h => h) (Or.inl ⟨by rfl, ?_⟩) ?_ ?_
              rotate_left
              · intro w'
                go_simp
                with_reducible rfl
              rotate_left
              · simp only [Act.put, List.setIfInBounds_toArray, List.set_cons_zero, List.set_cons_succ, i64_w, i32_w]
                rfl
              refine pure_ (i := 3) (N := some 109) (v := ?_) (a' := ?_) #[true, true, true, true, false, false, false, false, false, false] rfl rfl (any_of HT_.out (by kernel_rfl)) (fun _ _ _ h => h) (Or.inl ⟨by rfl, ?_⟩) ?_ ?_
              rotate_left
              · intro w'
                go_simp
                with_reducible rfl
              rotate_left
              · simp only [Act.put, List.setIfInBounds_toArray, List.set_cons_zero, List.set_cons_succ, i64_w, i32_w]
                rfl
              refine take_ (i := 5) (N := some 111) (v := ?_) (a' := ?_) #[true, true, true, true, false, true, false, false, false, false] rfl rfl (take_ofW HT_.out HW_.out (by kernel_rfl)) (fun _ _ _ h => h) (Or.inl ⟨by rfl, ?_⟩) hHeld ?_ ?_
              rotate_left
              · rintro w' ⟨s0, s1⟩
                go_simp
                with_reducible rfl
              rotate_left
              · simp only [Act.put, List.setIfInBounds_toArray, List.set_cons_zero, List.set_cons_succ, i64_w, i32_w]
                rfl
              refine pure_ (i := 6) (N := some 112) (v := ?_) (a' := ?_) #[true, true, true, true, false, true, true, false, false, false] rfl rfl (any_of HT_.out (by kernel_rfl)) (fun _ _ _ h => h) (Or.inl ⟨by rfl, ?_⟩) ?_ ?_
              rotate_left
              · intro w'
                go_simp
                with_reducible rfl
              rotate_left
              · simp only [Act.put, List.setIfInBounds_toArray, List.set_cons_zero, List.set_cons_succ, i64_w, i32_w]
                rfl
              refine one_ (i := 4) (N := some 110) #[true, true, true, true, true, true, true, false, false, false] rfl rfl (one_of HT_.out (by kernel_rfl)) (by decide) (fun Kc hKc => ?_)
              refine goes_ Try.func8 (by kernel_rfl) rfl #[.int .i64 K, .slice A0 ks.length c0, .slice A1 ops.length c1, .int .i64 key] (by rfl) rfl rfl (by (try simp only [List.map_toArray, List.map_cons, List.map_nil]); first | done | rfl) ?_
              refine (c8).mono ?_
              rintro e w8 ⟨B1, bb1, B2, bb2, B7, bb7, B8, bb8, B9, bb9, rfl, tB1, tB2, tB7, tB8, tB9, hb8⟩
              refine ⟨_, rfl, ?_⟩
              have hMl : M < wr.drew.heap.size := (Array.getElem?_eq_some_iff.1 HE.out.1).1
              have hM8 := (hb8.block M hMl).trans HE.out.1
              have SB : Aside0 (w8.cell? ⟨M, 0, none⟩ = some (.bool nn) ∧ w8.cell? ⟨M, 1, none⟩ = some (.slice A2 (sps ps).length c2)) := ⟨⟨by rw [Lib.cell_of_heap hM8]; rfl, by rw [Lib.cell_of_heap hM8]; rfl⟩⟩
              have c9 := factsT (nn := nn) (Kd.C_below HE.out.2.2.1 hb8) HE.out.2.1 (by have := HE.out.2.2.2.2.2.1; omega) HE.out.2.2.2.2.1 key
              unfold Pf.Told at c9
              rw [← HV.out] at c9
              have T8 := Aside0.mk (And.intro tB1 (And.intro tB2 (And.intro tB7 (And.intro tB8 (And.intro tB9 hb8)))))
              clear tB1 tB2 tB7 tB8 tB9 hMl hM8 hb8 c8
              refine hKc.out _ _ SB.out (fun hHeld => ?_)
              clear hKc Kc
              refine norm_ (a' := ?_) ?_ ?_
              rotate_left
              · show Act.put _ (some 110) _ = _
                simp only [Act.put, List.setIfInBounds_toArray, List.set_cons_zero, List.set_cons_succ, i64_w, i32_w]
                rfl
              refine one_ (i := 7) (N := some 113) #[true, true, true, true, true, true, true, true, false, false] rfl rfl (one_of HT_.out (by kernel_rfl)) (by decide) (fun Kc hKc => ?_)
              refine goes_ Try.func9 (by kernel_rfl) rfl #[.agg #[.bool nn, .slice A2 (sps ps).length c2], .int .i64 key] (by rfl) rfl rfl (by (try simp only [List.map_toArray, List.map_cons, List.map_nil]); first | done | rfl) ?_
              refine (c9).mono ?_
              rintro e w9 ⟨D1, bd1, D2, bd2, D7, bd7, D8, bd8, D9, bd9, rfl, tD1, tD2, tD7, tD8, tD9, hb9⟩
              refine ⟨_, rfl, ?_⟩
              have hMl : M < w8.heap.size := World.block_lt_of_cell? _ _ SB.out.1
              have SC : Aside0 (w9.cell? ⟨M, 0, none⟩ = some (.bool nn) ∧ w9.cell? ⟨M, 1, none⟩ = some (.slice A2 (sps ps).length c2)) := ⟨⟨(hb9.cell (p := ⟨M, 0, none⟩) hMl).trans SB.out.1, (hb9.cell (p := ⟨M, 1, none⟩) hMl).trans SB.out.2⟩⟩
              obtain ⟨kf, hkf⟩ := facts_f (ps.length : Int) (keys ps) vs (at_ ps key) (has_ ps key) (sps ps) (by have := HE.out.2.2.2.2.2.1; unfold keys; rw [List.length_map]; omega) (by have := HE.out.2.2.2.2.2.1; rw [HV.out, List.length_mergeSort]; unfold vals; rw [List.length_map]; omega) (by have := HE.out.2.2.2.2.2.1; rw [sps_len]; omega)
              have c7 := laws_twFacts.calls kf (ps.length : Int) B1 bb1 (keys ps) B2 bb2 (keys ps) (at_ ps key) (at_ ps key) (has_ ps key) (has_ ps key) B7 bb7 (sps ps) B8 bb8 (sps ps) B9 bb9 vs (ps.length : Int) D1 bd1 (keys ps) D2 bd2 (keys ps) (at_ ps key) (at_ ps key) (has_ ps key) (has_ ps key) D7 bd7 (sps ps) D8 bd8 (sps ps) D9 bd9 vs true w9 (Kd.C_below T8.out.1.2 hb9) T8.out.1.1 (Kd.C_below T8.out.2.1.2 hb9) T8.out.2.1.1 (Kd.C_below T8.out.2.2.1.2 hb9) T8.out.2.2.1.1 (Kd.C_below T8.out.2.2.2.1.2 hb9) T8.out.2.2.2.1.1 (Kd.C_below T8.out.2.2.2.2.1.2 hb9) T8.out.2.2.2.2.1.1 tD1.2 tD1.1 tD2.2 tD2.1 tD7.2 tD7.1 tD8.2 tD8.1 tD9.2 tD9.1 hkf
              have T9 := Aside0.mk hb9
              clear tD1 tD2 tD7 tD8 tD9 hMl hb9 c9 hkf
              refine hKc.out _ _ SC.out (fun hHeld => ?_)
              clear hKc Kc
              refine norm_ (a' := ?_) ?_ ?_
              rotate_left
              · show Act.put _ (some 113) _ = _
                simp only [Act.put, List.setIfInBounds_toArray, List.set_cons_zero, List.set_cons_succ, i64_w, i32_w]
                rfl
              refine one_ (i := 8) (N := some 114) #[true, true, true, true, true, true, true, true, true, false] rfl rfl (one_of HT_.out (by kernel_rfl)) (by decide) (fun Kc hKc => ?_)
              refine goes_ Try.func7 (by kernel_rfl) rfl #[.agg #[.int .i64 ps.length, .slice B1 (keys ps).length bb1, .slice B2 (keys ps).length bb2, .int .i64 (at_ ps key), .int .i64 (at_ ps key), .bool (has_ ps key), .bool (has_ ps key), .slice B7 (sps ps).length bb7, .slice B8 (sps ps).length bb8, .slice B9 vs.length bb9], .agg #[.int .i64 ps.length, .slice D1 (keys ps).length bd1, .slice D2 (keys ps).length bd2, .int .i64 (at_ ps key), .int .i64 (at_ ps key), .bool (has_ ps key), .bool (has_ ps key), .slice D7 (sps ps).length bd7, .slice D8 (sps ps).length bd8, .slice D9 vs.length bd9]] (by rfl) rfl rfl (by (try simp only [List.map_toArray, List.map_cons, List.map_nil]); first | done | rfl) ?_
              refine (c7).mono ?_
              rintro e w10 ⟨rfl, hb10⟩
              refine ⟨_, rfl, ?_⟩
              have hMl : M < w9.heap.size := World.block_lt_of_cell? _ _ SC.out.1
              have SE : Aside0 (w10.cell? ⟨M, 0, none⟩ = some (.bool nn) ∧ w10.cell? ⟨M, 1, none⟩ = some (.slice A2 (sps ps).length c2)) := ⟨⟨(hb10.cell (p := ⟨M, 0, none⟩) hMl).trans SC.out.1, (hb10.cell (p := ⟨M, 1, none⟩) hMl).trans SC.out.2⟩⟩
              have T10 := Aside0.mk hb10
              clear hMl hb10 c7
              refine hKc.out _ _ SE.out (fun hHeld => ?_)
              clear hKc Kc
              refine norm_ (a' := ?_) ?_ ?_
              rotate_left
              · show Act.put _ (some 114) _ = _
                simp only [Act.put, List.setIfInBounds_toArray, List.set_cons_zero, List.set_cons_succ, i64_w, i32_w]
                rfl
              refine pure_ (i := 9) (N := some 8) (v := ?_) (a' := ?_) #[true, true, true, true, true, true, true, true, true, true] rfl rfl (any_of HT_.out (by kernel_rfl)) (fun _ _ _ h => h) (Or.inl ⟨by rfl, ?_⟩) ?_ ?_
              rotate_left
              · intro w'
                go_simp
                with_reducible rfl
              rotate_left
              · simp only [Act.put, List.setIfInBounds_toArray, List.set_cons_zero, List.set_cons_succ, i64_w, i32_w]
                rfl
              refine done_ (done_of HT_.out (by kernel_rfl)) ?_
              clear hHeld
              go_wp2_with (fail)
              go_ret
              have hz := HE.out.2.2.2.1.size
              have hz8 := T8.out.2.2.2.2.2.size
              have hz9 := T9.out.size
              have hzd : wr.drew.heap.size = wr.heap.size := rfl
              exact ⟨rfl, (HE.out.2.2.2.1.drew).trans ((T8.out.2.2.2.2.2.mono (by omega)).trans ((T9.out.mono (by omega)).trans (T10.out.mono (by omega))))⟩
end Go.Proofs.Ytokdamfalhcnnaa.Lw
