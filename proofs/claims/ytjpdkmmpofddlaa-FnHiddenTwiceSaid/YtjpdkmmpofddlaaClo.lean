/- The walk of hideColumns' function literal, itself. -/
import Derived.Test.YtjpdkmmpofddlaaHid
namespace Go.Proofs.Ytjpdkmmpofddlaa.Clo
open Go Go.RowKit Go.Proofs.YtjpdkmmpofddlaaW.PrintWords Go.Proofs.YtjpdkmmpofddlaaW.PrintMore Go.Proofs.Ytjpdkmmpofddlaa.Mp Go.Proofs.Ytjpdkmmpofddlaa.Cfg Go.Proofs.Ytjpdkmmpofddlaa.Tbl Go.Proofs.Ytjpdkmmpofddlaa.Hid Go.Proofs.Ytjpdkmmpofddlaa.Small

set_option linter.all false in
set_option maxRecDepth 100000 in
set_option maxHeartbeats 4000000 in
theorem clos {w0 w : World} {B c1 c2 c3 T Mp M2 : Nat} {tab : Array Value} {cs : List Cf} {num m2 : Nat} (S : Cs w0 B c1 c2 c3 T Mp M2 tab cs num m2 w) (okV : Nat → Prop) (A0 : Option Addr) (c0 n : Nat) (rows : List (List ByteArray)) (hn : n = rows.length)
    (hF : Kd.F kt w okV A0 n rows) (hok : ∀ k, okV k → k < B ∧ k ≠ M2 ∧ k ≠ c3) (hnb : n ≤ 2147483647) (hlen : ∀ r ∈ rows, r.length ≤ 2147483647) (hm2 : m2 + tot rows n < 9223372036854775807) :
    Calls Try.prog 24 #[.slice A0 n c0, .pointer (some ⟨c1, 0, none⟩), .pointer (some ⟨c2, 0, none⟩), .pointer (some ⟨c3, 0, none⟩)] w fun e w' => ∃ v, e = .returned v ∧ Cs w0 B c1 c2 c3 T Mp M2 tab cs (maxTo cs rows num n) (m2 + tot rows n) w' ∧
      Kd.R kt 100 w' B (fun _ => True) v (rowsTo cs rows n) ∧ (∀ k, k < B → k ≠ M2 → k ≠ c3 → w'.heap[k]? = w.heap[k]?) := by
  have HF := Aside0.mk hF; have HOK := Aside0.mk hok; have HL := Aside0.mk hlen; have HN := Aside0.mk hn
  clear hF hok hlen hn
  go_enter Try.func24, Try.ntmps24
  go_wp2_with (fail)
  go_loopw [6, 15] (fun v i wr => ∃ j : Nat, j ≤ n ∧ i = .int .i64 j ∧ Cs w0 B c1 c2 c3 T Mp M2 tab cs (maxTo cs rows num j) (m2 + tot rows j) wr ∧ Kd.R kt 100 wr B (fun _ => True) v (rowsTo cs rows j) ∧ Aside0 (∀ k, k < B → k ≠ M2 → k ≠ c3 → wr.heap[k]? = w.heap[k]?)) (fun _ i _ => n - (RowKit.intOf i).toNat)
  case atStart => exact ⟨0, by omega, rfl, S, Kd.R_nil _ _ _ _ _, ⟨fun _ _ _ _ => rfl⟩⟩
  case round =>
    clear S
    obtain ⟨j, hj, rfl, S, HO, HK⟩ := hrel
    by_cases hlt : j < n
    · have hd : decide ((j : Int) < (n : Int)) = true := by simp; omega
      have hF1 : Kd.F kt wr okV A0 n rows := Kd.F_step HF.out (fun k hk _ => HK.out k (HOK.out k hk).1 (HOK.out k hk).2.1 (HOK.out k hk).2.2)
      obtain ⟨ad, cc, rfl, hcl, hKr, hcc, hadok⟩ := Kd.F_get hF1 [] (j : Int) (by omega) (by omega)
      rw [Int.toNat_natCast] at hKr hcc
      obtain ⟨r, hr⟩ : ∃ r, r = rows.getD j [] := ⟨_, rfl⟩
      rw [← hr] at hKr
      obtain ⟨Ar, cr, rfl, hlr, hFr⟩ := Kd.FK_slice_open hKr
      have hcell : wr.cell? (ad.add j) = some (.slice Ar r.length cr) := by simpa [Kd.slice] using hcc 0 _ rfl
      have hrl : r.length ≤ 2147483647 := by
        have := HN.out
        rw [hr, getD_at _ _ _ (by omega)]; exact HL.out _ (List.getElem_mem _)
      obtain ⟨N0, hN0⟩ : ∃ N0, N0 = r.length := ⟨_, rfl⟩
      have hmax : maxTo cs rows num (j + 1) = max (maxTo cs rows num j) (keepTo cs r N0).length := by simp only [maxTo, keep]; rw [← hr, hN0]
      have htot : tot rows (j + 1) = tot rows j + N0 := by simp only [tot]; rw [← hr, hN0]
      have hrows : rowsTo cs rows (j + 1) = rowsTo cs rows j ++ [keepTo cs r N0] := by simp only [rowsTo, keep]; rw [← hr, hN0]
      have htm : tot rows (j + 1) ≤ tot rows n := tot_mono rows hlt
      rw [← hN0] at hcell hrl hlr
      have HR := Aside0.mk hFr; have HH := Aside0.mk (And.intro hmax (And.intro htot hrows)); have HN0 := Aside0.mk hN0
      have HO1 := Aside0.mk (Kd.R_mono (Kd.R_bound HO) (ok' := fun k => k < wr.heap.size) (fun k hk => hk.2.2.1))
      obtain ⟨mj, hmj⟩ : ∃ mj, mj = maxTo cs rows num j := ⟨_, rfl⟩
      obtain ⟨tj, htj⟩ : ∃ tj, tj = m2 + tot rows j := ⟨_, rfl⟩
      have htjb : tj + N0 < 9223372036854775807 := by omega
      rw [← hmj, ← htj] at S
      have HMJ := Aside0.mk hmj; have HTJ := Aside0.mk htj
      obtain ⟨N1, hN1⟩ : ∃ N1, N1 = wr.heap.size := ⟨_, rfl⟩
      have hBN : B ≤ N1 := by rw [hN1]; exact S.hB
      rw [← hN1] at HO1
      have HKK := HK; have HN1 := Aside0.mk hN1
      clear hF1 hKr hFr hcc hadok hmax htot hrows hr HO hlr hcl hN0 HK hmj htj hN1 htm
      go_wp2_with (fail)
      go_loopw [9, 21] (fun v9 i2 wx => ∃ t : Nat, t ≤ N0 ∧ i2 = .int .i64 t ∧ Cs w0 B c1 c2 c3 T Mp M2 tab cs mj (tj + t) wx ∧ Aside0 (Kd.R kt 100 wx B (fun k => k < N1) u6 (rowsTo cs rows j)) ∧ Kd.R Kd.string 9 wx N1 (fun _ => True) v9 (keepTo cs r t) ∧ N1 ≤ wx.heap.size ∧ Aside0 (∀ k, k < B → k ≠ M2 → k ≠ c3 → wx.heap[k]? = w.heap[k]?)) (fun _ i _ => N0 - (RowKit.intOf i).toNat)
      case atStart => exact ⟨0, by omega, rfl, S, HO1, Kd.R_nil _ _ _ _ _, by rw [HN1.out]; exact Nat.le_refl _, HKK⟩
      case round =>
        clear S hcell HO1
        obtain ⟨t, ht, rfl, S, HO, HW, hsz, HK2⟩ := hrel
        by_cases ht1 : t < N0
        · have hd2 : decide ((t : Int) < (N0 : Int)) = true := by simp; omega
          have hFx : Kd.F Kd.string wr okV Ar r.length r := Kd.F_step HR.out (fun k hk _ => by rw [HK2.out k (HOK.out k hk).1 (HOK.out k hk).2.1 (HOK.out k hk).2.2, HKK.out k (HOK.out k hk).1 (HOK.out k hk).2.1 (HOK.out k hk).2.2])
          obtain ⟨ar, rfl, hsc⟩ := Kd.at_string (Kd.F_now hFx) (t : Int) (by omega) (by rw [← HN0.out]; omega)
          rw [rdOf_nat, Int.toNat_natCast] at hsc
          obtain ⟨x, hx⟩ : ∃ x, x = r.getD t ByteArray.empty := ⟨_, rfl⟩
          rw [← hx] at hsc
          have HX := Aside0.mk hx
          have k1 := S.cell1
          have k6 : wr.cell? ⟨T, 6, none⟩ = some (.map (some Mp)) := (S.cellT 6).trans S.t6
          have hlk := S.mp.look (Maps.int_keyed Try.underlying3) Try.underlying74 (zero45 wr) (Maps.keyOf_int_mk Try.underlying3 (WalkArith.wf_i64 (n := (t : Int)) (by omega)))
          rw [look_cfg] at hlk
          obtain ⟨⟨ch, cx, cn⟩, hcf⟩ : ∃ y : Cf, y = cs.getD t (false, 0, 0) := ⟨_, rfl⟩
          rw [← hcf] at hlk
          simp only [enc] at hlk
          have hnf : ∀ (w : World) (a : Addr), (store a .nilFunc).run Try.prog w = stored Try.prog w a .nilFunc .plain := fun w a => run_store Try.prog w a _ _ rfl
          have hkeep : keepTo cs r (t + 1) = keepTo cs r t ++ (if ch = true then [] else [x]) := by
            have hh : hid cs t = ch := by unfold hid; rw [← hcf]
            simp only [keepTo, hh, ← hx]
          have HKP := Aside0.mk hkeep
          have hll := keepTo_len cs r t
          have HWA := Aside0.mk HW; have SA := Aside0.mk S
          clear hFx hcf hx hkeep HW
          cases ch with
          | true =>
            have SX := S.alloc (.cells #[.string ⟨#[]⟩, .int .i64 0, .int .i64 0, .int .i64 0, .int .i64 0, .bool false, .slice none 0 0, .slice none 0 0, .slice none 0 0, .bool true, .int .i64 0, .int .i64 0, .int .i64 0, .int .i64 cx, .nilFunc, .int .i64 cn] 45)
            have HOX := Kd.R_alloc HO.out (.cells #[.string ⟨#[]⟩, .int .i64 0, .int .i64 0, .int .i64 0, .int .i64 0, .bool false, .slice none 0 0, .slice none 0 0, .slice none 0 0, .bool true, .int .i64 0, .int .i64 0, .int .i64 0, .int .i64 cx, .nilFunc, .int .i64 cn] 45)
            have HWX := Kd.R_alloc HWA.out (.cells #[.string ⟨#[]⟩, .int .i64 0, .int .i64 0, .int .i64 0, .int .i64 0, .bool false, .slice none 0 0, .slice none 0 0, .slice none 0 0, .bool true, .int .i64 0, .int .i64 0, .int .i64 0, .int .i64 cx, .nilFunc, .int .i64 cn] 45)
            have HKX : ∀ k, k < B → k ≠ M2 → k ≠ c3 → (wr.alloc (.cells #[.string ⟨#[]⟩, .int .i64 0, .int .i64 0, .int .i64 0, .int .i64 0, .bool false, .slice none 0 0, .slice none 0 0, .slice none 0 0, .bool true, .int .i64 0, .int .i64 0, .int .i64 0, .int .i64 cx, .nilFunc, .int .i64 cn] 45)).heap[k]? = w.heap[k]? := fun k h1 h2 h3 => by rw [← HK2.out k h1 h2 h3]; exact (World.grownBy_alloc wr _ none).block k (Nat.lt_of_lt_of_le h1 S.hB) (by simp)
            go_wp2_with (fail)
            go_roundw
            case rel => exact ⟨t + 1, ht1, rfl, SX.more (by omega), ⟨HOX⟩, by rw [HKP.out]; simpa using HWX, by simp only [World.size_alloc]; omega, ⟨HKX⟩⟩
            case measure => simp [RowKit.intOf]; omega
          | false =>
            have SX := Aside0.mk (S.alloc (.cells #[.string ⟨#[]⟩, .int .i64 0, .int .i64 0, .int .i64 0, .int .i64 0, .bool false, .slice none 0 0, .slice none 0 0, .slice none 0 0, .bool false, .int .i64 0, .int .i64 0, .int .i64 0, .int .i64 cx, .nilFunc, .int .i64 cn] 45))
            have HOX := Aside0.mk (Kd.R_alloc HO.out (.cells #[.string ⟨#[]⟩, .int .i64 0, .int .i64 0, .int .i64 0, .int .i64 0, .bool false, .slice none 0 0, .slice none 0 0, .slice none 0 0, .bool false, .int .i64 0, .int .i64 0, .int .i64 0, .int .i64 cx, .nilFunc, .int .i64 cn] 45))
            have HWX := Aside0.mk (Kd.R_alloc HWA.out (.cells #[.string ⟨#[]⟩, .int .i64 0, .int .i64 0, .int .i64 0, .int .i64 0, .bool false, .slice none 0 0, .slice none 0 0, .slice none 0 0, .bool false, .int .i64 0, .int .i64 0, .int .i64 0, .int .i64 cx, .nilFunc, .int .i64 cn] 45))
            have HKX : Aside0 (∀ k, k < B → k ≠ M2 → k ≠ c3 → (wr.alloc (.cells #[.string ⟨#[]⟩, .int .i64 0, .int .i64 0, .int .i64 0, .int .i64 0, .bool false, .slice none 0 0, .slice none 0 0, .slice none 0 0, .bool false, .int .i64 0, .int .i64 0, .int .i64 0, .int .i64 cx, .nilFunc, .int .i64 cn] 45)).heap[k]? = w.heap[k]?) := ⟨fun k h1 h2 h3 => by rw [← HK2.out k h1 h2 h3]; exact (World.grownBy_alloc wr _ none).block k (Nat.lt_of_lt_of_le h1 S.hB) (by simp)⟩
            have hszX : N1 ≤ (wr.alloc (.cells #[.string ⟨#[]⟩, .int .i64 0, .int .i64 0, .int .i64 0, .int .i64 0, .bool false, .slice none 0 0, .slice none 0 0, .slice none 0 0, .bool false, .int .i64 0, .int .i64 0, .int .i64 0, .int .i64 cx, .nilFunc, .int .i64 cn] 45)).heap.size := by simp only [World.size_alloc]; omega
            go_wp2_with (first
              | ((with_reducible refine gate_builtin (b := .append) (xs := #[.tmp 35, .tmp 37]) rfl ?_); at_builtin; refine Kd.R_append Kd.string (w0 := wr.alloc (.cells #[.string ⟨#[]⟩, .int .i64 0, .int .i64 0, .int .i64 0, .int .i64 0, .bool false, .slice none 0 0, .slice none 0 0, .slice none 0 0, .bool false, .int .i64 0, .int .i64 0, .int .i64 0, .int .i64 cx, .nilFunc, .int .i64 cn] 45)) N1 rfl (.tmp 35) (.tmp 37) 100 9 (.string ⟨#[]⟩) 16 rfl Try.underlying100 info9 rfl (by decide) (by omega) _ (keepTo cs r t) x [.string x] (fun _ => True) (fun _ => False) rfl (by rw [World.size_alloc]; rfl) rfl (fun _ hk => hk.elim) (fun _ _ => trivial) HWX.out (Below.refl _ _) hszX (by omega) ?_
                 intro v1 w1 HW1 HB1 hg1 ha1
                 have hown : ∀ k, Value.ownBlock u9 = some k → N1 ≤ k := fun k hk => ((Kd.R_bound HWX.out).1 k hk).2.1
                 have S2 := SX.out.grown hg1 (fun k hk => Nat.le_trans hBN (hown k hk))
                 have HO2 := Aside0.mk (Kd.R_grown HOX.out hg1 (fun k (hk : k < N1) e => by have := hown k e.symm; omega))
                 have HK3 : Aside0 (∀ k, k < B → k ≠ M2 → k ≠ c3 → w1.heap[k]? = w.heap[k]?) := ⟨fun k h1 h2 h3 => by rw [← HKX.out k h1 h2 h3]; exact hg1.block k (Nat.lt_of_lt_of_le h1 SX.out.hB) (fun e => by have := hown k e.symm; omega)⟩
                 have hsz1 : N1 ≤ w1.heap.size := Nat.le_trans hszX hg1.size
                 have c2c := S2.cell2
                 obtain ⟨A1, q1, rfl⟩ := Kd.R_slice HW1
                 have HW1A := Aside0.mk HW1
                 clear HB1 hg1 ha1 hown SX HOX HWX HKX hszX HW1)
              | (at_mapUpdate; refine wp_store rfl (.tmp 39) (.tmp 40) (.tmp 43) rfl rfl S2 (by unfold maxLen; omega) (t : Int) rfl rfl (WalkArith.wf_i64 (by omega)) ?_; intro w2 S3 hg2))
            go_roundw
            case rel =>
              refine ⟨t + 1, ht1, rfl, S3, ⟨Kd.R_mono (Kd.R_grown (Kd.R_bound HO2.out) hg2 (fun k hk e => ?_)) (fun k hk => hk.1)⟩, ?_, Nat.le_trans hsz1 hg2.size, ⟨fun k h1 h2 h3 => ?_⟩⟩
              · injection e with e
                have := hk.2.1
                have := S3.hi
                omega
              · rw [HKP.out, if_neg (show ¬ (false = true) by decide)]
                have HW2 : Kd.R Kd.string 9 w1 N1 (fun _ => True) (.slice A1 ((keepTo cs r t).length + 1) q1) (keepTo cs r t ++ [x]) := by simpa using HW1A.out
                refine Kd.R_mono (Kd.R_grown (Kd.R_bound HW2) hg2 (fun k hk e => ?_)) (fun k hk => hk.1)
                injection e with e
                have := hk.2.1
                have := S3.hi
                omega
              · rw [← HK3.out k h1 h2 h3]
                exact hg2.block k (Nat.lt_of_lt_of_le h1 S2.hB) (fun e => h2 (by injection e))
            case measure => simp [RowKit.intOf]; omega
        · have hd2 : decide ((t : Int) < (N0 : Int)) = false := by simp; omega
          obtain rfl : t = N0 := by omega
          have hkl := keepTo_len cs r t
          have k3 := S.cell3
          have f3 := S.free3
          have hrl2 := rowsTo_len cs rows j
          obtain ⟨A9, q9, rfl⟩ := Kd.R_slice HW
          have HWL := Aside0.mk (Kd.R_lower (Kd.R_bound HW) hBN)
          have SA := Aside0.mk S
          clear HW
          have hown : ∀ k, Value.ownBlock u6 = some k → k < N1 := fun k hk => HO.out.1 k hk
          by_cases hgt : mj < (keepTo cs r t).length
          · have hgb : decide (((keepTo cs r t).length : Int) > (mj : Int)) = true := by simp; omega
            have sizeW : (wr.setCell ⟨c3, 0, none⟩ (.int .i64 (keepTo cs r t).length)).heap.size = wr.heap.size := by simp [World.setCell]
            have SW := Aside0.mk (S.setNum (keepTo cs r t).length)
            have HOW := Aside0.mk (Kd.R_mono (Kd.R_far (Kd.R_bound HO.out) (p := ⟨c3, 0, none⟩) (fun k hk e => by have e' : k = c3 := e; have := hk.2.1; have := S.hi; omega) (.int .i64 (keepTo cs r t).length)) (ok' := fun _ => True) (fun _ _ => trivial))
            have HWW := Aside0.mk (Kd.R_mono (Kd.R_far HWL.out (p := ⟨c3, 0, none⟩) (fun k hk e => by have e' : k = c3 := e; have := hk.2.1; have := S.hi; omega) (.int .i64 (keepTo cs r t).length)) (ok' := fun k => N1 ≤ k) (fun _ hk => hk.2.1))
            have HKW : Aside0 (∀ k, k < B → k ≠ M2 → k ≠ c3 → (wr.setCell ⟨c3, 0, none⟩ (.int .i64 (keepTo cs r t).length)).heap[k]? = w.heap[k]?) := ⟨fun k h1 h2 h3 => by rw [← HK2.out k h1 h2 h3]; exact heap_setCell_other wr _ k _ h3⟩
            clear S SA HWL HO
            go_wp2_with (first
              | ((with_reducible refine gate_builtin (b := .append) (xs := #[.tmp 51, .tmp 53]) rfl ?_); at_builtin; refine Kd.R_append kt (w0 := wr.setCell ⟨c3, 0, none⟩ (.int .i64 (keepTo cs r t).length)) B rfl (.tmp 51) (.tmp 53) 79 100 (.slice none 0 0) 24 rfl Try.underlying79 info100 rfl (by decide) (by omega) _ (rowsTo cs rows j) (keepTo cs r t) [.slice A9 (keepTo cs r t).length q9] (fun _ => True) (fun k => N1 ≤ k) rfl (by first | rfl | (rw [sizeW]; rfl)) ⟨_, rfl, HWW.out⟩ (fun k hk => ⟨trivial, fun e => by have := hown k e.symm; omega⟩) (fun _ _ => trivial) HOW.out (Below.refl _ _) SW.out.hB (by rw [hrl2]; omega) ?_
                 intro v1 w1 HO1 HB1 hg1 ha1
                 have hown2 : ∀ k, Value.ownBlock u6 = some k → B ≤ k := fun k hk => ((Kd.R_bound HOW.out).1 k hk).2.1
                 have S2 := SW.out.grown hg1 (fun k hk => hown2 k hk)
                 have HK3 : Aside0 (∀ k, k < B → k ≠ M2 → k ≠ c3 → w1.heap[k]? = w.heap[k]?) := ⟨fun k h1 h2 h3 => by rw [← HKW.out k h1 h2 h3]; exact hg1.block k (Nat.lt_of_lt_of_le h1 SW.out.hB) (fun e => by have := hown2 k e.symm; omega)⟩
                 have HO2 := Aside0.mk HO1
                 clear HO1 HB1 hg1 ha1 hown2))
            go_roundw
            case rel =>
              obtain ⟨hh1, hh2, hh3⟩ := HH.out
              refine ⟨j + 1, hlt, rfl, ?_, by rw [hh3]; exact HO2.out, HK3⟩
              rw [hh1, hh2, ← HMJ.out, ← Nat.add_assoc, ← HTJ.out]
              rw [Nat.max_eq_right (Nat.le_of_lt hgt)]
              exact S2
            case measure => simp [RowKit.intOf]; omega
          · have hgb : decide (((keepTo cs r t).length : Int) > (mj : Int)) = false := by simp; omega
            have sizeW : wr.heap.size = wr.heap.size := rfl
            have SW := SA
            have HOW := Aside0.mk (Kd.R_mono HO.out (ok' := fun _ => True) (fun _ _ => trivial))
            have HWW := Aside0.mk (Kd.R_mono HWL.out (ok' := fun k => N1 ≤ k) (fun _ hk => hk.2.1))
            have HKW := HK2
            clear S SA HWL HO
            go_wp2_with (first
              | ((with_reducible refine gate_builtin (b := .append) (xs := #[.tmp 51, .tmp 53]) rfl ?_); at_builtin; refine Kd.R_append kt (w0 := wr) B rfl (.tmp 51) (.tmp 53) 79 100 (.slice none 0 0) 24 rfl Try.underlying79 info100 rfl (by decide) (by omega) _ (rowsTo cs rows j) (keepTo cs r t) [.slice A9 (keepTo cs r t).length q9] (fun _ => True) (fun k => N1 ≤ k) rfl (by first | rfl | (rw [sizeW]; rfl)) ⟨_, rfl, HWW.out⟩ (fun k hk => ⟨trivial, fun e => by have := hown k e.symm; omega⟩) (fun _ _ => trivial) HOW.out (Below.refl _ _) SW.out.hB (by rw [hrl2]; omega) ?_
                 intro v1 w1 HO1 HB1 hg1 ha1
                 have hown2 : ∀ k, Value.ownBlock u6 = some k → B ≤ k := fun k hk => ((Kd.R_bound HOW.out).1 k hk).2.1
                 have S2 := SW.out.grown hg1 (fun k hk => hown2 k hk)
                 have HK3 : Aside0 (∀ k, k < B → k ≠ M2 → k ≠ c3 → w1.heap[k]? = w.heap[k]?) := ⟨fun k h1 h2 h3 => by rw [← HKW.out k h1 h2 h3]; exact hg1.block k (Nat.lt_of_lt_of_le h1 SW.out.hB) (fun e => by have := hown2 k e.symm; omega)⟩
                 have HO2 := Aside0.mk HO1
                 clear HO1 HB1 hg1 ha1 hown2))
            go_roundw
            case rel =>
              obtain ⟨hh1, hh2, hh3⟩ := HH.out
              refine ⟨j + 1, hlt, rfl, ?_, by rw [hh3]; exact HO2.out, HK3⟩
              rw [hh1, hh2, ← HMJ.out, ← Nat.add_assoc, ← HTJ.out]
              rw [Nat.max_eq_left (Nat.le_of_not_lt hgt)]
              exact S2
            case measure => simp [RowKit.intOf]; omega
    · have hd : decide ((j : Int) < (n : Int)) = false := by simp; omega
      obtain rfl : j = n := by omega
      have HO' := Aside0.mk HO
      clear HO
      go_wp2_with (fail)
      go_ret
      exact ⟨_, rfl, S, HO'.out, HK.out⟩
end Go.Proofs.Ytjpdkmmpofddlaa.Clo
