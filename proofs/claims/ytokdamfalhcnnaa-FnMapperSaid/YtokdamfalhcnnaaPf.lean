/- impl.TwMapper: the walk. -/
import Derived.Test.YtokdamfalhcnnaaPe
namespace Go.Proofs.Ytokdamfalhcnnaa.Pf
open Go Go.Maps Go.ChangeMaps Go.MapKept Go.RowKit Go.Proofs.YtokdamfalhcnnaaW.PrintWords Go.Proofs.YtokdamfalhcnnaaW.PrintLast Go.Proofs.YtokdamfalhcnnaaW.PrintMore GMpBody Mp Mq Ms Mt Mu Small Mv Mo Mw Mx Pa Pb Pc Pd Sl Ri Pe

set_option linter.all false
set_option maxRecDepth 1000000
set_option maxHeartbeats 8000000
/-- how a mapper begins -/
def start (kind : Int) (ks : List Int) : List Pr := if kind = 2 then build (fun _ => 0) ks else if kind = 3 then build (fun x => x) ks else []
def nilK (kind : Int) : Bool := decide (kind = 1)
def stepO (nn : Bool) (ps : List Pr) (x : S32) : List Pr := Pe.step nn ps x.f0 x.f1 x.f2 x.f3
def runO (nn : Bool) (ps : List Pr) (ops : List S32) : List Pr := ops.foldl (stepO nn) ps
theorem runO_snoc (nn : Bool) (ps : List Pr) (ops : List S32) (x : S32) : runO nn ps (ops ++ [x]) = stepO nn (runO nn ps ops) x := by unfold runO; rw [List.foldl_append]; rfl
theorem srt_start (kind : Int) (ks : List Int) : Srt (start kind ks) := by
  unfold start
  split
  · exact build_srt _ _
  · split
    · exact build_srt _ _
    · exact List.Pairwise.nil
theorem len_start (kind : Int) (ks : List Int) : (start kind ks).length ≤ ks.length := by
  unfold start
  split
  · exact build_len _ _
  · split
    · exact build_len _ _
    · simp
theorem srt_step {nn : Bool} {ps : List Pr} (h : Srt ps) (x : S32) : Srt (stepO nn ps x) := by
  unfold stepO Pe.step
  split
  · exact h
  · exact srt_done h _ _ _ _
theorem len_step (nn : Bool) (ps : List Pr) (x : S32) : (stepO nn ps x).length ≤ ps.length + 1 := by
  unfold stepO Pe.step
  split
  · omega
  · exact len_done _ _ _ _ _
theorem srt_run (nn : Bool) : ∀ (ops : List S32) {ps : List Pr}, Srt ps → Srt (runO nn ps ops)
  | [], _, h => h
  | x :: t, _, h => srt_run nn t (srt_step h x)
theorem len_run (nn : Bool) : ∀ (ops : List S32) (ps : List Pr), (runO nn ps ops).length ≤ ps.length + ops.length
  | [], _ => Nat.le_refl _
  | x :: t, ps => by
    have h1 := len_run nn t (stepO nn ps x)
    have h2 := len_step nn ps x
    show (runO nn (stepO nn ps x) t).length ≤ _
    simp only [List.length_cons]
    omega
/-- what an operation may be -/
structure GoodO (nn : Bool) (x : S32) : Prop where
  lo : 0 ≤ x.f0
  hi : x.f0 ≤ 7
  ni : nn = true → x.f0 ≤ 1
  i1 : In64 x.f1
  i2 : In64 x.f2
  sm : x.f3.length < 9223372036854775807
/-- the block of the result before it is written -/
def zero36 : Array Value := #[.int .i64 0, .slice none 0 0, .slice none 0 0, .int .i64 0, .int .i64 0, .bool false, .bool false, .slice none 0 0, .slice none 0 0, .slice none 0 0]
/-- what the result tells -/
def Told (w w' : World) (ps : List Pr) (key : Int) (r : Ending) : Prop := ∃ A1 c1 A2 c2 A7 c7 A8 c8 A9 c9, r = .returned (.agg #[.int .i64 ps.length, .slice A1 (keys ps).length c1, .slice A2 (keys ps).length c2, .int .i64 (at_ ps key), .int .i64 (at_ ps key), .bool (has_ ps key), .bool (has_ ps key), .slice A7 (sps ps).length c7, .slice A8 (sps ps).length c8, .slice A9 ((vals ps).mergeSort leI).length c9]) ∧
  ((keys ps).length ≤ c1 ∧ Kd.C (Kd.int .i64) w' A1 (keys ps).length (keys ps)) ∧ ((keys ps).length ≤ c2 ∧ Kd.C (Kd.int .i64) w' A2 (keys ps).length (keys ps)) ∧ ((sps ps).length ≤ c7 ∧ Kd.C k29 w' A7 (sps ps).length (sps ps)) ∧ ((sps ps).length ≤ c8 ∧ Kd.C k29 w' A8 (sps ps).length (sps ps)) ∧ (((vals ps).mergeSort leI).length ≤ c9 ∧ Kd.C (Kd.int .i64) w' A9 ((vals ps).mergeSort leI).length ((vals ps).mergeSort leI)) ∧ Below w.heap.size w w'
/-- the state behind the switch -/
structure S1 (w W : World) (mv : Value) (nn : Bool) (ps : List Pr) : Prop where
  mv : Mv (w.heap.size + 1) W mv nn ps
  rb : W.heap[w.heap.size]? = some (.cells zero36 36 (0, 0))
  bl : Below w.heap.size w W
/-- the facts' block while pairs are put in -/
structure Lp (W8 wx : World) (F : Nat) (arr : Array Value) (ds : List Pr) (es : List Pr) (pv : Value) : Prop where
  gr : W8.grownBy wx (some F)
  fb : wx.heap[F]? = some (.cells (arr.setIfInBounds 7 pv) 36 (0, 0))
  row : wx.ownsRow W8.heap.size 29 2 pv es.length (pcs es)
  srt : Srt es
  pe : es.Perm ds
theorem C_move {α : Type} {d : Kd α} {w w' : World} {A : Option Addr} {n : Nat} {xs : List α} (hd : ∀ x cs, d.K w x cs → d.K w' x cs) (h : d.C w A n xs) (hk : ∀ ad, A = some ad → ad.block < w.heap.size → w'.heap[ad.block]? = w.heap[ad.block]?) : d.C w' A n xs :=
  ⟨h.1, h.2.1, fun hn => by
    obtain ⟨ad, e, hc⟩ := h.2.2 hn
    refine ⟨ad, e, fun j p hj => ?_⟩
    obtain ⟨c, h1, h2, h3⟩ := hc j p hj
    refine ⟨c, h1, hd _ _ h2, fun i u hi => ?_⟩
    have h4 := h3 i u hi
    have hb : ∀ k, (ad.add k).block = ad.block := fun k => by unfold Addr.add; split <;> rfl
    have hlt := World.block_lt_of_cell? _ _ h4
    rw [hb] at hlt
    have h5 := hk ad e hlt
    rw [← hb (j * d.sz + i)] at h5
    unfold World.cell? at h4 ⊢
    rw [h5]
    exact h4⟩
theorem CI_move {w w' : World} {A : Option Addr} {n : Nat} {xs : List Int} (h : Kd.C (Kd.int .i64) w A n xs) (hk : ∀ ad, A = some ad → ad.block < w.heap.size → w'.heap[ad.block]? = w.heap[ad.block]?) : Kd.C (Kd.int .i64) w' A n xs := C_move (w := w) (w' := w') (fun _ _ h => h) h hk
theorem CP_move {w w' : World} {A : Option Addr} {n : Nat} {xs : List S29} (h : Kd.C k29 w A n xs) (hk : ∀ ad, A = some ad → ad.block < w.heap.size → w'.heap[ad.block]? = w.heap[ad.block]?) : Kd.C k29 w' A n xs := C_move (w := w) (w' := w') (fun _ _ h => h) h hk
theorem begin15 {w W1 W2 : World} (h1 : w.alloc (.cells zero36 36) = W1) (h2 : W1.alloc (.map #[] 0) = W2) : S1 w W2 (.map (some W1.heap.size)) false [] ∧ W1.heap.size = w.heap.size + 1 := by
  have hs : W1.heap.size = w.heap.size + 1 := by rw [← h1]; simp
  have hb1 : Below w.heap.size w W1 := by rw [← h1]; exact (Below.refl _ w).alloc (Nat.le_refl _) _
  have hr1 : W1.heap[w.heap.size]? = some (.cells zero36 36 (0, 0)) := by rw [← h1]; exact heap_alloc_new w _
  refine ⟨⟨.inr ⟨rfl, _, rfl, by omega, by rw [← h2]; exact made_of (heap_alloc_new W1 _)⟩, ?_, ?_⟩, hs⟩
  · rw [← h2]; exact (Below.heap_alloc W1 _ _ (by omega)).trans hr1
  · rw [← h2]; exact hb1.alloc (by omega) _
theorem twMapperT (w : World) (ks : List Int) (A0 : Option Addr) (c0 : Nat) (ops : List S32) (A1 : Option Addr) (c1 : Nat) (key kind : Int) (hk : 0 ≤ kind ∧ kind ≤ 3) (h3 : kind = 3 → 0 < ks.length) (hr0 : Kd.C (Kd.int .i64) w A0 ks.length ks) (hr1 : Kd.C k32 w A1 ops.length ops) (hl0 : ks.length ≤ 1000) (hl1 : ops.length ≤ 1000) (hik : ∀ x ∈ ks, In64 x) (hio : ∀ x ∈ ops, GoodO (nilK kind) x) (hkey : In64 key) :
    Calls Try.prog 8 #[.int .i64 kind, .slice A0 ks.length c0, .slice A1 ops.length c1, .int .i64 key] w fun r w' => Told w w' (runO (nilK kind) (start kind ks) ops) key r := by
  have hu36 := Try.underlying36
  have hu32 := Try.underlying32
  have hu60 := Try.underlying60
  obtain ⟨W1, hW1⟩ : ∃ W1, w.alloc (.cells zero36 36) = W1 := ⟨_, rfl⟩
  obtain ⟨W2, hW2⟩ : ∃ W2, W1.alloc (.map #[] 0) = W2 := ⟨_, rfl⟩
  have hB := begin15 hW1 hW2
  have c15 := newMapper W1
  rw [hW2] at c15
  unfold zero36 at hW1
  have HA := Aside0.mk (And.intro h3 (And.intro hr0 (And.intro hr1 (And.intro hl0 (And.intro hl1 (And.intro hik (And.intro hio hkey)))))))
  have HB := Aside0.mk hB
  clear h3 hr0 hr1 hl0 hl1 hik hio hkey hB hW2
  obtain ⟨nn, hnn⟩ : ∃ nn, nn = nilK kind := ⟨_, rfl⟩
  obtain ⟨ps0, hps0⟩ : ∃ ps0, ps0 = start kind ks := ⟨_, rfl⟩
  have hs0 : Srt ps0 := by rw [hps0]; exact srt_start _ _
  have hl0 : ps0.length ≤ 1000 := by rw [hps0]; exact Nat.le_trans (len_start _ _) HA.out.2.2.2.1
  rw [← hnn] at HA
  rw [← hnn, ← hps0]
  have HK := Aside0.mk (And.intro hnn hps0)
  have HZ := Aside0.mk (And.intro hs0 hl0)
  clear hs0 hl0 hnn hps0
  have h4 : kind = 0 ∨ kind = 1 ∨ kind = 2 ∨ kind = 3 := by omega
  clear hk
  rcases h4 with rfl | rfl | rfl | rfl
  have hS : S1 w W2 (.map (some W1.heap.size)) nn ps0 := by rw [HK.out.1, HK.out.2]; exact HB.out.1
  go_enter Try.func8, Try.ntmps8
  go_wp2_with (first | (go_at_call 15; refine c15.mono ?_; rintro e w1 ⟨rfl, hw1⟩; rw [hw1]; clear hw1 w1))
  obtain ⟨mv, hmv⟩ : ∃ mv : Value, mv = .map (some W1.heap.size) := ⟨_, rfl⟩
  rw [← hmv] at hS
  simp only [← hmv]
  have HS := Aside0.mk hS
  clear hS hmv c15
  obtain ⟨W, hW⟩ : ∃ W, W = W2 := ⟨_, rfl⟩
  rw [← hW] at HS ⊢
  clear hW
  rotate_left
  have hS : S1 w W2 (.map none) nn ps0 := by rw [HK.out.1, HK.out.2]; exact ⟨.inl ⟨rfl, rfl, rfl⟩, HB.out.1.rb, HB.out.1.bl⟩
  go_enter Try.func8, Try.ntmps8
  go_wp2_with (first | (go_at_call 15; refine c15.mono ?_; rintro e w1 ⟨rfl, hw1⟩; rw [hw1]; clear hw1 w1))
  obtain ⟨mv, hmv⟩ : ∃ mv : Value, mv = .map none := ⟨_, rfl⟩
  rw [← hmv] at hS
  simp only [← hmv]
  have HS := Aside0.mk hS
  clear hS hmv c15
  obtain ⟨W, hW⟩ : ∃ W, W = W2 := ⟨_, rfl⟩
  rw [← hW] at HS ⊢
  clear hW
  rotate_left
  have cK := newKeysT (c := c0) ks (Kd.C_below HA.out.2.1 HB.out.1.bl) (by have := HA.out.2.2.2.1; omega) HA.out.2.2.2.2.2.1
  go_enter Try.func8, Try.ntmps8
  go_wp2_with (first | (go_at_call 15; refine c15.mono ?_; rintro e w1 ⟨rfl, hw1⟩; rw [hw1]; clear hw1 w1) | (go_at_call 16; refine cK.mono ?_; rintro e W3 ⟨rfl, hm3, hb3⟩; have HM := Aside0.mk (And.intro hm3 hb3); clear hm3 hb3 cK))
  have hS : S1 w W3 (.map (some W2.heap.size)) nn ps0 := by
    have hlt := (Array.getElem?_eq_some_iff.1 HB.out.1.rb).1
    rw [HK.out.1, HK.out.2]
    exact ⟨.inr ⟨rfl, _, rfl, by omega, HM.out.1⟩, (HM.out.2.block _ hlt).trans HB.out.1.rb, HB.out.1.bl.trans (HM.out.2.mono (by omega))⟩
  obtain ⟨mv, hmv⟩ : ∃ mv : Value, mv = .map (some W2.heap.size) := ⟨_, rfl⟩
  rw [← hmv] at hS
  simp only [← hmv]
  have HS := Aside0.mk hS
  clear hS hmv c15 HM
  obtain ⟨W, hW⟩ : ∃ W, W = W3 := ⟨_, rfl⟩
  rw [← hW] at HS ⊢
  clear hW
  rotate_left
  have cK := identityT (c := c0) ks (Kd.C_below HA.out.2.1 HB.out.1.bl) (HA.out.1 trivial) (by have := HA.out.2.2.2.1; omega) HA.out.2.2.2.2.2.1
  go_enter Try.func8, Try.ntmps8
  go_wp2_with (first | (go_at_call 15; refine c15.mono ?_; rintro e w1 ⟨rfl, hw1⟩; rw [hw1]; clear hw1 w1) | (go_at_call 17; refine cK.mono ?_; rintro e W3 ⟨rfl, hm3, hb3⟩; have HM := Aside0.mk (And.intro hm3 hb3); clear hm3 hb3 cK))
  have hS : S1 w W3 (.map (some W2.heap.size)) nn ps0 := by
    have hlt := (Array.getElem?_eq_some_iff.1 HB.out.1.rb).1
    rw [HK.out.1, HK.out.2]
    exact ⟨.inr ⟨rfl, _, rfl, by omega, HM.out.1⟩, (HM.out.2.block _ hlt).trans HB.out.1.rb, HB.out.1.bl.trans (HM.out.2.mono (by omega))⟩
  obtain ⟨mv, hmv⟩ : ∃ mv : Value, mv = .map (some W2.heap.size) := ⟨_, rfl⟩
  rw [← hmv] at hS
  simp only [← hmv]
  have HS := Aside0.mk hS
  clear hS hmv c15 HM
  obtain ⟨W, hW⟩ : ∃ W, W = W3 := ⟨_, rfl⟩
  rw [← hW] at HS ⊢
  clear hW
  rotate_left
  all_goals
    go_loopg [9, 11, 29] ops.length (fun gk v9 v11 v29 wx => ∃ j : Nat, v29 = .int .i64 (j : Int) ∧ j ≤ ops.length ∧ S1 w wx v9 nn (runO nn ps0 (ops.take j)) ∧ ops.length - j ≤ gk)
    case atStart => exact ⟨0, rfl, Nat.zero_le _, HS.out, Nat.le_refl _⟩
    case round =>
      obtain ⟨j, rfl, hj, hS, hlen⟩ := hrel
      have hl1 := HA.out.2.2.2.2.1
      by_cases hd : j < ops.length
      · have c3 : decide ((j : Int) < (ops.length : Int)) = true := decide_eq_true (by omega)
        have p1 := eq_true (show 0 ≤ (j : Int) by omega)
        have q1 := eq_true (show (j : Int) < (ops.length : Int) by omega)
        have hwj := wrap_succ j (by omega)
        obtain ⟨ad, A3, c3', e, x0, x1, x2, x3, xl, xr⟩ := at_T32 (Kd.C_below HA.out.2.2.1 hS.bl) (j : Int) (by omega) (by omega)
        cases e
        have er : rd_T32 ops (j : Int) = ops[j] := by simp [rd_T32, hd]
        have hg := HA.out.2.2.2.2.2.2.1 _ (List.getElem_mem hd)
        have hsnoc : runO nn ps0 (ops.take (j + 1)) = stepO nn (runO nn ps0 (ops.take j)) ops[j] := by rw [List.take_succ_eq_append_getElem hd, runO_snoc]
        obtain ⟨x, hx⟩ : ∃ x, x = ops[j] := ⟨_, rfl⟩
        rw [er, ← hx, Int.toNat_natCast] at x0 x1 x2 x3
        rw [er, ← hx] at xl xr
        rw [← hx] at hg hsnoc
        have hb1 : Below wr.heap.size wr (wr.alloc (.cells #[.int .i64 x.f0, .int .i64 x.f1, .int .i64 x.f2, .slice A3 x.f3.length c3'] 32)) := (Below.refl _ wr).alloc (Nat.le_refl _) _
        have hlp := len_run nn (ops.take j) ps0
        have hlt : (ops.take j).length ≤ j := List.length_take_le _ _
        have hl0 := HZ.out.2
        have hsz := (Array.getElem?_eq_some_iff.1 hS.rb).1
        have c18 := mappedV (hS.mv.below hb1) (by simp; omega) (srt_run nn _ HZ.out.1) (by omega) ⟨Kd.C_below xr hb1, xl, hg.sm, hg.i1, hg.i2⟩ ⟨hg.lo, hg.hi⟩ hg.ni
        obtain ⟨g', rfl⟩ : ∃ g', gk = g' + 1 := ⟨gk - 1, by omega⟩
        have HQ := Aside0.mk (And.intro hd (And.intro hS (And.intro hlen (And.intro hwj (And.intro hsnoc (And.intro hb1 hsz))))))
        clear hd hS hlen hwj hsnoc hb1 hsz hlp hlt hl0 hx er hg xl xr hj hl1
        go_wp2_with (first | (go_at_call 18; refine c18.mono ?_; rintro e w2 ⟨mv', rfl, hm2, hb2⟩; have H2 := Aside0.mk (And.intro hm2 hb2); clear hm2 hb2 c18))
        go_roundg g'
        case measure => exact Nat.lt_succ_self _
        case rel =>
          refine ⟨j + 1, by simp only [HQ.out.2.2.2.1], HQ.out.1, ⟨?_, ?_, ?_⟩, by have := HQ.out.2.2.1; omega⟩
          · rw [HQ.out.2.2.2.2.1]; exact H2.out.1
          · exact (H2.out.2.block _ (by omega)).trans ((HQ.out.2.2.2.2.2.1.block _ HQ.out.2.2.2.2.2.2).trans HQ.out.2.1.rb)
          · exact HQ.out.2.1.bl.trans ((HQ.out.2.2.2.2.2.1.mono (Nat.le_of_lt HQ.out.2.2.2.2.2.2)).trans (H2.out.2.mono (by omega)))
      · have c3 : decide ((j : Int) < (ops.length : Int)) = false := decide_eq_false (by omega)
        obtain rfl : j = ops.length := by omega
        rw [List.take_length] at hS
        have hsr := srt_run nn ops HZ.out.1
        have hlr := Nat.le_trans (len_run nn ops ps0) (show ps0.length + ops.length ≤ 2000 by have := HZ.out.2; omega)
        obtain ⟨ps, hps⟩ : ∃ ps, ps = runO nn ps0 ops := ⟨_, rfl⟩
        rw [← hps] at hS hsr hlr
        have HR := Aside0.mk (And.intro hS (And.intro hsr (And.intro hlr hps)))
        clear hS hsr hlr hlen hd hj hl1 hps
        have c19 := lenV HR.out.1.mv
        go_wp2_with (first | (go_at_call 19; refine c19.mono ?_; rintro e w1 ⟨rfl, hw⟩; rw [hw]; clear hw w1 c19))
        have c21 := keysV HR.out.1.mv (by have := HR.out.2.2.1; omega)
        go_wp2_with (first | (go_at_call 21; refine c21.mono ?_; rintro e w1 ⟨A, c, ds, rfl, hc, hp, hr, hb⟩))
        clear c21
        have c20 := risingV hr hc (by have h1 := hp.length_eq; have := HR.out.2.2.1; unfold keys; rw [List.length_map]; omega)
        rw [sorted_keys hp HR.out.2.1] at c20
        have HB1 := Aside0.mk hb
        clear hr hc hp hb
        go_wp2_with (first | (go_at_call 20; refine c20.mono ?_; rintro e w2 ⟨A1', k1, rfl, hc, hr, hb, ha⟩))
        clear c20
        have hb12 := HB1.out.trans (hb.mono HB1.out.size)
        have HV1 := Aside0.mk (And.intro hb12 (And.intro hc (And.intro hr (fun (ad : Addr) (e : A1' = some ad) => Nat.le_trans HB1.out.size (ha ad e)))))
        clear hc hr hb ha hb12 HB1
        have c22 := sortedV (HR.out.1.mv.below HV1.out.1) HR.out.2.1 (by have := HR.out.2.2.1; omega)
        go_wp2_with (first | (go_at_call 22; refine c22.mono ?_; rintro e w3 ⟨A2', k2, rfl, hc, hr, hb, ha⟩))
        clear c22
        have HV2 := Aside0.mk (And.intro (HV1.out.1.trans (hb.mono HV1.out.1.size)) (And.intro hb (And.intro hc (And.intro hr (fun (ad : Addr) (e : A2' = some ad) => Nat.le_trans HV1.out.1.size (ha ad e))))))
        clear hc hr hb ha
        have c23 := getV (HR.out.1.mv.below HV2.out.1) key HA.out.2.2.2.2.2.2.2
        have c24 := hasV (HR.out.1.mv.below HV2.out.1) key HA.out.2.2.2.2.2.2.2
        have c25 := valuesV (HR.out.1.mv.below HV2.out.1) (by have := HR.out.2.2.1; omega)
        go_wp2_with (first | (go_at_call 23; refine c23.mono ?_; rintro e w4 ⟨rfl, hw⟩; rw [hw]; clear hw w4 c23) | (go_at_call 24; refine c24.mono ?_; rintro e w4 ⟨rfl, hw⟩; rw [hw]; clear hw w4 c24) | (go_at_call 25; refine c25.mono ?_; rintro e w4 ⟨A, c, ds, rfl, hc, hp, hr, hb⟩))
        clear c25
        have c20 := risingV hr hc (by have h1 := hp.length_eq; have := HR.out.2.2.1; unfold vals; rw [List.length_map]; omega)
        have evs : (vals ds).mergeSort leI = (vals ps).mergeSort leI := List.Perm.eq_of_pairwise (le := fun x y => x ≤ y) (fun a b _ _ h1 h2 => by omega) (leI_sorted _) (leI_sorted _) ((List.mergeSort_perm _ _).trans ((hp.map Prod.snd).trans (List.mergeSort_perm _ _).symm))
        rw [evs] at c20
        have HB4 := Aside0.mk hb
        clear hr hc hp hb evs
        go_wp2_with (first | (go_at_call 20; refine c20.mono ?_; rintro e w5 ⟨A9', k9, rfl, hc, hr, hb, ha⟩; have HV9 := Aside0.mk (And.intro (HB4.out.trans (hb.mono HB4.out.size)) (And.intro hc (And.intro hr (fun (ad : Addr) (e : A9' = some ad) => Nat.le_trans (Nat.le_trans HV2.out.1.size HB4.out.size) (ha ad e))))); clear hc hr hb ha))
        clear c20 HB4
        obtain ⟨F, hF⟩ : ∃ F, F = w5.heap.size := ⟨_, rfl⟩
        obtain ⟨W6, hW6⟩ : ∃ W6, w5.alloc (.cells #[.int .i64 ps.length, .slice A1' (keys ps).length k1, .slice A2' (keys ps).length k2, .int .i64 (at_ ps key), .int .i64 0, .bool (has_ ps key), .bool false, .slice none 0 0, .slice none 0 0, .slice A9' (vals ps).length k9] 36) = W6 := ⟨_, rfl⟩
        simp only [← hF, hW6]
        have hf6 : W6.heap[F]? = some (.cells #[.int .i64 ps.length, .slice A1' (keys ps).length k1, .slice A2' (keys ps).length k2, .int .i64 (at_ ps key), .int .i64 0, .bool (has_ ps key), .bool false, .slice none 0 0, .slice none 0 0, .slice A9' (vals ps).length k9] 36 (0, 0)) := by rw [← hW6, hF]; exact heap_alloc_new w5 _
        have h56 : Below w5.heap.size w5 W6 := by rw [← hW6]; exact (Below.refl _ w5).alloc (Nat.le_refl _) _
        have hz5 : wr.heap.size ≤ w5.heap.size := Nat.le_trans HV2.out.1.size HV9.out.1.size
        have hb6 : Below wr.heap.size wr W6 := HV2.out.1.trans ((HV9.out.1.mono HV2.out.1.size).trans (h56.mono hz5))
        have c26 := okV (HR.out.1.mv.below hb6) key HA.out.2.2.2.2.2.2.2
        have fz : ∀ j, W6.frozen? ⟨F, j, none⟩ = false := fun j => by rw [Lib.frozen_of_heap hf6]
        have b4 : W6.cell? ⟨F, 4, none⟩ = some (.int .i64 0) := by rw [Lib.cell_of_heap hf6]; rfl
        have b6 : W6.cell? ⟨F, 6, none⟩ = some (.bool false) := by rw [Lib.cell_of_heap hf6]; rfl
        have HF := Aside0.mk (And.intro hf6 (And.intro h56 (And.intro hb6 (And.intro hF hz5))))
        clear hf6 h56 hb6 hF hW6 hz5
        go_wp2_with (first | (go_at_call 26; refine c26.mono ?_; rintro e w7 ⟨rfl, hw⟩; rw [hw]; clear hw w7 c26))
        obtain ⟨W7, hW7⟩ : ∃ W7, (W6.setCell ⟨F, 4, none⟩ (.int .i64 (at_ ps key))).setCell ⟨F, 6, none⟩ (.bool (has_ ps key)) = W7 := ⟨_, rfl⟩
        rw [hW7]
        have hf7 : W7.heap[F]? = some (.cells #[.int .i64 ps.length, .slice A1' (keys ps).length k1, .slice A2' (keys ps).length k2, .int .i64 (at_ ps key), .int .i64 (at_ ps key), .bool (has_ ps key), .bool (has_ ps key), .slice none 0 0, .slice none 0 0, .slice A9' (vals ps).length k9] 36 (0, 0)) := by
          rw [← hW7]
          exact (heap_setCell_same _ F 6 _ 36 _ (heap_setCell_same W6 F 4 _ 36 _ HF.out.1)).trans rfl
        have hg67 : W6.grownBy W7 (some F) := by
          have hgs : ∀ (W : World) (j : Nat) (u : Value), W.grownBy (W.setCell ⟨F, j, none⟩ u) (some F) := fun W j u => ⟨rfl, rfl, rfl, by simp [World.setCell], fun k _ hk => Below.heap_setCell _ _ _ k (fun e => hk (by rw [e]))⟩
          rw [← hW7]
          exact (hgs W6 4 _).andThen (hgs _ 6 _) (fun j hj => .inr hj)
        have h57 : Below w5.heap.size w5 W7 := HF.out.2.1.trans (below_grown hg67 HF.out.2.1.size (fun k hk => by injection hk with hk; have := HF.out.2.2.2.1; omega))
        have hb7 : Below wr.heap.size wr W7 := HF.out.2.2.1.trans (below_grown hg67 HF.out.2.2.1.size (fun k hk => by injection hk with hk; have := HF.out.2.2.2.1; have := HF.out.2.2.2.2; omega))
        have hF7 : F < W7.heap.size := (Array.getElem?_eq_some_iff.1 hf7).1
        have HF7 := Aside0.mk (And.intro hf7 (And.intro h57 (And.intro hb7 hF7)))
        have c27 := slicerV (HR.out.1.mv.below hb7) (by have := HR.out.2.2.1; omega)
        clear hW7 hf7 hg67 h57 hb7 hF7 b4 b6 fz
        go_wp2_with (first | (go_at_call 27; refine c27.mono ?_; rintro e W8 ⟨A27, c27', ds, rfl, hp8, hx8, hb8⟩; have H8 := Aside0.mk (And.intro hp8 (And.intro hx8 hb8)); clear hp8 hx8 hb8))
        clear c27
        (try simp only [Act.put, List.setIfInBounds_toArray, List.set_cons_zero, List.set_cons_succ])
        obtain ⟨arr, harr⟩ : ∃ arr : Array Value, arr = #[.int .i64 ps.length, .slice A1' (keys ps).length k1, .slice A2' (keys ps).length k2, .int .i64 (at_ ps key), .int .i64 (at_ ps key), .bool (has_ ps key), .bool (has_ ps key), .slice none 0 0, .slice none 0 0, .slice A9' (vals ps).length k9] := ⟨_, rfl⟩
        have hf8 : W8.heap[F]? = some (.cells arr 36 (0, 0)) := by rw [harr]; exact (H8.out.2.2.block F HF7.out.2.2.2).trans HF7.out.1
        have hz : arr.size = 10 := by rw [harr]; rfl
        have h77 : arr.setIfInBounds 7 (.slice none 0 0) = arr := by rw [harr]; rfl
        have HA8 := Aside0.mk (And.intro harr (And.intro hf8 (And.intro hz h77)))
        clear harr hf8 hz h77
        go_loopg [14, 65] ds.length (fun gk v14 v65 wx => ∃ (j : Nat) (es : List Pr) (A : Option Addr) (n c : Nat), v65 = .int .i64 (j : Int) ∧ j ≤ ds.length ∧ Lp W8 wx F arr (ds.take j) es (.slice A n c) ∧ ds.length - j ≤ gk)
        case atStart => exact ⟨0, [], none, 0, 0, rfl, Nat.zero_le _, ⟨⟨rfl, rfl, rfl, Nat.le_refl _, fun _ _ _ => rfl⟩, by rw [HA8.out.2.2.2]; exact HA8.out.2.1, ⟨rfl, .inl ⟨rfl, rfl⟩⟩, List.Pairwise.nil, List.Perm.refl _⟩, Nat.le_refl _⟩
        case round =>
          obtain ⟨j, es, A, n, c, rfl, hj, hL, hlen⟩ := hrel
          have hdl : ds.length ≤ 2000 := by rw [H8.out.1.length_eq]; exact HR.out.2.2.1
          by_cases hd : j < ds.length
          · have c3 : decide ((j : Int) < (ds.length : Int)) = true := decide_eq_true (by omega)
            have p1 := eq_true (show 0 ≤ (j : Int) by omega)
            have q1 := eq_true (show (j : Int) < (ds.length : Int) by omega)
            have hwj := wrap_succ j (by omega)
            obtain ⟨g, e, hgl, hgs, hcell⟩ := H8.out.2.1 (by omega)
            subst e
            have hFg : F ≠ g := by have := HF7.out.2.2.2; omega
            obtain ⟨x, hx⟩ : ∃ x, x = ds[j] := ⟨_, rfl⟩
            have hxa := pcs_at ds j hd
            rw [← hx] at hxa
            have hbg := hL.gr.block g hgs (fun e => hFg (Option.some.inj e).symm)
            have y0 : wr.cell? ⟨g, j * 2, none⟩ = some (.int .i64 x.1) := (by unfold World.cell?; rw [hbg] : wr.cell? ⟨g, j * 2, none⟩ = W8.cell? ⟨g, j * 2, none⟩).trans (hcell _ _ hxa.1)
            have y1 : wr.cell? ⟨g, j * 2 + 1, none⟩ = some (.int .i64 x.2) := (by unfold World.cell?; rw [hbg] : wr.cell? ⟨g, j * 2 + 1, none⟩ = W8.cell? ⟨g, j * 2 + 1, none⟩).trans (hcell _ _ hxa.2)
            obtain ⟨w1, hw1⟩ : ∃ w1, wr.alloc (.cells #[.int .i64 x.1, .int .i64 x.2] 60) = w1 := ⟨_, rfl⟩
            have hg1 : wr.grownBy w1 none := by rw [← hw1]; exact World.grownBy_alloc wr _ none
            have hrow1 := hL.row.kept hg1 (by cases (Value.slice A n c).ownBlock <;> simp)
            have hFw : F < wr.heap.size := (Array.getElem?_eq_some_iff.1 hL.fb).1
            have hf1 : w1.heap[F]? = some (.cells (arr.setIfInBounds 7 (.slice A n c)) 36 (0, 0)) := (hg1.block F hFw (by simp)).trans hL.fb
            have hzz : (arr.setIfInBounds 7 (.slice A n c)).size = 10 := by rw [Array.size_setIfInBounds]; exact HA8.out.2.2.1
            have h7 : (arr.setIfInBounds 7 (.slice A n c))[7]? = some (.slice A n c) := by rw [Array.getElem?_setIfInBounds, if_pos rfl, if_pos (by have := HA8.out.2.2.1; omega)]
            have f7 : w1.cell? ⟨F, 7, none⟩ = some (.slice A n c) := by rw [Lib.cell_of_heap hf1]; exact h7
            have hfr : ∀ e ∈ ds.take j, e.1 ≠ x.1 := fresh_of (r1 := []) (r2 := ds.drop (j + 1)) (y := x.2) (by rw [List.take_append_drop]; exact H8.out.1) HR.out.2.1.nodup (by rw [hx]; exact List.drop_eq_getElem_cons hd)
            have hle : es.length ≤ 100000 := by have := hL.pe.length_eq; have : (ds.take j).length ≤ j := List.length_take_le _ _; omega
            have c28 := pairedT (p := x) hrow1 (Nat.le_trans hL.gr.size hg1.size) hL.srt (fun e he => hfr e (hL.pe.mem_iff.1 he)) hle
            rw [← hw1] at c28 f7
            have htk : ds.take (j + 1) = ds.take j ++ [x] := by rw [hx]; exact List.take_succ_eq_append_getElem hd
            obtain ⟨g', rfl⟩ : ∃ g', gk = g' + 1 := ⟨gk - 1, by omega⟩
            have HQ := Aside0.mk (And.intro hd (And.intro hL (And.intro hlen (And.intro hwj (And.intro hfr (And.intro htk (And.intro hrow1 (And.intro hf1 (And.intro hzz (And.intro hg1 (And.intro hw1 h7)))))))))))
            clear hx htk hL hlen hwj hfr hrow1 hf1 hzz hg1 hw1 h7 hj hgl hgs hcell hxa hbg hFw hle hFg hdl hd
            go_wp2_with (fail)
            refine c28.mono ?_
            rintro e w2 ⟨v', rfl, h1, h2, h3⟩
            obtain ⟨A', n', c', rfl⟩ := Pc.own_slice h1
            rw [HQ.out.2.2.2.2.2.2.2.2.2.2.1] at h2 h3
            have hP := put_field (j := 7) HQ.out.2.2.2.2.2.2.2.1 HQ.out.2.2.2.2.2.2.2.2.1 HQ.out.2.2.2.2.2.2.1 h1 h2 h3
            have c7' : w2.cell? ⟨F, 7, none⟩ = some (.slice A n c) := by rw [Lib.cell_of_heap hP.1]; exact HQ.out.2.2.2.2.2.2.2.2.2.2.2
            have f7' : w2.frozen? ⟨F, 7, none⟩ = false := by rw [Lib.frozen_of_heap hP.1]
            have HP := Aside0.mk hP
            clear hP h1 h2 h3 c28
            go_wp2_with (fail)
            go_roundg g'
            case measure => exact Nat.lt_succ_self _
            case rel =>
              have hP := HP.out
              have hL := HQ.out.2.1
              refine ⟨j + 1, ins es x, A', n', c', by simp only [HQ.out.2.2.2.1], HQ.out.1, ⟨?_, ?_, hP.2.2.1, srt_ins _ hL.srt, ?_⟩, by have := HQ.out.2.2.1; omega⟩
              · have hk := hP.2.2.2
                have hg1 := HQ.out.2.2.2.2.2.2.2.2.2.1
                have hz1 := hg1.size
                have hz8 := hL.gr.size
                refine ⟨hk.os.trans (hg1.os.trans hL.gr.os), hk.tape.trans (hg1.tape.trans hL.gr.tape), hk.output.trans (hg1.output.trans hL.gr.output), Nat.le_trans hL.gr.size (Nat.le_trans hg1.size hk.size), fun k hkl hkF => ?_⟩
                exact (hk.block k (by omega) (fun e => hkF (by rw [e])) (fun e => by have := (hL.row.lt k e).1; omega)).trans ((hg1.block k (by omega) (by simp)).trans (hL.gr.block k hkl hkF))
              · have := hP.2.1
                rw [Array.setIfInBounds_setIfInBounds] at this
                exact this
              · rw [HQ.out.2.2.2.2.2.1]
                exact ins_snoc hL.srt hL.pe HQ.out.2.2.2.2.1
          · have c3 : decide ((j : Int) < (ds.length : Int)) = false := decide_eq_false (by omega)
            obtain rfl : j = ds.length := by omega
            rw [List.take_length] at hL
            have he : es = ps := srt_eq (hL.pe.trans H8.out.1) hL.srt HR.out.2.1
            rw [he] at hL
            obtain ⟨A7', k7, e7, hc7, hr7, ha7⟩ := reads29 hL.row (by have := HR.out.2.2.1; omega)
            injection e7 with ea en ec
            subst ea
            subst en
            subst ec
            have hM8 := (HR.out.1.mv.below HF7.out.2.2.1).below H8.out.2.2
            have hMr := hM8.kept hL.gr HA8.out.2.1
            have hz' : (arr.setIfInBounds 7 (.slice A (sps ps).length c)).size = 10 := by rw [Array.size_setIfInBounds]; exact HA8.out.2.2.1
            have h8' : (arr.setIfInBounds 7 (.slice A (sps ps).length c))[8]? = some (.slice none 0 0) := by rw [HA8.out.1]; rfl
            have c29 := eachV hMr HR.out.2.1 (by have := HR.out.2.2.1; omega) hL.fb hz' h8'
            have HL7 := Aside0.mk (And.intro hL (And.intro hc7 (And.intro hr7 ha7)))
            clear hL hc7 hr7 ha7 hM8 hMr hz' h8' he hj hlen hd hdl
            go_wp2_with (fail)
            refine c29.mono ?_
            rintro e W9 ⟨rfl, A8', k8, hf9, hc8, hr8, hg9, ha8⟩
            clear c29
            have hF := HF.out.2.2.2.1
            have hz5 := HF.out.2.2.2.2
            have hwz := (Array.getElem?_eq_some_iff.1 HR.out.1.rb).1
            rw [HA8.out.1] at hf9
            have hf9' := hf9.trans (show _ = some (Obj.cells #[.int .i64 ps.length, .slice A1' (keys ps).length k1, .slice A2' (keys ps).length k2, .int .i64 (at_ ps key), .int .i64 (at_ ps key), .bool (has_ ps key), .bool (has_ ps key), .slice A (sps ps).length c, .slice A8' (sps ps).length k8, .slice A9' (vals ps).length k9] 36 (0, 0)) from rfl)
            have hRF : some w.heap.size ≠ some F := fun e => by injection e with e; omega
            have hz7 := HF7.out.2.2.1.size
            have hz8 := HL7.out.1.gr.size
            have hz78 := H8.out.2.2.size
            have hr9 : W9.heap[w.heap.size]? = some (.cells zero36 36 (0, 0)) := (hg9.block _ (by omega) hRF).trans ((HL7.out.1.gr.block _ (by omega) hRF).trans ((H8.out.2.2.block _ (by omega)).trans ((HF7.out.2.2.1.block _ hwz).trans HR.out.1.rb)))
            have z0 : W9.cell? ⟨F, 0, none⟩ = some (.int .i64 ps.length) := by rw [Lib.cell_of_heap hf9']; rfl
            have z1 : W9.cell? ⟨F, 1, none⟩ = some (.slice A1' (keys ps).length k1) := by rw [Lib.cell_of_heap hf9']; rfl
            have z2 : W9.cell? ⟨F, 2, none⟩ = some (.slice A2' (keys ps).length k2) := by rw [Lib.cell_of_heap hf9']; rfl
            have z3 : W9.cell? ⟨F, 3, none⟩ = some (.int .i64 (at_ ps key)) := by rw [Lib.cell_of_heap hf9']; rfl
            have z4 : W9.cell? ⟨F, 4, none⟩ = some (.int .i64 (at_ ps key)) := by rw [Lib.cell_of_heap hf9']; rfl
            have z5 : W9.cell? ⟨F, 5, none⟩ = some (.bool (has_ ps key)) := by rw [Lib.cell_of_heap hf9']; rfl
            have z6 : W9.cell? ⟨F, 6, none⟩ = some (.bool (has_ ps key)) := by rw [Lib.cell_of_heap hf9']; rfl
            have z7 : W9.cell? ⟨F, 7, none⟩ = some (.slice A (sps ps).length c) := by rw [Lib.cell_of_heap hf9']; rfl
            have z8 : W9.cell? ⟨F, 8, none⟩ = some (.slice A8' (sps ps).length k8) := by rw [Lib.cell_of_heap hf9']; rfl
            have z9 : W9.cell? ⟨F, 9, none⟩ = some (.slice A9' (vals ps).length k9) := by rw [Lib.cell_of_heap hf9']; rfl
            have fz : ∀ j, W9.frozen? ⟨w.heap.size, j, none⟩ = false := fun j => by rw [Lib.frozen_of_heap hr9]
            have q0 : W9.cell? ⟨w.heap.size, 0, none⟩ = some (.int .i64 0) := by rw [Lib.cell_of_heap hr9]; rfl
            have q1 : W9.cell? ⟨w.heap.size, 1, none⟩ = some (.slice none 0 0) := by rw [Lib.cell_of_heap hr9]; rfl
            have q2 : W9.cell? ⟨w.heap.size, 2, none⟩ = some (.slice none 0 0) := by rw [Lib.cell_of_heap hr9]; rfl
            have q3 : W9.cell? ⟨w.heap.size, 3, none⟩ = some (.int .i64 0) := by rw [Lib.cell_of_heap hr9]; rfl
            have q4 : W9.cell? ⟨w.heap.size, 4, none⟩ = some (.int .i64 0) := by rw [Lib.cell_of_heap hr9]; rfl
            have q5 : W9.cell? ⟨w.heap.size, 5, none⟩ = some (.bool false) := by rw [Lib.cell_of_heap hr9]; rfl
            have q6 : W9.cell? ⟨w.heap.size, 6, none⟩ = some (.bool false) := by rw [Lib.cell_of_heap hr9]; rfl
            have q7 : W9.cell? ⟨w.heap.size, 7, none⟩ = some (.slice none 0 0) := by rw [Lib.cell_of_heap hr9]; rfl
            have q8 : W9.cell? ⟨w.heap.size, 8, none⟩ = some (.slice none 0 0) := by rw [Lib.cell_of_heap hr9]; rfl
            have q9 : W9.cell? ⟨w.heap.size, 9, none⟩ = some (.slice none 0 0) := by rw [Lib.cell_of_heap hr9]; rfl
            have H9 := Aside0.mk (And.intro hc8 (And.intro hr8 (And.intro hg9 (And.intro ha8 hr9))))
            clear hc8 hr8 hg9 ha8 hr9 hf9 hf9' hz7 hz8 hz78 hF hz5 hwz hRF
            go_wp2_with (fail)
            have hr := H9.out.2.2.2.2
            have r0 := heap_setCell_same W9 w.heap.size 0 _ 36 (.int .i64 ps.length) hr
            have r1 := heap_setCell_same _ w.heap.size 1 _ 36 (.slice A1' (keys ps).length k1) r0
            have r2 := heap_setCell_same _ w.heap.size 2 _ 36 (.slice A2' (keys ps).length k2) r1
            have r3 := heap_setCell_same _ w.heap.size 3 _ 36 (.int .i64 (at_ ps key)) r2
            have r4 := heap_setCell_same _ w.heap.size 4 _ 36 (.int .i64 (at_ ps key)) r3
            have r5 := heap_setCell_same _ w.heap.size 5 _ 36 (.bool (has_ ps key)) r4
            have r6 := heap_setCell_same _ w.heap.size 6 _ 36 (.bool (has_ ps key)) r5
            have r7 := heap_setCell_same _ w.heap.size 7 _ 36 (.slice A (sps ps).length c) r6
            have r8 := heap_setCell_same _ w.heap.size 8 _ 36 (.slice A8' (sps ps).length k8) r7
            have r9 := heap_setCell_same _ w.heap.size 9 _ 36 (.slice A9' (vals ps).length k9) r8
            simp only [zero36, List.setIfInBounds_toArray, List.set_cons_zero, List.set_cons_succ] at r9
            obtain ⟨WF, hWF⟩ : ∃ WF, ((((((((((W9.setCell ⟨w.heap.size, 0, none⟩ (.int .i64 ps.length)).setCell ⟨w.heap.size, 1, none⟩ (.slice A1' (keys ps).length k1)).setCell ⟨w.heap.size, 2, none⟩ (.slice A2' (keys ps).length k2)).setCell ⟨w.heap.size, 3, none⟩ (.int .i64 (at_ ps key))).setCell ⟨w.heap.size, 4, none⟩ (.int .i64 (at_ ps key))).setCell ⟨w.heap.size, 5, none⟩ (.bool (has_ ps key))).setCell ⟨w.heap.size, 6, none⟩ (.bool (has_ ps key))).setCell ⟨w.heap.size, 7, none⟩ (.slice A (sps ps).length c)).setCell ⟨w.heap.size, 8, none⟩ (.slice A8' (sps ps).length k8)).setCell ⟨w.heap.size, 9, none⟩ (.slice A9' (vals ps).length k9)) = WF := ⟨_, rfl⟩
            rw [hWF] at r9 ⊢
            have r9' := r9
            have hgF : W9.grownBy WF (some w.heap.size) := by
              have hgs : ∀ (W : World) (j : Nat) (u : Value), W.grownBy (W.setCell ⟨w.heap.size, j, none⟩ u) (some w.heap.size) := fun W j u => ⟨rfl, rfl, rfl, by simp [World.setCell], fun k _ hk => Below.heap_setCell _ _ _ k (fun e => hk (by rw [e]))⟩
              have ht : ∀ {a b c : World}, a.grownBy b (some w.heap.size) → b.grownBy c (some w.heap.size) → a.grownBy c (some w.heap.size) := fun h k => h.andThen k (fun j hj => .inr hj)
              rw [← hWF]
              exact ht (ht (ht (ht (ht (ht (ht (ht (ht (hgs _ _ _) (hgs _ _ _)) (hgs _ _ _)) (hgs _ _ _)) (hgs _ _ _)) (hgs _ _ _)) (hgs _ _ _)) (hgs _ _ _)) (hgs _ _ _)) (hgs _ _ _)
            clear hWF r0 r1 r2 r3 r4 r5 r6 r7 r8 r9 q0 q1 q2 q3 q4 q5 q6 q7 q8 q9 fz z0 z1 z2 z3 z4 z5 z6 z7 z8 z9
            have y0 : WF.cell? ⟨w.heap.size, 0, none⟩ = some (.int .i64 ps.length) := by rw [Lib.cell_of_heap r9']; rfl
            have y1 : WF.cell? ⟨w.heap.size, 1, none⟩ = some (.slice A1' (keys ps).length k1) := by rw [Lib.cell_of_heap r9']; rfl
            have y2 : WF.cell? ⟨w.heap.size, 2, none⟩ = some (.slice A2' (keys ps).length k2) := by rw [Lib.cell_of_heap r9']; rfl
            have y3 : WF.cell? ⟨w.heap.size, 3, none⟩ = some (.int .i64 (at_ ps key)) := by rw [Lib.cell_of_heap r9']; rfl
            have y4 : WF.cell? ⟨w.heap.size, 4, none⟩ = some (.int .i64 (at_ ps key)) := by rw [Lib.cell_of_heap r9']; rfl
            have y5 : WF.cell? ⟨w.heap.size, 5, none⟩ = some (.bool (has_ ps key)) := by rw [Lib.cell_of_heap r9']; rfl
            have y6 : WF.cell? ⟨w.heap.size, 6, none⟩ = some (.bool (has_ ps key)) := by rw [Lib.cell_of_heap r9']; rfl
            have y7 : WF.cell? ⟨w.heap.size, 7, none⟩ = some (.slice A (sps ps).length c) := by rw [Lib.cell_of_heap r9']; rfl
            have y8 : WF.cell? ⟨w.heap.size, 8, none⟩ = some (.slice A8' (sps ps).length k8) := by rw [Lib.cell_of_heap r9']; rfl
            have y9 : WF.cell? ⟨w.heap.size, 9, none⟩ = some (.slice A9' (vals ps).length k9) := by rw [Lib.cell_of_heap r9']; rfl
            refine bodyPost_ret (v := .agg #[.int .i64 ps.length, .slice A1' (keys ps).length k1, .slice A2' (keys ps).length k2, .int .i64 (at_ ps key), .int .i64 (at_ ps key), .bool (has_ ps key), .bool (has_ ps key), .slice A (sps ps).length c, .slice A8' (sps ps).length k8, .slice A9' (vals ps).length k9]) (by simp [results, go_sem, y0, y1, y2, y3, y4, y5, y6, y7, y8, y9]) rfl ?_
            rw [← HR.out.2.2.2]
            have hF := HF.out.2.2.2.1
            have hz5 := HF.out.2.2.2.2
            have hwz := (Array.getElem?_eq_some_iff.1 HR.out.1.rb).1
            have hz7 := HF7.out.2.2.1.size
            have hz8 := HL7.out.1.gr.size
            have hz78 := H8.out.2.2.size
            have hF7 := HF7.out.2.2.2
            have h57 := HF7.out.2.1
            have hsz57 := h57.size
            have hb59 : Below w5.heap.size w5 W9 := h57.trans ((H8.out.2.2.mono hsz57).trans ((below_grown HL7.out.1.gr (by omega) (fun k hk => by injection hk with hk; omega)).trans (below_grown H9.out.2.2.1 (by omega) (fun k hk => by injection hk with hk; omega))))
            have hRI : ∀ (ad : Addr), w.heap.size < ad.block → ad.block < W9.heap.size → WF.heap[ad.block]? = W9.heap[ad.block]? := fun ad h1 h2 => hgF.block _ h2 (fun e => by injection e with e; omega)
            have C1 := Kd.C_below (Kd.C_below (Kd.C_below HV1.out.2.2.1 HV2.out.2.1) HV9.out.1) hb59
            have C2 := Kd.C_below (Kd.C_below HV2.out.2.2.2.1 HV9.out.1) hb59
            have C9 := Kd.C_below HV9.out.2.2.1 hb59
            have C7 : Kd.C k29 W9 A (sps ps).length (sps ps) := CP_move HL7.out.2.2.1 (fun ad e hlt => H9.out.2.2.1.block _ hlt (fun e2 => by injection e2 with e2; have := HL7.out.2.2.2 ad e; omega))
            have C8 := H9.out.2.1
            have hz9 := H9.out.2.2.1.size
            refine ⟨A1', k1, A2', k2, A, c, A8', k8, A9', k9, by rw [List.length_mergeSort], ⟨HV1.out.2.1, CI_move C1 (fun ad e hlt => hRI ad (by have := HV1.out.2.2.2 ad e; omega) hlt)⟩, ⟨HV2.out.2.2.1, CI_move C2 (fun ad e hlt => hRI ad (by have := HV2.out.2.2.2.2 ad e; omega) hlt)⟩, ⟨HL7.out.2.1, CP_move C7 (fun ad e hlt => hRI ad (by have := HL7.out.2.2.2 ad e; omega) hlt)⟩, ⟨H9.out.1, CP_move C8 (fun ad e hlt => hRI ad (by have := H9.out.2.2.2.1 ad e; omega) hlt)⟩, ⟨HV9.out.2.1, CI_move C9 (fun ad e hlt => hRI ad (by have := HV9.out.2.2.2 ad e; omega) hlt)⟩, ?_⟩
            have hb79 : Below w.heap.size w W9 := HR.out.1.bl.trans ((HF7.out.2.2.1.mono (by omega)).trans ((H8.out.2.2.mono (by omega)).trans ((below_grown HL7.out.1.gr (by omega) (fun k hk => by injection hk with hk; omega)).trans (below_grown H9.out.2.2.1 (by omega) (fun k hk => by injection hk with hk; omega)))))
            exact hb79.trans (below_grown hgF (by omega) (fun k hk => by injection hk with hk; omega))
end Go.Proofs.Ytokdamfalhcnnaa.Pf
