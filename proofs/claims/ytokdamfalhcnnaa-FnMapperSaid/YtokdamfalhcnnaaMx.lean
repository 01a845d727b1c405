/- impl.mapped: one call on a map. -/
import Derived.Test.YtokdamfalhcnnaaMw
import Derived.Test.YtokdamfalhcnnaaWTab
namespace Go.Proofs.Ytokdamfalhcnnaa.Mx
open Go Go.Maps Go.ChangeMaps Go.MapKept Go.RowKit Go.Proofs.YtokdamfalhcnnaaW.PrintWords Go.Proofs.YtokdamfalhcnnaaW.PrintLast Go.Proofs.YtokdamfalhcnnaaW.PrintMore Mp Mq Mr Ms Mt Mu GMpBody Small Mv Mo Mw

set_option linter.all false
set_option maxRecDepth 1000000
set_option maxHeartbeats 4000000
variable {b : Nat} {w w' : World} {ps : List Pr} {d k v : Int} {A : Option Addr} {c : Nat} {l : List Int}
/-- the block of the call that is handed over -/
def box (d k v : Int) (A : Option Addr) (c : Nat) (l : List Int) : Obj := .cells #[.int .i64 d, .int .i64 k, .int .i64 v, .slice A l.length c] 32
/-- what a call of mapped leaves -/
def Post (b : Nat) (w : World) (qs : List Pr) (r : Ending) (w' : World) : Prop := ∃ b', r = .returned (.map (some b')) ∧ Mq b' w' qs ∧ w.grownBy w' (some b) ∧ (b' = b ∨ w.heap.size ≤ b')
-- TABLES
def T9 : Bool × List (List Nat × List Nat) := (true, [([], []), ([0], [0]), ([], []), ([2], [2]), ([], []), ([4], [4]), ([1, 3, 5, 1], [1, 3, 5])])
def B9 : List Nat := [0, 1, 0, 4, 0, 16, 63]
theorem tab9 : rtab .any (opsOf Try.f18 9) = T9 := by kernel_rfl
theorem bits9 : waitsOk T9.2 B9 = true := by kernel_rfl
-- END TABLES
theorem _root_.Go.Proofs.Ytokdamfalhcnnaa.Mq.Mq.drew (h : Mq b w ps) : Mq b w.drew ps := h.of_heap rfl
structure Rd (w : World) (k v : Int) (A : Option Addr) (c : Nat) (l : List Int) : Prop where
  rd : Kd.C (Kd.int .i64) w A l.length l
  le : l.length ≤ c
  lt : l.length < 9223372036854775807
  ik : In64 k
  iv : In64 v
theorem bx (h : Rd w k v A c l) (d : Int) : Bx (w.alloc (box d k v A c l)) w.heap.size d k v A c l :=
  ⟨heap_alloc_new w _, Kd.C_below h.rd ((Below.refl _ w).alloc (Nat.le_refl _) _), h.le, h.lt⟩
/-- the world behind the box -/
structure Wb (b : Nat) (w W : World) (d k v : Int) (A : Option Addr) (c : Nat) (l : List Int) (ps : List Pr) : Prop where
  bx : Bx W w.heap.size d k v A c l
  mq : Mq b W ps
  gr : w.grownBy W none
  bl : b < w.heap.size
  sz : W.heap.size = w.heap.size + 1
theorem wb (h : Mq b w ps) (hr : Rd w k v A c l) (d : Int) : Wb b w (w.alloc (box d k v A c l)) d k v A c l ps :=
  ⟨bx hr d, h.kept (World.grownBy_alloc w _ none) (by simp), World.grownBy_alloc w _ none, h.lt, by simp⟩
theorem Wb.cells {W : World} (h : Wb b w W d k v A c l ps) : W.cell? ⟨w.heap.size, 0, none⟩ = some (.int .i64 d) ∧ W.cell? ⟨w.heap.size, 1, none⟩ = some (.int .i64 k) ∧ W.cell? ⟨w.heap.size, 2, none⟩ = some (.int .i64 v) := by
  have := h.bx.own
  exact ⟨by rw [Lib.cell_of_heap this]; rfl, by rw [Lib.cell_of_heap this]; rfl, by rw [Lib.cell_of_heap this]; rfl⟩
theorem Wb.post {W : World} (h : Wb b w W d k v A c l ps) {b' : Nat} {qs : List Pr} {w' : World} (hq : Mq b' w' qs) (hg : W.grownBy w' (some b)) (hb : b' = b ∨ W.heap.size ≤ b') : Post b w qs (.returned (.map (some b'))) w' :=
  ⟨b', rfl, hq, (h.gr.but _).andThen hg (fun j hj => .inr hj), by rcases hb with hb | hb; exact .inl hb; exact .inr (by have := h.sz; omega)⟩
theorem Wb.postB {W : World} (h : Wb b w W d k v A c l ps) {b' : Nat} {qs : List Pr} {w' : World} (hq : Mq b' w' qs) (hg : Below W.heap.size W w') (hb : b' = b ∨ W.heap.size ≤ b') : Post b w qs (.returned (.map (some b'))) w' := h.post hq (grown_of_below hg _) hb
theorem op0 (h : Mq b w ps) (hs : Srt ps) (hl : ps.length ≤ 90000) (hr : Rd w k v A c l) : Calls Try.prog 18 #[.map (some b), .agg #[.int .i64 0, .int .i64 k, .int .i64 v, .slice A l.length c]] w (Post b w (ins ps (k, v))) := by
  have hW0 := wb h hr 0
  have hin := And.intro hr.ik hr.iv
  obtain ⟨W, hW⟩ : ∃ W, w.alloc (box 0 k v A c l) = W := ⟨_, rfl⟩
  rw [hW] at hW0
  obtain ⟨g0, g1, g2⟩ := hW0.cells
  have hu32 := Try.underlying32
  have c31 := set_m hW0.mq (by omega) k v hin.1 hin.2
  have hpi := put_ins (k, v) hs
  clear hs
  have H := Aside0.mk (And.intro hW0 (And.intro hl hin))
  unfold box at hW
  clear hW0 hl hin h hr
  go_enter Try.func18, Try.ntmps18
  go_wp2_with (first | fail | (go_at_call 31; refine c31.mono ?_; rintro e w1 ⟨rfl, hm1, hg1, hs1⟩; have H1 := Aside0.mk (And.intro hm1 hg1); clear hm1 hg1 hs1))
  go_ret
  exact H.out.1.post (H1.out.1.perm hpi) H1.out.2 (.inl rfl)
theorem op1 (h : Mq b w ps) (hl : ps.length ≤ 90000) (hr : Rd w k v A c l) : Calls Try.prog 18 #[.map (some b), .agg #[.int .i64 1, .int .i64 k, .int .i64 v, .slice A l.length c]] w (Post b w (del ps k)) := by
  have hW0 := wb h hr 1
  have hin := And.intro hr.ik hr.iv
  obtain ⟨W, hW⟩ : ∃ W, w.alloc (box 1 k v A c l) = W := ⟨_, rfl⟩
  rw [hW] at hW0
  obtain ⟨g0, g1, g2⟩ := hW0.cells
  have hu32 := Try.underlying32
  have c32 := delete_m hW0.mq k hin.1
  have H := Aside0.mk (And.intro hW0 (And.intro hl hin))
  unfold box at hW
  clear hW0 hl hin h hr
  go_enter Try.func18, Try.ntmps18
  go_wp2_with (first | fail | (go_at_call 32; refine c32.mono ?_; rintro e w1 ⟨rfl, hm1, hg1, hs1⟩; have H1 := Aside0.mk (And.intro hm1 hg1); clear hm1 hg1 hs1))
  go_ret
  exact H.out.1.post H1.out.1 H1.out.2 (.inl rfl)
theorem op2 (h : Mq b w ps) (hl : ps.length ≤ 90000) (hr : Rd w k v A c l) : Calls Try.prog 18 #[.map (some b), .agg #[.int .i64 2, .int .i64 k, .int .i64 v, .slice A l.length c]] w (Post b w ([])) := by
  have hW0 := wb h hr 2
  have hin := And.intro hr.ik hr.iv
  obtain ⟨W, hW⟩ : ∃ W, w.alloc (box 2 k v A c l) = W := ⟨_, rfl⟩
  rw [hW] at hW0
  obtain ⟨g0, g1, g2⟩ := hW0.cells
  have hu32 := Try.underlying32
  have c33 := clearT hW0.mq (by omega)
  have H := Aside0.mk (And.intro hW0 (And.intro hl hin))
  unfold box at hW
  clear hW0 hl hin h hr
  go_enter Try.func18, Try.ntmps18
  go_wp2_with (first | fail | (go_at_call 33; refine c33.mono ?_; rintro e w1 ⟨rfl, hm1, hg1⟩; have H1 := Aside0.mk (And.intro hm1 hg1); clear hm1 hg1))
  go_ret
  exact H.out.1.post H1.out.1 H1.out.2 (.inl rfl)
theorem op4 (h : Mq b w ps) (hl : ps.length ≤ 90000) (hr : Rd w k v A c l) : Calls Try.prog 18 #[.map (some b), .agg #[.int .i64 4, .int .i64 k, .int .i64 v, .slice A l.length c]] w (Post b w (ps)) := by
  have hW0 := wb h hr 4
  have hin := And.intro hr.ik hr.iv
  obtain ⟨W, hW⟩ : ∃ W, w.alloc (box 4 k v A c l) = W := ⟨_, rfl⟩
  rw [hW] at hW0
  obtain ⟨g0, g1, g2⟩ := hW0.cells
  have hu32 := Try.underlying32
  have c34 := cloneT hW0.mq (by omega)
  have H := Aside0.mk (And.intro hW0 (And.intro hl hin))
  unfold box at hW
  clear hW0 hl hin h hr
  go_enter Try.func18, Try.ntmps18
  go_wp2_with (first | fail | (go_at_call 34; refine c34.mono ?_; rintro e w1 ⟨rfl, hm1, hg1⟩; have H1 := Aside0.mk (And.intro hm1 hg1); clear hm1 hg1))
  go_ret
  exact H.out.1.postB H1.out.1 H1.out.2 (.inr (Nat.le_refl _))
theorem op5 (h : Mq b w ps) (hl : ps.length ≤ 90000) (hr : Rd w k v A c l) : Calls Try.prog 18 #[.map (some b), .agg #[.int .i64 5, .int .i64 k, .int .i64 v, .slice A l.length c]] w (Post b w (ps.filter (lets v l))) := by
  have hW0 := wb h hr 5
  have hin := And.intro hr.ik hr.iv
  obtain ⟨W, hW⟩ : ∃ W, w.alloc (box 5 k v A c l) = W := ⟨_, rfl⟩
  rw [hW] at hW0
  obtain ⟨g0, g1, g2⟩ := hW0.cells
  have hu32 := Try.underlying32
  have c35 := filterT hW0.mq (by omega) hW0.bx
  have H := Aside0.mk (And.intro hW0 (And.intro hl hin))
  unfold box at hW
  clear hW0 hl hin h hr
  go_enter Try.func18, Try.ntmps18
  go_wp2_with (first | fail | (go_at_call 35; refine c35.mono ?_; rintro e w1 ⟨rfl, hm1, hg1⟩; have H1 := Aside0.mk (And.intro hm1 hg1); clear hm1 hg1))
  go_ret
  exact H.out.1.postB H1.out.1 H1.out.2 (.inr (Nat.le_refl _))
theorem op6 (h : Mq b w ps) (hl : ps.length ≤ 90000) (hr : Rd w k v A c l) : Calls Try.prog 18 #[.map (some b), .agg #[.int .i64 6, .int .i64 k, .int .i64 v, .slice A l.length c]] w (Post b w (ps.map (adds v))) := by
  have hW0 := wb h hr 6
  have hin := And.intro hr.ik hr.iv
  obtain ⟨W, hW⟩ : ∃ W, w.alloc (box 6 k v A c l) = W := ⟨_, rfl⟩
  rw [hW] at hW0
  obtain ⟨g0, g1, g2⟩ := hW0.cells
  have hu32 := Try.underlying32
  have c38 := mapValuesT hW0.mq (by omega) hW0.bx
  have H := Aside0.mk (And.intro hW0 (And.intro hl hin))
  unfold box at hW
  clear hW0 hl hin h hr
  go_enter Try.func18, Try.ntmps18
  go_wp2_with (first | fail | (go_at_call 38; refine c38.mono ?_; rintro e w1 ⟨rfl, hm1, hg1⟩; have H1 := Aside0.mk (And.intro hm1 hg1); clear hm1 hg1))
  go_ret
  exact H.out.1.postB H1.out.1 H1.out.2 (.inr (Nat.le_refl _))
theorem op7 (h : Mq b w ps) (hl : ps.length ≤ 90000) (hr : Rd w k v A c l) : Calls Try.prog 18 #[.map (some b), .agg #[.int .i64 7, .int .i64 k, .int .i64 v, .slice A l.length c]] w (Post b w (ps)) := by
  have hW0 := wb h hr 7
  have hin := And.intro hr.ik hr.iv
  obtain ⟨W, hW⟩ : ∃ W, w.alloc (box 7 k v A c l) = W := ⟨_, rfl⟩
  rw [hW] at hW0
  obtain ⟨g0, g1, g2⟩ := hW0.cells
  have hu32 := Try.underlying32
  have c27 := slicerT hW0.mq (by omega)
  have H := Aside0.mk (And.intro hW0 (And.intro hl hin))
  unfold box at hW
  clear hW0 hl hin h hr
  go_enter Try.func18, Try.ntmps18
  go_wp2_with (first | fail | (go_at_call 27; refine c27.mono ?_; rintro e w1 ⟨v1, ds, rfl, hp1, hr1, hb1⟩; have hnd : (keys ds).Nodup := (hp1.map Prod.fst).nodup_iff.2 H.out.1.mq.nk; have c40 := toMapT ds hr1 hnd (fun e he => H.out.1.mq.wk e (hp1.mem_iff.1 he)) (by rw [hp1.length_eq]; have := H.out.2.1; omega); have H1 := Aside0.mk (And.intro hp1 hb1); clear hp1 hb1 hr1 hnd c27) | (go_at_call 40; refine c40.mono ?_; rintro e w2 ⟨rfl, hm2, hb2⟩; have H2 := Aside0.mk (And.intro hm2 hb2); clear hm2 hb2 c40))
  go_ret
  exact H.out.1.postB (H2.out.1.perm H1.out.1) (H1.out.2.trans (H2.out.2.mono H1.out.2.size)) (.inr H1.out.2.size)
theorem op3 (h : Mq b w ps) (hl : ps.length ≤ 90000) (hr : Rd w k v A c l) : Calls Try.prog 18 #[.map (some b), .agg #[.int .i64 3, .int .i64 k, .int .i64 v, .slice A l.length c]] w (Post b w (ps)) := by
  have hW0 := wb h hr 3
  have hin := And.intro hr.ik hr.iv
  obtain ⟨W, hW⟩ : ∃ W, w.alloc (box 3 k v A c l) = W := ⟨_, rfl⟩
  rw [hW] at hW0
  obtain ⟨g0, g1, g2⟩ := hW0.cells
  have hu32 := Try.underlying32
  have c34 := cloneT hW0.mq (by omega)
  have hW1 := hW0
  have H := Aside0.mk (And.intro hW0 (And.intro hl hin))
  unfold box at hW
  clear hW0 hl hin h hr
  go_enter Try.func18, Try.ntmps18
  go_wp2_with (fail)
  have S0 : Aside0 (W.cell? ⟨w.heap.size, 1, none⟩ = some (.int .i64 k) ∧ W.cell? ⟨w.heap.size, 2, none⟩ = some (.int .i64 v)) := ⟨⟨g1, g2⟩⟩
  clear g0 g1 g2 hW1
  -- REGION 9
  refine start_ (n := 7) (S := fun w' => w'.cell? ⟨w.heap.size, 1, none⟩ = some (.int .i64 k) ∧ w'.cell? ⟨w.heap.size, 2, none⟩ = some (.int .i64 v)) (ds := []) #[false, false, false, false, false, false, false] (by kernel_rfl) rfl rfl S0.out (fun hHeld => ?_); refine with_tabW tab9 bits9 (fun HT_ HW_ => ?_)
  refine pure_ (i := 0) (N := some 27) (v := ?_) (a' := ?_) #[true, false, false, false, false, false, false] rfl rfl (any_of HT_.out (by kernel_rfl)) (fun _ _ _ h => h) (Or.inl ⟨by rfl, ?_⟩) ?_ ?_
  rotate_left
  · intro w'
    go_simp
    with_reducible rfl
  rotate_left
  · simp only [Act.put, List.setIfInBounds_toArray, List.set_cons_zero, List.set_cons_succ, i64_w, i32_w]
    rfl
  refine pure_ (i := 2) (N := some 29) (v := ?_) (a' := ?_) #[true, false, true, false, false, false, false] rfl rfl (any_of HT_.out (by kernel_rfl)) (fun _ _ _ h => h) (Or.inl ⟨by rfl, ?_⟩) ?_ ?_
  rotate_left
  · intro w'
    go_simp
    with_reducible rfl
  rotate_left
  · simp only [Act.put, List.setIfInBounds_toArray, List.set_cons_zero, List.set_cons_succ, i64_w, i32_w]
    rfl
  refine take_ (i := 3) (N := some 30) (v := ?_) (a' := ?_) #[true, false, true, true, false, false, false] rfl rfl (take_ofW HT_.out HW_.out (by kernel_rfl)) (fun _ _ _ h => h) (Or.inl ⟨by rfl, ?_⟩) hHeld ?_ ?_
  rotate_left
  · rintro w' ⟨s1, s2⟩
    go_simp
    with_reducible rfl
  rotate_left
  · simp only [Act.put, List.setIfInBounds_toArray, List.set_cons_zero, List.set_cons_succ, i64_w, i32_w]
    rfl
  refine pure_ (i := 4) (N := some 31) (v := ?_) (a' := ?_) #[true, false, true, true, true, false, false] rfl rfl (any_of HT_.out (by kernel_rfl)) (fun _ _ _ h => h) (Or.inl ⟨by rfl, ?_⟩) ?_ ?_
  rotate_left
  · intro w'
    go_simp
    with_reducible rfl
  rotate_left
  · simp only [Act.put, List.setIfInBounds_toArray, List.set_cons_zero, List.set_cons_succ, i64_w, i32_w]
    rfl
  refine take_ (i := 5) (N := some 32) (v := ?_) (a' := ?_) #[true, false, true, true, true, true, false] rfl rfl (take_ofW HT_.out HW_.out (by kernel_rfl)) (fun _ _ _ h => h) (Or.inl ⟨by rfl, ?_⟩) hHeld ?_ ?_
  rotate_left
  · rintro w' ⟨s1, s2⟩
    go_simp
    with_reducible rfl
  rotate_left
  · simp only [Act.put, List.setIfInBounds_toArray, List.set_cons_zero, List.set_cons_succ, i64_w, i32_w]
    rfl
  refine one_ (i := 1) (N := some 28) #[true, true, true, true, true, true, false] rfl rfl (one_of HT_.out (by kernel_rfl)) (by decide) (fun Kc hKc => ?_)
  refine goes_ Try.func34 (by kernel_rfl) rfl #[.map (some b)] (by rfl) rfl rfl (by (try simp only [List.map_toArray, List.map_cons, List.map_nil]); first | done | rfl) ?_
  refine (cloneT H.out.1.mq.drew (by have := H.out.2.1; omega)).mono ?_
  rintro e w1 ⟨rfl, hm1, hb1⟩
  refine ⟨_, rfl, ?_⟩
  have hlt : w.heap.size < W.drew.heap.size := by have := H.out.1.sz; have h3 : W.drew.heap.size = W.heap.size := rfl; omega
  have SB : Aside0 (w1.cell? ⟨w.heap.size, 1, none⟩ = some (.int .i64 k) ∧ w1.cell? ⟨w.heap.size, 2, none⟩ = some (.int .i64 v)) := ⟨⟨(hb1.cell (p := ⟨w.heap.size, 1, none⟩) hlt).trans S0.out.1, (hb1.cell (p := ⟨w.heap.size, 2, none⟩) hlt).trans S0.out.2⟩⟩
  have c31 := set_m hm1 (by have := H.out.2.1; omega) k v H.out.2.2.1 H.out.2.2.2
  have HB1 := Aside0.mk hb1
  clear hb1 hm1 c34 hlt
  refine hKc.out _ _ SB.out (fun hHeld => ?_)
  clear hKc Kc
  refine norm_ (a' := ?_) ?_ ?_
  rotate_left
  · show Act.put _ (some 28) _ = _
    simp only [Act.put, List.setIfInBounds_toArray, List.set_cons_zero, List.set_cons_succ, i64_w, i32_w]
    rfl
  refine one_ (i := 6) (N := some 33) #[true, true, true, true, true, true, true] rfl rfl (one_of HT_.out (by kernel_rfl)) (by decide) (fun Kc hKc => ?_)
  refine goes_ Try.func31 (by kernel_rfl) rfl #[.map (some W.drew.heap.size), .int .i64 k, .int .i64 v] (by rfl) rfl rfl (by (try simp only [List.map_toArray, List.map_cons, List.map_nil]); first | done | rfl) ?_
  refine (c31).mono ?_
  rintro e w2 ⟨rfl, hm2, hg2, hs2⟩
  refine ⟨_, rfl, ?_⟩
  have hz1 := HB1.out.size
  have hlt : w.heap.size < w1.heap.size := by have := H.out.1.sz; have h3 : W.drew.heap.size = W.heap.size := rfl; omega
  have hne : some w.heap.size ≠ some W.drew.heap.size := by have := H.out.1.sz; have h3 : W.drew.heap.size = W.heap.size := rfl; simp; omega
  have hk2 : ∀ j, w2.cell? ⟨w.heap.size, j, none⟩ = w1.cell? ⟨w.heap.size, j, none⟩ := fun j => by unfold World.cell?; rw [hg2.block w.heap.size hlt hne]
  have SC : Aside0 (w2.cell? ⟨w.heap.size, 1, none⟩ = some (.int .i64 k) ∧ w2.cell? ⟨w.heap.size, 2, none⟩ = some (.int .i64 v)) := ⟨⟨(hk2 1).trans SB.out.1, (hk2 2).trans SB.out.2⟩⟩
  have H2 := Aside0.mk hg2
  clear hg2 hm2 hs2 hk2 hz1 hlt hne c31
  refine hKc.out _ _ SC.out (fun hHeld => ?_)
  clear hKc Kc
  refine norm_ (a' := ?_) ?_ ?_
  rotate_left
  · show Act.put _ (some 33) _ = _
    simp only [Act.put, List.setIfInBounds_toArray, List.set_cons_zero, List.set_cons_succ, i64_w, i32_w]
    rfl
  refine done_ (done_of HT_.out (by kernel_rfl)) ?_
  -- END REGION 9
  go_wp2_with (fail)
  go_ret
  have hgW : W.grownBy w2 (some b) := by
    have h1 : W.grownBy w1 (some b) := ⟨HB1.out.os, HB1.out.tape, HB1.out.output, HB1.out.size, fun i hi _ => HB1.out.block i hi⟩
    exact h1.andThen H2.out (fun j hj => by injection hj with hj; left; rw [← hj]; exact Nat.le_refl _)
  have hmW : Mq b w2 ps := by
    have h1 : Mq b w1 ps := H.out.1.mq.of_heap (HB1.out.block b H.out.1.mq.lt)
    exact h1.kept H2.out (by have := H.out.1.bl; have := H.out.1.sz; have h3 : W.drew.heap.size = W.heap.size := rfl; simp; omega)
  exact H.out.1.post hmW hgW (.inl rfl)
theorem nil0 (hr : Rd w k v A c l) : Calls Try.prog 18 #[.map none, .agg #[.int .i64 0, .int .i64 k, .int .i64 v, .slice A l.length c]] w fun r w' => r = .returned (.map none) ∧ Below w.heap.size w w' := by
  obtain ⟨W, hW⟩ : ∃ W, w.alloc (box 0 k v A c l) = W := ⟨_, rfl⟩
  have hX := bx hr 0
  rw [hW] at hX
  have g0 : W.cell? ⟨w.heap.size, 0, none⟩ = some (.int .i64 0) := by rw [Lib.cell_of_heap hX.own]; rfl
  have g1 : W.cell? ⟨w.heap.size, 1, none⟩ = some (.int .i64 k) := by rw [Lib.cell_of_heap hX.own]; rfl
  have g2 : W.cell? ⟨w.heap.size, 2, none⟩ = some (.int .i64 v) := by rw [Lib.cell_of_heap hX.own]; rfl
  have hb : Below w.heap.size w W := by rw [← hW]; exact (Below.refl _ w).alloc (Nat.le_refl _) _
  have hu32 := Try.underlying32
  have cN := set_nil W k v
  have H := Aside0.mk hb
  unfold box at hW
  clear hX hb hr
  go_enter Try.func18, Try.ntmps18
  go_wp2_with (first | (go_at_call 31; refine cN.mono ?_; rintro e w1 ⟨rfl, hw⟩; rw [hw]; clear hw w1))
  go_ret
  exact ⟨rfl, H.out⟩
theorem nil1 (hr : Rd w k v A c l) : Calls Try.prog 18 #[.map none, .agg #[.int .i64 1, .int .i64 k, .int .i64 v, .slice A l.length c]] w fun r w' => r = .returned (.map none) ∧ Below w.heap.size w w' := by
  obtain ⟨W, hW⟩ : ∃ W, w.alloc (box 1 k v A c l) = W := ⟨_, rfl⟩
  have hX := bx hr 1
  rw [hW] at hX
  have g0 : W.cell? ⟨w.heap.size, 0, none⟩ = some (.int .i64 1) := by rw [Lib.cell_of_heap hX.own]; rfl
  have g1 : W.cell? ⟨w.heap.size, 1, none⟩ = some (.int .i64 k) := by rw [Lib.cell_of_heap hX.own]; rfl
  have g2 : W.cell? ⟨w.heap.size, 2, none⟩ = some (.int .i64 v) := by rw [Lib.cell_of_heap hX.own]; rfl
  have hb : Below w.heap.size w W := by rw [← hW]; exact (Below.refl _ w).alloc (Nat.le_refl _) _
  have hu32 := Try.underlying32
  have cN := delete_nil W k
  have H := Aside0.mk hb
  unfold box at hW
  clear hX hb hr
  go_enter Try.func18, Try.ntmps18
  go_wp2_with (first | (go_at_call 32; refine cN.mono ?_; rintro e w1 ⟨rfl, hw⟩; rw [hw]; clear hw w1))
  go_ret
  exact ⟨rfl, H.out⟩
/-- what a call does to the pairs -/
def doneP (ps : List Pr) (d k v : Int) (l : List Int) : List Pr := if d = 0 then ins ps (k, v) else if d = 1 then del ps k else if d = 2 then [] else if d = 5 then ps.filter (lets v l) else if d = 6 then ps.map (adds v) else ps
theorem srt_done {ps : List Pr} (h : Srt ps) (d k v : Int) (l : List Int) : Srt (doneP ps d k v l) := by
  unfold doneP
  split
  · exact srt_ins _ h
  · split
    · exact srt_filter h _
    · split
      · exact List.Pairwise.nil
      · split
        · exact srt_filter h _
        · split
          · exact List.pairwise_map.2 h
          · exact h
theorem len_done (ps : List Pr) (d k v : Int) (l : List Int) : (doneP ps d k v l).length ≤ ps.length + 1 := by
  unfold doneP
  split
  · exact len_ins _ _
  · split
    · have := List.length_filter_le (fun e : Pr => decide (e.1 ≠ k)) ps
      unfold del; omega
    · split
      · simp
      · split
        · have := List.length_filter_le (lets v l) ps
          omega
        · split
          · simp
          · omega
theorem mappedT (h : Mq b w ps) (hs : Srt ps) (hl : ps.length ≤ 90000) (hr : Rd w k v A c l) (hd : 0 ≤ d ∧ d ≤ 7) : Calls Try.prog 18 #[.map (some b), .agg #[.int .i64 d, .int .i64 k, .int .i64 v, .slice A l.length c]] w (Post b w (doneP ps d k v l)) := by
  have h8 : d = 0 ∨ d = 1 ∨ d = 2 ∨ d = 3 ∨ d = 4 ∨ d = 5 ∨ d = 6 ∨ d = 7 := by omega
  rcases h8 with rfl | rfl | rfl | rfl | rfl | rfl | rfl | rfl
  · exact op0 h hs hl hr
  · exact op1 h hl hr
  · exact op2 h hl hr
  · exact op3 h hl hr
  · exact op4 h hl hr
  · exact op5 h hl hr
  · exact op6 h hl hr
  · exact op7 h hl hr
theorem mappedN (hr : Rd w k v A c l) (hd : 0 ≤ d ∧ d ≤ 1) : Calls Try.prog 18 #[.map none, .agg #[.int .i64 d, .int .i64 k, .int .i64 v, .slice A l.length c]] w fun r w' => r = .returned (.map none) ∧ Below w.heap.size w w' := by
  have h8 : d = 0 ∨ d = 1 := by omega
  rcases h8 with rfl | rfl
  · exact nil0 hr
  · exact nil1 hr
end Go.Proofs.Ytokdamfalhcnnaa.Mx
