/- MapValues; a map out of pairs, out of keys. -/
import Derived.Test.YtokdamfalhcnnaaMo
namespace Go.Proofs.Ytokdamfalhcnnaa.Mw
open Go Go.Maps Go.ChangeMaps Go.MapKept Go.RowKit Go.Proofs.YtokdamfalhcnnaaW.PrintWords Go.Proofs.YtokdamfalhcnnaaW.PrintLast Go.Proofs.YtokdamfalhcnnaaW.PrintMore Mp Mq Mr Ms Mt Mu GMpBody Small Mv Mo

set_option linter.all false
set_option maxRecDepth 1000000
set_option maxHeartbeats 4000000
variable {b G : Nat} {w w' : World} {ps : List Pr} {d k v : Int} {A : Option Addr} {c : Nat} {l : List Int}
def adds (v : Int) (p : Pr) : Pr := (p.1, wrap64 (p.2 + v))
theorem wrap_64 (x : Int) : In64 (wrap64 x) := by unfold In64 wrap64; omega
theorem keys_adds (v : Int) (ds : List Pr) : keys (ds.map (adds v)) = keys ds := by unfold keys; rw [List.map_map]; rfl
theorem mapValuesT (h : Mq b w ps) (hl : ps.length ≤ 100000) (hx : Bx w G d k v A c l) : Calls Try.prog 38 #[.map (some b), .func (.func 39) #[] #[.pointer (some ⟨G, 0, none⟩)]] w fun r w' => r = .returned (.map (some w.heap.size)) ∧ Mq w.heap.size w' (ps.map (adds v)) ∧ Below w.heap.size w w' := by
  obtain ⟨W, hW⟩ : ∃ W, w.alloc (.map #[] 0) = W := ⟨_, rfl⟩
  have hb := h.lt
  have hM0 : Mq w.heap.size W [] := by rw [← hW]; exact made_of (heap_alloc_new w _)
  have hg0 : w.grownBy W none := by rw [← hW]; exact World.grownBy_alloc w _ none
  have hsW : W.heap.size = w.heap.size + 1 := by rw [← hW]; simp
  have hmW : Mq b W ps := h.kept hg0 (by simp)
  have HL := Aside0.mk (And.intro hl (And.intro hb (And.intro hsW hx)))
  have c15 := newMapper w
  rw [hW] at c15
  clear h hW hsW hb hx
  go_enter Try.func38, Try.ntmps38
  go_wp2_with (first | (go_at_call 15; refine c15.mono ?_; rintro e w1 ⟨rfl, hw1⟩; rw [hw1]; clear hw1 w1) | (refine range_ _ rfl _ rfl rfl hmW ?_; intro w0 hr0 hg1 hs1; have H0 := Aside0.mk (And.intro hr0 (And.intro hg1 hs1)); clear hr0 hg1 hs1))
  go_frame
  have hS0 : St w.heap.size b W.heap.size w w0 ps [] ps := ⟨H0.out.1, (below_grown hg0 (Nat.le_refl _) (fun k hk => by cases hk)).trans (below_grown H0.out.2.1 hg0.size (fun k hk => by cases hk)), List.Perm.refl _, HL.out.2.1, hg0.size⟩
  have hM1 : Mq w.heap.size w0 [] := hM0.kept H0.out.2.1 (by simp)
  have HS := Aside0.mk (And.intro hS0 hM1)
  clear hS0 hM1 hM0 hmW hg0 c15
  go_loopg [6, 7] ps.length (fun gk v6 v7 wx => ∃ ds rem, St w.heap.size b W.heap.size w wx ps ds rem ∧ Mq w.heap.size wx (ds.map (adds v)) ∧ rem.length ≤ gk)
  case atStart => exact ⟨[], ps, HS.out.1, HS.out.2, Nat.le_refl _⟩
  case round =>
    obtain ⟨ds, rem, hP, hmp, hlen⟩ := hrel
    have HP := Aside0.mk (And.intro hP (And.intro hmp hlen))
    have hrg := hP.rg
    clear hP hmp hlen
    go_wp2_with (first | (refine next_ _ rfl _ rfl rfl hrg ?_ ?_))
    · intro hrem
      subst hrem
      clear hrg
      go_wp2_with (fail)
      go_ret
      exact ⟨rfl, HP.out.2.1.perm (by have := HP.out.1.pm; exact List.Perm.map _ (by simpa using this)), HP.out.1.bl⟩
    · intro x y r1 r2 w1 hrem hrg1 hg1 hs1 hen
      have hB := HP.out.1.le (Nat.le_refl _)
      have hS1 := HP.out.1.next hrem hrg1 hg1 hB
      have hmp1 : Mq w.heap.size w1 (ds.map (adds v)) := HP.out.2.1.kept hg1 (by have := HL.out.2.2.1; simp; omega)
      have c39 := lit2 (HL.out.2.2.2.below hS1.bl) y
      have hls := HP.out.1.lens
      have hps := HL.out.1
      have hin := HP.out.1.rg.wk _ (HP.out.1.mem hrem)
      have hlr : rem.length = (r1 ++ r2).length + 1 := by rw [hrem]; simp; omega
      obtain ⟨w6, hrun, hm6, hg6, hs6⟩ := hmp1.set (by unfold maxLen; simp; omega) x (wrap64 (y + v)) hin.1 (wrap_64 _)
      have hS6 := hS1.go hg6 (hS1.le (Nat.le_refl _)) (fun k hk => by injection hk with hk; have := HL.out.2.2.1; exact ⟨by omega, by omega⟩)
      have hm7 : Mq w.heap.size w6 ((ds ++ [(x, y)]).map (adds v)) := by
        rw [List.map_append]
        refine hm6.perm (put_new (fun e he hx => ?_))
        obtain ⟨e', he', rfl⟩ := List.mem_map.1 he
        exact HP.out.1.fresh hrem e' he' hx
      obtain ⟨g', rfl⟩ : ∃ g', gk = g' + 1 := ⟨gk - 1, by have := HP.out.2.2; omega⟩
      have HQ := Aside0.mk (And.intro hS6 (And.intro hm7 hlr))
      clear hS1 hmp1 hg1 hs1 hrg1 hB hrg hls hlr hps hrem hin hm6 hg6 hs6 hS6 hm7
      go_wp2_with (first | (go_at_call 39; refine c39.mono ?_; rintro e w2 ⟨rfl, hw2⟩; rw [hw2]; clear hw2 w2))
      go_roundg g'
      case measure => exact Nat.lt_succ_self _
      case rel => exact ⟨_, _, HQ.out.1, HQ.out.2.1, by have := HP.out.2.2; have := HQ.out.2.2; omega⟩
theorem keys_at (ks : List Int) (j : Nat) (h : j < ks.length) : ks.take (j + 1) = ks.take j ++ [ks[j]] := List.take_succ_eq_append_getElem h
theorem newKeysT (ks : List Int) (hr : Kd.C (Kd.int .i64) w A ks.length ks) (hl : ks.length ≤ 100000) (hk : ∀ x ∈ ks, In64 x) : Calls Try.prog 16 #[.slice A ks.length c] w fun r w' => r = .returned (.map (some w.heap.size)) ∧ Mq w.heap.size w' (build (fun _ => 0) ks) ∧ Below w.heap.size w w' := by
  have hm := makeMn (ks.length : Int) w
  obtain ⟨W, hW⟩ : ∃ W, w.alloc (.map #[] 0) = W := ⟨_, rfl⟩
  have hM0 : Mq w.heap.size W [] := by rw [← hW]; exact made_of (heap_alloc_new w _)
  have hb0 : Below w.heap.size w W := by rw [← hW]; exact (Below.refl _ w).alloc (Nat.le_refl _) _
  rw [hW] at hm
  have HL := Aside0.mk (And.intro hr (And.intro hl (And.intro hk (And.intro hM0 hb0))))
  clear hr hl hk hM0 hb0 hW
  go_enter Try.func16, Try.ntmps16
  go_wp2
  (try simp only [Act.put, List.setIfInBounds_toArray, List.set_cons_zero, List.set_cons_succ])
  go_loopg [5, 11] ks.length (fun gk v5 v11 wx => ∃ j : Nat, v11 = .int .i64 (j : Int) ∧ j ≤ ks.length ∧ Mq w.heap.size wx (build (fun _ => 0) (ks.take j)) ∧ Below w.heap.size w wx ∧ ks.length - j ≤ gk)
  case atStart => exact ⟨0, rfl, Nat.zero_le _, HL.out.2.2.2.1, HL.out.2.2.2.2, Nat.le_refl _⟩
  case round =>
    obtain ⟨j, rfl, hj, hmp, hbl, hlen⟩ := hrel
    have hl := HL.out.2.1
    by_cases hd : j < ks.length
    · have c3 : decide ((j : Int) < (ks.length : Int)) = true := decide_eq_true (by omega)
      obtain ⟨ad, e, hx⟩ := Kd.at_int (Kd.C_below HL.out.1 hbl) (j : Int) (by omega) (by omega)
      cases e
      rw [rd_nat, getD_at _ _ _ hd, Int.toNat_natCast] at hx
      have hin := HL.out.2.2.1 _ (List.getElem_mem hd)
      obtain ⟨w0, hw0⟩ : ∃ w0, wr.alloc (.cells #[.int .i64 0] 3) = w0 := ⟨_, rfl⟩
      have hg0 : wr.grownBy w0 none := by rw [← hw0]; exact World.grownBy_alloc wr _ none
      have hm1 : Mq w.heap.size w0 (build (fun _ => 0) (ks.take j)) := hmp.kept hg0 (by simp)
      have hbl0 := build_len (fun _ => 0) (ks.take j)
      obtain ⟨w6, hrun, hm6, hg6, hs6⟩ := hm1.set (by have : (ks.take j).length ≤ j := List.length_take_le _ _; unfold maxLen; omega) ks[j] 0 hin (by unfold In64; omega)
      have hm7 : Mq w.heap.size w6 (build (fun _ => 0) (ks.take (j + 1))) := by
        rw [keys_at _ _ hd, build_snoc]
        exact hm6.perm (put_ins _ (build_srt _ _))
      have hb7 : Below w.heap.size w w6 := hbl.trans ((below_grown hg0 hbl.size (fun k hk => by cases hk)).trans (below_grown hg6 (Nat.le_trans hbl.size hg0.size) (fun k hk => by injection hk with hk; omega)))
      have p1 := eq_true (show 0 ≤ (j : Int) by omega)
      have q1 := eq_true (show (j : Int) < (ks.length : Int) by omega)
      have hwj := wrap_succ j (by omega)
      obtain ⟨g', rfl⟩ : ∃ g', gk = g' + 1 := ⟨gk - 1, by omega⟩
      have HQ := Aside0.mk (And.intro hm7 (And.intro hb7 (And.intro hlen (And.intro hd hwj))))
      rw [← hw0] at hrun
      clear hmp hbl hlen hm1 hm6 hg0 hw0 hg6 hs6 hm7 hb7 hin hbl0 hj hl hwj
      go_wp2_with (fail)
      go_roundg g'
      case measure => exact Nat.lt_succ_self _
      case rel => exact ⟨j + 1, by simp only [HQ.out.2.2.2.2], HQ.out.2.2.2.1, HQ.out.1, HQ.out.2.1, by have := HQ.out.2.2.1; omega⟩
    · have c3 : decide ((j : Int) < (ks.length : Int)) = false := decide_eq_false (by omega)
      obtain rfl : j = ks.length := by omega
      rw [List.take_length] at hmp
      have HQ := Aside0.mk (And.intro hmp hbl)
      clear hmp hbl hlen hd hj hl
      go_wp2_with (fail)
      go_ret
      exact ⟨rfl, HQ.out⟩
theorem identityT (ks : List Int) (hr : Kd.C (Kd.int .i64) w A ks.length ks) (hp : 0 < ks.length) (hl : ks.length ≤ 100000) (hk : ∀ x ∈ ks, In64 x) : Calls Try.prog 17 #[.slice A ks.length c] w fun r w' => r = .returned (.map (some w.heap.size)) ∧ Mq w.heap.size w' (build (fun x => x) ks) ∧ Below w.heap.size w w' := by
  have hE : ((ks.length : Int) == 0) = false := beq_eq_false_iff_ne.mpr (by omega)
  obtain ⟨W, hW⟩ : ∃ W, w.alloc (.map #[] 0) = W := ⟨_, rfl⟩
  have hM0 : Mq w.heap.size W [] := by rw [← hW]; exact made_of (heap_alloc_new w _)
  have hb0 : Below w.heap.size w W := by rw [← hW]; exact (Below.refl _ w).alloc (Nat.le_refl _) _
  have c15 := newMapper w
  rw [hW] at c15
  have HL := Aside0.mk (And.intro hr (And.intro hl (And.intro hk (And.intro hM0 hb0))))
  clear hr hl hk hM0 hb0 hW
  clear hp
  go_enter Try.func17, Try.ntmps17
  go_wp2_with (first | (go_at_call 15; refine c15.mono ?_; rintro e w1 ⟨rfl, hw1⟩; rw [hw1]; clear hw1 w1))
  clear c15
  (try simp only [Act.put, List.setIfInBounds_toArray, List.set_cons_zero, List.set_cons_succ])
  go_loopg [5, 12] ks.length (fun gk v5 v12 wx => ∃ j : Nat, v12 = .int .i64 (j : Int) ∧ j ≤ ks.length ∧ Mq w.heap.size wx (build (fun x => x) (ks.take j)) ∧ Below w.heap.size w wx ∧ ks.length - j ≤ gk)
  case atStart => exact ⟨0, rfl, Nat.zero_le _, HL.out.2.2.2.1, HL.out.2.2.2.2, Nat.le_refl _⟩
  case round =>
    obtain ⟨j, rfl, hj, hmp, hbl, hlen⟩ := hrel
    have hl := HL.out.2.1
    by_cases hd : j < ks.length
    · have c3 : decide ((j : Int) < (ks.length : Int)) = true := decide_eq_true (by omega)
      obtain ⟨ad, e, hx⟩ := Kd.at_int (Kd.C_below HL.out.1 hbl) (j : Int) (by omega) (by omega)
      cases e
      rw [rd_nat, getD_at _ _ _ hd, Int.toNat_natCast] at hx
      have hin := HL.out.2.2.1 _ (List.getElem_mem hd)
      have hbl0 := build_len (fun x => x) (ks.take j)
      have c31 := set_m hmp (by have : (ks.take j).length ≤ j := List.length_take_le _ _; omega) ks[j] ks[j] hin hin
      have p1 := eq_true (show 0 ≤ (j : Int) by omega)
      have q1 := eq_true (show (j : Int) < (ks.length : Int) by omega)
      have hwj := wrap_succ j (by omega)
      obtain ⟨g', rfl⟩ : ∃ g', gk = g' + 1 := ⟨gk - 1, by omega⟩
      have HQ := Aside0.mk (And.intro hbl (And.intro hlen (And.intro hd hwj)))
      clear hmp hbl hlen hin hbl0 hj hl hwj
      go_wp2_with (first | (go_at_call 31; refine c31.mono ?_; rintro e w6 ⟨rfl, hm6, hg6, hs6⟩; have HM := Aside0.mk (And.intro hm6 hg6); clear hm6 hg6 hs6))
      go_roundg g'
      case measure => exact Nat.lt_succ_self _
      case rel => exact ⟨j + 1, by simp only [HQ.out.2.2.2], HQ.out.2.2.1, by
        rw [keys_at _ _ HQ.out.2.2.1, build_snoc]
        exact HM.out.1.perm (put_ins _ (build_srt _ _)), HQ.out.1.trans (below_grown HM.out.2 HQ.out.1.size (fun k hk => by injection hk with hk; omega)), by have := HQ.out.2.1; omega⟩
    · have c3 : decide ((j : Int) < (ks.length : Int)) = false := decide_eq_false (by omega)
      obtain rfl : j = ks.length := by omega
      rw [List.take_length] at hmp
      have HQ := Aside0.mk (And.intro hmp hbl)
      clear hmp hbl hlen hd hj hl
      go_wp2_with (fail)
      go_ret
      exact ⟨rfl, HQ.out⟩
theorem eq57 (a : Addr) (n c : Nat) (w : World) : (binOp .eql 57 (.slice (some a) n c) (.slice none 0 0)).run Try.prog w = .ok (.bool false) w := by kernel_rfl
theorem eq57n (w : World) : (binOp .eql 57 (.slice none 0 0) (.slice none 0 0)).run Try.prog w = .ok (.bool true) w := by kernel_rfl
/-- pairs of distinct keys, one behind the other, are a map of them -/
theorem pcs_at (ds : List Pr) (j : Nat) (h : j < ds.length) : (pcs ds)[j * 2]? = some (.int .i64 ds[j].1) ∧ (pcs ds)[j * 2 + 1]? = some (.int .i64 ds[j].2) := by
  induction ds generalizing j with
  | nil => cases h
  | cons a t ih =>
    have e : pcs (a :: t) = .int .i64 a.1 :: .int .i64 a.2 :: pcs t := rfl
    cases j with
    | zero => rw [e]; exact ⟨rfl, rfl⟩
    | succ j =>
      have h2 := ih j (by simpa using h)
      rw [e, show (j + 1) * 2 = j * 2 + 2 by omega, show j * 2 + 2 + 1 = j * 2 + 1 + 2 by omega]
      simpa using h2
theorem toMapT {B : Nat} {v : Value} (ds : List Pr) (ho : w.ownsRow B 60 2 v ds.length (pcs ds)) (hn : (keys ds).Nodup) (hw : ∀ e ∈ ds, In64 e.1 ∧ In64 e.2) (hl : ds.length ≤ 100000) : Calls Try.prog 40 #[v] w fun r w' => r = .returned (.map (some w.heap.size)) ∧ Mq w.heap.size w' ds ∧ Below w.heap.size w w' := by
  have hm := makeM w
  obtain ⟨W, hW⟩ : ∃ W, w.alloc (.map #[] 0) = W := ⟨_, rfl⟩
  have hM0 : Mq w.heap.size W [] := by rw [← hW]; exact made_of (heap_alloc_new w _)
  have hb0 : Below w.heap.size w W := by rw [← hW]; exact (Below.refl _ w).alloc (Nat.le_refl _) _
  rw [hW] at hm
  rcases ho.2 with ⟨rfl, hd0⟩ | ⟨g, cap, cur, rfl, hg0, hgw, hcap, hmx, hcs, hcur⟩
  · have hE := eq57n
    obtain rfl : ds = [] := List.length_eq_zero_iff.1 hd0
    have HL := Aside0.mk (And.intro hM0 hb0)
    clear ho hM0 hb0 hW hn hw hl hd0
    go_enter Try.func40, Try.ntmps40
    go_wp2
    go_ret
    exact ⟨rfl, HL.out⟩
  · have hE := eq57
    have hcell : ∀ (j : Nat) (u : Value), (pcs ds)[j]? = some u → w.cell? ⟨g, j, none⟩ = some u := fun j u hj => by
      rw [Lib.cell_of_heap hgw]
      rw [← hcur, List.getElem?_take] at hj
      split at hj
      · rw [← Array.getElem?_toList]; exact hj
      · cases hj
    have hglt : g < w.heap.size := (Array.getElem?_eq_some_iff.1 hgw).1
    have HL := Aside0.mk (And.intro hcell (And.intro hn (And.intro hw (And.intro hl (And.intro hM0 (And.intro hb0 hglt))))))
    clear ho hM0 hb0 hW hn hw hl hcell hg0 hgw hcap hmx hcs hcur hglt
    go_enter Try.func40, Try.ntmps40
    go_wp2
    (try simp only [Act.put, List.setIfInBounds_toArray, List.set_cons_zero, List.set_cons_succ])
    go_loopg [12] ds.length (fun gk v12 wx => ∃ j : Nat, v12 = .int .i64 (j : Int) ∧ j ≤ ds.length ∧ Mq w.heap.size wx (ds.take j) ∧ Below w.heap.size w wx ∧ ds.length - j ≤ gk)
    case atStart => exact ⟨0, rfl, Nat.zero_le _, HL.out.2.2.2.2.1, HL.out.2.2.2.2.2.1, Nat.le_refl _⟩
    case round =>
      obtain ⟨j, rfl, hj, hmp, hbl, hlen⟩ := hrel
      have hl := HL.out.2.2.2.1
      by_cases hd : j < ds.length
      · have c3 : decide ((j : Int) < (ds.length : Int)) = true := decide_eq_true (by omega)
        have hx := pcs_at ds j hd
        have x0 : wr.cell? ⟨g, j * 2, none⟩ = some (.int .i64 ds[j].1) := (hbl.cell (p := ⟨g, j * 2, none⟩) HL.out.2.2.2.2.2.2).trans (HL.out.1 _ _ hx.1)
        have x1 : wr.cell? ⟨g, j * 2 + 1, none⟩ = some (.int .i64 ds[j].2) := (hbl.cell (p := ⟨g, j * 2 + 1, none⟩) HL.out.2.2.2.2.2.2).trans (HL.out.1 _ _ hx.2)
        have hin := HL.out.2.2.1 _ (List.getElem_mem hd)
        obtain ⟨w0, hw0⟩ : ∃ w0, wr.alloc (.cells #[.int .i64 ds[j].1, .int .i64 ds[j].2] 60) = w0 := ⟨_, rfl⟩
        have hg0 : wr.grownBy w0 none := by rw [← hw0]; exact World.grownBy_alloc wr _ none
        have hm1 : Mq w.heap.size w0 (ds.take j) := hmp.kept hg0 (by simp)
        obtain ⟨w6, hrun, hm6, hg6, hs6⟩ := hm1.set (by have : (ds.take j).length ≤ j := List.length_take_le _ _; unfold maxLen; omega) ds[j].1 ds[j].2 hin.1 hin.2
        have hm7 : Mq w.heap.size w6 (ds.take (j + 1)) := by
          rw [List.take_succ_eq_append_getElem hd]
          refine hm6.perm (put_new (fun e he hx => ?_))
          have h2 : (keys (ds.take (j + 1))).Nodup := HL.out.2.1.sublist ((List.take_sublist _ _).map _)
          rw [List.take_succ_eq_append_getElem hd] at h2
          unfold keys at h2
          rw [List.map_append] at h2
          exact (List.nodup_append.1 h2).2.2 e.1 (List.mem_map.2 ⟨e, he, rfl⟩) ds[j].1 (by simp) hx
        have hb7 : Below w.heap.size w w6 := hbl.trans ((below_grown hg0 hbl.size (fun k hk => by cases hk)).trans (below_grown hg6 (Nat.le_trans hbl.size hg0.size) (fun k hk => by injection hk with hk; omega)))
        have p1 := eq_true (show 0 ≤ (j : Int) by omega)
        have q1 := eq_true (show (j : Int) < (ds.length : Int) by omega)
        have hwj := wrap_succ j (by omega)
        obtain ⟨g', rfl⟩ : ∃ g', gk = g' + 1 := ⟨gk - 1, by omega⟩
        have HQ := Aside0.mk (And.intro hm7 (And.intro hb7 (And.intro hlen (And.intro hd hwj))))
        have hu60 := Try.underlying60
        rw [← hw0] at hrun
        clear hmp hbl hlen hm1 hm6 hg0 hw0 hg6 hs6 hm7 hb7 hin hj hl hwj hx
        go_wp2_with (fail)
        go_roundg g'
        case measure => exact Nat.lt_succ_self _
        case rel => exact ⟨j + 1, by simp only [HQ.out.2.2.2.2], HQ.out.2.2.2.1, HQ.out.1, HQ.out.2.1, by have := HQ.out.2.2.1; omega⟩
      · have c3 : decide ((j : Int) < (ds.length : Int)) = false := decide_eq_false (by omega)
        obtain rfl : j = ds.length := by omega
        rw [List.take_length] at hmp
        have HQ := Aside0.mk (And.intro hmp hbl)
        clear hmp hbl hlen hd hj hl
        go_wp2_with (fail)
        go_ret
        exact ⟨rfl, HQ.out⟩
end Go.Proofs.Ytokdamfalhcnnaa.Mw
