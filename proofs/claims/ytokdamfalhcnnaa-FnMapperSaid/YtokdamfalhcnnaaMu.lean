/- Ranges over a map that write a map: a clone, none left, what a function lets by, what a function makes. -/
import Derived.Test.YtokdamfalhcnnaaMt
import Derived.Test.YtokdamfalhcnnaaGMpBodyx5
namespace Go.Proofs.Ytokdamfalhcnnaa.Mu
open Go Go.Maps Go.ChangeMaps Go.MapKept Go.RowKit Go.Proofs.YtokdamfalhcnnaaW.PrintWords Go.Proofs.YtokdamfalhcnnaaW.PrintLast Go.Proofs.YtokdamfalhcnnaaW.PrintMore Mp Mq Mr Ms Mt

set_option linter.all false
set_option maxRecDepth 1000000
set_option maxHeartbeats 4000000
variable {B b r M : Nat} {w0 w w' : World} {ps ds rem r1 r2 : List Pr}
theorem del_none {ds : List Pr} {k : Int} (h : ∀ e ∈ ds, e.1 ≠ k) : del ds k = ds := List.filter_eq_self.2 (fun x hx => by simp [h x hx])
theorem put_new {ds : List Pr} {x y : Int} (h : ∀ e ∈ ds, e.1 ≠ x) : (put ds (x, y)).Perm (ds ++ [(x, y)]) := by
  unfold put
  rw [del_none h]
  exact (List.perm_append_singleton _ _).symm
theorem del_mid {x y : Int} (hn : (keys (r1 ++ (x, y) :: r2)).Nodup) : del (r1 ++ (x, y) :: r2) x = r1 ++ r2 := by
  have h2 : (keys ((x, y) :: (r1 ++ r2))).Nodup := ((List.perm_middle (a := (x, y)) (l₁ := r1) (l₂ := r2)).map Prod.fst).nodup_iff.1 hn
  have h3 := (List.nodup_cons.1 h2).1
  have h1 : ∀ e ∈ r1 ++ r2, e.1 ≠ x := fun e he hx => h3 (List.mem_map.2 ⟨e, he, hx⟩)
  have e1 : del (r1 ++ (x, y) :: r2) x = del r1 x ++ del r2 x := by
    show List.filter _ _ = _
    rw [List.filter_append, List.filter_cons_of_neg (by simp)]
    rfl
  rw [e1, del_none (fun e he => h1 e (List.mem_append.2 (.inl he))), del_none (fun e he => h1 e (List.mem_append.2 (.inr he)))]
/-- what comes out has not come out before -/
theorem _root_.Go.Proofs.Ytokdamfalhcnnaa.Mt.St.fresh {x y : Int} (h : St B b r w0 w ps ds rem) (hrem : rem = r1 ++ (x, y) :: r2) : ∀ e ∈ ds, e.1 ≠ x := by
  subst hrem
  have h2 : (keys (ds ++ (r1 ++ (x, y) :: r2))).Nodup := (h.pm.map Prod.fst).nodup_iff.2 h.rg.nk
  unfold keys at h2
  rw [List.map_append] at h2
  intro e he hx
  exact (List.nodup_append.1 h2).2.2 e.1 (List.mem_map.2 ⟨e, he, rfl⟩) x (List.mem_map.2 ⟨(x, y), by simp, rfl⟩) hx
theorem _root_.Go.Proofs.Ytokdamfalhcnnaa.Mt.St.mem {x y : Int} (h : St B b r w0 w ps ds rem) (hrem : rem = r1 ++ (x, y) :: r2) : (x, y) ∈ ps := h.rg.sub _ (by rw [hrem]; simp)
theorem cloneT (h : Mq b w ps) (hl : ps.length ≤ 100000) : Calls Try.prog 34 #[.map (some b)] w fun r w' => r = .returned (.map (some w.heap.size)) ∧ Mq w.heap.size w' ps ∧ Below w.heap.size w w' := by
  obtain ⟨W, hW⟩ : ∃ W, w.alloc (.map #[] 0) = W := ⟨_, rfl⟩
  have hb := h.lt
  have hM0 : Mq w.heap.size W [] := by rw [← hW]; exact made_of (heap_alloc_new w _)
  have hg0 : w.grownBy W none := by rw [← hW]; exact World.grownBy_alloc w _ none
  have hsW : W.heap.size = w.heap.size + 1 := by rw [← hW]; simp
  have hmW : Mq b W ps := h.kept hg0 (by simp)
  have HL := Aside0.mk (And.intro hl (And.intro hb hsW))
  have c15 := newMapper w
  rw [hW] at c15
  clear h hW hsW hb
  go_enter Try.func34, Try.ntmps34
  go_wp2_with (first | (go_at_call 15; refine c15.mono ?_; rintro e w1 ⟨rfl, hw1⟩; rw [hw1]; clear hw1 w1) | (refine range_ _ rfl _ rfl rfl hmW ?_; intro w0 hr0 hg1 hs1; have H0 := Aside0.mk (And.intro hr0 (And.intro hg1 hs1)); clear hr0 hg1 hs1))
  go_frame
  have hS0 : St w.heap.size b W.heap.size w w0 ps [] ps := ⟨H0.out.1, (below_grown hg0 (Nat.le_refl _) (fun k hk => by cases hk)).trans (below_grown H0.out.2.1 hg0.size (fun k hk => by cases hk)), List.Perm.refl _, HL.out.2.1, hg0.size⟩
  have hM1 : Mq w.heap.size w0 [] := hM0.kept H0.out.2.1 (by simp)
  have HS := Aside0.mk (And.intro hS0 hM1)
  clear hS0 hM1 hM0 hmW hg0 c15
  go_loopg [4, 5] ps.length (fun gk v4 v5 wx => ∃ ds rem, St w.heap.size b W.heap.size w wx ps ds rem ∧ Mq w.heap.size wx ds ∧ rem.length ≤ gk)
  case atStart => exact ⟨[], ps, HS.out.1, HS.out.2, Nat.le_refl _⟩
  case round =>
    obtain ⟨ds, rem, hP, hmp, hlen⟩ := hrel
    have HP := Aside0.mk (And.intro hP (And.intro hmp hlen))
    have hrg := hP.rg
    clear hP hmp hlen
    go_wp2_with (first | (refine next_ _ rfl _ rfl rfl hrg ?_ ?_))
    · intro hrem
      subst hrem
      clear hrg
      go_wp2_with (fail)
      go_ret
      exact ⟨rfl, HP.out.2.1.perm (by have := HP.out.1.pm; simpa using this), HP.out.1.bl⟩
    · intro x y r1 r2 w1 hrem hrg1 hg1 hs1 hen
      have hB := HP.out.1.le (Nat.le_refl _)
      have hS1 := HP.out.1.next hrem hrg1 hg1 hB
      have hmp1 : Mq w.heap.size w1 ds := HP.out.2.1.kept hg1 (by have := HL.out.2.2; simp; omega)
      have hls := HP.out.1.lens
      have hps := HL.out.1
      have hin := HP.out.1.rg.wk _ (HP.out.1.mem hrem)
      obtain ⟨w6, hrun, hm6, hg6, hs6⟩ := hmp1.set (by unfold maxLen; omega) x y hin.1 hin.2
      have hS6 := hS1.go hg6 (hS1.le (Nat.le_refl _)) (fun k hk => by injection hk with hk; have := HL.out.2.2; exact ⟨by omega, by omega⟩)
      have hm7 := hm6.perm (put_new (HP.out.1.fresh hrem))
      have hlr : rem.length = (r1 ++ r2).length + 1 := by rw [hrem]; simp; omega
      have HQ := Aside0.mk (And.intro hS6 (And.intro hm7 hlr))
      obtain ⟨g', rfl⟩ : ∃ g', gk = g' + 1 := ⟨gk - 1, by have := HP.out.2.2; omega⟩
      clear hS1 hmp1 hg6 hS6 hg1 hs1 hrg1 hB hm6 hm7 hrg hls hlr hps hrem hin hs6
      go_wp2_with (fail)
      go_roundg g'
      case measure => exact Nat.lt_succ_self _
      case rel => exact ⟨_, _, HQ.out.1, HQ.out.2.1, by have := HP.out.2.2; have := HQ.out.2.2; omega⟩
theorem clearT (h : Mq b w ps) (hl : ps.length ≤ 100000) : Calls Try.prog 33 #[.map (some b)] w fun r w' => r = .returned (.tuple #[]) ∧ Mq b w' [] ∧ w.grownBy w' (some b) := by
  have hE := eqS b
  have hb := h.lt
  have HL := Aside0.mk hb
  clear hb
  go_enter Try.func33, Try.ntmps33
  go_wp2_with (first | (refine range_ _ rfl _ rfl rfl h ?_; intro w0 hr0 hg1 hs1; have H0 := Aside0.mk (And.intro hr0 (And.intro hg1 hs1)); clear hr0 hg1 hs1 h))
  go_frame
  go_loopg [2] ps.length (fun gk v2 wx => ∃ rem, Rg b w.heap.size wx rem rem ∧ w.grownBy wx (some b) ∧ rem.length ≤ gk)
  case atStart => exact ⟨ps, H0.out.1, H0.out.2.1.but _, Nat.le_refl _⟩
  case round =>
    obtain ⟨rem, hrg, hgr, hlen⟩ := hrel
    have HP := Aside0.mk (And.intro hrg (And.intro hgr hlen))
    clear hgr hlen
    go_wp2_with (first | (refine next_ _ rfl _ rfl rfl hrg ?_ ?_))
    · intro hrem
      subst hrem
      clear hrg
      go_wp2_with (fail)
      go_end0
      exact ⟨rfl, HP.out.1.mq, HP.out.2.1⟩
    · intro x y r1 r2 w1 hrem hrg1 hg1 hs1 hen
      have hin := HP.out.1.wk (x, y) (by rw [hrem]; simp)
      have hg2 := HP.out.2.1.andThen hg1 (fun j hj => by injection hj with hj; left; omega)
      obtain ⟨g', rfl⟩ : ∃ g', gk = g' + 1 := ⟨gk - 1, by have := HP.out.2.2; rw [hrem] at this; simp at this; omega⟩
      have hne : ∀ e ∈ r1 ++ r2, e.1 ≠ x := by
        have h2 : (keys ((x, y) :: (r1 ++ r2))).Nodup := ((List.perm_middle (a := (x, y)) (l₁ := r1) (l₂ := r2)).map Prod.fst).nodup_iff.1 (hrem ▸ HP.out.1.nk)
        exact fun e he hx => (List.nodup_cons.1 h2).1 (List.mem_map.2 ⟨e, he, hx⟩)
      have H2 := Aside0.mk (And.intro hg2 (And.intro hrem (And.intro hne hin)))
      clear hg2 hrem hne hin hrg hg1 hs1
      go_wp2_with (first | (refine delete_ _ rfl _ _ rfl rfl x rfl H2.out.2.2.2.1 hrg1 H2.out.2.2.1 ?_; intro w2 hrg2 hg2 hs2; have H3 := Aside0.mk (And.intro hrg2 hg2); clear hrg2 hg2 hs2 hrg1 hen))
      go_roundg g'
      case measure => exact Nat.lt_succ_self _
      case rel =>
        refine ⟨r1 ++ r2, ?_, H2.out.1.andThen H3.out.2 (fun j hj => .inr hj), ?_⟩
        · have := H3.out.1
          rw [H2.out.2.1, del_mid (H2.out.2.1 ▸ HP.out.1.nk)] at this
          exact this
        · have := HP.out.2.2; rw [H2.out.2.1] at this; simp at this ⊢; omega
end Go.Proofs.Ytokdamfalhcnnaa.Mu
