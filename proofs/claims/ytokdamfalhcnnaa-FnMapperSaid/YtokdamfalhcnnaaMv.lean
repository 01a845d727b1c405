/- The literals of impl.mapped; Filter and MapValues over them. -/
import Derived.Test.YtokdamfalhcnnaaMu
namespace Go.Proofs.Ytokdamfalhcnnaa.Mv
open Go Go.Maps Go.ChangeMaps Go.MapKept Go.RowKit Go.Proofs.YtokdamfalhcnnaaW.PrintWords Go.Proofs.YtokdamfalhcnnaaW.PrintLast Go.Proofs.YtokdamfalhcnnaaW.PrintMore Mp Mq Mr Ms Mt Mu GMpBody Small

set_option linter.all false
set_option maxRecDepth 1000000
set_option maxHeartbeats 4000000
theorem within_l0 (a : Int) (l : List Int) (hl : l.length < 9223372036854775807) : ∀ (n j : Nat), n + j = l.length → Ev (fun k => impl_within.l0 k a l (l.length : Int) (j : Int)) (decide (a ∈ l.drop j))
  | 0, j, h => by
    apply Ev.shift
    simp only [impl_within.l0]
    simp only [if_neg (show ¬ (j : Int) < (l.length : Int) by omega)]
    rw [List.drop_eq_nil_of_le (by omega)]
    exact Ev.now _
  | n + 1, j, h => by
    apply Ev.shift
    simp only [impl_within.l0]
    have hj : j < l.length := by omega
    simp only [if_pos (show (j : Int) < (l.length : Int) by omega), if_pos (show 0 ≤ (j : Int) by omega), rd_nat, getD_at _ _ _ hj]
    rw [List.drop_eq_getElem_cons hj]
    by_cases hx : l[j] = a
    · simp only [if_pos hx]
      have : decide (a ∈ l[j] :: l.drop (j + 1)) = true := decide_eq_true (by rw [hx]; exact List.mem_cons_self)
      rw [this]
      exact Ev.now _
    · simp only [if_neg hx, wrap_succ j (by omega)]
      have : decide (a ∈ l[j] :: l.drop (j + 1)) = decide (a ∈ l.drop (j + 1)) := by
        have hx' : ¬ a = l[j] := fun e => hx e.symm
        exact decide_eq_decide.2 (by rw [List.mem_cons]; exact ⟨fun h => h.resolve_left hx', .inr⟩)
      rw [this]
      exact within_l0 a l hl n (j + 1) (by omega)
theorem within_f (l : List Int) (a : Int) (hl : l.length < 9223372036854775807) : ∃ k, impl_within.f k l a = some (decide (a ∈ l)) := by
  obtain ⟨k, hk⟩ := within_l0 a l hl l.length 0 (by omega)
  exact ⟨k, by simpa [impl_within.f] using hk k (Nat.le_refl _)⟩
/-- the operation that a literal has captured, in memory -/
structure Bx (w : World) (G : Nat) (d k v : Int) (A : Option Addr) (c : Nat) (l : List Int) : Prop where
  own : w.heap[G]? = some (.cells #[.int .i64 d, .int .i64 k, .int .i64 v, .slice A l.length c] 32 (0, 0))
  rd : Kd.C (Kd.int .i64) w A l.length l
  le : l.length ≤ c
  lt : l.length < 9223372036854775807
variable {w w' : World} {G : Nat} {d k v : Int} {A : Option Addr} {c : Nat} {l : List Int}
theorem Bx.below (h : Bx w G d k v A c l) (hb : Below w.heap.size w w') : Bx w' G d k v A c l := ⟨(hb.block G (Array.getElem?_eq_some_iff.1 h.own).1).trans h.own, Kd.C_below h.rd hb, h.le, h.lt⟩
/-- what the literal lets by -/
def lets (v : Int) (l : List Int) (p : Pr) : Bool := decide (p.1 ∈ l) || (p.2 == v)
theorem lit1 (h : Bx w G d k v A c l) (x y : Int) : Calls Try.prog 36 (#[.int .i64 x, .int .i64 y] ++ #[.pointer (some ⟨G, 0, none⟩)]) w fun r w' => r = .returned (.bool (lets v l (x, y))) ∧ Below w.heap.size w w' := by
  have g3 : w.cell? ⟨G, 3, none⟩ = some (.slice A l.length c) := by rw [Lib.cell_of_heap h.own]; rfl
  have g2 : ∀ w', Below w.heap.size w w' → w'.cell? ⟨G, 2, none⟩ = some (.int .i64 v) := fun w' hb => by rw [Lib.cell_of_heap ((hb.block G (Array.getElem?_eq_some_iff.1 h.own).1).trans h.own)]; rfl
  have hu32 := Try.underlying32
  obtain ⟨k, hk⟩ := within_f l x (by have := h.le; have := h.lt; omega)
  have c37 := impl_within.calls k A c l x _ w h.rd h.le hk
  have G2 := Aside0.mk g2
  unfold lets
  cases hb : decide (x ∈ l)
  · rw [hb] at c37
    clear hk hb g2 h
    go_enter Try.func36, Try.ntmps36
    go_wp2_with (first | (go_at_call 37; refine c37.mono ?_; rintro e w1 ⟨rfl, hb0⟩; have hb := hb0.below; clear hb0; have g2 := G2.out w1 hb; have HB := Aside0.mk hb; clear hb))
    go_ret
    exact ⟨rfl, HB.out⟩
  · rw [hb] at c37
    clear hk hb g2 h
    go_enter Try.func36, Try.ntmps36
    go_wp2_with (first | ((go_at_call 37; refine c37.mono ?_; rintro e w1 ⟨rfl, hb0⟩; have hb := hb0.below; clear hb0; have g2 := G2.out w1 hb; have HB := Aside0.mk hb; clear hb)))
    go_ret
    exact ⟨rfl, HB.out⟩
theorem lit2 (h : Bx w G d k v A c l) (x : Int) : Calls Try.prog 39 (#[.int .i64 x] ++ #[.pointer (some ⟨G, 0, none⟩)]) w fun r w' => r = .returned (.int .i64 (wrap64 (x + v))) ∧ w' = w := by
  have g2 : w.cell? ⟨G, 2, none⟩ = some (.int .i64 v) := by rw [Lib.cell_of_heap h.own]; rfl
  have hu32 := Try.underlying32
  clear h
  go_enter Try.func39, Try.ntmps39
  go_wp2
  go_ret
  exact ⟨rfl, rfl⟩
def cl1 (G : Nat) : Value := .func (.func 36) #[] #[.pointer (some ⟨G, 0, none⟩)]
def cl2 (G : Nat) : Value := .func (.func 39) #[] #[.pointer (some ⟨G, 0, none⟩)]
variable {b : Nat} {ps : List Pr}
theorem filter_snoc_t {p : Pr → Bool} {ds : List Pr} {e : Pr} (h : p e = true) : (ds ++ [e]).filter p = ds.filter p ++ [e] := by rw [List.filter_append]; simp [h]
theorem filter_snoc_f {p : Pr → Bool} {ds : List Pr} {e : Pr} (h : p e = false) : (ds ++ [e]).filter p = ds.filter p := by rw [List.filter_append]; simp [h]
theorem filterT (h : Mq b w ps) (hl : ps.length ≤ 100000) (hx : Bx w G d k v A c l) : Calls Try.prog 35 #[.map (some b), .func (.func 36) #[] #[.pointer (some ⟨G, 0, none⟩)]] w fun r w' => r = .returned (.map (some w.heap.size)) ∧ Mq w.heap.size w' (ps.filter (lets v l)) ∧ Below w.heap.size w w' := by
  obtain ⟨W, hW⟩ : ∃ W, w.alloc (.map #[] 0) = W := ⟨_, rfl⟩
  have hb := h.lt
  have hM0 : Mq w.heap.size W [] := by rw [← hW]; exact made_of (heap_alloc_new w _)
  have hg0 : w.grownBy W none := by rw [← hW]; exact World.grownBy_alloc w _ none
  have hsW : W.heap.size = w.heap.size + 1 := by rw [← hW]; simp
  have hmW : Mq b W ps := h.kept hg0 (by simp)
  have HL := Aside0.mk (And.intro hl (And.intro hb (And.intro hsW hx)))
  have c15 := newMapper w
  rw [hW] at c15
  clear h hW hsW hb hx
  go_enter Try.func35, Try.ntmps35
  go_wp2_with (first | (go_at_call 15; refine c15.mono ?_; rintro e w1 ⟨rfl, hw1⟩; rw [hw1]; clear hw1 w1) | (refine range_ _ rfl _ rfl rfl hmW ?_; intro w0 hr0 hg1 hs1; have H0 := Aside0.mk (And.intro hr0 (And.intro hg1 hs1)); clear hr0 hg1 hs1))
  go_frame
  have hS0 : St w.heap.size b W.heap.size w w0 ps [] ps := ⟨H0.out.1, (below_grown hg0 (Nat.le_refl _) (fun k hk => by cases hk)).trans (below_grown H0.out.2.1 hg0.size (fun k hk => by cases hk)), List.Perm.refl _, HL.out.2.1, hg0.size⟩
  have hM1 : Mq w.heap.size w0 [] := hM0.kept H0.out.2.1 (by simp)
  have HS := Aside0.mk (And.intro hS0 hM1)
  clear hS0 hM1 hM0 hmW hg0 c15
  go_loopg [6, 7] ps.length (fun gk v6 v7 wx => ∃ ds rem, St w.heap.size b W.heap.size w wx ps ds rem ∧ Mq w.heap.size wx (ds.filter (lets v l)) ∧ rem.length ≤ gk)
  case atStart => exact ⟨[], ps, HS.out.1, HS.out.2, Nat.le_refl _⟩
  case round =>
    obtain ⟨ds, rem, hP, hmp, hlen⟩ := hrel
    have HP := Aside0.mk (And.intro hP (And.intro hmp hlen))
    have hrg := hP.rg
    clear hP hmp hlen
    go_wp2_with (first | (refine next_ _ rfl _ rfl rfl hrg ?_ ?_))
    · intro hrem
      subst hrem
      clear hrg
      go_wp2_with (fail)
      go_ret
      exact ⟨rfl, HP.out.2.1.perm (by have := HP.out.1.pm; exact List.Perm.filter _ (by simpa using this)), HP.out.1.bl⟩
    · intro x y r1 r2 w1 hrem hrg1 hg1 hs1 hen
      have hB := HP.out.1.le (Nat.le_refl _)
      have hS1 := HP.out.1.next hrem hrg1 hg1 hB
      have hmp1 : Mq w.heap.size w1 (ds.filter (lets v l)) := HP.out.2.1.kept hg1 (by have := HL.out.2.2.1; simp; omega)
      have c36 := lit1 (HL.out.2.2.2.below hS1.bl) x y
      have hls := HP.out.1.lens
      have hps := HL.out.1
      have hin := HP.out.1.rg.wk _ (HP.out.1.mem hrem)
      have hlr : rem.length = (r1 ++ r2).length + 1 := by rw [hrem]; simp; omega
      obtain ⟨g', rfl⟩ : ∃ g', gk = g' + 1 := ⟨gk - 1, by have := HP.out.2.2; omega⟩
      have H1 := Aside0.mk (And.intro hS1 (And.intro hmp1 (And.intro hrem (And.intro hlr (And.intro hls hin)))))
      clear hS1 hmp1 hg1 hs1 hrg1 hB hrg hls hlr hps hrem hin
      cases hp : lets v l (x, y)
      · rw [hp] at c36
        have HP2 := Aside0.mk hp
        clear hp
        go_wp2_with (first | (go_at_call 36; refine c36.mono ?_; rintro e w2 ⟨rfl, hb2⟩; have HB := Aside0.mk hb2; clear hb2))
        go_roundg g'
        case measure => exact Nat.lt_succ_self _
        case rel =>
          refine ⟨_, _, H1.out.1.go (grown_of_below HB.out none) (H1.out.1.le (Nat.le_refl _)) (fun k hk => by cases hk), ?_, by have := HP.out.2.2; have := H1.out.2.2.2.1; omega⟩
          rw [filter_snoc_f HP2.out]
          exact H1.out.2.1.kept (grown_of_below HB.out none) (by simp)
      · rw [hp] at c36
        have HP2 := Aside0.mk hp
        clear hp
        go_wp2_with (first | (go_at_call 36; refine c36.mono ?_; rintro e w2 ⟨rfl, hb2⟩
                              have hS2 := H1.out.1.go (grown_of_below hb2 none) (H1.out.1.le (Nat.le_refl _)) (fun k hk => by cases hk)
                              have hm2 := H1.out.2.1.kept (grown_of_below hb2 none) (by simp)
                              obtain ⟨w6, hrun, hm6, hg6, hs6⟩ := hm2.set (by have h1 := H1.out.2.2.2.2.1; have h2 := HL.out.1; have h3 : (ds.filter (lets v l)).length ≤ ds.length := List.length_filter_le _ _; unfold maxLen; omega) x y H1.out.2.2.2.2.2.1 H1.out.2.2.2.2.2.2
                              have HB := Aside0.mk (And.intro hS2 (And.intro hm6 (And.intro hg6 hs6))); clear hb2 hS2 hm2 hm6 hg6 hs6))
        go_roundg g'
        case measure => exact Nat.lt_succ_self _
        case rel =>
          refine ⟨_, _, HB.out.1.go HB.out.2.2.1 (HB.out.1.le (Nat.le_refl _)) (fun k hk => by injection hk with hk; have := HL.out.2.2.1; exact ⟨by omega, by omega⟩), ?_, by have := HP.out.2.2; have := H1.out.2.2.2.1; omega⟩
          rw [filter_snoc_t HP2.out]
          exact HB.out.2.1.perm (put_new (fun e he => HP.out.1.fresh H1.out.2.2.1 e (List.mem_filter.1 he).1))
end Go.Proofs.Ytokdamfalhcnnaa.Mv
