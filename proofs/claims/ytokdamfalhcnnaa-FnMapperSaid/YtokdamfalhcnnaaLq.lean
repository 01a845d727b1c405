/- The law's plain facts: sizes fit; the same facts are the same. -/
import Derived.Test.YtokdamfalhcnnaaFb
import Derived.Test.YtokdamfalhcnnaaGMpBodyx5
namespace Go.Proofs.Ytokdamfalhcnnaa.Lq
open Go Go.RowKit Go.Proofs.YtokdamfalhcnnaaW.PrintWords Go.Proofs.YtokdamfalhcnnaaW.PrintLast Go.Proofs.YtokdamfalhcnnaaW.PrintMore GMpBody Small Mq Mo Pe Pf Mx Sd Se

theorem ints_l0 (l : List Int) (hl : l.length ≤ 1000000) : ∀ (n j : Nat), n + j = l.length → Ev (fun k => spec_TwInts.l0 k l l (j : Int)) true
  | 0, j, h => by
    apply Ev.shift
    simp only [spec_TwInts.l0]
    simp only [if_neg (show ¬ (j : Int) < (l.length : Int) by omega)]
    exact Ev.now _
  | n + 1, j, h => by
    apply Ev.shift
    simp only [spec_TwInts.l0]
    simp only [if_pos (show (j : Int) < (l.length : Int) by omega), if_pos (show 0 ≤ (j : Int) by omega), if_true, wrap_succ j (by omega)]
    exact ints_l0 l hl n (j + 1) (by omega)
theorem ints_f (l : List Int) (hl : l.length ≤ 1000000) : Ev (fun k => spec_TwInts.f k l l) true := by
  simp only [spec_TwInts.f, if_true]
  exact ints_l0 l hl l.length 0 (by omega)
theorem pairs_l0 (l : List S29) (hl : l.length ≤ 1000000) : ∀ (n j : Nat), n + j = l.length → Ev (fun k => spec_TwPairs.l0 k l l (j : Int)) true
  | 0, j, h => by
    apply Ev.shift
    simp only [spec_TwPairs.l0]
    simp only [if_neg (show ¬ (j : Int) < (l.length : Int) by omega)]
    exact Ev.now _
  | n + 1, j, h => by
    apply Ev.shift
    simp only [spec_TwPairs.l0]
    simp only [if_pos (show (j : Int) < (l.length : Int) by omega), if_pos (show 0 ≤ (j : Int) by omega), beq_self_eq_true, Bool.not_true, Bool.or_self, Bool.false_eq_true, if_false, wrap_succ j (by omega)]
    exact pairs_l0 l hl n (j + 1) (by omega)
theorem pairs_f (l : List S29) (hl : l.length ≤ 1000000) : Ev (fun k => spec_TwPairs.f k l l) true := by
  simp only [spec_TwPairs.f, if_true]
  exact pairs_l0 l hl l.length 0 (by omega)
theorem facts_f (n : Int) (ks vs : List Int) (g : Int) (h : Bool) (l : List S29) (h1 : ks.length ≤ 1000000) (h2 : vs.length ≤ 1000000) (h3 : l.length ≤ 1000000) : ∃ k, laws_twFacts.f k n ks ks g g h h l l vs n ks ks g g h h l l vs = some true := by
  have : Ev (fun k => laws_twFacts.f k n ks ks g g h h l l vs n ks ks g g h h l l vs) true := by
    simp only [laws_twFacts.f, if_true, beq_self_eq_true]
    refine Ev.bind (ints_f ks h1) ?_
    simp only [if_true]
    refine Ev.bind (ints_f ks h1) ?_
    simp only [if_true]
    refine Ev.bind (pairs_f l h3) ?_
    simp only [if_true]
    refine Ev.bind (pairs_f l h3) ?_
    simp only [if_true]
    exact Ev.bind (ints_f vs h2) (Ev.now _)
  exact this.rounds
theorem fits_l0 (l : List S32) (hl : l.length ≤ 2147483647) : ∀ (n j : Nat), n + j = l.length → ∃ r, Ev (fun k => laws_zzFits27.l0 k l (l.length : Int) (j : Int)) r ∧ (r = true → ∀ x ∈ l.drop j, x.f3.length ≤ 2147483647)
  | 0, j, h => by
    refine ⟨true, ?_, fun _ => by rw [List.drop_eq_nil_of_le (by omega)]; intro x hx; cases hx⟩
    apply Ev.shift
    simp only [laws_zzFits27.l0]
    simp only [if_neg (show ¬ (j : Int) < (l.length : Int) by omega)]
    exact Ev.now _
  | n + 1, j, h => by
    have hj : j < l.length := by omega
    have er : rd_T32 l (j : Int) = l[j] := by simp [rd_T32, hj]
    by_cases hb : (l[j].f3.length : Int) > 2147483647
    · refine ⟨false, ?_, fun h => by cases h⟩
      apply Ev.shift
      simp only [laws_zzFits27.l0]
      simp only [if_pos (show (j : Int) < (l.length : Int) by omega), if_pos (show 0 ≤ (j : Int) by omega), er, laws_zzFits28.f, if_pos hb, Option.bind_some, Bool.false_eq_true, if_false]
      exact Ev.now _
    · obtain ⟨r, hr, hall⟩ := fits_l0 l hl n (j + 1) (by omega)
      refine ⟨r, ?_, fun h x hx => ?_⟩
      · apply Ev.shift
        simp only [laws_zzFits27.l0]
        simp only [if_pos (show (j : Int) < (l.length : Int) by omega), if_pos (show 0 ≤ (j : Int) by omega), er, laws_zzFits28.f, if_neg hb, Option.bind_some, if_true, wrap_succ j (by omega)]
        exact hr
      · rw [List.drop_eq_getElem_cons hj] at hx
        rcases List.mem_cons.1 hx with rfl | hx
        · omega
        · exact hall h x hx
theorem fits_f (l : List S32) : ∃ k r, laws_zzFits27.f k l = some r ∧ (r = true → l.length ≤ 2147483647 ∧ ∀ x ∈ l, x.f3.length ≤ 2147483647) := by
  by_cases hl : (l.length : Int) > 2147483647
  · exact ⟨0, false, by unfold laws_zzFits27.f; rw [if_pos hl], fun h => by cases h⟩
  · obtain ⟨r, hr, hall⟩ := fits_l0 l (by omega) l.length 0 (by omega)
    obtain ⟨k, hk⟩ := hr.rounds
    exact ⟨k, r, by unfold laws_zzFits27.f; rw [if_neg hl]; exact hk, fun h => ⟨by omega, fun x hx => hall h x (by simpa using hx)⟩⟩
/-- a reading of pairs survives a store into the variable 'm' -/
theorem C_set27 {w : World} {A a : Option Addr} {M n' c' : Nat} {b : Bool} {xs : List S29} (x y : Value) (h : Kd.C k29 w A xs.length xs) (hM : w.heap[M]? = some (.cells #[.bool b, .slice a n' c'] 27 (0, 0))) : Kd.C k29 ((w.setCell ⟨M, 0, none⟩ x).setCell ⟨M, 1, none⟩ y) A xs.length xs := by
  cases xs with
  | nil => exact ⟨rfl, by simp, fun h => absurd h (by simp)⟩
  | cons z t =>
    obtain ⟨ad, e, hc⟩ := h.2.2 (by simp)
    obtain ⟨cs, h1, h2, h3⟩ := hc 0 z rfl
    obtain rfl := k29_open h2
    have h4 := h3 0 _ rfl
    have hb : ∀ k, (ad.add k).block = ad.block := fun k => by unfold Addr.add; split <;> rfl
    have hne : ad.block ≠ M := fun e2 => by
      have hz : ad.add (0 * k29.sz + 0) = ad := by simp [Addr.add]
      rw [hz] at h4
      unfold World.cell? at h4
      rw [e2, hM] at h4
      simp only at h4
      split at h4
      · cases h4
      · match ho : ad.off, h4 with
        | 0, h4 => simp at h4
        | 1, h4 => simp at h4
        | q + 2, h4 => simp at h4
    exact CP_move h (fun ad' e' hlt => by
      have : ad = ad' := by rw [e] at e'; exact Option.some.inj e'
      subst this
      exact (set2 (T := M) x y w).block _ hlt (fun e2 => hne (Option.some.inj e2)))
end Go.Proofs.Ytokdamfalhcnnaa.Lq
