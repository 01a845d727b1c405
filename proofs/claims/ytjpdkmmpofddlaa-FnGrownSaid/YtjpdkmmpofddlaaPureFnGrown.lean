/- Columns' widths are grown as the reference grows them; asked where there are at most 40 widths from 0 to 300 and at most 60 greatest widths from 0 to 500, and where both lengths are from 0 to 3000. -/
-- ownproof
import Derived.Test.YtjpdkmmpofddlaaGFnGrownx1
import Derived.Test.YtjpdkmmpofddlaaSmall
namespace Go.Proofs.Ytjpdkmmpofddlaa.Pure
open Go.RowKit Go.Proofs.Ytjpdkmmpofddlaa.GFnGrown Go.Proofs.YtjpdkmmpofddlaaW.PrintWords Go.Proofs.YtjpdkmmpofddlaaW.PrintLast Go.Proofs.Ytjpdkmmpofddlaa.Small

theorem fits_l (l : List Int) (m lo hi : Int) (hl : l.length ≤ 2147483647) : ∀ d i : Nat, i + d = l.length → ∃ b, Ev (fun k => laws_fits.l0 k l m lo hi (i : Int)) b ∧ (b = true → (l.length : Int) ≤ m) := by
  intro d
  induction d with
  | zero =>
    intro i h
    refine ⟨decide ((l.length : Int) ≤ m), Ev.shift ?_, fun h => by simpa using h⟩
    simp only [laws_fits.l0, if_neg (show ¬ (i : Int) < (l.length : Int) by omega)]
    exact Ev.now _
  | succ d ih =>
    intro i h
    by_cases c : rd l (i : Int) < lo
    · refine ⟨false, Ev.shift ?_, by simp⟩
      simp only [laws_fits.l0, if_pos (show (i : Int) < (l.length : Int) by omega), if_pos (show 0 ≤ (i : Int) by omega), if_pos c]
      exact Ev.now _
    · by_cases c2 : rd l (i : Int) > hi
      · refine ⟨false, Ev.shift ?_, by simp⟩
        simp only [laws_fits.l0, if_pos (show (i : Int) < (l.length : Int) by omega), if_pos (show 0 ≤ (i : Int) by omega), if_neg c, if_pos c2]
        exact Ev.now _
      · obtain ⟨b, hb, h1⟩ := ih (i + 1) (by omega)
        refine ⟨b, Ev.shift ?_, h1⟩
        simp only [laws_fits.l0, if_pos (show (i : Int) < (l.length : Int) by omega), if_pos (show 0 ≤ (i : Int) by omega), if_neg c, if_neg c2, wrap_succ i (by omega)]
        exact hb
theorem fits (l : List Int) (m lo hi : Int) (hl : l.length ≤ 2147483647) : ∃ b, Ev (fun k => laws_fits.f k l m lo hi) b ∧ (b = true → (l.length : Int) ≤ m) := fits_l l m lo hi hl l.length 0 (by omega)

theorem same_l (l : List Int) (hl : l.length ≤ 2147483647) : ∀ d i : Nat, i + d = l.length → Ev (fun k => spec_SameInts.l0 k l l (i : Int)) true := by
  intro d
  induction d with
  | zero =>
    intro i h
    refine Ev.shift ?_
    simp only [spec_SameInts.l0, if_neg (show ¬ (i : Int) < (l.length : Int) by omega)]
    exact Ev.now _
  | succ d ih =>
    intro i h
    refine Ev.shift ?_
    simp only [spec_SameInts.l0, if_pos (show (i : Int) < (l.length : Int) by omega), if_pos (show 0 ≤ (i : Int) by omega), if_true, wrap_succ i (by omega)]
    exact ih (i + 1) (by omega)

theorem j1 (l0 l1 : List Int) (a2 a3 : Int) (h0 : l0.length ≤ 60) (h2 : 0 ≤ a2) (h2' : a2 ≤ 3000) (h3 : 0 ≤ a3) (h3' : a3 ≤ 3000) : Ev (fun k => laws_FnGrown.j1 k l0 l1 a2 a3 false) true := by
  obtain ⟨r, hr⟩ := Gro.grownF_some l0 l1 a2 a3 h0 h2 h2' h3 h3'
  refine Ev.shift ?_
  simp only [laws_FnGrown.j1, impl_Grown.f, spec_Grown.f, hr, Option.bind_some, if_neg (show ¬ (false = true) by decide)]
  obtain ⟨_, k, hk⟩ := Gro.grownF_spec hr
  have hl := (Gro.len l1 k).1 _ _ _ hk
  have hs : Ev (fun k => spec_SameInts.f k r r) true := by
    unfold spec_SameInts.f
    simp only [if_true]
    exact same_l r (by omega) r.length 0 (by omega)
  exact Ev.bind hs (Ev.now _)
theorem j1t (l0 l1 : List Int) (a2 a3 : Int) : Ev (fun k => laws_FnGrown.j1 k l0 l1 a2 a3 true) true := by
  refine Ev.shift ?_
  simp only [laws_FnGrown.j1, if_true]
  exact Ev.now _
theorem j0 (l0 l1 : List Int) (a2 a3 : Int) (h0 : l0.length ≤ 2147483647) (h1 : l1.length ≤ 2147483647) : Ev (fun k => laws_FnGrown.j0 k l0 l1 a2 a3 false) true := by
  refine Ev.shift ?_
  simp only [laws_FnGrown.j0, if_neg (show ¬ (false = true) by decide)]
  obtain ⟨b, hb, hb1⟩ := fits l0 40 0 300 h0
  refine Ev.bind hb ?_
  cases b with
  | false => simp only [if_neg (show ¬ (false = true) by decide)]; exact j1t _ _ _ _
  | true =>
    simp only [if_true]
    have hl := hb1 rfl
    obtain ⟨b, hb, _⟩ := fits l1 60 0 500 h1
    refine Ev.bind hb ?_
    cases b with
    | false => simp only [if_neg (show ¬ (false = true) by decide)]; exact j1t _ _ _ _
    | true =>
      simp only [if_true]
      by_cases c1 : a2 < 0
      · simp only [if_pos c1]; exact j1t _ _ _ _
      · by_cases c2 : a2 > 3000
        · simp only [if_neg c1, if_pos c2]; exact j1t _ _ _ _
        · by_cases c3 : a3 < 0
          · simp only [if_neg c1, if_neg c2, if_pos c3]; exact j1t _ _ _ _
          · simp only [if_neg c1, if_neg c2, if_neg c3]
            by_cases c4 : a3 > 3000
            · rw [decide_eq_true c4]; exact j1t _ _ _ _
            · rw [decide_eq_false c4]; exact j1 l0 l1 a2 a3 (by omega) (by omega) (by omega) (by omega) (by omega)
theorem j0t (l0 l1 : List Int) (a2 a3 : Int) : Ev (fun k => laws_FnGrown.j0 k l0 l1 a2 a3 true) true := by
  refine Ev.shift ?_
  simp only [laws_FnGrown.j0, if_true]
  exact Ev.now _

theorem FnGrown : laws_FnGrown.Pure := by
  intro l0 l1 a2 a3 _ _ _ _ _ _ _ _
  have : Ev (fun k => laws_FnGrown.f k l0 l1 a2 a3) true := by
    unfold laws_FnGrown.f
    by_cases c : (l0.length : Int) > 2147483647
    · simp only [if_pos c]; exact j0t _ _ _ _
    · simp only [if_neg c]
      by_cases c1 : (l1.length : Int) > 2147483647
      · rw [decide_eq_true c1]; exact j0t _ _ _ _
      · rw [decide_eq_false c1]; exact j0 _ _ _ _ (by omega) (by omega)
  obtain ⟨K, hK⟩ := this
  exact ⟨K, hK K (Nat.le_refl _)⟩
end Go.Proofs.Ytjpdkmmpofddlaa.Pure
