/- the bullet of an item's lines -/ -- ownproof
import Derived.Test.YtelbcekkfdpoaaaOpnFnPartBullet
import Derived.Test.YtelbcekkfdpoaaaSmall
import Derived.OpenShut
namespace Go.Proofs.Ytelbcekkfdpoaaa.Pure
open Go.RowKit Go.Proofs.Ytelbcekkfdpoaaa.GFnPartBullet Go.Proofs.Ytelbcekkfdpoaaa.Opn Go.Proofs.Ytelbcekkfdpoaaa.OpnFnPartBullet Go.Proofs.YtelbcekkfdpoaaaW.PrintWords Go.Proofs.YtelbcekkfdpoaaaW.PrintLast Go.Proofs.YtelbcekkfdpoaaaW.PrintMore Go.Proofs.Ytelbcekkfdpoaaa.Small

def pr (b : UInt8) : Bool := decide (32 ≤ b.toNat) && decide (b.toNat ≤ 126)

theorem bt_at (s : ByteArray) (i : Nat) (hi : i < s.size) : bt s (i : Int) = ((s.data.toList[i]'(by simpa using hi)).toNat : Int) := by
  unfold bt
  simp only [Int.toNat_natCast, dif_pos hi]
  rfl

theorem single_l (s : ByteArray) (hs : s.size ≤ 4294967296) : ∀ d i : Nat, i + d = s.size → Ev (fun k => spec_Single.l0 k s (i : Int)) ((s.data.toList.drop i).all pr) := by
  intro d
  induction d with
  | zero =>
    intro i hi
    refine Ev.shift ?_
    simp only [spec_Single.l0, if_neg (show ¬ (i : Int) < (s.size : Int) by omega)]
    rw [List.drop_of_length_le (by rw [size_data]; omega)]
    exact Ev.now _
  | succ d ih =>
    intro i hi
    refine Ev.shift ?_
    have hlt : i < s.data.toList.length := by rw [size_data]; omega
    simp only [spec_Single.l0, if_pos (show (i : Int) < (s.size : Int) by omega), if_pos (show 0 ≤ (i : Int) by omega), bt_at s i (by omega), wrap_succ i (by omega)]
    rw [List.drop_eq_getElem_cons hlt, List.all_cons]
    obtain ⟨b, hb⟩ : ∃ b, s.data.toList[i]'hlt = b := ⟨_, rfl⟩
    simp only [hb]
    by_cases h1 : (b.toNat : Int) < 32
    · rw [show pr b = false by unfold pr; simp; omega]
      simp only [if_pos h1]; exact Ev.now _
    by_cases h2 : (b.toNat : Int) > 126
    · rw [show pr b = false by unfold pr; simp; omega]
      simp only [if_neg h1, if_pos h2]; exact Ev.now _
    simp only [if_neg h1, if_neg h2]
    rw [show pr b = true by unfold pr; simp; omega, Bool.true_and]
    exact ih (i + 1) (by omega)

theorem times_l (s : ByteArray) (n : Nat) (hn : s.size * n ≤ 1000000) (hn1 : n ≤ 1000000) : ∀ d i : Nat, i + d = n → Ev (fun k => spec_Times.l0 k s (n : Int) (str (Lib.repeatL s.data.toList i)) (i : Int)) (str (Lib.repeatL s.data.toList n)) := by
  intro d
  induction d with
  | zero =>
    intro i hi
    obtain rfl : i = n := by omega
    refine Ev.shift ?_
    simp only [spec_Times.l0, if_neg (show ¬ (i : Int) < (i : Int) by omega)]
    exact Ev.now _
  | succ d ih =>
    intro i hi
    refine Ev.shift ?_
    have hl : (str (Lib.repeatL s.data.toList i)).size + s.size ≤ 9223372036854775807 := by
      rw [str_size, Lib.repeatL_length, size_data, ← Nat.succ_mul]
      have : i.succ * s.size ≤ n * s.size := Nat.mul_le_mul_right _ (by omega)
      rw [Nat.mul_comm n] at this
      omega
    have he : str (Lib.repeatL s.data.toList i) ++ s = str (Lib.repeatL s.data.toList (i + 1)) := by rw [repeatL_snoc, str_append, str_of]
    simp only [spec_Times.l0, if_pos (show (i : Int) < (n : Int) by omega), if_pos hl, he, wrap_succ i (by omega)]
    exact ih (i + 1) (by omega)
theorem times (s : ByteArray) (n : Nat) (hn : s.size * n ≤ 1000000) (hn1 : n ≤ 1000000) : Ev (fun k => spec_Times.f k s (n : Int)) (str (Lib.repeatL s.data.toList n)) := times_l s n hn hn1 n 0 (by omega)

theorem eqs (s t : ByteArray) (h : s = t) : (some (s.toList == t.toList) : Option Bool) = some true := by rw [h, toList_beq]

theorem FnPartBullet : OpnFnPartBullet.Pure := by
  intro a0 a1 a2 a3 a4 a5 x6 h0 h6
  obtain ⟨x0, x1, x2, x3, x4, x5, x6, x7, x8⟩ := x6
  simp only
  refine Ev.rounds ?_
  simp only [laws_FnPartBullet.f]
  by_cases hz : ¬ laws_zzFits3.f x0 x1 x2 x3 x4 x5 x6 x7 x8 = some true
  · have : laws_zzFits3.f x0 x1 x2 x3 x4 x5 x6 x7 x8 = some false := by
      revert hz; unfold laws_zzFits3.f
      repeat' split
      all_goals simp
    simp only [this, Option.bind_some, Bool.false_eq_true, if_false]
    exact Ev.now _
  replace hz := Classical.not_not.1 hz
  have hsz : x1.size ≤ 2147483647 ∧ x2.size ≤ 2147483647 ∧ x3.size ≤ 2147483647 ∧ x4.size ≤ 2147483647 ∧ x5.size ≤ 2147483647 ∧ x6.size ≤ 2147483647 := by
    revert hz; unfold laws_zzFits3.f
    repeat' split
    all_goals simp
    all_goals omega
  simp only [hz, Option.bind_some, if_true]
  have none_ : Ev (fun k => laws_FnPartBullet.j0 k a0 a1 a2 a3 a4 a5 true x0 x1 x2 x3 x4 x5 x6 x7 x8) true := by
    refine Ev.shift ?_
    simp only [laws_FnPartBullet.j0, if_true]
    exact Ev.now _
  by_cases hneg : a0 < 0
  · simp only [if_pos hneg]; exact none_
  simp only [if_neg hneg]
  refine Ev.bind (a := x5.data.toList.all pr) (single_l x5 (by omega) x5.size 0 (by omega)) ?_
  by_cases hp : ¬ x5.data.toList.all pr = true
  · simp only [if_neg hp]; exact none_
  replace hp := Classical.not_not.1 hp
  simp only [hp, if_true]
  by_cases h60 : (x5.size : Int) > 60
  · simp only [decide_eq_true h60]; exact none_
  simp only [decide_eq_false h60]
  have ha : ∀ b ∈ x5.data.toList, b.toNat < 128 := by
    intro b hb
    have := List.all_eq_true.1 hp b hb
    unfold pr at this
    simp at this; omega
  have himpl : impl_ListBullet.f a0 a1 a2 a3 a4 a5 x0 x1 x2 x3 x4 x5 x6 x7 x8 = some (Blt.bullet a0 a1 a2 a3 a4 a5 (str (Lib.repeatL [32] x5.size)) x1 x2 x3 x4 x5 x6) := by
    have hs : (Blt.bullet a0 a1 a2 a3 a4 a5 (str (Lib.repeatL [32] x5.size)) x1 x2 x3 x4 x5 x6).size + 4 ≤ 140737488355328 := by
      unfold Blt.bullet Blt.bullet1
      have : (str (Lib.repeatL [32] x5.size)).size = x5.size := by rw [str_size, Lib.repeatL_length]; simp
      have h1 : (⟨#[32]⟩ : ByteArray).size = 1 := rfl
      repeat' split
      all_goals (try rw [ByteArray.size_append]); omega
    simp only [impl_ListBullet.f, impl_listStyle.f, Option.bind_some, list_ZzBullet.f]
    rw [if_pos ⟨by omega, ha, hs⟩]
    rfl
  refine Ev.shift ?_
  simp only [laws_FnPartBullet.j0, Bool.false_eq_true, if_false]
  by_cases hpos : a0 > 0
  · have hne : a0 ≠ 0 := by omega
    have j2 : ∀ v : ByteArray, (v = if a4 then str (Lib.repeatL [32] x5.size) else x5) → Ev (fun k => laws_FnPartBullet.j2 k a0 a1 a2 a3 a4 a5 v x0 x1 x2 x3 x4 x5 x6 x7 x8) true := by
      intro v hv
      refine Ev.shift ?_
      simp only [laws_FnPartBullet.j2, if_neg hne, himpl, Option.bind_some]
      rw [eqs _ _ (by rw [hv]; unfold Blt.bullet; rw [if_pos hpos])]
      exact Ev.now _
    simp only [if_pos hpos]
    refine Ev.shift ?_
    simp only [laws_FnPartBullet.j1]
    cases a4
    · simp only [Bool.false_eq_true, if_false]
      exact j2 _ (by simp)
    · simp only [if_true]
      exact Ev.bind (times (⟨#[32]⟩ : ByteArray) x5.size (by show 1 * x5.size ≤ _; omega) (by omega)) (j2 _ (by first | (simp; done) | (simp; rfl)))
  · have hz0 : a0 = 0 := by omega
    simp only [if_neg hpos]
    refine Ev.shift ?_
    simp only [laws_FnPartBullet.j1, Bool.false_eq_true, if_false]
    refine Ev.shift ?_
    simp only [laws_FnPartBullet.j2, if_pos hz0]
    have hb : Blt.bullet a0 a1 a2 a3 a4 a5 (str (Lib.repeatL [32] x5.size)) x1 x2 x3 x4 x5 x6 = Blt.bullet1 a1 a2 a3 a4 a5 x1 x2 x3 x4 x6 ++ (⟨#[32]⟩ : ByteArray) := by unfold Blt.bullet; rw [if_neg hpos]
    rw [hb] at himpl
    cases a3 <;> cases a1 <;> cases a2 <;> cases a5 <;> cases a4
    all_goals
      simp only [Bool.false_eq_true, if_false, if_true]
      refine Ev.shift ?_
      simp only [laws_FnPartBullet.j3, Bool.false_eq_true, if_false, if_true, if_pos (show x1.size + 1 ≤ 9223372036854775807 by omega), if_pos (show x2.size + 1 ≤ 9223372036854775807 by omega), if_pos (show x3.size + 1 ≤ 9223372036854775807 by omega), if_pos (show x4.size + 1 ≤ 9223372036854775807 by omega), if_pos (show x6.size + 1 ≤ 9223372036854775807 by omega), himpl, Option.bind_some]
      rw [eqs _ _ (by simp [Blt.bullet1])]
      exact Ev.now _

end Go.Proofs.Ytelbcekkfdpoaaa.Pure
