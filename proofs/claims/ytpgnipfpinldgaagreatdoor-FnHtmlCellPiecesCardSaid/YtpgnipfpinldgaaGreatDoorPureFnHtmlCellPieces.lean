/- The law of pieces in HTML, in plain Lean. -/
import Derived.Test.YtpgnipfpinldgaaGreatDoorGFnHtmlCellPiecesx1
import Derived.Test.YtpgnipfpinldgaaGreatDoorHtW
namespace Go.Proofs.YtpgnipfpinldgaaGreatDoor.Pure
open Go.RowKit Go.Proofs.YtpgnipfpinldgaaGreatDoor.GFnHtmlCellPieces Go.Proofs.YtpgnipfpinldgaaGreatDoorW.PrintWords Go.Proofs.YtpgnipfpinldgaaGreatDoorW.PrintLast Go.Proofs.YtpgnipfpinldgaaGreatDoor.Small Go.Proofs.YtpgnipfpinldgaaGreatDoor.Htp

theorem htm_size (e : Bool) (q s : List UInt8) (hq : q.length ≤ 20) (hs : s.length ≤ 700) : (htm e q s).length ≤ 100000 := by
  have h1 := escL_len s
  have h2 := rep_len q s
  have h3 := rep_len q (escL s)
  have h4 : (q.length + 1) * s.length ≤ 21 * 700 := Nat.mul_le_mul (by omega) hs
  have h5 : (q.length + 1) * (escL s).length ≤ 21 * 3500 := Nat.mul_le_mul (by omega) (by omega)
  unfold htm
  cases e <;> split <;> simp <;> omega
theorem less (q : List UInt8) : htm true q [60] = [38, 108, 116, 59] := by
  unfold htm
  have e : escL [60] = [38, 108, 116, 59] := by decide
  simp only [if_true, e]
  split
  · rfl
  · exact rep_none q _ (by decide)
theorem FnHtmlCellPieces : laws_FnHtmlCellPieces.Pure := by
  intro a b e q h0 h1 h3
  have hj0 : ∀ x : Bool, x = true → ∃ k, laws_FnHtmlCellPieces.j0 k a b e q x = some true := fun x hx => ⟨1, by simp only [laws_FnHtmlCellPieces.j0, if_pos hx]⟩
  have hj1 : ∀ x : Bool, x = true → Ev (fun k => laws_FnHtmlCellPieces.j1 k a b e q x) true := fun x hx => Ev.shift (by simp only [laws_FnHtmlCellPieces.j1, if_pos hx]; exact Ev.now _)
  by_cases c0 : (a.size : Int) > 2147483647
  · obtain ⟨k, hk⟩ := hj0 true rfl
    exact ⟨k, by unfold laws_FnHtmlCellPieces.f; rw [if_pos c0]; exact hk⟩
  by_cases c1 : (b.size : Int) > 2147483647
  · obtain ⟨k, hk⟩ := hj0 true rfl
    exact ⟨k, by unfold laws_FnHtmlCellPieces.f; rw [if_neg c0, if_pos c1]; exact hk⟩
  have : Ev (fun k => laws_FnHtmlCellPieces.j0 k a b e q (decide ((q.size : Int) > 2147483647))) true := by
    refine Ev.shift ?_
    by_cases c3 : (q.size : Int) > 2147483647
    · simp only [laws_FnHtmlCellPieces.j0, decide_eq_true c3, if_true]
      exact Ev.now _
    · simp only [laws_FnHtmlCellPieces.j0, decide_eq_false c3, if_neg (show ¬ (false = true) by decide), wrap_in (show -9223372036854775808 ≤ (a.size : Int) + (b.size : Int) by omega) (by omega)]
      by_cases c4 : (a.size : Int) + (b.size : Int) > 600
      · simp only [if_pos c4]
        exact hj1 true rfl
      · simp only [if_neg c4]
        by_cases c5 : (q.size : Int) > 20
        · rw [decide_eq_true c5]
          exact hj1 true rfl
        · rw [decide_eq_false c5]
          have H : ∀ (s : ByteArray) (x : Bool), s.size ≤ 700 → impl_HtmlCell.f s false x q = some (str (htm x q.data.toList s.data.toList)) := fun s x hs => by
            unfold impl_HtmlCell.f
            rw [if_pos ⟨hs, rfl, by omega⟩]
          have s1 := htm_size e q.data.toList a.data.toList (by rw [size_data]; omega) (by rw [size_data]; omega)
          have s2 := htm_size e q.data.toList b.data.toList (by rw [size_data]; omega) (by rw [size_data]; omega)
          have e1 : (a ++ b).data.toList = a.data.toList ++ b.data.toList := by rw [ByteArray.data_append, Array.toList_append]
          refine Ev.shift ?_
          simp only [laws_FnHtmlCellPieces.j1, if_neg (show ¬ (false = true) by decide), if_pos (show a.size + b.size ≤ 9223372036854775807 by omega), H (a ++ b) e (by rw [ByteArray.size_append]; omega), H a e (by omega), H b e (by omega), Option.bind_some, str_size]
          rw [← str_append, e1, htm_append]
          simp only [if_true]
          have e2 : impl_HtmlCell.f ⟨#[60]⟩ false true q = some (str [38, 108, 116, 59]) := by
            rw [H ⟨#[60]⟩ true (by decide)]
            congr 2
            exact less _
          have s3 : (htm e q.data.toList a.data.toList).length + (htm e q.data.toList b.data.toList).length ≤ 9223372036854775807 := by omega
          have e3 : ((str [38, 108, 116, 59]).toList == ([38, 108, 116, 59] : List UInt8)) = true := by rw [toList_str]; rfl
          simp only [e2, Option.bind_some, if_pos s3, e3]
          exact Ev.now _
  obtain ⟨K, hK⟩ := this
  exact ⟨K, by unfold laws_FnHtmlCellPieces.f; rw [if_neg c0, if_neg c1]; exact hK K (Nat.le_refl _)⟩
end Go.Proofs.YtpgnipfpinldgaaGreatDoor.Pure
