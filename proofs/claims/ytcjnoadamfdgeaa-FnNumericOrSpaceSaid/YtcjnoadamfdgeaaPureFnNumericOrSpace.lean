/- Of the printable ASCII characters the program says of the digits and of the blank, and of no others, that they are a digit or a space; asked of the byte modulo 127, where that is 32 or more. -/
import Derived.Test.YtcjnoadamfdgeaaPFnNumericOrSpacex1
namespace Go.Proofs.Ytcjnoadamfdgeaa.Pure
open Go.RowKit Go.Proofs.Ytcjnoadamfdgeaa.PFnNumericOrSpace Go.Proofs.YtcjnoadamfdgeaaW.PrintWords Go.Proofs.YtcjnoadamfdgeaaW.PrintLast

theorem FnNumericOrSpace : laws_FnNumericOrSpace.Pure := by
  intro a0 _
  unfold laws_FnNumericOrSpace.f impl_TwIsNumericOrSpace.f tw_IsIsNumericOrSpace.f
  generalize wrap32 (Int.tmod a0 127) = r
  by_cases h1 : r < 32
  · rw [if_pos h1]
  · rw [if_neg h1]
    by_cases h2 : 48 ≤ r
    · by_cases h3 : r ≤ 57
      · simp [h2, h3]
      · simp [h2, h3]
    · simp [h2]

end Go.Proofs.Ytcjnoadamfdgeaa.Pure
