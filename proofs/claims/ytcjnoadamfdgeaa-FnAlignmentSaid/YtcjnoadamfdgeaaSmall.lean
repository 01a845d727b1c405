/- Small lemmas for statements over numbers and lists: rounds, sums without a wrap, elements of lists. -/
import Derived.Test.YtcjnoadamfdgeaaWLast
import Derived.Test.YtcjnoadamfdgeaaWMore
namespace Go.Proofs.Ytcjnoadamfdgeaa.Small
open Go.RowKit Go.Proofs.YtcjnoadamfdgeaaW.PrintWords Go.Proofs.YtcjnoadamfdgeaaW.PrintLast

theorem Ev.shift {α : Type} {g : Nat → Option α} {r : α} (h : Ev (fun k => g (k + 1)) r) : Ev g r := Ev.step (fun _ => rfl) h
theorem wrap_in {n : Int} (h0 : -9223372036854775808 ≤ n) (h1 : n ≤ 9223372036854775807) : wrap64 n = n := by unfold wrap64; omega
theorem wrap_succ (n : Nat) (h : n < 9223372036854775807) : wrap64 ((n : Int) + 1) = ((n + 1 : Nat) : Int) := by rw [wrap_in (by omega) (by omega)]; omega
theorem rdOf_nat {α : Type} (d : α) (xs : List α) (i : Nat) : rdOf d xs (i : Int) = xs.getD i d := by simp [rdOf]
theorem rd_nat (xs : List Int) (i : Nat) : rd xs (i : Int) = xs.getD i 0 := by simp [rd]
theorem getD_at {α : Type} (d : α) (xs : List α) (i : Nat) (h : i < xs.length) : xs.getD i d = xs[i] := by simp [List.getD_eq_getElem?_getD, List.getElem?_eq_getElem h]
theorem take_succ_at {α : Type} (xs : List α) (i : Nat) (h : i < xs.length) : xs.take (i + 1) = xs.take i ++ [xs[i]] := by rw [List.take_succ_eq_append_getElem h]
end Go.Proofs.Ytcjnoadamfdgeaa.Small
