/- How the arguments of laws.FnHiddenTwice open, and the one statement over numbers and lists that is left of it. -/
import Derived.Test.YtjpdkmmpofddlaaGFnHiddenTwicex
import Derived.Test.YtjpdkmmpofddlaaOpens
namespace Go.Proofs.Ytjpdkmmpofddlaa.OpnFnHiddenTwice
open Go.RowKit Go.Proofs.Ytjpdkmmpofddlaa.GFnHiddenTwice Go.Proofs.Ytjpdkmmpofddlaa.Opn Go.Proofs.YtjpdkmmpofddlaaW.PrintWords Go.Proofs.YtjpdkmmpofddlaaW.PrintLast
set_option linter.unusedVariables false

def ok9 (x : ByteArray) : Prop := (x).size ≤ maxLen
theorem opens9 : Opens Try.prog 9 Kd.string ok9 := Opens.string Try.underlying9 (by kernel_rfl)
def ok33 (x : List (ByteArray)) : Prop := (∀ y_ ∈ x, ok9 y_)
theorem opens33 : Opens Try.prog 33 (Kd.slice 9 Kd.string) ok33 := Opens.slice Try.underlying33 (by kernel_rfl) opens9
def ok4 (x : Bool) : Prop := True
theorem opens4 : Opens Try.prog 4 Kd.bool ok4 := Opens.bool Try.underlying4 (by kernel_rfl)
def Pure : Prop := ∀ (l0 : List (List (ByteArray))) (l1 : List (Bool)) (l2 : List (Bool)), l0.length ≤ maxLen → (∀ x ∈ l0, ok33 x) → l1.length ≤ maxLen → (∀ x ∈ l1, ok4 x) → l2.length ≤ maxLen → (∀ x ∈ l2, ok4 x) → laws_FnHiddenTwice.f l0 l1 l2 = some true
end Go.Proofs.Ytjpdkmmpofddlaa.OpnFnHiddenTwice
