/- SplitCamelCase's contract in the print's words. -/
import Derived.Test.YtjaebonfojnmdaaDoorCmw
namespace Go.Proofs.YtjaebonfojnmdaaDoor.Cmf
open Go Go.RowKit Go.Proofs.YtjaebonfojnmdaaDoorW.PrintWords
instance letDec (b : UInt8) : Decidable (Cmb.Let b) := by unfold Cmb.Let; exact inferInstance
theorem calls (s : ByteArray) (w : World) (hT : Cmb.Tp w) (hl : ∀ b ∈ s.data.toList, Cmb.Let b) (hs : s.size ≤ 200) (hpos : 0 < s.size) :
    Calls Tryd.prog 7 #[.string s] w fun e w' => ∃ v0_ : Value, e = .returned (v0_) ∧ Kd.R Kd.string 9 w' w.heap.size (fun _ => True) v0_ (Cmp.camel (Cmw.runes s)) ∧ Below w.heap.size w w' :=
  (Cmw.walk s w hT hl hs hpos).mono fun _ _ ⟨v, he, ho, hb⟩ => ⟨v, he, Kd.R_of_own ho (fun _ _ => trivial), hb⟩
end Go.Proofs.YtjaebonfojnmdaaDoor.Cmf
