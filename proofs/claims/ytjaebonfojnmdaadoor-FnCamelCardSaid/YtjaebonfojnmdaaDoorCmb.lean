/- The library's calls of SplitCamelCase on letters of ASCII, the tables given. -/
import Derived.Test.YtjaebonfojnmdaaDoorShelf
import Derived.Test.YtjaebonfojnmdaaDoorBld
import Derived.Test.YtjaebonfojnmdaaDoorCma
namespace Go.Proofs.YtjaebonfojnmdaaDoor.Cmb
open Go Go.RowKit Go.Lib

theorem tab_below {name : String} {k : IntKind} {zs : List Int} {w w' : World} (h : Lib.TabIs Tryd.prog w name k zs) (hb : Below w.heap.size w w') : Lib.TabIs Tryd.prog w' name k zs := by
  unfold Lib.TabIs World.var? at h ⊢
  obtain ⟨g, hg, h⟩ := Option.bind_eq_some_iff.mp h
  rw [hg]
  simp only [Option.bind_some]
  have hlt : g < w.heap.size := by
    rcases Nat.lt_or_ge g w.heap.size with h1 | h1
    · exact h1
    · rw [Array.getElem?_eq_none h1] at h
      cases h
  rw [hb.block g hlt]
  exact h
/-- the tables lie -/
structure Tp (w : World) : Prop where
  u : Lib.Utf8Tabs 0 1 w
  p : Lib.TabIs Tryd.prog w "unicode.properties" .u8 Lib.propertiesTab
  s : Lib.TabIs Tryd.prog w "strings.asciiSpace" .u8 Lib.asciiSpaceTab
theorem Tp.below {w w' : World} (h : Tp w) (hb : Below w.heap.size w w') : Tp w' := ⟨Utf8Tabs_below h.u hb, tab_below h.p hb, tab_below h.s hb⟩
def Let (b : UInt8) : Prop := (97 ≤ b.toNat ∧ b.toNat ≤ 122) ∨ (65 ≤ b.toNat ∧ b.toNat ≤ 90)
end Go.Proofs.YtjaebonfojnmdaaDoor.Cmb
