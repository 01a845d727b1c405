/-
  No cell of these rows narrows 'for every input' (looked for: loops, veiled, ifaces, maps, wideKeys, modest, calm, conditions, laid).
  DERIVED. THE GIVEN ROWS OF THIS SEAT. 2 by the template 'for every input the law returns true; each argument reads behind the call as it read before'; 0 by the template 'total and deterministic' (their statements: YtjpdkmmpofddlaaTotals.lean).
  GIVEN WITH THE SEED: the statements are not yours to turn. If you find one false, say at which input.
  Laid BY PROGRAM, IN A SANDBOX (cutbox-rows.mjs): the forced cells as the released guide's own fill.sh prints them over the translation 2422a34da7a14f02… (all of the seat's roots in one cut). By AI agents, Wed Nov 11 2026. No macro, syntax, notation, axiom, sorry.
-/
import Derived.Test.YtjpdkmmpofddlaaChecked
import GoSem.Claim
import GoSem.ClaimJoined
import GoSem.ClaimMapViews
import Derived.JoinedTies
import Derived.KernelRfl
namespace Go.Proofs.Ytjpdkmmpofddlaa
/- THE CELL 'sum', in the pinned program and in every row, IS THE sha256 OF THE DUMP (.gsa) THAT YtjpdkmmpofddlaaProg.lean LOADS. Nothing in Lean hashes anything: it is a label: what it is worth is what the hold of that sum in a sandbox is worth. -/
noncomputable def Try.pinned : Pinned := { name := "ytjpdkmmpofddlaa", sum := "2422a34da7a14f027edd7fb5540ee4eaa8876ea5173f0bc0fd3aef7742a0686d", checked := Try.checked }
namespace Rows
def none {H : Type} : Left H := { results := [], args := [] }

/-- 'laws.FnGrown': WHATEVER THE INPUT: true; the input reads as it did. -/
def fnGrownSpec : ChangeSpec := { name := "fnGrown", fn := fun _ => fun
  | [d1, d2, d3, d4] => { results := [.lit (.bool true)], args := [d1, d2, d3, d4] }
  | _ => none }
def fnGrownRow : OpenClaim := { program := "ytjpdkmmpofddlaa", sum := "2422a34da7a14f027edd7fb5540ee4eaa8876ea5173f0bc0fd3aef7742a0686d", func := "pub-pinstripe/laws.FnGrown", spec := "fnGrown", apart := false }
def FnGrownSaid : Prop := fnGrownRow.holds Try.pinned (OpenSpec.ofChange fnGrownSpec)

/-- ITS FALSE NEIGHBOUR: 'it returns false'. Refute it at one input. -/
def fnGrownWrong : ChangeSpec := { name := "fnGrown", fn := fun _ => fun
  | [d1, d2, d3, d4] => { results := [.lit (.bool false)], args := [d1, d2, d3, d4] }
  | _ => none }
def FnGrownWrongFalsely : Prop := fnGrownRow.holds Try.pinned (OpenSpec.ofChange fnGrownWrong)

/-- 'laws.FnHiddenTwice': WHATEVER THE INPUT: true; the input reads as it did. -/
def fnHiddenTwiceSpec : ChangeSpec := { name := "fnHiddenTwice", fn := fun _ => fun
  | [d1, d2, d3] => { results := [.lit (.bool true)], args := [d1, d2, d3] }
  | _ => none }
def fnHiddenTwiceRow : OpenClaim := { program := "ytjpdkmmpofddlaa", sum := "2422a34da7a14f027edd7fb5540ee4eaa8876ea5173f0bc0fd3aef7742a0686d", func := "pub-pinstripe/laws.FnHiddenTwice", spec := "fnHiddenTwice", unfollowed := true, recurses := true, apart := false }
def FnHiddenTwiceSaid : Prop := fnHiddenTwiceRow.holds Try.pinned (OpenSpec.ofChange fnHiddenTwiceSpec)

/-- ITS FALSE NEIGHBOUR: 'it returns false'. Refute it at one input. -/
def fnHiddenTwiceWrong : ChangeSpec := { name := "fnHiddenTwice", fn := fun _ => fun
  | [d1, d2, d3] => { results := [.lit (.bool false)], args := [d1, d2, d3] }
  | _ => none }
def FnHiddenTwiceWrongFalsely : Prop := fnHiddenTwiceRow.holds Try.pinned (OpenSpec.ofChange fnHiddenTwiceWrong)

/- THE SECOND FORM. 'bulk': how many values and letters a reading holds, each counted each time it is reached (what is shared counts as often as it is met; a slice's spare places count too). A statement '..UptoSaid' is the law's where the arguments, and the package variables that the reading takes, are together of bulk at most 1048576: NARROWER than '..Said'. Prove '..Said' where nothing that the law and all that it calls make is longer than what came in: it says more and counts as full. Else prove '..UptoSaid'. A law counts once. -/
mutual
def uptoBulk {H : Type} : DataW H → Nat
  | .lit (.string bytes) => bytes.length + 1
  | .lit _ => 1
  | .nil => 1
  | .ptr d => uptoBulk d + 1
  | .slice elems spare => uptoBulkAll elems + uptoBulkAll spare + 1
  | .agg parts => uptoBulkAll parts + 1
  | .iface _ d => uptoBulk d + 1
  | .map entries => uptoBulkEntries entries + 1
  | .held _ => 1
def uptoBulkAll {H : Type} : List (DataW H) → Nat
  | [] => 0
  | d :: r => uptoBulk d + uptoBulkAll r
def uptoBulkEntries {H : Type} : List (Lit × DataW H) → Nat
  | [] => 0
  | x :: r => uptoBulkEntry x + uptoBulkEntries r
def uptoBulkEntry {H : Type} : Lit × DataW H → Nat
  | (.string bytes, d) => bytes.length + uptoBulk d + 1
  | (_, d) => uptoBulk d + 1
 end
def uptoSmall : (H : Type) → List (DataW H) → Bool := fun _ ds => decide (uptoBulkAll ds ≤ 1048576)
def OpenSpec.upto (s : _root_.Go.ChangeSpec) : _root_.Go.OpenSpec := { _root_.Go.OpenSpec.ofChange s with cond := some uptoSmall }

/-- 'laws.FnGrown', WHERE WHAT IT READS IS OF BULK AT MOST 1048576: true; the input reads as it did. -/
def fnGrownUptoRow : OpenClaim := { program := "ytjpdkmmpofddlaa", sum := "2422a34da7a14f027edd7fb5540ee4eaa8876ea5173f0bc0fd3aef7742a0686d", func := "pub-pinstripe/laws.FnGrown", spec := "fnGrown", apart := false, narrowed := true }
def FnGrownUptoSaid : Prop := fnGrownUptoRow.holds Try.pinned (OpenSpec.upto fnGrownSpec)

/-- 'laws.FnHiddenTwice', WHERE WHAT IT READS IS OF BULK AT MOST 1048576: true; the input reads as it did. -/
def fnHiddenTwiceUptoRow : OpenClaim := { program := "ytjpdkmmpofddlaa", sum := "2422a34da7a14f027edd7fb5540ee4eaa8876ea5173f0bc0fd3aef7742a0686d", func := "pub-pinstripe/laws.FnHiddenTwice", spec := "fnHiddenTwice", unfollowed := true, recurses := true, apart := false, narrowed := true }
def FnHiddenTwiceUptoSaid : Prop := fnHiddenTwiceUptoRow.holds Try.pinned (OpenSpec.upto fnHiddenTwiceSpec)

end Rows
end Go.Proofs.Ytjpdkmmpofddlaa
