/-
  No cell of these rows narrows 'for every input' (looked for: loops, veiled, ifaces, maps, wideKeys, modest, calm, conditions, laid).
  DERIVED. THE GIVEN ROWS OF THIS SEAT. 4 by the template 'for every input the law returns true; each argument reads behind the call as it read before'; 0 by the template 'total and deterministic' (their statements: YtelbcekkfdpoaaaTotals.lean).
  GIVEN WITH THE SEED: the statements are not yours to turn. If you find one false, say at which input.
  Laid BY PROGRAM, IN A SANDBOX (cutbox-rows.mjs): the forced cells as the released guide's own fill.sh prints them over the translation d2e231aafb0ec24f… (all of the seat's roots in one cut). By AI agents, Wed Nov 11 2026. No macro, syntax, notation, axiom, sorry.
-/
import Derived.Test.YtelbcekkfdpoaaaChecked
import GoSem.Claim
import GoSem.ClaimJoined
import GoSem.ClaimMapViews
import Derived.JoinedTies
import Derived.KernelRfl
namespace Go.Proofs.Ytelbcekkfdpoaaa
/- THE CELL 'sum', in the pinned program and in every row, IS THE sha256 OF THE DUMP (.gsa) THAT YtelbcekkfdpoaaaProg.lean LOADS. Nothing in Lean hashes anything: it is a label: what it is worth is what the hold of that sum in a sandbox is worth. -/
noncomputable def Try.pinned : Pinned := { name := "ytelbcekkfdpoaaa", sum := "d2e231aafb0ec24f2f9e9cb9104fc2a1b9cba7dcc4212c7a72a4c3e69ec1a565", checked := Try.checked }
namespace Rows
def none {H : Type} : Left H := { results := [], args := [] }

/-- 'laws.FnTsvRowBack': WHATEVER THE INPUT: true; the input reads as it did. -/
def fnTsvRowBackSpec : ChangeSpec := { name := "fnTsvRowBack", fn := fun _ => fun
  | [d] => { results := [.lit (.bool true)], args := [d] }
  | _ => none }
def fnTsvRowBackRow : OpenClaim := { program := "ytelbcekkfdpoaaa", sum := "d2e231aafb0ec24f2f9e9cb9104fc2a1b9cba7dcc4212c7a72a4c3e69ec1a565", func := "pub-pinstripe/laws.FnTsvRowBack", spec := "fnTsvRowBack", inPlace := ["internal/abi.NoEscape"], apart := false }
def FnTsvRowBackSaid : Prop := fnTsvRowBackRow.holds Try.pinned (OpenSpec.ofChange fnTsvRowBackSpec)

/-- ITS FALSE NEIGHBOUR: 'it returns false'. Refute it at one input. -/
def fnTsvRowBackWrong : ChangeSpec := { name := "fnTsvRowBack", fn := fun _ => fun
  | [d] => { results := [.lit (.bool false)], args := [d] }
  | _ => none }
def FnTsvRowBackWrongFalsely : Prop := fnTsvRowBackRow.holds Try.pinned (OpenSpec.ofChange fnTsvRowBackWrong)

/-- 'laws.FnTextAlignMarkdown': WHATEVER THE INPUT: true; the input reads as it did. -/
def fnTextAlignMarkdownSpec : ChangeSpec := { name := "fnTextAlignMarkdown", fn := fun _ => fun
  | [d1, d2] => { results := [.lit (.bool true)], args := [d1, d2] }
  | _ => none }
def fnTextAlignMarkdownRow : OpenClaim := { program := "ytelbcekkfdpoaaa", sum := "d2e231aafb0ec24f2f9e9cb9104fc2a1b9cba7dcc4212c7a72a4c3e69ec1a565", func := "pub-pinstripe/laws.FnTextAlignMarkdown", spec := "fnTextAlignMarkdown", inPlace := ["internal/abi.NoEscape", "internal/bytealg.MakeNoZero"], apart := false }
def FnTextAlignMarkdownSaid : Prop := fnTextAlignMarkdownRow.holds Try.pinned (OpenSpec.ofChange fnTextAlignMarkdownSpec)

/-- ITS FALSE NEIGHBOUR: 'it returns false'. Refute it at one input. -/
def fnTextAlignMarkdownWrong : ChangeSpec := { name := "fnTextAlignMarkdown", fn := fun _ => fun
  | [d1, d2] => { results := [.lit (.bool false)], args := [d1, d2] }
  | _ => none }
def FnTextAlignMarkdownWrongFalsely : Prop := fnTextAlignMarkdownRow.holds Try.pinned (OpenSpec.ofChange fnTextAlignMarkdownWrong)

/-- 'laws.FnTextVAlign': WHATEVER THE INPUT: true; the input reads as it did. -/
def fnTextVAlignSpec : ChangeSpec := { name := "fnTextVAlign", fn := fun _ => fun
  | [d1, d2, d3] => { results := [.lit (.bool true)], args := [d1, d2, d3] }
  | _ => none }
def fnTextVAlignRow : OpenClaim := { program := "ytelbcekkfdpoaaa", sum := "d2e231aafb0ec24f2f9e9cb9104fc2a1b9cba7dcc4212c7a72a4c3e69ec1a565", func := "pub-pinstripe/laws.FnTextVAlign", spec := "fnTextVAlign", inPlace := ["internal/abi.NoEscape", "internal/bytealg.MakeNoZero"], apart := false }
def FnTextVAlignSaid : Prop := fnTextVAlignRow.holds Try.pinned (OpenSpec.ofChange fnTextVAlignSpec)

/-- ITS FALSE NEIGHBOUR: 'it returns false'. Refute it at one input. -/
def fnTextVAlignWrong : ChangeSpec := { name := "fnTextVAlign", fn := fun _ => fun
  | [d1, d2, d3] => { results := [.lit (.bool false)], args := [d1, d2, d3] }
  | _ => none }
def FnTextVAlignWrongFalsely : Prop := fnTextVAlignRow.holds Try.pinned (OpenSpec.ofChange fnTextVAlignWrong)

/-- 'laws.FnPartBullet': WHATEVER THE INPUT: true; the input reads as it did. -/
def fnPartBulletSpec : ChangeSpec := { name := "fnPartBullet", fn := fun _ => fun
  | [d1, d2, d3, d4, d5, d6, d7] => { results := [.lit (.bool true)], args := [d1, d2, d3, d4, d5, d6, d7] }
  | _ => none }
def fnPartBulletRow : OpenClaim := { program := "ytelbcekkfdpoaaa", sum := "d2e231aafb0ec24f2f9e9cb9104fc2a1b9cba7dcc4212c7a72a4c3e69ec1a565", func := "pub-pinstripe/laws.FnPartBullet", spec := "fnPartBullet", inPlace := ["internal/abi.NoEscape", "internal/bytealg.MakeNoZero"], apart := false }
def FnPartBulletSaid : Prop := fnPartBulletRow.holds Try.pinned (OpenSpec.ofChange fnPartBulletSpec)

/-- ITS FALSE NEIGHBOUR: 'it returns false'. Refute it at one input. -/
def fnPartBulletWrong : ChangeSpec := { name := "fnPartBullet", fn := fun _ => fun
  | [d1, d2, d3, d4, d5, d6, d7] => { results := [.lit (.bool false)], args := [d1, d2, d3, d4, d5, d6, d7] }
  | _ => none }
def FnPartBulletWrongFalsely : Prop := fnPartBulletRow.holds Try.pinned (OpenSpec.ofChange fnPartBulletWrong)

/- THE SECOND FORM. 'bulk': how many values and letters a reading holds, each counted each time it is reached (what is shared counts as often as it is met; a slice's spare places count too). A statement '..UptoSaid' is the law's where the arguments, and the package variables that the reading takes, are together of bulk at most 1048576: NARROWER than '..Said'. Prove '..Said' where nothing that the law and all that it calls make is longer than what came in: it says more and counts as full. Else prove '..UptoSaid'. A law counts once. -/
mutual
def uptoBulk {H : Type} : DataW H → Nat
  | .lit (.string bytes) => bytes.length + 1
  | .lit _ => 1
  | .nil => 1
  | .ptr d => uptoBulk d + 1
  | .slice elems spare => uptoBulkAll elems + uptoBulkAll spare + 1
  | .agg parts => uptoBulkAll parts + 1
  | .iface _ d => uptoBulk d + 1
  | .map entries => uptoBulkEntries entries + 1
  | .held _ => 1
def uptoBulkAll {H : Type} : List (DataW H) → Nat
  | [] => 0
  | d :: r => uptoBulk d + uptoBulkAll r
def uptoBulkEntries {H : Type} : List (Lit × DataW H) → Nat
  | [] => 0
  | x :: r => uptoBulkEntry x + uptoBulkEntries r
def uptoBulkEntry {H : Type} : Lit × DataW H → Nat
  | (.string bytes, d) => bytes.length + uptoBulk d + 1
  | (_, d) => uptoBulk d + 1
 end
def uptoSmall : (H : Type) → List (DataW H) → Bool := fun _ ds => decide (uptoBulkAll ds ≤ 1048576)
def OpenSpec.upto (s : _root_.Go.ChangeSpec) : _root_.Go.OpenSpec := { _root_.Go.OpenSpec.ofChange s with cond := some uptoSmall }

/-- 'laws.FnTsvRowBack', WHERE WHAT IT READS IS OF BULK AT MOST 1048576: true; the input reads as it did. -/
def fnTsvRowBackUptoRow : OpenClaim := { program := "ytelbcekkfdpoaaa", sum := "d2e231aafb0ec24f2f9e9cb9104fc2a1b9cba7dcc4212c7a72a4c3e69ec1a565", func := "pub-pinstripe/laws.FnTsvRowBack", spec := "fnTsvRowBack", inPlace := ["internal/abi.NoEscape"], apart := false, narrowed := true }
def FnTsvRowBackUptoSaid : Prop := fnTsvRowBackUptoRow.holds Try.pinned (OpenSpec.upto fnTsvRowBackSpec)

/-- 'laws.FnTextAlignMarkdown', WHERE WHAT IT READS IS OF BULK AT MOST 1048576: true; the input reads as it did. -/
def fnTextAlignMarkdownUptoRow : OpenClaim := { program := "ytelbcekkfdpoaaa", sum := "d2e231aafb0ec24f2f9e9cb9104fc2a1b9cba7dcc4212c7a72a4c3e69ec1a565", func := "pub-pinstripe/laws.FnTextAlignMarkdown", spec := "fnTextAlignMarkdown", inPlace := ["internal/abi.NoEscape", "internal/bytealg.MakeNoZero"], apart := false, narrowed := true }
def FnTextAlignMarkdownUptoSaid : Prop := fnTextAlignMarkdownUptoRow.holds Try.pinned (OpenSpec.upto fnTextAlignMarkdownSpec)

/-- 'laws.FnTextVAlign', WHERE WHAT IT READS IS OF BULK AT MOST 1048576: true; the input reads as it did. -/
def fnTextVAlignUptoRow : OpenClaim := { program := "ytelbcekkfdpoaaa", sum := "d2e231aafb0ec24f2f9e9cb9104fc2a1b9cba7dcc4212c7a72a4c3e69ec1a565", func := "pub-pinstripe/laws.FnTextVAlign", spec := "fnTextVAlign", inPlace := ["internal/abi.NoEscape", "internal/bytealg.MakeNoZero"], apart := false, narrowed := true }
def FnTextVAlignUptoSaid : Prop := fnTextVAlignUptoRow.holds Try.pinned (OpenSpec.upto fnTextVAlignSpec)

/-- 'laws.FnPartBullet', WHERE WHAT IT READS IS OF BULK AT MOST 1048576: true; the input reads as it did. -/
def fnPartBulletUptoRow : OpenClaim := { program := "ytelbcekkfdpoaaa", sum := "d2e231aafb0ec24f2f9e9cb9104fc2a1b9cba7dcc4212c7a72a4c3e69ec1a565", func := "pub-pinstripe/laws.FnPartBullet", spec := "fnPartBullet", inPlace := ["internal/abi.NoEscape", "internal/bytealg.MakeNoZero"], apart := false, narrowed := true }
def FnPartBulletUptoSaid : Prop := fnPartBulletUptoRow.holds Try.pinned (OpenSpec.upto fnPartBulletSpec)

end Rows
end Go.Proofs.Ytelbcekkfdpoaaa
