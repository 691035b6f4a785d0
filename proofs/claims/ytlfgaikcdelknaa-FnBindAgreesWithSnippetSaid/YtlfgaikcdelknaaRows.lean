/-
  No cell of these rows narrows 'for every input' (looked for: loops, veiled, ifaces, maps, wideKeys, modest, calm, conditions, laid).
  DERIVED. THE GIVEN ROWS OF THIS SEAT. 3 by the template 'for every input the law returns true; each argument reads behind the call as it read before'; 0 by the template 'total and deterministic' (their statements: YtlfgaikcdelknaaTotals.lean).
  GIVEN WITH THE SEED: the statements are not yours to turn. If you find one false, say at which input.
  Laid BY PROGRAM, IN A SANDBOX (cutbox-rows.mjs): the forced cells as the released guide's own fill.sh prints them over the translation 2e8d7980f5c51e97… (all of the seat's roots in one cut). By AI agents, Wed Nov 11 2026. No macro, syntax, notation, axiom, sorry.
-/
import Derived.Test.YtlfgaikcdelknaaChecked
import GoSem.Claim
import GoSem.ClaimJoined
import GoSem.ClaimMapViews
import Derived.JoinedTies
import Derived.KernelRfl
namespace Go.Proofs.Ytlfgaikcdelknaa
/- THE CELL 'sum', in the pinned program and in every row, IS THE sha256 OF THE DUMP (.gsa) THAT YtlfgaikcdelknaaProg.lean LOADS. Nothing in Lean hashes anything: it is a label: what it is worth is what the hold of that sum in a sandbox is worth. -/
noncomputable def Try.pinned : Pinned := { name := "ytlfgaikcdelknaa", sum := "2e8d7980f5c51e97b207fb28f0ae4219c1250a043ed38f9e27d2f73e327c1edb", checked := Try.checked }
namespace Rows
def none {H : Type} : Left H := { results := [], args := [] }

/-- 'n003_98.FnBindWhole': WHATEVER THE INPUT: true; the input reads as it did. -/
def fnBindWholeSpec : ChangeSpec := { name := "fnBindWhole", fn := fun _ => fun
  | [d1, d2, d3, d4, d5, d6, d7] => { results := [.lit (.bool true)], args := [d1, d2, d3, d4, d5, d6, d7] }
  | _ => none }
def fnBindWholeRow : OpenClaim := { program := "ytlfgaikcdelknaa", sum := "2e8d7980f5c51e97b207fb28f0ae4219c1250a043ed38f9e27d2f73e327c1edb", func := "github.com/expr-lang/expr/n003_98.FnBindWhole", spec := "fnBindWhole", inPlace := ["internal/bytealg.IndexByteString", "internal/abi.NoEscape", "internal/bytealg.MakeNoZero"], apart := false }
def FnBindWholeSaid : Prop := fnBindWholeRow.holds Try.pinned (OpenSpec.ofChange fnBindWholeSpec)

/-- ITS FALSE NEIGHBOUR: 'it returns false'. Refute it at one input. -/
def fnBindWholeWrong : ChangeSpec := { name := "fnBindWhole", fn := fun _ => fun
  | [d1, d2, d3, d4, d5, d6, d7] => { results := [.lit (.bool false)], args := [d1, d2, d3, d4, d5, d6, d7] }
  | _ => none }
def FnBindWholeWrongFalsely : Prop := fnBindWholeRow.holds Try.pinned (OpenSpec.ofChange fnBindWholeWrong)

/-- 'n003_98.FnUnwrapFollowsChainAndSurvivesBind': WHATEVER THE INPUT: true; the input reads as it did. -/
def fnUnwrapFollowsChainAndSurvivesBindSpec : ChangeSpec := { name := "fnUnwrapFollowsChainAndSurvivesBind", fn := fun _ => fun
  | [d1, d2, d3, d4, d5] => { results := [.lit (.bool true)], args := [d1, d2, d3, d4, d5] }
  | _ => none }
def fnUnwrapFollowsChainAndSurvivesBindRow : OpenClaim := { program := "ytlfgaikcdelknaa", sum := "2e8d7980f5c51e97b207fb28f0ae4219c1250a043ed38f9e27d2f73e327c1edb", func := "github.com/expr-lang/expr/n003_98.FnUnwrapFollowsChainAndSurvivesBind", spec := "fnUnwrapFollowsChainAndSurvivesBind", inPlace := ["internal/bytealg.IndexByteString", "internal/abi.NoEscape", "internal/bytealg.MakeNoZero"], apart := false }
def FnUnwrapFollowsChainAndSurvivesBindSaid : Prop := fnUnwrapFollowsChainAndSurvivesBindRow.holds Try.pinned (OpenSpec.ofChange fnUnwrapFollowsChainAndSurvivesBindSpec)

/-- ITS FALSE NEIGHBOUR: 'it returns false'. Refute it at one input. -/
def fnUnwrapFollowsChainAndSurvivesBindWrong : ChangeSpec := { name := "fnUnwrapFollowsChainAndSurvivesBind", fn := fun _ => fun
  | [d1, d2, d3, d4, d5] => { results := [.lit (.bool false)], args := [d1, d2, d3, d4, d5] }
  | _ => none }
def FnUnwrapFollowsChainAndSurvivesBindWrongFalsely : Prop := fnUnwrapFollowsChainAndSurvivesBindRow.holds Try.pinned (OpenSpec.ofChange fnUnwrapFollowsChainAndSurvivesBindWrong)

/-- 'n003_98.FnBindAgreesWithSnippet': WHATEVER THE INPUT: true; the input reads as it did. -/
def fnBindAgreesWithSnippetSpec : ChangeSpec := { name := "fnBindAgreesWithSnippet", fn := fun _ => fun
  | [d1, d2, d3] => { results := [.lit (.bool true)], args := [d1, d2, d3] }
  | _ => none }
def fnBindAgreesWithSnippetRow : OpenClaim := { program := "ytlfgaikcdelknaa", sum := "2e8d7980f5c51e97b207fb28f0ae4219c1250a043ed38f9e27d2f73e327c1edb", func := "github.com/expr-lang/expr/n003_98.FnBindAgreesWithSnippet", spec := "fnBindAgreesWithSnippet", inPlace := ["internal/bytealg.IndexByteString", "internal/abi.NoEscape", "internal/bytealg.MakeNoZero"], apart := false }
def FnBindAgreesWithSnippetSaid : Prop := fnBindAgreesWithSnippetRow.holds Try.pinned (OpenSpec.ofChange fnBindAgreesWithSnippetSpec)

/-- ITS FALSE NEIGHBOUR: 'it returns false'. Refute it at one input. -/
def fnBindAgreesWithSnippetWrong : ChangeSpec := { name := "fnBindAgreesWithSnippet", fn := fun _ => fun
  | [d1, d2, d3] => { results := [.lit (.bool false)], args := [d1, d2, d3] }
  | _ => none }
def FnBindAgreesWithSnippetWrongFalsely : Prop := fnBindAgreesWithSnippetRow.holds Try.pinned (OpenSpec.ofChange fnBindAgreesWithSnippetWrong)

/- THE SECOND FORM. 'bulk': how many values and letters a reading holds, each counted each time it is reached (what is shared counts as often as it is met; a slice's spare places count too). A statement '..UptoSaid' is the law's where the arguments, and the package variables that the reading takes, are together of bulk at most 1048576: NARROWER than '..Said'. Prove '..Said' where nothing that the law and all that it calls make is longer than what came in: it says more and counts as full. Else prove '..UptoSaid'. A law counts once. -/
mutual
def uptoBulk {H : Type} : DataW H → Nat
  | .lit (.string bytes) => bytes.length + 1
  | .lit _ => 1
  | .nil => 1
  | .ptr d => uptoBulk d + 1
  | .slice elems spare => uptoBulkAll elems + uptoBulkAll spare + 1
  | .agg parts => uptoBulkAll parts + 1
  | .iface _ d => uptoBulk d + 1
  | .map entries => uptoBulkEntries entries + 1
  | .held _ => 1
def uptoBulkAll {H : Type} : List (DataW H) → Nat
  | [] => 0
  | d :: r => uptoBulk d + uptoBulkAll r
def uptoBulkEntries {H : Type} : List (Lit × DataW H) → Nat
  | [] => 0
  | x :: r => uptoBulkEntry x + uptoBulkEntries r
def uptoBulkEntry {H : Type} : Lit × DataW H → Nat
  | (.string bytes, d) => bytes.length + uptoBulk d + 1
  | (_, d) => uptoBulk d + 1
 end
def uptoSmall : (H : Type) → List (DataW H) → Bool := fun _ ds => decide (uptoBulkAll ds ≤ 1048576)
def OpenSpec.upto (s : _root_.Go.ChangeSpec) : _root_.Go.OpenSpec := { _root_.Go.OpenSpec.ofChange s with cond := some uptoSmall }

/-- 'n003_98.FnBindWhole', WHERE WHAT IT READS IS OF BULK AT MOST 1048576: true; the input reads as it did. -/
def fnBindWholeUptoRow : OpenClaim := { program := "ytlfgaikcdelknaa", sum := "2e8d7980f5c51e97b207fb28f0ae4219c1250a043ed38f9e27d2f73e327c1edb", func := "github.com/expr-lang/expr/n003_98.FnBindWhole", spec := "fnBindWhole", inPlace := ["internal/bytealg.IndexByteString", "internal/abi.NoEscape", "internal/bytealg.MakeNoZero"], apart := false, narrowed := true }
def FnBindWholeUptoSaid : Prop := fnBindWholeUptoRow.holds Try.pinned (OpenSpec.upto fnBindWholeSpec)

/-- 'n003_98.FnUnwrapFollowsChainAndSurvivesBind', WHERE WHAT IT READS IS OF BULK AT MOST 1048576: true; the input reads as it did. -/
def fnUnwrapFollowsChainAndSurvivesBindUptoRow : OpenClaim := { program := "ytlfgaikcdelknaa", sum := "2e8d7980f5c51e97b207fb28f0ae4219c1250a043ed38f9e27d2f73e327c1edb", func := "github.com/expr-lang/expr/n003_98.FnUnwrapFollowsChainAndSurvivesBind", spec := "fnUnwrapFollowsChainAndSurvivesBind", inPlace := ["internal/bytealg.IndexByteString", "internal/abi.NoEscape", "internal/bytealg.MakeNoZero"], apart := false, narrowed := true }
def FnUnwrapFollowsChainAndSurvivesBindUptoSaid : Prop := fnUnwrapFollowsChainAndSurvivesBindUptoRow.holds Try.pinned (OpenSpec.upto fnUnwrapFollowsChainAndSurvivesBindSpec)

/-- 'n003_98.FnBindAgreesWithSnippet', WHERE WHAT IT READS IS OF BULK AT MOST 1048576: true; the input reads as it did. -/
def fnBindAgreesWithSnippetUptoRow : OpenClaim := { program := "ytlfgaikcdelknaa", sum := "2e8d7980f5c51e97b207fb28f0ae4219c1250a043ed38f9e27d2f73e327c1edb", func := "github.com/expr-lang/expr/n003_98.FnBindAgreesWithSnippet", spec := "fnBindAgreesWithSnippet", inPlace := ["internal/bytealg.IndexByteString", "internal/abi.NoEscape", "internal/bytealg.MakeNoZero"], apart := false, narrowed := true }
def FnBindAgreesWithSnippetUptoSaid : Prop := fnBindAgreesWithSnippetUptoRow.holds Try.pinned (OpenSpec.upto fnBindAgreesWithSnippetSpec)

end Rows
end Go.Proofs.Ytlfgaikcdelknaa
