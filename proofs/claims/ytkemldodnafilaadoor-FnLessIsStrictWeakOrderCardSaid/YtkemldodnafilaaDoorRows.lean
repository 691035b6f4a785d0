/-
  NARROWER THAN 'FOR EVERY INPUT', by the rows' own cells (each row's printed sentence says how): FnIsBooleanIsThePrecedenceBandAbovePipeBelowEquality: maps, laid · FnIsComparisonSitsWithEqualityAndIsNotBoolean: maps, laid · FnLessIsStrictWeakOrder: maps, laid.
  DERIVED. THE GIVEN ROWS OF THIS SEAT. 3 by the template 'for every input the law returns true; each argument reads behind the call as it read before'; 0 by the template 'total and deterministic' (their statements: YtkemldodnafilaaDoorTotals.lean).
  GIVEN WITH THE SEED: the statements are not yours to turn. If you find one false, say at which input.
  Laid BY PROGRAM, IN A SANDBOX (cutbox-rows.mjs): the forced cells as the released guide's own fill.sh prints them over the translation e4158fb9ef8a36e2… (all of the seat's roots in one cut). By AI agents, Wed Nov 11 2026. No macro, syntax, notation, axiom, sorry.
-/
import Derived.Test.YtkemldodnafilaaDoorChecked
import GoSem.Claim
import GoSem.ClaimJoined
import GoSem.ClaimMapViews
import Derived.JoinedTies
import Derived.KernelRfl
namespace Go.Proofs.YtkemldodnafilaaDoor
/- THE CELL 'sum', in the pinned program and in every row, IS THE sha256 OF THE DUMP (.gsa) THAT YtkemldodnafilaaDoorProg.lean LOADS. Nothing in Lean hashes anything: it is a label: what it is worth is what the hold of that sum in a sandbox is worth. -/
noncomputable def Tryd.pinned : Pinned := { name := "ytkemldodnafilaadoor", sum := "e4158fb9ef8a36e282339521a3cb576fcebba0e430357c27a7b20ee575657ea2", checked := Tryd.checked }
namespace Rows
def none {H : Type} : Left H := { results := [], args := [] }

/- WHAT THE LISTED PACKAGE-LEVEL VARIABLES READ AS WHEN THE CALL BEGINS. Each datum BY PROGRAM (the guide's laid-datum.mjs) off the statement by which the dump's own 'gosem.cut.vars' lays the variable. In a bare row this is a premise. The card (YtkemldodnafilaaDoorCards.lean) ties it to the program's text. -/
def laid_github_com_expr_lang_expr_parser_operator_Binary {H : Type} : DataW H := .map [(.string [33, 61], .agg [.lit (.int .i64 20), .lit (.int .i64 1)]), (.string [37], .agg [.lit (.int .i64 60), .lit (.int .i64 1)]), (.string [38, 38], .agg [.lit (.int .i64 15), .lit (.int .i64 1)]), (.string [42], .agg [.lit (.int .i64 60), .lit (.int .i64 1)]), (.string [42, 42], .agg [.lit (.int .i64 100), .lit (.int .i64 2)]), (.string [43], .agg [.lit (.int .i64 30), .lit (.int .i64 1)]), (.string [45], .agg [.lit (.int .i64 30), .lit (.int .i64 1)]), (.string [46, 46], .agg [.lit (.int .i64 25), .lit (.int .i64 1)]), (.string [47], .agg [.lit (.int .i64 60), .lit (.int .i64 1)]), (.string [60], .agg [.lit (.int .i64 20), .lit (.int .i64 1)]), (.string [60, 61], .agg [.lit (.int .i64 20), .lit (.int .i64 1)]), (.string [61, 61], .agg [.lit (.int .i64 20), .lit (.int .i64 1)]), (.string [62], .agg [.lit (.int .i64 20), .lit (.int .i64 1)]), (.string [62, 61], .agg [.lit (.int .i64 20), .lit (.int .i64 1)]), (.string [63, 63], .agg [.lit (.int .i64 500), .lit (.int .i64 1)]), (.string [94], .agg [.lit (.int .i64 100), .lit (.int .i64 2)]), (.string [97, 110, 100], .agg [.lit (.int .i64 15), .lit (.int .i64 1)]), (.string [99, 111, 110, 116, 97, 105, 110, 115], .agg [.lit (.int .i64 20), .lit (.int .i64 1)]), (.string [101, 110, 100, 115, 87, 105, 116, 104], .agg [.lit (.int .i64 20), .lit (.int .i64 1)]), (.string [105, 110], .agg [.lit (.int .i64 20), .lit (.int .i64 1)]), (.string [109, 97, 116, 99, 104, 101, 115], .agg [.lit (.int .i64 20), .lit (.int .i64 1)]), (.string [111, 114], .agg [.lit (.int .i64 10), .lit (.int .i64 1)]), (.string [115, 116, 97, 114, 116, 115, 87, 105, 116, 104], .agg [.lit (.int .i64 20), .lit (.int .i64 1)]), (.string [124], .agg [.lit (.int .i64 0), .lit (.int .i64 1)]), (.string [124, 124], .agg [.lit (.int .i64 10), .lit (.int .i64 1)])]

/-- 'n003_54.FnIsBooleanIsThePrecedenceBandAbovePipeBelowEquality': WHATEVER THE INPUT: true; the input reads as it did. -/
def fnIsBooleanIsThePrecedenceBandAbovePipeBelowEqualitySpec : ChangeSpec := { name := "fnIsBooleanIsThePrecedenceBandAbovePipeBelowEquality", vars := ["github.com/expr-lang/expr/parser/operator.Binary"], fn := fun _ => fun
  | [d, g1] => { results := [.lit (.bool true)], args := [d], vars := [g1] }
  | _ => none }
def fnIsBooleanIsThePrecedenceBandAbovePipeBelowEqualityRow : OpenClaim := { program := "ytkemldodnafilaadoor", sum := "e4158fb9ef8a36e282339521a3cb576fcebba0e430357c27a7b20ee575657ea2", func := "github.com/expr-lang/expr/n003_54.FnIsBooleanIsThePrecedenceBandAbovePipeBelowEquality", spec := "fnIsBooleanIsThePrecedenceBandAbovePipeBelowEquality", named := ["github.com/expr-lang/expr/parser/operator.Binary"], maps := true, apart := false, laid := [("github.com/expr-lang/expr/parser/operator.Binary", laid_github_com_expr_lang_expr_parser_operator_Binary)] }
def FnIsBooleanIsThePrecedenceBandAbovePipeBelowEqualitySaid : Prop := fnIsBooleanIsThePrecedenceBandAbovePipeBelowEqualityRow.holds Tryd.pinned (OpenSpec.ofChange fnIsBooleanIsThePrecedenceBandAbovePipeBelowEqualitySpec)

/-- ITS FALSE NEIGHBOUR: 'it returns false'. Refute it at one input. -/
def fnIsBooleanIsThePrecedenceBandAbovePipeBelowEqualityWrong : ChangeSpec := { name := "fnIsBooleanIsThePrecedenceBandAbovePipeBelowEquality", vars := ["github.com/expr-lang/expr/parser/operator.Binary"], fn := fun _ => fun
  | [d, g1] => { results := [.lit (.bool false)], args := [d], vars := [g1] }
  | _ => none }
def FnIsBooleanIsThePrecedenceBandAbovePipeBelowEqualityWrongFalsely : Prop := fnIsBooleanIsThePrecedenceBandAbovePipeBelowEqualityRow.holds Tryd.pinned (OpenSpec.ofChange fnIsBooleanIsThePrecedenceBandAbovePipeBelowEqualityWrong)

/-- 'n003_54.FnIsComparisonSitsWithEqualityAndIsNotBoolean': WHATEVER THE INPUT: true; the input reads as it did. -/
def fnIsComparisonSitsWithEqualityAndIsNotBooleanSpec : ChangeSpec := { name := "fnIsComparisonSitsWithEqualityAndIsNotBoolean", vars := ["github.com/expr-lang/expr/parser/operator.Binary"], fn := fun _ => fun
  | [d, g1] => { results := [.lit (.bool true)], args := [d], vars := [g1] }
  | _ => none }
def fnIsComparisonSitsWithEqualityAndIsNotBooleanRow : OpenClaim := { program := "ytkemldodnafilaadoor", sum := "e4158fb9ef8a36e282339521a3cb576fcebba0e430357c27a7b20ee575657ea2", func := "github.com/expr-lang/expr/n003_54.FnIsComparisonSitsWithEqualityAndIsNotBoolean", spec := "fnIsComparisonSitsWithEqualityAndIsNotBoolean", named := ["github.com/expr-lang/expr/parser/operator.Binary"], maps := true, apart := false, laid := [("github.com/expr-lang/expr/parser/operator.Binary", laid_github_com_expr_lang_expr_parser_operator_Binary)] }
def FnIsComparisonSitsWithEqualityAndIsNotBooleanSaid : Prop := fnIsComparisonSitsWithEqualityAndIsNotBooleanRow.holds Tryd.pinned (OpenSpec.ofChange fnIsComparisonSitsWithEqualityAndIsNotBooleanSpec)

/-- ITS FALSE NEIGHBOUR: 'it returns false'. Refute it at one input. -/
def fnIsComparisonSitsWithEqualityAndIsNotBooleanWrong : ChangeSpec := { name := "fnIsComparisonSitsWithEqualityAndIsNotBoolean", vars := ["github.com/expr-lang/expr/parser/operator.Binary"], fn := fun _ => fun
  | [d, g1] => { results := [.lit (.bool false)], args := [d], vars := [g1] }
  | _ => none }
def FnIsComparisonSitsWithEqualityAndIsNotBooleanWrongFalsely : Prop := fnIsComparisonSitsWithEqualityAndIsNotBooleanRow.holds Tryd.pinned (OpenSpec.ofChange fnIsComparisonSitsWithEqualityAndIsNotBooleanWrong)

/-- 'n003_54.FnLessIsStrictWeakOrder': WHATEVER THE INPUT: true; the input reads as it did. -/
def fnLessIsStrictWeakOrderSpec : ChangeSpec := { name := "fnLessIsStrictWeakOrder", vars := ["github.com/expr-lang/expr/parser/operator.Binary"], fn := fun _ => fun
  | [d1, d2, d3, g1] => { results := [.lit (.bool true)], args := [d1, d2, d3], vars := [g1] }
  | _ => none }
def fnLessIsStrictWeakOrderRow : OpenClaim := { program := "ytkemldodnafilaadoor", sum := "e4158fb9ef8a36e282339521a3cb576fcebba0e430357c27a7b20ee575657ea2", func := "github.com/expr-lang/expr/n003_54.FnLessIsStrictWeakOrder", spec := "fnLessIsStrictWeakOrder", named := ["github.com/expr-lang/expr/parser/operator.Binary"], maps := true, apart := false, laid := [("github.com/expr-lang/expr/parser/operator.Binary", laid_github_com_expr_lang_expr_parser_operator_Binary)] }
def FnLessIsStrictWeakOrderSaid : Prop := fnLessIsStrictWeakOrderRow.holds Tryd.pinned (OpenSpec.ofChange fnLessIsStrictWeakOrderSpec)

/-- ITS FALSE NEIGHBOUR: 'it returns false'. Refute it at one input. -/
def fnLessIsStrictWeakOrderWrong : ChangeSpec := { name := "fnLessIsStrictWeakOrder", vars := ["github.com/expr-lang/expr/parser/operator.Binary"], fn := fun _ => fun
  | [d1, d2, d3, g1] => { results := [.lit (.bool false)], args := [d1, d2, d3], vars := [g1] }
  | _ => none }
def FnLessIsStrictWeakOrderWrongFalsely : Prop := fnLessIsStrictWeakOrderRow.holds Tryd.pinned (OpenSpec.ofChange fnLessIsStrictWeakOrderWrong)

/- THE SECOND FORM. 'bulk': how many values and letters a reading holds, each counted each time it is reached (what is shared counts as often as it is met; a slice's spare places count too). A statement '..UptoSaid' is the law's where the arguments, and the package variables that the reading takes, are together of bulk at most 1048576: NARROWER than '..Said'. Prove '..Said' where nothing that the law and all that it calls make is longer than what came in: it says more and counts as full. Else prove '..UptoSaid'. A law counts once. -/
mutual
def uptoBulk {H : Type} : DataW H → Nat
  | .lit (.string bytes) => bytes.length + 1
  | .lit _ => 1
  | .nil => 1
  | .ptr d => uptoBulk d + 1
  | .slice elems spare => uptoBulkAll elems + uptoBulkAll spare + 1
  | .agg parts => uptoBulkAll parts + 1
  | .iface _ d => uptoBulk d + 1
  | .map entries => uptoBulkEntries entries + 1
  | .held _ => 1
def uptoBulkAll {H : Type} : List (DataW H) → Nat
  | [] => 0
  | d :: r => uptoBulk d + uptoBulkAll r
def uptoBulkEntries {H : Type} : List (Lit × DataW H) → Nat
  | [] => 0
  | x :: r => uptoBulkEntry x + uptoBulkEntries r
def uptoBulkEntry {H : Type} : Lit × DataW H → Nat
  | (.string bytes, d) => bytes.length + uptoBulk d + 1
  | (_, d) => uptoBulk d + 1
 end
def uptoSmall : (H : Type) → List (DataW H) → Bool := fun _ ds => decide (uptoBulkAll ds ≤ 1048576)
def OpenSpec.upto (s : _root_.Go.ChangeSpec) : _root_.Go.OpenSpec := { _root_.Go.OpenSpec.ofChange s with cond := some uptoSmall }

/-- 'n003_54.FnIsBooleanIsThePrecedenceBandAbovePipeBelowEquality', WHERE WHAT IT READS IS OF BULK AT MOST 1048576: true; the input reads as it did. -/
def fnIsBooleanIsThePrecedenceBandAbovePipeBelowEqualityUptoRow : OpenClaim := { program := "ytkemldodnafilaadoor", sum := "e4158fb9ef8a36e282339521a3cb576fcebba0e430357c27a7b20ee575657ea2", func := "github.com/expr-lang/expr/n003_54.FnIsBooleanIsThePrecedenceBandAbovePipeBelowEquality", spec := "fnIsBooleanIsThePrecedenceBandAbovePipeBelowEquality", named := ["github.com/expr-lang/expr/parser/operator.Binary"], maps := true, apart := false, laid := [("github.com/expr-lang/expr/parser/operator.Binary", laid_github_com_expr_lang_expr_parser_operator_Binary)], narrowed := true }
def FnIsBooleanIsThePrecedenceBandAbovePipeBelowEqualityUptoSaid : Prop := fnIsBooleanIsThePrecedenceBandAbovePipeBelowEqualityUptoRow.holds Tryd.pinned (OpenSpec.upto fnIsBooleanIsThePrecedenceBandAbovePipeBelowEqualitySpec)

/-- 'n003_54.FnIsComparisonSitsWithEqualityAndIsNotBoolean', WHERE WHAT IT READS IS OF BULK AT MOST 1048576: true; the input reads as it did. -/
def fnIsComparisonSitsWithEqualityAndIsNotBooleanUptoRow : OpenClaim := { program := "ytkemldodnafilaadoor", sum := "e4158fb9ef8a36e282339521a3cb576fcebba0e430357c27a7b20ee575657ea2", func := "github.com/expr-lang/expr/n003_54.FnIsComparisonSitsWithEqualityAndIsNotBoolean", spec := "fnIsComparisonSitsWithEqualityAndIsNotBoolean", named := ["github.com/expr-lang/expr/parser/operator.Binary"], maps := true, apart := false, laid := [("github.com/expr-lang/expr/parser/operator.Binary", laid_github_com_expr_lang_expr_parser_operator_Binary)], narrowed := true }
def FnIsComparisonSitsWithEqualityAndIsNotBooleanUptoSaid : Prop := fnIsComparisonSitsWithEqualityAndIsNotBooleanUptoRow.holds Tryd.pinned (OpenSpec.upto fnIsComparisonSitsWithEqualityAndIsNotBooleanSpec)

/-- 'n003_54.FnLessIsStrictWeakOrder', WHERE WHAT IT READS IS OF BULK AT MOST 1048576: true; the input reads as it did. -/
def fnLessIsStrictWeakOrderUptoRow : OpenClaim := { program := "ytkemldodnafilaadoor", sum := "e4158fb9ef8a36e282339521a3cb576fcebba0e430357c27a7b20ee575657ea2", func := "github.com/expr-lang/expr/n003_54.FnLessIsStrictWeakOrder", spec := "fnLessIsStrictWeakOrder", named := ["github.com/expr-lang/expr/parser/operator.Binary"], maps := true, apart := false, laid := [("github.com/expr-lang/expr/parser/operator.Binary", laid_github_com_expr_lang_expr_parser_operator_Binary)], narrowed := true }
def FnLessIsStrictWeakOrderUptoSaid : Prop := fnLessIsStrictWeakOrderUptoRow.holds Tryd.pinned (OpenSpec.upto fnLessIsStrictWeakOrderSpec)

end Rows
end Go.Proofs.YtkemldodnafilaaDoor
