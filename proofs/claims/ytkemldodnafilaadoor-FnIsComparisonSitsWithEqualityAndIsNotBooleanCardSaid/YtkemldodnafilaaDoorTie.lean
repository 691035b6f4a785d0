/-
  DERIVED. GIVEN WITH THE SEED: THE PROGRAM's TIES (one call each: nine closed facts by the kernel) AND EACH ROW's TIE, after the 31st guide's Derived/Test/Toyas{Tie, Card}.lean. No idea stands in it: it is a product of the set-up. Laid BY PROGRAM, IN A SANDBOX (cutbox-door.mjs). By AI agents, Wed Nov 11 2026. No macro, syntax, notation, axiom, sorry.
-/
import Derived.Test.YtkemldodnafilaaDoorRows
import Derived.LaidByTextLater
import Derived.SevenTiedAt
import Derived.LaidSub
import Derived.LaidOnce
namespace Go.Proofs.YtkemldodnafilaaDoor
open Go
set_option maxRecDepth 100000
theorem seatTie1 : Tryd.prog.laidByTextLater [("github.com/expr-lang/expr/parser/operator.Binary", Rows.laid_github_com_expr_lang_expr_parser_operator_Binary)] [.mapped] true :=
  Program.laidByTextLater_by_one 164 8 2 (by kernel_rfl) (by kernel_rfl) (by kernel_rfl) (by kernel_rfl) (by kernel_rfl) (by kernel_rfl) (fun _ _ => by kernel_rfl)
theorem noOwnUnsafe : Tryd.pinned.checked.prog.headLifts.contains "ownunsafe" = false := by kernel_rfl
theorem tie : Tryd.prog.laidByTextLater [("github.com/expr-lang/expr/parser/operator.Binary", Rows.laid_github_com_expr_lang_expr_parser_operator_Binary)] [.mapped] true :=
  Program.laidByTextLater.sub seatTie1 ["github.com/expr-lang/expr/parser/operator.Binary"] (by kernel_rfl) (by kernel_rfl)
theorem fnIsBooleanIsThePrecedenceBandAbovePipeBelowEquality_row_tie : Rows.fnIsBooleanIsThePrecedenceBandAbovePipeBelowEqualityRow.laidByTextAt .later Tryd.pinned [.mapped] true :=
  OpenClaim.laidByTextAt_later rfl rfl tie noOwnUnsafe
theorem fnIsComparisonSitsWithEqualityAndIsNotBoolean_row_tie : Rows.fnIsComparisonSitsWithEqualityAndIsNotBooleanRow.laidByTextAt .later Tryd.pinned [.mapped] true :=
  OpenClaim.laidByTextAt_later rfl rfl tie noOwnUnsafe
theorem fnLessIsStrictWeakOrder_row_tie : Rows.fnLessIsStrictWeakOrderRow.laidByTextAt .later Tryd.pinned [.mapped] true :=
  OpenClaim.laidByTextAt_later rfl rfl tie noOwnUnsafe
theorem fnIsBooleanIsThePrecedenceBandAbovePipeBelowEqualityUpto_row_tie : Rows.fnIsBooleanIsThePrecedenceBandAbovePipeBelowEqualityUptoRow.laidByTextAt .later Tryd.pinned [.mapped] true :=
  OpenClaim.laidByTextAt_later rfl rfl tie noOwnUnsafe
theorem fnIsComparisonSitsWithEqualityAndIsNotBooleanUpto_row_tie : Rows.fnIsComparisonSitsWithEqualityAndIsNotBooleanUptoRow.laidByTextAt .later Tryd.pinned [.mapped] true :=
  OpenClaim.laidByTextAt_later rfl rfl tie noOwnUnsafe
theorem fnLessIsStrictWeakOrderUpto_row_tie : Rows.fnLessIsStrictWeakOrderUptoRow.laidByTextAt .later Tryd.pinned [.mapped] true :=
  OpenClaim.laidByTextAt_later rfl rfl tie noOwnUnsafe
end Go.Proofs.YtkemldodnafilaaDoor
