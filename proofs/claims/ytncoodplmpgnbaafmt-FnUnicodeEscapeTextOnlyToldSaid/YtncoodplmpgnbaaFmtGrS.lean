/-
  Three ways for a code point. Plain.
-/
import Derived.Test.YtncoodplmpgnbaaFmtGrK
namespace Go.Proofs.YtncoodplmpgnbaaFmt
open Go.RowKit Go.Lib Go.Shelf Go.Proofs
set_option linter.unusedVariables false
set_option linter.unusedSimpArgs false

theorem sur3 (z : Nat) : decide ((55296 : Int) ≤ (z : Int)) = false ∨ ((55296 : Int) ≤ (z : Int) ∧ ¬ (z : Int) ≤ 57343) ∨ ((55296 : Int) ≤ (z : Int) ∧ (z : Int) ≤ 57343) := by
  rw [decide_eq_false_iff_not]
  omega
end Go.Proofs.YtncoodplmpgnbaaFmt
