/-
  NARROWER THAN 'FOR EVERY INPUT', by the rows' own cells (each row's printed sentence says how): FnPeekAgreesWithNextAndRepeats: laid · FnBackupUndoesNext: laid · FnNextDecodesWholeSource: laid · FnPeekMatchesModel: laid · FnCommitPinsStartAtEnd: laid · FnNextStepBounds: laid · FnBackupWalksBackToStart: laid · FnCommitPiecesRebuildSource: laid.
  DERIVED. THE GIVEN ROWS OF THIS SEAT. 8 by the template 'for every input the law returns true; each argument reads behind the call as it read before'; 0 by the template 'total and deterministic' (their statements: YtklkbalbmeefjaaDoorTotals.lean).
  GIVEN WITH THE SEED: the statements are not yours to turn. If you find one false, say at which input.
  Laid BY PROGRAM, IN A SANDBOX (cutbox-rows.mjs): the forced cells as the released guide's own fill.sh prints them over the translation 5a97e7530f88bf10… (all of the seat's roots in one cut). By AI agents, Wed Nov 11 2026. No macro, syntax, notation, axiom, sorry.
-/
import Derived.Test.YtklkbalbmeefjaaDoorChecked
import GoSem.PinnedTables
import GoSem.Claim
import GoSem.ClaimJoined
import GoSem.ClaimMapViews
import Derived.JoinedTies
import Derived.KernelRfl
namespace Go.Proofs.YtklkbalbmeefjaaDoor
/- THE CELL 'sum', in the pinned program and in every row, IS THE sha256 OF THE DUMP (.gsa) THAT YtklkbalbmeefjaaDoorProg.lean LOADS. Nothing in Lean hashes anything: it is a label: what it is worth is what the hold of that sum in a sandbox is worth. -/
noncomputable def Tryd.pinned : Pinned := { name := "ytklkbalbmeefjaadoor", sum := "5a97e7530f88bf10f2cc86b534dd9e8c535fd2073f57571b0b857e2f6d0ef968", checked := Tryd.checked }
namespace Rows
def none {H : Type} : Left H := { results := [], args := [] }

/- WHAT THE LISTED PACKAGE-LEVEL VARIABLES READ AS WHEN THE CALL BEGINS. Each datum BY PROGRAM (the guide's laid-datum.mjs) off the statement by which the dump's own 'gosem.cut.vars' lays the variable. In a bare row this is a premise. The card (YtklkbalbmeefjaaDoorCards.lean) ties it to the program's text. -/
def laid_unicode_utf8_acceptRanges {H : Type} : DataW H := .agg [.agg [.lit (.int .u8 128), .lit (.int .u8 191)], .agg [.lit (.int .u8 160), .lit (.int .u8 191)], .agg [.lit (.int .u8 128), .lit (.int .u8 159)], .agg [.lit (.int .u8 144), .lit (.int .u8 191)], .agg [.lit (.int .u8 128), .lit (.int .u8 143)], .agg [.lit (.int .u8 0), .lit (.int .u8 0)], .agg [.lit (.int .u8 0), .lit (.int .u8 0)], .agg [.lit (.int .u8 0), .lit (.int .u8 0)], .agg [.lit (.int .u8 0), .lit (.int .u8 0)], .agg [.lit (.int .u8 0), .lit (.int .u8 0)], .agg [.lit (.int .u8 0), .lit (.int .u8 0)], .agg [.lit (.int .u8 0), .lit (.int .u8 0)], .agg [.lit (.int .u8 0), .lit (.int .u8 0)], .agg [.lit (.int .u8 0), .lit (.int .u8 0)], .agg [.lit (.int .u8 0), .lit (.int .u8 0)], .agg [.lit (.int .u8 0), .lit (.int .u8 0)]]
/-- One of Go's own tables, pinned by name: the form's constant. -/
def laid_unicode_utf8_first : DataW Unit := Go.Pinned.utf8First

/-- 'n003_28.FnPeekAgreesWithNextAndRepeats': WHATEVER THE INPUT: true; the input reads as it did. -/
def fnPeekAgreesWithNextAndRepeatsSpec : ChangeSpec := { name := "fnPeekAgreesWithNextAndRepeats", fn := fun _ => fun
  | [d] => { results := [.lit (.bool true)], args := [d] }
  | _ => none }
def fnPeekAgreesWithNextAndRepeatsRow : OpenClaim := { program := "ytklkbalbmeefjaadoor", sum := "5a97e7530f88bf10f2cc86b534dd9e8c535fd2073f57571b0b857e2f6d0ef968", func := "github.com/expr-lang/expr/n003_28.FnPeekAgreesWithNextAndRepeats", spec := "fnPeekAgreesWithNextAndRepeats", named := ["unicode/utf8.first", "unicode/utf8.acceptRanges"], apart := false, laid := [("unicode/utf8.acceptRanges", laid_unicode_utf8_acceptRanges), ("unicode/utf8.first", laid_unicode_utf8_first)] }
def FnPeekAgreesWithNextAndRepeatsSaid : Prop := fnPeekAgreesWithNextAndRepeatsRow.holds Tryd.pinned (OpenSpec.ofChange fnPeekAgreesWithNextAndRepeatsSpec)

/-- ITS FALSE NEIGHBOUR: 'it returns false'. Refute it at one input. -/
def fnPeekAgreesWithNextAndRepeatsWrong : ChangeSpec := { name := "fnPeekAgreesWithNextAndRepeats", fn := fun _ => fun
  | [d] => { results := [.lit (.bool false)], args := [d] }
  | _ => none }
def FnPeekAgreesWithNextAndRepeatsWrongFalsely : Prop := fnPeekAgreesWithNextAndRepeatsRow.holds Tryd.pinned (OpenSpec.ofChange fnPeekAgreesWithNextAndRepeatsWrong)

/-- 'n003_28.FnBackupUndoesNext': WHATEVER THE INPUT: true; the input reads as it did. -/
def fnBackupUndoesNextSpec : ChangeSpec := { name := "fnBackupUndoesNext", fn := fun _ => fun
  | [d] => { results := [.lit (.bool true)], args := [d] }
  | _ => none }
def fnBackupUndoesNextRow : OpenClaim := { program := "ytklkbalbmeefjaadoor", sum := "5a97e7530f88bf10f2cc86b534dd9e8c535fd2073f57571b0b857e2f6d0ef968", func := "github.com/expr-lang/expr/n003_28.FnBackupUndoesNext", spec := "fnBackupUndoesNext", named := ["unicode/utf8.first", "unicode/utf8.acceptRanges"], apart := false, laid := [("unicode/utf8.acceptRanges", laid_unicode_utf8_acceptRanges), ("unicode/utf8.first", laid_unicode_utf8_first)] }
def FnBackupUndoesNextSaid : Prop := fnBackupUndoesNextRow.holds Tryd.pinned (OpenSpec.ofChange fnBackupUndoesNextSpec)

/-- ITS FALSE NEIGHBOUR: 'it returns false'. Refute it at one input. -/
def fnBackupUndoesNextWrong : ChangeSpec := { name := "fnBackupUndoesNext", fn := fun _ => fun
  | [d] => { results := [.lit (.bool false)], args := [d] }
  | _ => none }
def FnBackupUndoesNextWrongFalsely : Prop := fnBackupUndoesNextRow.holds Tryd.pinned (OpenSpec.ofChange fnBackupUndoesNextWrong)

/-- 'n003_28.FnNextDecodesWholeSource': WHATEVER THE INPUT: true; the input reads as it did. -/
def fnNextDecodesWholeSourceSpec : ChangeSpec := { name := "fnNextDecodesWholeSource", fn := fun _ => fun
  | [d] => { results := [.lit (.bool true)], args := [d] }
  | _ => none }
def fnNextDecodesWholeSourceRow : OpenClaim := { program := "ytklkbalbmeefjaadoor", sum := "5a97e7530f88bf10f2cc86b534dd9e8c535fd2073f57571b0b857e2f6d0ef968", func := "github.com/expr-lang/expr/n003_28.FnNextDecodesWholeSource", spec := "fnNextDecodesWholeSource", named := ["unicode/utf8.first", "unicode/utf8.acceptRanges"], apart := false, laid := [("unicode/utf8.acceptRanges", laid_unicode_utf8_acceptRanges), ("unicode/utf8.first", laid_unicode_utf8_first)] }
def FnNextDecodesWholeSourceSaid : Prop := fnNextDecodesWholeSourceRow.holds Tryd.pinned (OpenSpec.ofChange fnNextDecodesWholeSourceSpec)

/-- ITS FALSE NEIGHBOUR: 'it returns false'. Refute it at one input. -/
def fnNextDecodesWholeSourceWrong : ChangeSpec := { name := "fnNextDecodesWholeSource", fn := fun _ => fun
  | [d] => { results := [.lit (.bool false)], args := [d] }
  | _ => none }
def FnNextDecodesWholeSourceWrongFalsely : Prop := fnNextDecodesWholeSourceRow.holds Tryd.pinned (OpenSpec.ofChange fnNextDecodesWholeSourceWrong)

/-- 'n003_28.FnPeekMatchesModel': WHATEVER THE INPUT: true; the input reads as it did. -/
def fnPeekMatchesModelSpec : ChangeSpec := { name := "fnPeekMatchesModel", fn := fun _ => fun
  | [d] => { results := [.lit (.bool true)], args := [d] }
  | _ => none }
def fnPeekMatchesModelRow : OpenClaim := { program := "ytklkbalbmeefjaadoor", sum := "5a97e7530f88bf10f2cc86b534dd9e8c535fd2073f57571b0b857e2f6d0ef968", func := "github.com/expr-lang/expr/n003_28.FnPeekMatchesModel", spec := "fnPeekMatchesModel", named := ["unicode/utf8.first", "unicode/utf8.acceptRanges"], apart := false, laid := [("unicode/utf8.acceptRanges", laid_unicode_utf8_acceptRanges), ("unicode/utf8.first", laid_unicode_utf8_first)] }
def FnPeekMatchesModelSaid : Prop := fnPeekMatchesModelRow.holds Tryd.pinned (OpenSpec.ofChange fnPeekMatchesModelSpec)

/-- ITS FALSE NEIGHBOUR: 'it returns false'. Refute it at one input. -/
def fnPeekMatchesModelWrong : ChangeSpec := { name := "fnPeekMatchesModel", fn := fun _ => fun
  | [d] => { results := [.lit (.bool false)], args := [d] }
  | _ => none }
def FnPeekMatchesModelWrongFalsely : Prop := fnPeekMatchesModelRow.holds Tryd.pinned (OpenSpec.ofChange fnPeekMatchesModelWrong)

/-- 'n003_28.FnCommitPinsStartAtEnd': WHATEVER THE INPUT: true; the input reads as it did. -/
def fnCommitPinsStartAtEndSpec : ChangeSpec := { name := "fnCommitPinsStartAtEnd", fn := fun _ => fun
  | [d1, d2] => { results := [.lit (.bool true)], args := [d1, d2] }
  | _ => none }
def fnCommitPinsStartAtEndRow : OpenClaim := { program := "ytklkbalbmeefjaadoor", sum := "5a97e7530f88bf10f2cc86b534dd9e8c535fd2073f57571b0b857e2f6d0ef968", func := "github.com/expr-lang/expr/n003_28.FnCommitPinsStartAtEnd", spec := "fnCommitPinsStartAtEnd", named := ["unicode/utf8.first", "unicode/utf8.acceptRanges"], apart := false, laid := [("unicode/utf8.acceptRanges", laid_unicode_utf8_acceptRanges), ("unicode/utf8.first", laid_unicode_utf8_first)] }
def FnCommitPinsStartAtEndSaid : Prop := fnCommitPinsStartAtEndRow.holds Tryd.pinned (OpenSpec.ofChange fnCommitPinsStartAtEndSpec)

/-- ITS FALSE NEIGHBOUR: 'it returns false'. Refute it at one input. -/
def fnCommitPinsStartAtEndWrong : ChangeSpec := { name := "fnCommitPinsStartAtEnd", fn := fun _ => fun
  | [d1, d2] => { results := [.lit (.bool false)], args := [d1, d2] }
  | _ => none }
def FnCommitPinsStartAtEndWrongFalsely : Prop := fnCommitPinsStartAtEndRow.holds Tryd.pinned (OpenSpec.ofChange fnCommitPinsStartAtEndWrong)

/-- 'n003_28.FnNextStepBounds': WHATEVER THE INPUT: true; the input reads as it did. -/
def fnNextStepBoundsSpec : ChangeSpec := { name := "fnNextStepBounds", fn := fun _ => fun
  | [d] => { results := [.lit (.bool true)], args := [d] }
  | _ => none }
def fnNextStepBoundsRow : OpenClaim := { program := "ytklkbalbmeefjaadoor", sum := "5a97e7530f88bf10f2cc86b534dd9e8c535fd2073f57571b0b857e2f6d0ef968", func := "github.com/expr-lang/expr/n003_28.FnNextStepBounds", spec := "fnNextStepBounds", named := ["unicode/utf8.first", "unicode/utf8.acceptRanges"], apart := false, laid := [("unicode/utf8.acceptRanges", laid_unicode_utf8_acceptRanges), ("unicode/utf8.first", laid_unicode_utf8_first)] }
def FnNextStepBoundsSaid : Prop := fnNextStepBoundsRow.holds Tryd.pinned (OpenSpec.ofChange fnNextStepBoundsSpec)

/-- ITS FALSE NEIGHBOUR: 'it returns false'. Refute it at one input. -/
def fnNextStepBoundsWrong : ChangeSpec := { name := "fnNextStepBounds", fn := fun _ => fun
  | [d] => { results := [.lit (.bool false)], args := [d] }
  | _ => none }
def FnNextStepBoundsWrongFalsely : Prop := fnNextStepBoundsRow.holds Tryd.pinned (OpenSpec.ofChange fnNextStepBoundsWrong)

/-- 'n003_28.FnBackupWalksBackToStart': WHATEVER THE INPUT: true; the input reads as it did. -/
def fnBackupWalksBackToStartSpec : ChangeSpec := { name := "fnBackupWalksBackToStart", fn := fun _ => fun
  | [d] => { results := [.lit (.bool true)], args := [d] }
  | _ => none }
def fnBackupWalksBackToStartRow : OpenClaim := { program := "ytklkbalbmeefjaadoor", sum := "5a97e7530f88bf10f2cc86b534dd9e8c535fd2073f57571b0b857e2f6d0ef968", func := "github.com/expr-lang/expr/n003_28.FnBackupWalksBackToStart", spec := "fnBackupWalksBackToStart", named := ["unicode/utf8.first", "unicode/utf8.acceptRanges"], apart := false, laid := [("unicode/utf8.acceptRanges", laid_unicode_utf8_acceptRanges), ("unicode/utf8.first", laid_unicode_utf8_first)] }
def FnBackupWalksBackToStartSaid : Prop := fnBackupWalksBackToStartRow.holds Tryd.pinned (OpenSpec.ofChange fnBackupWalksBackToStartSpec)

/-- ITS FALSE NEIGHBOUR: 'it returns false'. Refute it at one input. -/
def fnBackupWalksBackToStartWrong : ChangeSpec := { name := "fnBackupWalksBackToStart", fn := fun _ => fun
  | [d] => { results := [.lit (.bool false)], args := [d] }
  | _ => none }
def FnBackupWalksBackToStartWrongFalsely : Prop := fnBackupWalksBackToStartRow.holds Tryd.pinned (OpenSpec.ofChange fnBackupWalksBackToStartWrong)

/-- 'n003_28.FnCommitPiecesRebuildSource': WHATEVER THE INPUT: true; the input reads as it did. -/
def fnCommitPiecesRebuildSourceSpec : ChangeSpec := { name := "fnCommitPiecesRebuildSource", fn := fun _ => fun
  | [d1, d2] => { results := [.lit (.bool true)], args := [d1, d2] }
  | _ => none }
def fnCommitPiecesRebuildSourceRow : OpenClaim := { program := "ytklkbalbmeefjaadoor", sum := "5a97e7530f88bf10f2cc86b534dd9e8c535fd2073f57571b0b857e2f6d0ef968", func := "github.com/expr-lang/expr/n003_28.FnCommitPiecesRebuildSource", spec := "fnCommitPiecesRebuildSource", named := ["unicode/utf8.first", "unicode/utf8.acceptRanges"], apart := false, laid := [("unicode/utf8.acceptRanges", laid_unicode_utf8_acceptRanges), ("unicode/utf8.first", laid_unicode_utf8_first)] }
def FnCommitPiecesRebuildSourceSaid : Prop := fnCommitPiecesRebuildSourceRow.holds Tryd.pinned (OpenSpec.ofChange fnCommitPiecesRebuildSourceSpec)

/-- ITS FALSE NEIGHBOUR: 'it returns false'. Refute it at one input. -/
def fnCommitPiecesRebuildSourceWrong : ChangeSpec := { name := "fnCommitPiecesRebuildSource", fn := fun _ => fun
  | [d1, d2] => { results := [.lit (.bool false)], args := [d1, d2] }
  | _ => none }
def FnCommitPiecesRebuildSourceWrongFalsely : Prop := fnCommitPiecesRebuildSourceRow.holds Tryd.pinned (OpenSpec.ofChange fnCommitPiecesRebuildSourceWrong)

/- THE SECOND FORM. 'bulk': how many values and letters a reading holds, each counted each time it is reached (what is shared counts as often as it is met; a slice's spare places count too). A statement '..UptoSaid' is the law's where the arguments, and the package variables that the reading takes, are together of bulk at most 1048576: NARROWER than '..Said'. Prove '..Said' where nothing that the law and all that it calls make is longer than what came in: it says more and counts as full. Else prove '..UptoSaid'. A law counts once. -/
mutual
def uptoBulk {H : Type} : DataW H → Nat
  | .lit (.string bytes) => bytes.length + 1
  | .lit _ => 1
  | .nil => 1
  | .ptr d => uptoBulk d + 1
  | .slice elems spare => uptoBulkAll elems + uptoBulkAll spare + 1
  | .agg parts => uptoBulkAll parts + 1
  | .iface _ d => uptoBulk d + 1
  | .map entries => uptoBulkEntries entries + 1
  | .held _ => 1
def uptoBulkAll {H : Type} : List (DataW H) → Nat
  | [] => 0
  | d :: r => uptoBulk d + uptoBulkAll r
def uptoBulkEntries {H : Type} : List (Lit × DataW H) → Nat
  | [] => 0
  | x :: r => uptoBulkEntry x + uptoBulkEntries r
def uptoBulkEntry {H : Type} : Lit × DataW H → Nat
  | (.string bytes, d) => bytes.length + uptoBulk d + 1
  | (_, d) => uptoBulk d + 1
 end
def uptoSmall : (H : Type) → List (DataW H) → Bool := fun _ ds => decide (uptoBulkAll ds ≤ 1048576)
def OpenSpec.upto (s : _root_.Go.ChangeSpec) : _root_.Go.OpenSpec := { _root_.Go.OpenSpec.ofChange s with cond := some uptoSmall }

/-- 'n003_28.FnPeekAgreesWithNextAndRepeats', WHERE WHAT IT READS IS OF BULK AT MOST 1048576: true; the input reads as it did. -/
def fnPeekAgreesWithNextAndRepeatsUptoRow : OpenClaim := { program := "ytklkbalbmeefjaadoor", sum := "5a97e7530f88bf10f2cc86b534dd9e8c535fd2073f57571b0b857e2f6d0ef968", func := "github.com/expr-lang/expr/n003_28.FnPeekAgreesWithNextAndRepeats", spec := "fnPeekAgreesWithNextAndRepeats", named := ["unicode/utf8.first", "unicode/utf8.acceptRanges"], apart := false, laid := [("unicode/utf8.acceptRanges", laid_unicode_utf8_acceptRanges), ("unicode/utf8.first", laid_unicode_utf8_first)], narrowed := true }
def FnPeekAgreesWithNextAndRepeatsUptoSaid : Prop := fnPeekAgreesWithNextAndRepeatsUptoRow.holds Tryd.pinned (OpenSpec.upto fnPeekAgreesWithNextAndRepeatsSpec)

/-- 'n003_28.FnBackupUndoesNext', WHERE WHAT IT READS IS OF BULK AT MOST 1048576: true; the input reads as it did. -/
def fnBackupUndoesNextUptoRow : OpenClaim := { program := "ytklkbalbmeefjaadoor", sum := "5a97e7530f88bf10f2cc86b534dd9e8c535fd2073f57571b0b857e2f6d0ef968", func := "github.com/expr-lang/expr/n003_28.FnBackupUndoesNext", spec := "fnBackupUndoesNext", named := ["unicode/utf8.first", "unicode/utf8.acceptRanges"], apart := false, laid := [("unicode/utf8.acceptRanges", laid_unicode_utf8_acceptRanges), ("unicode/utf8.first", laid_unicode_utf8_first)], narrowed := true }
def FnBackupUndoesNextUptoSaid : Prop := fnBackupUndoesNextUptoRow.holds Tryd.pinned (OpenSpec.upto fnBackupUndoesNextSpec)

/-- 'n003_28.FnNextDecodesWholeSource', WHERE WHAT IT READS IS OF BULK AT MOST 1048576: true; the input reads as it did. -/
def fnNextDecodesWholeSourceUptoRow : OpenClaim := { program := "ytklkbalbmeefjaadoor", sum := "5a97e7530f88bf10f2cc86b534dd9e8c535fd2073f57571b0b857e2f6d0ef968", func := "github.com/expr-lang/expr/n003_28.FnNextDecodesWholeSource", spec := "fnNextDecodesWholeSource", named := ["unicode/utf8.first", "unicode/utf8.acceptRanges"], apart := false, laid := [("unicode/utf8.acceptRanges", laid_unicode_utf8_acceptRanges), ("unicode/utf8.first", laid_unicode_utf8_first)], narrowed := true }
def FnNextDecodesWholeSourceUptoSaid : Prop := fnNextDecodesWholeSourceUptoRow.holds Tryd.pinned (OpenSpec.upto fnNextDecodesWholeSourceSpec)

/-- 'n003_28.FnPeekMatchesModel', WHERE WHAT IT READS IS OF BULK AT MOST 1048576: true; the input reads as it did. -/
def fnPeekMatchesModelUptoRow : OpenClaim := { program := "ytklkbalbmeefjaadoor", sum := "5a97e7530f88bf10f2cc86b534dd9e8c535fd2073f57571b0b857e2f6d0ef968", func := "github.com/expr-lang/expr/n003_28.FnPeekMatchesModel", spec := "fnPeekMatchesModel", named := ["unicode/utf8.first", "unicode/utf8.acceptRanges"], apart := false, laid := [("unicode/utf8.acceptRanges", laid_unicode_utf8_acceptRanges), ("unicode/utf8.first", laid_unicode_utf8_first)], narrowed := true }
def FnPeekMatchesModelUptoSaid : Prop := fnPeekMatchesModelUptoRow.holds Tryd.pinned (OpenSpec.upto fnPeekMatchesModelSpec)

/-- 'n003_28.FnCommitPinsStartAtEnd', WHERE WHAT IT READS IS OF BULK AT MOST 1048576: true; the input reads as it did. -/
def fnCommitPinsStartAtEndUptoRow : OpenClaim := { program := "ytklkbalbmeefjaadoor", sum := "5a97e7530f88bf10f2cc86b534dd9e8c535fd2073f57571b0b857e2f6d0ef968", func := "github.com/expr-lang/expr/n003_28.FnCommitPinsStartAtEnd", spec := "fnCommitPinsStartAtEnd", named := ["unicode/utf8.first", "unicode/utf8.acceptRanges"], apart := false, laid := [("unicode/utf8.acceptRanges", laid_unicode_utf8_acceptRanges), ("unicode/utf8.first", laid_unicode_utf8_first)], narrowed := true }
def FnCommitPinsStartAtEndUptoSaid : Prop := fnCommitPinsStartAtEndUptoRow.holds Tryd.pinned (OpenSpec.upto fnCommitPinsStartAtEndSpec)

/-- 'n003_28.FnNextStepBounds', WHERE WHAT IT READS IS OF BULK AT MOST 1048576: true; the input reads as it did. -/
def fnNextStepBoundsUptoRow : OpenClaim := { program := "ytklkbalbmeefjaadoor", sum := "5a97e7530f88bf10f2cc86b534dd9e8c535fd2073f57571b0b857e2f6d0ef968", func := "github.com/expr-lang/expr/n003_28.FnNextStepBounds", spec := "fnNextStepBounds", named := ["unicode/utf8.first", "unicode/utf8.acceptRanges"], apart := false, laid := [("unicode/utf8.acceptRanges", laid_unicode_utf8_acceptRanges), ("unicode/utf8.first", laid_unicode_utf8_first)], narrowed := true }
def FnNextStepBoundsUptoSaid : Prop := fnNextStepBoundsUptoRow.holds Tryd.pinned (OpenSpec.upto fnNextStepBoundsSpec)

/-- 'n003_28.FnBackupWalksBackToStart', WHERE WHAT IT READS IS OF BULK AT MOST 1048576: true; the input reads as it did. -/
def fnBackupWalksBackToStartUptoRow : OpenClaim := { program := "ytklkbalbmeefjaadoor", sum := "5a97e7530f88bf10f2cc86b534dd9e8c535fd2073f57571b0b857e2f6d0ef968", func := "github.com/expr-lang/expr/n003_28.FnBackupWalksBackToStart", spec := "fnBackupWalksBackToStart", named := ["unicode/utf8.first", "unicode/utf8.acceptRanges"], apart := false, laid := [("unicode/utf8.acceptRanges", laid_unicode_utf8_acceptRanges), ("unicode/utf8.first", laid_unicode_utf8_first)], narrowed := true }
def FnBackupWalksBackToStartUptoSaid : Prop := fnBackupWalksBackToStartUptoRow.holds Tryd.pinned (OpenSpec.upto fnBackupWalksBackToStartSpec)

/-- 'n003_28.FnCommitPiecesRebuildSource', WHERE WHAT IT READS IS OF BULK AT MOST 1048576: true; the input reads as it did. -/
def fnCommitPiecesRebuildSourceUptoRow : OpenClaim := { program := "ytklkbalbmeefjaadoor", sum := "5a97e7530f88bf10f2cc86b534dd9e8c535fd2073f57571b0b857e2f6d0ef968", func := "github.com/expr-lang/expr/n003_28.FnCommitPiecesRebuildSource", spec := "fnCommitPiecesRebuildSource", named := ["unicode/utf8.first", "unicode/utf8.acceptRanges"], apart := false, laid := [("unicode/utf8.acceptRanges", laid_unicode_utf8_acceptRanges), ("unicode/utf8.first", laid_unicode_utf8_first)], narrowed := true }
def FnCommitPiecesRebuildSourceUptoSaid : Prop := fnCommitPiecesRebuildSourceUptoRow.holds Tryd.pinned (OpenSpec.upto fnCommitPiecesRebuildSourceSpec)

end Rows
end Go.Proofs.YtklkbalbmeefjaaDoor
