/-
  DERIVED. GIVEN WITH THE SEED: THE CARDS: each row of YtklkbalbmeefjaaDoorRows.lean that lists a variable, with what it lists TIED to the program's text (the seventh form; the later family's looks); each row that meets fmt, with fmt's text TOLD by the authors' own Lean function (tested against real Go, not proved from fmt's source: count such statements apart). THE CARD IS WHAT COUNTS. Prove the row's statement (the work); the ties are given (YtklkbalbmeefjaaDoorTie.lean); close each card by the builder's one call (the guide's Derived/Test/ToyasCard.lean, 'card_holds'). Laid BY PROGRAM, IN A SANDBOX (cutbox-door.mjs). By AI agents, Wed Nov 11 2026. No macro, syntax, notation, axiom, sorry.
-/
import Derived.Test.YtklkbalbmeefjaaDoorRows
import GoSem.ClaimSeven
namespace Go.Proofs.YtklkbalbmeefjaaDoor
namespace Rows

/-- THE TIED CARD OF 'n003_28.FnPeekAgreesWithNextAndRepeats'. -/
def fnPeekAgreesWithNextAndRepeatsCard : Claim7 := { stood := { row := fnPeekAgreesWithNextAndRepeatsRow, standIns := [], harness := (true, "9d7130bd9a0fa565a15d7201d4d474d2334d3d84ccfd1394b567a2ee70e64ae6"), looks := false }, kinds := [], alts := [], laidByText := true, laidKinds := [.data, .pinned], laidTests := true, laidLooks := .later }
def FnPeekAgreesWithNextAndRepeatsCardSaid : Prop := Claim7.holds Tryd.pinned (.plain (OpenSpec.ofChange fnPeekAgreesWithNextAndRepeatsSpec)) fnPeekAgreesWithNextAndRepeatsCard

/-- THE TIED CARD OF 'n003_28.FnBackupUndoesNext'. -/
def fnBackupUndoesNextCard : Claim7 := { stood := { row := fnBackupUndoesNextRow, standIns := [], harness := (true, "9d7130bd9a0fa565a15d7201d4d474d2334d3d84ccfd1394b567a2ee70e64ae6"), looks := false }, kinds := [], alts := [], laidByText := true, laidKinds := [.data, .pinned], laidTests := true, laidLooks := .later }
def FnBackupUndoesNextCardSaid : Prop := Claim7.holds Tryd.pinned (.plain (OpenSpec.ofChange fnBackupUndoesNextSpec)) fnBackupUndoesNextCard

/-- THE TIED CARD OF 'n003_28.FnNextDecodesWholeSource'. -/
def fnNextDecodesWholeSourceCard : Claim7 := { stood := { row := fnNextDecodesWholeSourceRow, standIns := [], harness := (true, "9d7130bd9a0fa565a15d7201d4d474d2334d3d84ccfd1394b567a2ee70e64ae6"), looks := false }, kinds := [], alts := [], laidByText := true, laidKinds := [.data, .pinned], laidTests := true, laidLooks := .later }
def FnNextDecodesWholeSourceCardSaid : Prop := Claim7.holds Tryd.pinned (.plain (OpenSpec.ofChange fnNextDecodesWholeSourceSpec)) fnNextDecodesWholeSourceCard

/-- THE TIED CARD OF 'n003_28.FnPeekMatchesModel'. -/
def fnPeekMatchesModelCard : Claim7 := { stood := { row := fnPeekMatchesModelRow, standIns := [], harness := (true, "9d7130bd9a0fa565a15d7201d4d474d2334d3d84ccfd1394b567a2ee70e64ae6"), looks := false }, kinds := [], alts := [], laidByText := true, laidKinds := [.data, .pinned], laidTests := true, laidLooks := .later }
def FnPeekMatchesModelCardSaid : Prop := Claim7.holds Tryd.pinned (.plain (OpenSpec.ofChange fnPeekMatchesModelSpec)) fnPeekMatchesModelCard

/-- THE TIED CARD OF 'n003_28.FnCommitPinsStartAtEnd'. -/
def fnCommitPinsStartAtEndCard : Claim7 := { stood := { row := fnCommitPinsStartAtEndRow, standIns := [], harness := (true, "9d7130bd9a0fa565a15d7201d4d474d2334d3d84ccfd1394b567a2ee70e64ae6"), looks := false }, kinds := [], alts := [], laidByText := true, laidKinds := [.data, .pinned], laidTests := true, laidLooks := .later }
def FnCommitPinsStartAtEndCardSaid : Prop := Claim7.holds Tryd.pinned (.plain (OpenSpec.ofChange fnCommitPinsStartAtEndSpec)) fnCommitPinsStartAtEndCard

/-- THE TIED CARD OF 'n003_28.FnNextStepBounds'. -/
def fnNextStepBoundsCard : Claim7 := { stood := { row := fnNextStepBoundsRow, standIns := [], harness := (true, "9d7130bd9a0fa565a15d7201d4d474d2334d3d84ccfd1394b567a2ee70e64ae6"), looks := false }, kinds := [], alts := [], laidByText := true, laidKinds := [.data, .pinned], laidTests := true, laidLooks := .later }
def FnNextStepBoundsCardSaid : Prop := Claim7.holds Tryd.pinned (.plain (OpenSpec.ofChange fnNextStepBoundsSpec)) fnNextStepBoundsCard

/-- THE TIED CARD OF 'n003_28.FnBackupWalksBackToStart'. -/
def fnBackupWalksBackToStartCard : Claim7 := { stood := { row := fnBackupWalksBackToStartRow, standIns := [], harness := (true, "9d7130bd9a0fa565a15d7201d4d474d2334d3d84ccfd1394b567a2ee70e64ae6"), looks := false }, kinds := [], alts := [], laidByText := true, laidKinds := [.data, .pinned], laidTests := true, laidLooks := .later }
def FnBackupWalksBackToStartCardSaid : Prop := Claim7.holds Tryd.pinned (.plain (OpenSpec.ofChange fnBackupWalksBackToStartSpec)) fnBackupWalksBackToStartCard

/-- THE TIED CARD OF 'n003_28.FnCommitPiecesRebuildSource'. -/
def fnCommitPiecesRebuildSourceCard : Claim7 := { stood := { row := fnCommitPiecesRebuildSourceRow, standIns := [], harness := (true, "9d7130bd9a0fa565a15d7201d4d474d2334d3d84ccfd1394b567a2ee70e64ae6"), looks := false }, kinds := [], alts := [], laidByText := true, laidKinds := [.data, .pinned], laidTests := true, laidLooks := .later }
def FnCommitPiecesRebuildSourceCardSaid : Prop := Claim7.holds Tryd.pinned (.plain (OpenSpec.ofChange fnCommitPiecesRebuildSourceSpec)) fnCommitPiecesRebuildSourceCard

/-- THE SECOND FORM's CARD OF 'n003_28.FnPeekAgreesWithNextAndRepeats'. -/
def fnPeekAgreesWithNextAndRepeatsUptoCard : Claim7 := { stood := { row := fnPeekAgreesWithNextAndRepeatsUptoRow, standIns := [], harness := (true, "9d7130bd9a0fa565a15d7201d4d474d2334d3d84ccfd1394b567a2ee70e64ae6"), looks := false }, kinds := [], alts := [], laidByText := true, laidKinds := [.data, .pinned], laidTests := true, laidLooks := .later }
def FnPeekAgreesWithNextAndRepeatsUptoCardSaid : Prop := Claim7.holds Tryd.pinned (.plain (OpenSpec.upto fnPeekAgreesWithNextAndRepeatsSpec)) fnPeekAgreesWithNextAndRepeatsUptoCard

/-- THE SECOND FORM's CARD OF 'n003_28.FnBackupUndoesNext'. -/
def fnBackupUndoesNextUptoCard : Claim7 := { stood := { row := fnBackupUndoesNextUptoRow, standIns := [], harness := (true, "9d7130bd9a0fa565a15d7201d4d474d2334d3d84ccfd1394b567a2ee70e64ae6"), looks := false }, kinds := [], alts := [], laidByText := true, laidKinds := [.data, .pinned], laidTests := true, laidLooks := .later }
def FnBackupUndoesNextUptoCardSaid : Prop := Claim7.holds Tryd.pinned (.plain (OpenSpec.upto fnBackupUndoesNextSpec)) fnBackupUndoesNextUptoCard

/-- THE SECOND FORM's CARD OF 'n003_28.FnNextDecodesWholeSource'. -/
def fnNextDecodesWholeSourceUptoCard : Claim7 := { stood := { row := fnNextDecodesWholeSourceUptoRow, standIns := [], harness := (true, "9d7130bd9a0fa565a15d7201d4d474d2334d3d84ccfd1394b567a2ee70e64ae6"), looks := false }, kinds := [], alts := [], laidByText := true, laidKinds := [.data, .pinned], laidTests := true, laidLooks := .later }
def FnNextDecodesWholeSourceUptoCardSaid : Prop := Claim7.holds Tryd.pinned (.plain (OpenSpec.upto fnNextDecodesWholeSourceSpec)) fnNextDecodesWholeSourceUptoCard

/-- THE SECOND FORM's CARD OF 'n003_28.FnPeekMatchesModel'. -/
def fnPeekMatchesModelUptoCard : Claim7 := { stood := { row := fnPeekMatchesModelUptoRow, standIns := [], harness := (true, "9d7130bd9a0fa565a15d7201d4d474d2334d3d84ccfd1394b567a2ee70e64ae6"), looks := false }, kinds := [], alts := [], laidByText := true, laidKinds := [.data, .pinned], laidTests := true, laidLooks := .later }
def FnPeekMatchesModelUptoCardSaid : Prop := Claim7.holds Tryd.pinned (.plain (OpenSpec.upto fnPeekMatchesModelSpec)) fnPeekMatchesModelUptoCard

/-- THE SECOND FORM's CARD OF 'n003_28.FnCommitPinsStartAtEnd'. -/
def fnCommitPinsStartAtEndUptoCard : Claim7 := { stood := { row := fnCommitPinsStartAtEndUptoRow, standIns := [], harness := (true, "9d7130bd9a0fa565a15d7201d4d474d2334d3d84ccfd1394b567a2ee70e64ae6"), looks := false }, kinds := [], alts := [], laidByText := true, laidKinds := [.data, .pinned], laidTests := true, laidLooks := .later }
def FnCommitPinsStartAtEndUptoCardSaid : Prop := Claim7.holds Tryd.pinned (.plain (OpenSpec.upto fnCommitPinsStartAtEndSpec)) fnCommitPinsStartAtEndUptoCard

/-- THE SECOND FORM's CARD OF 'n003_28.FnNextStepBounds'. -/
def fnNextStepBoundsUptoCard : Claim7 := { stood := { row := fnNextStepBoundsUptoRow, standIns := [], harness := (true, "9d7130bd9a0fa565a15d7201d4d474d2334d3d84ccfd1394b567a2ee70e64ae6"), looks := false }, kinds := [], alts := [], laidByText := true, laidKinds := [.data, .pinned], laidTests := true, laidLooks := .later }
def FnNextStepBoundsUptoCardSaid : Prop := Claim7.holds Tryd.pinned (.plain (OpenSpec.upto fnNextStepBoundsSpec)) fnNextStepBoundsUptoCard

/-- THE SECOND FORM's CARD OF 'n003_28.FnBackupWalksBackToStart'. -/
def fnBackupWalksBackToStartUptoCard : Claim7 := { stood := { row := fnBackupWalksBackToStartUptoRow, standIns := [], harness := (true, "9d7130bd9a0fa565a15d7201d4d474d2334d3d84ccfd1394b567a2ee70e64ae6"), looks := false }, kinds := [], alts := [], laidByText := true, laidKinds := [.data, .pinned], laidTests := true, laidLooks := .later }
def FnBackupWalksBackToStartUptoCardSaid : Prop := Claim7.holds Tryd.pinned (.plain (OpenSpec.upto fnBackupWalksBackToStartSpec)) fnBackupWalksBackToStartUptoCard

/-- THE SECOND FORM's CARD OF 'n003_28.FnCommitPiecesRebuildSource'. -/
def fnCommitPiecesRebuildSourceUptoCard : Claim7 := { stood := { row := fnCommitPiecesRebuildSourceUptoRow, standIns := [], harness := (true, "9d7130bd9a0fa565a15d7201d4d474d2334d3d84ccfd1394b567a2ee70e64ae6"), looks := false }, kinds := [], alts := [], laidByText := true, laidKinds := [.data, .pinned], laidTests := true, laidLooks := .later }
def FnCommitPiecesRebuildSourceUptoCardSaid : Prop := Claim7.holds Tryd.pinned (.plain (OpenSpec.upto fnCommitPiecesRebuildSourceSpec)) fnCommitPiecesRebuildSourceUptoCard
end Rows
end Go.Proofs.YtklkbalbmeefjaaDoor
