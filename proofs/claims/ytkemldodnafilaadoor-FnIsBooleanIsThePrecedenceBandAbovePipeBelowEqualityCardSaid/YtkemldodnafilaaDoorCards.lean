/-
  DERIVED. GIVEN WITH THE SEED: THE CARDS: each row of YtkemldodnafilaaDoorRows.lean that lists a variable, with what it lists TIED to the program's text (the seventh form; the later family's looks); each row that meets fmt, with fmt's text TOLD by the authors' own Lean function (tested against real Go, not proved from fmt's source: count such statements apart). THE CARD IS WHAT COUNTS. Prove the row's statement (the work); the ties are given (YtkemldodnafilaaDoorTie.lean); close each card by the builder's one call (the guide's Derived/Test/ToyasCard.lean, 'card_holds'). Laid BY PROGRAM, IN A SANDBOX (cutbox-door.mjs). By AI agents, Wed Nov 11 2026. No macro, syntax, notation, axiom, sorry.
-/
import Derived.Test.YtkemldodnafilaaDoorRows
import GoSem.ClaimSeven
namespace Go.Proofs.YtkemldodnafilaaDoor
namespace Rows

/-- THE TIED CARD OF 'n003_54.FnIsBooleanIsThePrecedenceBandAbovePipeBelowEquality'. -/
def fnIsBooleanIsThePrecedenceBandAbovePipeBelowEqualityCard : Claim7 := { stood := { row := fnIsBooleanIsThePrecedenceBandAbovePipeBelowEqualityRow, standIns := [], harness := (true, "e25380bad8b10026542993913c03baea5d2a36acfd37e3d082cebef1c836630b"), looks := false }, kinds := [], alts := [], laidByText := true, laidKinds := [.mapped], laidTests := true, laidLooks := .later }
def FnIsBooleanIsThePrecedenceBandAbovePipeBelowEqualityCardSaid : Prop := Claim7.holds Tryd.pinned (.plain (OpenSpec.ofChange fnIsBooleanIsThePrecedenceBandAbovePipeBelowEqualitySpec)) fnIsBooleanIsThePrecedenceBandAbovePipeBelowEqualityCard

/-- THE TIED CARD OF 'n003_54.FnIsComparisonSitsWithEqualityAndIsNotBoolean'. -/
def fnIsComparisonSitsWithEqualityAndIsNotBooleanCard : Claim7 := { stood := { row := fnIsComparisonSitsWithEqualityAndIsNotBooleanRow, standIns := [], harness := (true, "e25380bad8b10026542993913c03baea5d2a36acfd37e3d082cebef1c836630b"), looks := false }, kinds := [], alts := [], laidByText := true, laidKinds := [.mapped], laidTests := true, laidLooks := .later }
def FnIsComparisonSitsWithEqualityAndIsNotBooleanCardSaid : Prop := Claim7.holds Tryd.pinned (.plain (OpenSpec.ofChange fnIsComparisonSitsWithEqualityAndIsNotBooleanSpec)) fnIsComparisonSitsWithEqualityAndIsNotBooleanCard

/-- THE TIED CARD OF 'n003_54.FnLessIsStrictWeakOrder'. -/
def fnLessIsStrictWeakOrderCard : Claim7 := { stood := { row := fnLessIsStrictWeakOrderRow, standIns := [], harness := (true, "e25380bad8b10026542993913c03baea5d2a36acfd37e3d082cebef1c836630b"), looks := false }, kinds := [], alts := [], laidByText := true, laidKinds := [.mapped], laidTests := true, laidLooks := .later }
def FnLessIsStrictWeakOrderCardSaid : Prop := Claim7.holds Tryd.pinned (.plain (OpenSpec.ofChange fnLessIsStrictWeakOrderSpec)) fnLessIsStrictWeakOrderCard

/-- THE SECOND FORM's CARD OF 'n003_54.FnIsBooleanIsThePrecedenceBandAbovePipeBelowEquality'. -/
def fnIsBooleanIsThePrecedenceBandAbovePipeBelowEqualityUptoCard : Claim7 := { stood := { row := fnIsBooleanIsThePrecedenceBandAbovePipeBelowEqualityUptoRow, standIns := [], harness := (true, "e25380bad8b10026542993913c03baea5d2a36acfd37e3d082cebef1c836630b"), looks := false }, kinds := [], alts := [], laidByText := true, laidKinds := [.mapped], laidTests := true, laidLooks := .later }
def FnIsBooleanIsThePrecedenceBandAbovePipeBelowEqualityUptoCardSaid : Prop := Claim7.holds Tryd.pinned (.plain (OpenSpec.upto fnIsBooleanIsThePrecedenceBandAbovePipeBelowEqualitySpec)) fnIsBooleanIsThePrecedenceBandAbovePipeBelowEqualityUptoCard

/-- THE SECOND FORM's CARD OF 'n003_54.FnIsComparisonSitsWithEqualityAndIsNotBoolean'. -/
def fnIsComparisonSitsWithEqualityAndIsNotBooleanUptoCard : Claim7 := { stood := { row := fnIsComparisonSitsWithEqualityAndIsNotBooleanUptoRow, standIns := [], harness := (true, "e25380bad8b10026542993913c03baea5d2a36acfd37e3d082cebef1c836630b"), looks := false }, kinds := [], alts := [], laidByText := true, laidKinds := [.mapped], laidTests := true, laidLooks := .later }
def FnIsComparisonSitsWithEqualityAndIsNotBooleanUptoCardSaid : Prop := Claim7.holds Tryd.pinned (.plain (OpenSpec.upto fnIsComparisonSitsWithEqualityAndIsNotBooleanSpec)) fnIsComparisonSitsWithEqualityAndIsNotBooleanUptoCard

/-- THE SECOND FORM's CARD OF 'n003_54.FnLessIsStrictWeakOrder'. -/
def fnLessIsStrictWeakOrderUptoCard : Claim7 := { stood := { row := fnLessIsStrictWeakOrderUptoRow, standIns := [], harness := (true, "e25380bad8b10026542993913c03baea5d2a36acfd37e3d082cebef1c836630b"), looks := false }, kinds := [], alts := [], laidByText := true, laidKinds := [.mapped], laidTests := true, laidLooks := .later }
def FnLessIsStrictWeakOrderUptoCardSaid : Prop := Claim7.holds Tryd.pinned (.plain (OpenSpec.upto fnLessIsStrictWeakOrderSpec)) fnLessIsStrictWeakOrderUptoCard
end Rows
end Go.Proofs.YtkemldodnafilaaDoor
