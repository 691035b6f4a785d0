/-
  DERIVED. GIVEN WITH THE SEED: THE CARDS: each row of YtihdiafgiibmdaaDoorRows.lean that lists a variable, with what it lists TIED to the program's text (the seventh form; the later family's looks); each row that meets fmt, with fmt's text TOLD by the authors' own Lean function (tested against real Go, not proved from fmt's source: count such statements apart). THE CARD IS WHAT COUNTS. Prove the row's statement (the work); the ties are given (YtihdiafgiibmdaaDoorTie.lean); close each card by the builder's one call (the guide's Derived/Test/ToyasCard.lean, 'card_holds'). Laid BY PROGRAM, IN A SANDBOX (cutbox-door.mjs). By AI agents, Wed Nov 11 2026. No macro, syntax, notation, axiom, sorry.
-/
import Derived.Test.YtihdiafgiibmdaaDoorRows
import GoSem.ClaimSeven
namespace Go.Proofs.YtihdiafgiibmdaaDoor
namespace Rows

/-- THE TIED CARD OF 'n003_79.FnIsSpaceWhiteSpaceTable'. -/
def fnIsSpaceWhiteSpaceTableCard : Claim7 := { stood := { row := fnIsSpaceWhiteSpaceTableRow, standIns := [], harness := (true, "5f15c9a8d23d16402bedb7e971500e72ebcf8cda9c30c7dc276d053ea6a1c2f9"), looks := false }, kinds := [], alts := [], laidByText := true, laidKinds := [.listed], laidTests := true, laidLooks := .later }
def FnIsSpaceWhiteSpaceTableCardSaid : Prop := Claim7.holds Tryd.pinned (.plain (OpenSpec.ofChange fnIsSpaceWhiteSpaceTableSpec)) fnIsSpaceWhiteSpaceTableCard

/-- THE TIED CARD OF 'n003_79.FnIsAlphabeticAgreesWithIdentifierHead'. -/
def fnIsAlphabeticAgreesWithIdentifierHeadCard : Claim7 := { stood := { row := fnIsAlphabeticAgreesWithIdentifierHeadRow, standIns := [], harness := (true, "5f15c9a8d23d16402bedb7e971500e72ebcf8cda9c30c7dc276d053ea6a1c2f9"), looks := false }, kinds := [], alts := [], laidByText := true, laidKinds := [.data, .data, .pinned, .pinned, .pinned], laidTests := true, laidLooks := .later }
def FnIsAlphabeticAgreesWithIdentifierHeadCardSaid : Prop := Claim7.holds Tryd.pinned (.plain (OpenSpec.ofChange fnIsAlphabeticAgreesWithIdentifierHeadSpec)) fnIsAlphabeticAgreesWithIdentifierHeadCard

/-- THE TIED CARD OF 'n003_79.FnIsSpaceDisjointFromAlphaNumeric'. -/
def fnIsSpaceDisjointFromAlphaNumericCard : Claim7 := { stood := { row := fnIsSpaceDisjointFromAlphaNumericRow, standIns := [], harness := (true, "5f15c9a8d23d16402bedb7e971500e72ebcf8cda9c30c7dc276d053ea6a1c2f9"), looks := false }, kinds := [], alts := [], laidByText := true, laidKinds := [.listed, .data, .pinned, .pinned], laidTests := true, laidLooks := .later }
def FnIsSpaceDisjointFromAlphaNumericCardSaid : Prop := Claim7.holds Tryd.pinned (.plain (OpenSpec.ofChange fnIsSpaceDisjointFromAlphaNumericSpec)) fnIsSpaceDisjointFromAlphaNumericCard

/-- THE TIED CARD OF 'n003_79.FnIsAlphaNumericAgreesWithIdentifierTail'. -/
def fnIsAlphaNumericAgreesWithIdentifierTailCard : Claim7 := { stood := { row := fnIsAlphaNumericAgreesWithIdentifierTailRow, standIns := [], harness := (true, "5f15c9a8d23d16402bedb7e971500e72ebcf8cda9c30c7dc276d053ea6a1c2f9"), looks := false }, kinds := [], alts := [], laidByText := true, laidKinds := [.data, .data, .pinned, .pinned, .pinned], laidTests := true, laidLooks := .later }
def FnIsAlphaNumericAgreesWithIdentifierTailCardSaid : Prop := Claim7.holds Tryd.pinned (.plain (OpenSpec.ofChange fnIsAlphaNumericAgreesWithIdentifierTailSpec)) fnIsAlphaNumericAgreesWithIdentifierTailCard

/-- THE TIED CARD OF 'n003_79.FnIsAlphaNumericLatin1Table'. -/
def fnIsAlphaNumericLatin1TableCard : Claim7 := { stood := { row := fnIsAlphaNumericLatin1TableRow, standIns := [], harness := (true, "5f15c9a8d23d16402bedb7e971500e72ebcf8cda9c30c7dc276d053ea6a1c2f9"), looks := false }, kinds := [], alts := [], laidByText := true, laidKinds := [.data, .pinned, .pinned], laidTests := true, laidLooks := .later }
def FnIsAlphaNumericLatin1TableCardSaid : Prop := Claim7.holds Tryd.pinned (.plain (OpenSpec.ofChange fnIsAlphaNumericLatin1TableSpec)) fnIsAlphaNumericLatin1TableCard

/-- THE TIED CARD OF 'n003_79.FnIsAlphabeticLatin1Table'. -/
def fnIsAlphabeticLatin1TableCard : Claim7 := { stood := { row := fnIsAlphabeticLatin1TableRow, standIns := [], harness := (true, "5f15c9a8d23d16402bedb7e971500e72ebcf8cda9c30c7dc276d053ea6a1c2f9"), looks := false }, kinds := [], alts := [], laidByText := true, laidKinds := [.data, .pinned], laidTests := true, laidLooks := .later }
def FnIsAlphabeticLatin1TableCardSaid : Prop := Claim7.holds Tryd.pinned (.plain (OpenSpec.ofChange fnIsAlphabeticLatin1TableSpec)) fnIsAlphabeticLatin1TableCard

/-- THE SECOND FORM's CARD OF 'n003_79.FnIsSpaceWhiteSpaceTable'. -/
def fnIsSpaceWhiteSpaceTableUptoCard : Claim7 := { stood := { row := fnIsSpaceWhiteSpaceTableUptoRow, standIns := [], harness := (true, "5f15c9a8d23d16402bedb7e971500e72ebcf8cda9c30c7dc276d053ea6a1c2f9"), looks := false }, kinds := [], alts := [], laidByText := true, laidKinds := [.listed], laidTests := true, laidLooks := .later }
def FnIsSpaceWhiteSpaceTableUptoCardSaid : Prop := Claim7.holds Tryd.pinned (.plain (OpenSpec.upto fnIsSpaceWhiteSpaceTableSpec)) fnIsSpaceWhiteSpaceTableUptoCard

/-- THE SECOND FORM's CARD OF 'n003_79.FnIsAlphabeticAgreesWithIdentifierHead'. -/
def fnIsAlphabeticAgreesWithIdentifierHeadUptoCard : Claim7 := { stood := { row := fnIsAlphabeticAgreesWithIdentifierHeadUptoRow, standIns := [], harness := (true, "5f15c9a8d23d16402bedb7e971500e72ebcf8cda9c30c7dc276d053ea6a1c2f9"), looks := false }, kinds := [], alts := [], laidByText := true, laidKinds := [.data, .data, .pinned, .pinned, .pinned], laidTests := true, laidLooks := .later }
def FnIsAlphabeticAgreesWithIdentifierHeadUptoCardSaid : Prop := Claim7.holds Tryd.pinned (.plain (OpenSpec.upto fnIsAlphabeticAgreesWithIdentifierHeadSpec)) fnIsAlphabeticAgreesWithIdentifierHeadUptoCard

/-- THE SECOND FORM's CARD OF 'n003_79.FnIsSpaceDisjointFromAlphaNumeric'. -/
def fnIsSpaceDisjointFromAlphaNumericUptoCard : Claim7 := { stood := { row := fnIsSpaceDisjointFromAlphaNumericUptoRow, standIns := [], harness := (true, "5f15c9a8d23d16402bedb7e971500e72ebcf8cda9c30c7dc276d053ea6a1c2f9"), looks := false }, kinds := [], alts := [], laidByText := true, laidKinds := [.listed, .data, .pinned, .pinned], laidTests := true, laidLooks := .later }
def FnIsSpaceDisjointFromAlphaNumericUptoCardSaid : Prop := Claim7.holds Tryd.pinned (.plain (OpenSpec.upto fnIsSpaceDisjointFromAlphaNumericSpec)) fnIsSpaceDisjointFromAlphaNumericUptoCard

/-- THE SECOND FORM's CARD OF 'n003_79.FnIsAlphaNumericAgreesWithIdentifierTail'. -/
def fnIsAlphaNumericAgreesWithIdentifierTailUptoCard : Claim7 := { stood := { row := fnIsAlphaNumericAgreesWithIdentifierTailUptoRow, standIns := [], harness := (true, "5f15c9a8d23d16402bedb7e971500e72ebcf8cda9c30c7dc276d053ea6a1c2f9"), looks := false }, kinds := [], alts := [], laidByText := true, laidKinds := [.data, .data, .pinned, .pinned, .pinned], laidTests := true, laidLooks := .later }
def FnIsAlphaNumericAgreesWithIdentifierTailUptoCardSaid : Prop := Claim7.holds Tryd.pinned (.plain (OpenSpec.upto fnIsAlphaNumericAgreesWithIdentifierTailSpec)) fnIsAlphaNumericAgreesWithIdentifierTailUptoCard

/-- THE SECOND FORM's CARD OF 'n003_79.FnIsAlphaNumericLatin1Table'. -/
def fnIsAlphaNumericLatin1TableUptoCard : Claim7 := { stood := { row := fnIsAlphaNumericLatin1TableUptoRow, standIns := [], harness := (true, "5f15c9a8d23d16402bedb7e971500e72ebcf8cda9c30c7dc276d053ea6a1c2f9"), looks := false }, kinds := [], alts := [], laidByText := true, laidKinds := [.data, .pinned, .pinned], laidTests := true, laidLooks := .later }
def FnIsAlphaNumericLatin1TableUptoCardSaid : Prop := Claim7.holds Tryd.pinned (.plain (OpenSpec.upto fnIsAlphaNumericLatin1TableSpec)) fnIsAlphaNumericLatin1TableUptoCard

/-- THE SECOND FORM's CARD OF 'n003_79.FnIsAlphabeticLatin1Table'. -/
def fnIsAlphabeticLatin1TableUptoCard : Claim7 := { stood := { row := fnIsAlphabeticLatin1TableUptoRow, standIns := [], harness := (true, "5f15c9a8d23d16402bedb7e971500e72ebcf8cda9c30c7dc276d053ea6a1c2f9"), looks := false }, kinds := [], alts := [], laidByText := true, laidKinds := [.data, .pinned], laidTests := true, laidLooks := .later }
def FnIsAlphabeticLatin1TableUptoCardSaid : Prop := Claim7.holds Tryd.pinned (.plain (OpenSpec.upto fnIsAlphabeticLatin1TableSpec)) fnIsAlphabeticLatin1TableUptoCard
end Rows
end Go.Proofs.YtihdiafgiibmdaaDoor
