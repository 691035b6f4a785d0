/-
  DERIVED. GIVEN WITH THE SEED: THE CARDS: each row of YthpchfbjnhdcdaaFmtRows.lean that lists a variable, with what it lists TIED to the program's text (the seventh form; the later family's looks); each row that meets fmt, with fmt's text TOLD by the authors' own Lean function (tested against real Go, not proved from fmt's source: count such statements apart). THE CARD IS WHAT COUNTS. Prove the row's statement (the work); the ties are given (YthpchfbjnhdcdaaFmtTie.lean); close each card by the builder's one call (the guide's Derived/Test/ToyasCard.lean, 'card_holds'). Laid BY PROGRAM, IN A SANDBOX (cutbox-door.mjs). By AI agents, Wed Nov 11 2026. No macro, syntax, notation, axiom, sorry.
-/
import Derived.Test.YthpchfbjnhdcdaaFmtRows
import GoSem.ClaimSeven
namespace Go.Proofs.YthpchfbjnhdcdaaFmt
namespace Rows

/-- THE TOLD AND TIED CARD OF 'n003_10.FnUnescapeCharEscapeRoundTrip'. -/
def fnUnescapeCharEscapeRoundTripCard : Claim7 := { stood := { row := fnUnescapeCharEscapeRoundTripRow, standIns := [], harness := (true, "be415f208b1f3e317dc0a5357a3782d2e1750b817ab21a7f9d629023e28ee56b"), looks := false }, told := true, laidByText := true, laidKinds := [.data, .pinned], laidTests := true, laidLooks := .later, goes := false }
def FnUnescapeCharEscapeRoundTripToldSaid : Prop := Claim7.holds Tryf.pinned (.plain (OpenSpec.ofChange fnUnescapeCharEscapeRoundTripSpec)) fnUnescapeCharEscapeRoundTripCard
/-- ITS FALSE NEIGHBOUR. Refute it at one input. -/
def FnUnescapeCharEscapeRoundTripToldWrongFalsely : Prop := Claim7.holds Tryf.pinned (.plain (OpenSpec.ofChange fnUnescapeCharEscapeRoundTripWrong)) fnUnescapeCharEscapeRoundTripCard

/-- THE TOLD AND TIED CARD OF 'n003_10.FnUnescapeCharDecodesAnEscapedText'. -/
def fnUnescapeCharDecodesAnEscapedTextCard : Claim7 := { stood := { row := fnUnescapeCharDecodesAnEscapedTextRow, standIns := [], harness := (true, "be415f208b1f3e317dc0a5357a3782d2e1750b817ab21a7f9d629023e28ee56b"), looks := false }, told := true, laidByText := true, laidKinds := [.data, .pinned], laidTests := true, laidLooks := .later, goes := false }
def FnUnescapeCharDecodesAnEscapedTextToldSaid : Prop := Claim7.holds Tryf.pinned (.plain (OpenSpec.ofChange fnUnescapeCharDecodesAnEscapedTextSpec)) fnUnescapeCharDecodesAnEscapedTextCard
/-- ITS FALSE NEIGHBOUR. Refute it at one input. -/
def FnUnescapeCharDecodesAnEscapedTextToldWrongFalsely : Prop := Claim7.holds Tryf.pinned (.plain (OpenSpec.ofChange fnUnescapeCharDecodesAnEscapedTextWrong)) fnUnescapeCharDecodesAnEscapedTextCard

/-- THE TOLD AND TIED CARD OF 'n003_10.FnUnescapeByteCharAgreesWithUnescapeChar'. -/
def fnUnescapeByteCharAgreesWithUnescapeCharCard : Claim7 := { stood := { row := fnUnescapeByteCharAgreesWithUnescapeCharRow, standIns := [], harness := (true, "be415f208b1f3e317dc0a5357a3782d2e1750b817ab21a7f9d629023e28ee56b"), looks := false }, told := true, laidByText := true, laidKinds := [.data, .pinned], laidTests := true, laidLooks := .later, goes := false }
def FnUnescapeByteCharAgreesWithUnescapeCharToldSaid : Prop := Claim7.holds Tryf.pinned (.plain (OpenSpec.ofChange fnUnescapeByteCharAgreesWithUnescapeCharSpec)) fnUnescapeByteCharAgreesWithUnescapeCharCard
/-- ITS FALSE NEIGHBOUR. Refute it at one input. -/
def FnUnescapeByteCharAgreesWithUnescapeCharToldWrongFalsely : Prop := Claim7.holds Tryf.pinned (.plain (OpenSpec.ofChange fnUnescapeByteCharAgreesWithUnescapeCharWrong)) fnUnescapeByteCharAgreesWithUnescapeCharCard

/-- THE TOLD AND TIED CARD OF 'n003_10.FnUnescapeByteCharByteRoundTrip'. -/
def fnUnescapeByteCharByteRoundTripCard : Claim7 := { stood := { row := fnUnescapeByteCharByteRoundTripRow, standIns := [], harness := (true, "be415f208b1f3e317dc0a5357a3782d2e1750b817ab21a7f9d629023e28ee56b"), looks := false }, told := true, laidByText := true, laidKinds := [.data, .pinned], laidTests := true, laidLooks := .later, goes := false }
def FnUnescapeByteCharByteRoundTripToldSaid : Prop := Claim7.holds Tryf.pinned (.plain (OpenSpec.ofChange fnUnescapeByteCharByteRoundTripSpec)) fnUnescapeByteCharByteRoundTripCard
/-- ITS FALSE NEIGHBOUR. Refute it at one input. -/
def FnUnescapeByteCharByteRoundTripToldWrongFalsely : Prop := Claim7.holds Tryf.pinned (.plain (OpenSpec.ofChange fnUnescapeByteCharByteRoundTripWrong)) fnUnescapeByteCharByteRoundTripCard

/-- THE TOLD AND TIED CARD OF 'n003_10.FnUnescapeCharAcceptsExactlyItsGrammar'. -/
def fnUnescapeCharAcceptsExactlyItsGrammarCard : Claim7 := { stood := { row := fnUnescapeCharAcceptsExactlyItsGrammarRow, standIns := [], harness := (true, "be415f208b1f3e317dc0a5357a3782d2e1750b817ab21a7f9d629023e28ee56b"), looks := false }, told := true, laidByText := true, laidKinds := [.data, .pinned], laidTests := true, laidLooks := .later, goes := false }
def FnUnescapeCharAcceptsExactlyItsGrammarToldSaid : Prop := Claim7.holds Tryf.pinned (.plain (OpenSpec.ofChange fnUnescapeCharAcceptsExactlyItsGrammarSpec)) fnUnescapeCharAcceptsExactlyItsGrammarCard
/-- ITS FALSE NEIGHBOUR. Refute it at one input. -/
def FnUnescapeCharAcceptsExactlyItsGrammarToldWrongFalsely : Prop := Claim7.holds Tryf.pinned (.plain (OpenSpec.ofChange fnUnescapeCharAcceptsExactlyItsGrammarWrong)) fnUnescapeCharAcceptsExactlyItsGrammarCard
end Rows
end Go.Proofs.YthpchfbjnhdcdaaFmt
