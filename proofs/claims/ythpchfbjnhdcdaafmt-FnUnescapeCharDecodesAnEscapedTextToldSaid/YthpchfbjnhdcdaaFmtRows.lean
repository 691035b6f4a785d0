/-
  NARROWER THAN 'FOR EVERY INPUT', by the rows' own cells (each row's printed sentence says how): FnUnescapeCharEscapeRoundTrip: laid · FnUnescapeCharDecodesAnEscapedText: laid · FnUnescapeByteCharAgreesWithUnescapeChar: laid · FnUnescapeByteCharByteRoundTrip: laid · FnUnescapeCharAcceptsExactlyItsGrammar: laid.
  DERIVED. THE GIVEN ROWS OF THIS SEAT. 5 by the template 'for every input the law returns true; each argument reads behind the call as it read before'; 0 by the template 'total and deterministic' (their statements: YthpchfbjnhdcdaaFmtTotals.lean).
  GIVEN WITH THE SEED: the statements are not yours to turn. If you find one false, say at which input.
  Laid BY PROGRAM, IN A SANDBOX (cutbox-rows.mjs): the forced cells as the released guide's own fill.sh prints them over the translation a32b50c5755cebad… (all of the seat's roots in one cut). By AI agents, Wed Nov 11 2026. No macro, syntax, notation, axiom, sorry.
-/
import Derived.Test.YthpchfbjnhdcdaaFmtChecked
import GoSem.PinnedTables
import GoSem.Claim
import GoSem.ClaimJoined
import GoSem.ClaimMapViews
import Derived.JoinedTies
import Derived.KernelRfl
namespace Go.Proofs.YthpchfbjnhdcdaaFmt
/- THE CELL 'sum', in the pinned program and in every row, IS THE sha256 OF THE DUMP (.gsa) THAT YthpchfbjnhdcdaaFmtProg.lean LOADS. Nothing in Lean hashes anything: it is a label: what it is worth is what the hold of that sum in a sandbox is worth. -/
noncomputable def Tryf.pinned : Pinned := { name := "ythpchfbjnhdcdaafmt", sum := "a32b50c5755cebad76a2c9a5a1d552e96969a4650eecc77baa4b6f30aea8dfbe", checked := Tryf.checked }
namespace Rows
def none {H : Type} : Left H := { results := [], args := [] }

/- WHAT THE LISTED PACKAGE-LEVEL VARIABLES READ AS WHEN THE CALL BEGINS. Each datum BY PROGRAM (the guide's laid-datum.mjs) off the statement by which the dump's own 'gosem.cut.vars' lays the variable. In a bare row this is a premise. The card (YthpchfbjnhdcdaaFmtCards.lean) ties it to the program's text. -/
def laid_unicode_utf8_acceptRanges {H : Type} : DataW H := .agg [.agg [.lit (.int .u8 128), .lit (.int .u8 191)], .agg [.lit (.int .u8 160), .lit (.int .u8 191)], .agg [.lit (.int .u8 128), .lit (.int .u8 159)], .agg [.lit (.int .u8 144), .lit (.int .u8 191)], .agg [.lit (.int .u8 128), .lit (.int .u8 143)], .agg [.lit (.int .u8 0), .lit (.int .u8 0)], .agg [.lit (.int .u8 0), .lit (.int .u8 0)], .agg [.lit (.int .u8 0), .lit (.int .u8 0)], .agg [.lit (.int .u8 0), .lit (.int .u8 0)], .agg [.lit (.int .u8 0), .lit (.int .u8 0)], .agg [.lit (.int .u8 0), .lit (.int .u8 0)], .agg [.lit (.int .u8 0), .lit (.int .u8 0)], .agg [.lit (.int .u8 0), .lit (.int .u8 0)], .agg [.lit (.int .u8 0), .lit (.int .u8 0)], .agg [.lit (.int .u8 0), .lit (.int .u8 0)], .agg [.lit (.int .u8 0), .lit (.int .u8 0)]]
/-- One of Go's own tables, pinned by name: the form's constant. -/
def laid_unicode_utf8_first : DataW Unit := Go.Pinned.utf8First

/-- 'n003_10.FnUnescapeCharEscapeRoundTrip': WHATEVER THE INPUT: true; the input reads as it did. -/
def fnUnescapeCharEscapeRoundTripSpec : ChangeSpec := { name := "fnUnescapeCharEscapeRoundTrip", fn := fun _ => fun
  | [d1, d2, d3, d4] => { results := [.lit (.bool true)], args := [d1, d2, d3, d4] }
  | _ => none }
def fnUnescapeCharEscapeRoundTripRow : OpenClaim := { program := "ythpchfbjnhdcdaafmt", sum := "a32b50c5755cebad76a2c9a5a1d552e96969a4650eecc77baa4b6f30aea8dfbe", func := "github.com/expr-lang/expr/n003_10.FnUnescapeCharEscapeRoundTrip", spec := "fnUnescapeCharEscapeRoundTrip", stops := ["fmt.errorf"], inPlace := ["fmt.errorf"], named := ["unicode/utf8.first", "unicode/utf8.acceptRanges"], apart := false, laid := [("unicode/utf8.acceptRanges", laid_unicode_utf8_acceptRanges), ("unicode/utf8.first", laid_unicode_utf8_first)] }
/-- NO THEOREM (fmt's text is open here; it may be false): for the released tool's asking of the row's closed facts alone. THE STATEMENT IS 'FnUnescapeCharEscapeRoundTripToldSaid' (YthpchfbjnhdcdaaFmtCards.lean). -/
def FnUnescapeCharEscapeRoundTripFormAsk : Prop := fnUnescapeCharEscapeRoundTripRow.holds Tryf.pinned (OpenSpec.ofChange fnUnescapeCharEscapeRoundTripSpec)

/-- ITS FALSE NEIGHBOUR: 'it returns false'. Refute it at one input. -/
def fnUnescapeCharEscapeRoundTripWrong : ChangeSpec := { name := "fnUnescapeCharEscapeRoundTrip", fn := fun _ => fun
  | [d1, d2, d3, d4] => { results := [.lit (.bool false)], args := [d1, d2, d3, d4] }
  | _ => none }
def FnUnescapeCharEscapeRoundTripWrongFormAsk : Prop := fnUnescapeCharEscapeRoundTripRow.holds Tryf.pinned (OpenSpec.ofChange fnUnescapeCharEscapeRoundTripWrong)

/-- 'n003_10.FnUnescapeCharDecodesAnEscapedText': WHATEVER THE INPUT: true; the input reads as it did. -/
def fnUnescapeCharDecodesAnEscapedTextSpec : ChangeSpec := { name := "fnUnescapeCharDecodesAnEscapedText", fn := fun _ => fun
  | [d1, d2, d3] => { results := [.lit (.bool true)], args := [d1, d2, d3] }
  | _ => none }
def fnUnescapeCharDecodesAnEscapedTextRow : OpenClaim := { program := "ythpchfbjnhdcdaafmt", sum := "a32b50c5755cebad76a2c9a5a1d552e96969a4650eecc77baa4b6f30aea8dfbe", func := "github.com/expr-lang/expr/n003_10.FnUnescapeCharDecodesAnEscapedText", spec := "fnUnescapeCharDecodesAnEscapedText", stops := ["fmt.errorf"], inPlace := ["fmt.errorf"], named := ["unicode/utf8.first", "unicode/utf8.acceptRanges"], apart := false, laid := [("unicode/utf8.acceptRanges", laid_unicode_utf8_acceptRanges), ("unicode/utf8.first", laid_unicode_utf8_first)] }
/-- NO THEOREM (fmt's text is open here; it may be false): for the released tool's asking of the row's closed facts alone. THE STATEMENT IS 'FnUnescapeCharDecodesAnEscapedTextToldSaid' (YthpchfbjnhdcdaaFmtCards.lean). -/
def FnUnescapeCharDecodesAnEscapedTextFormAsk : Prop := fnUnescapeCharDecodesAnEscapedTextRow.holds Tryf.pinned (OpenSpec.ofChange fnUnescapeCharDecodesAnEscapedTextSpec)

/-- ITS FALSE NEIGHBOUR: 'it returns false'. Refute it at one input. -/
def fnUnescapeCharDecodesAnEscapedTextWrong : ChangeSpec := { name := "fnUnescapeCharDecodesAnEscapedText", fn := fun _ => fun
  | [d1, d2, d3] => { results := [.lit (.bool false)], args := [d1, d2, d3] }
  | _ => none }
def FnUnescapeCharDecodesAnEscapedTextWrongFormAsk : Prop := fnUnescapeCharDecodesAnEscapedTextRow.holds Tryf.pinned (OpenSpec.ofChange fnUnescapeCharDecodesAnEscapedTextWrong)

/-- 'n003_10.FnUnescapeByteCharAgreesWithUnescapeChar': WHATEVER THE INPUT: true; the input reads as it did. -/
def fnUnescapeByteCharAgreesWithUnescapeCharSpec : ChangeSpec := { name := "fnUnescapeByteCharAgreesWithUnescapeChar", fn := fun _ => fun
  | [d] => { results := [.lit (.bool true)], args := [d] }
  | _ => none }
def fnUnescapeByteCharAgreesWithUnescapeCharRow : OpenClaim := { program := "ythpchfbjnhdcdaafmt", sum := "a32b50c5755cebad76a2c9a5a1d552e96969a4650eecc77baa4b6f30aea8dfbe", func := "github.com/expr-lang/expr/n003_10.FnUnescapeByteCharAgreesWithUnescapeChar", spec := "fnUnescapeByteCharAgreesWithUnescapeChar", stops := ["fmt.errorf"], inPlace := ["fmt.errorf"], named := ["unicode/utf8.first", "unicode/utf8.acceptRanges"], apart := false, laid := [("unicode/utf8.acceptRanges", laid_unicode_utf8_acceptRanges), ("unicode/utf8.first", laid_unicode_utf8_first)] }
/-- NO THEOREM (fmt's text is open here; it may be false): for the released tool's asking of the row's closed facts alone. THE STATEMENT IS 'FnUnescapeByteCharAgreesWithUnescapeCharToldSaid' (YthpchfbjnhdcdaaFmtCards.lean). -/
def FnUnescapeByteCharAgreesWithUnescapeCharFormAsk : Prop := fnUnescapeByteCharAgreesWithUnescapeCharRow.holds Tryf.pinned (OpenSpec.ofChange fnUnescapeByteCharAgreesWithUnescapeCharSpec)

/-- ITS FALSE NEIGHBOUR: 'it returns false'. Refute it at one input. -/
def fnUnescapeByteCharAgreesWithUnescapeCharWrong : ChangeSpec := { name := "fnUnescapeByteCharAgreesWithUnescapeChar", fn := fun _ => fun
  | [d] => { results := [.lit (.bool false)], args := [d] }
  | _ => none }
def FnUnescapeByteCharAgreesWithUnescapeCharWrongFormAsk : Prop := fnUnescapeByteCharAgreesWithUnescapeCharRow.holds Tryf.pinned (OpenSpec.ofChange fnUnescapeByteCharAgreesWithUnescapeCharWrong)

/-- 'n003_10.FnUnescapeByteCharByteRoundTrip': WHATEVER THE INPUT: true; the input reads as it did. -/
def fnUnescapeByteCharByteRoundTripSpec : ChangeSpec := { name := "fnUnescapeByteCharByteRoundTrip", fn := fun _ => fun
  | [d1, d2, d3, d4] => { results := [.lit (.bool true)], args := [d1, d2, d3, d4] }
  | _ => none }
def fnUnescapeByteCharByteRoundTripRow : OpenClaim := { program := "ythpchfbjnhdcdaafmt", sum := "a32b50c5755cebad76a2c9a5a1d552e96969a4650eecc77baa4b6f30aea8dfbe", func := "github.com/expr-lang/expr/n003_10.FnUnescapeByteCharByteRoundTrip", spec := "fnUnescapeByteCharByteRoundTrip", stops := ["fmt.errorf"], inPlace := ["fmt.errorf"], named := ["unicode/utf8.first", "unicode/utf8.acceptRanges"], apart := false, laid := [("unicode/utf8.acceptRanges", laid_unicode_utf8_acceptRanges), ("unicode/utf8.first", laid_unicode_utf8_first)] }
/-- NO THEOREM (fmt's text is open here; it may be false): for the released tool's asking of the row's closed facts alone. THE STATEMENT IS 'FnUnescapeByteCharByteRoundTripToldSaid' (YthpchfbjnhdcdaaFmtCards.lean). -/
def FnUnescapeByteCharByteRoundTripFormAsk : Prop := fnUnescapeByteCharByteRoundTripRow.holds Tryf.pinned (OpenSpec.ofChange fnUnescapeByteCharByteRoundTripSpec)

/-- ITS FALSE NEIGHBOUR: 'it returns false'. Refute it at one input. -/
def fnUnescapeByteCharByteRoundTripWrong : ChangeSpec := { name := "fnUnescapeByteCharByteRoundTrip", fn := fun _ => fun
  | [d1, d2, d3, d4] => { results := [.lit (.bool false)], args := [d1, d2, d3, d4] }
  | _ => none }
def FnUnescapeByteCharByteRoundTripWrongFormAsk : Prop := fnUnescapeByteCharByteRoundTripRow.holds Tryf.pinned (OpenSpec.ofChange fnUnescapeByteCharByteRoundTripWrong)

/-- 'n003_10.FnUnescapeCharAcceptsExactlyItsGrammar': WHATEVER THE INPUT: true; the input reads as it did. -/
def fnUnescapeCharAcceptsExactlyItsGrammarSpec : ChangeSpec := { name := "fnUnescapeCharAcceptsExactlyItsGrammar", fn := fun _ => fun
  | [d] => { results := [.lit (.bool true)], args := [d] }
  | _ => none }
def fnUnescapeCharAcceptsExactlyItsGrammarRow : OpenClaim := { program := "ythpchfbjnhdcdaafmt", sum := "a32b50c5755cebad76a2c9a5a1d552e96969a4650eecc77baa4b6f30aea8dfbe", func := "github.com/expr-lang/expr/n003_10.FnUnescapeCharAcceptsExactlyItsGrammar", spec := "fnUnescapeCharAcceptsExactlyItsGrammar", stops := ["fmt.errorf"], inPlace := ["fmt.errorf"], named := ["unicode/utf8.first", "unicode/utf8.acceptRanges"], apart := false, laid := [("unicode/utf8.acceptRanges", laid_unicode_utf8_acceptRanges), ("unicode/utf8.first", laid_unicode_utf8_first)] }
/-- NO THEOREM (fmt's text is open here; it may be false): for the released tool's asking of the row's closed facts alone. THE STATEMENT IS 'FnUnescapeCharAcceptsExactlyItsGrammarToldSaid' (YthpchfbjnhdcdaaFmtCards.lean). -/
def FnUnescapeCharAcceptsExactlyItsGrammarFormAsk : Prop := fnUnescapeCharAcceptsExactlyItsGrammarRow.holds Tryf.pinned (OpenSpec.ofChange fnUnescapeCharAcceptsExactlyItsGrammarSpec)

/-- ITS FALSE NEIGHBOUR: 'it returns false'. Refute it at one input. -/
def fnUnescapeCharAcceptsExactlyItsGrammarWrong : ChangeSpec := { name := "fnUnescapeCharAcceptsExactlyItsGrammar", fn := fun _ => fun
  | [d] => { results := [.lit (.bool false)], args := [d] }
  | _ => none }
def FnUnescapeCharAcceptsExactlyItsGrammarWrongFormAsk : Prop := fnUnescapeCharAcceptsExactlyItsGrammarRow.holds Tryf.pinned (OpenSpec.ofChange fnUnescapeCharAcceptsExactlyItsGrammarWrong)

end Rows
end Go.Proofs.YthpchfbjnhdcdaaFmt
