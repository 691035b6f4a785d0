/-
  NARROWER THAN 'FOR EVERY INPUT', by the rows' own cells (each row's printed sentence says how): FnUnescapeRefusals: laid · FnUnescapeBytesRoundTrip: laid · FnUnescapeRoundTrip: laid · FnUnicodeEscapeTextOnly: laid.
  DERIVED. THE GIVEN ROWS OF THIS SEAT. 4 by the template 'for every input the law returns true; each argument reads behind the call as it read before'; 0 by the template 'total and deterministic' (their statements: YtncoodplmpgnbaaFmtTotals.lean).
  GIVEN WITH THE SEED: the statements are not yours to turn. If you find one false, say at which input.
  Laid BY PROGRAM, IN A SANDBOX (cutbox-rows.mjs): the forced cells as the released guide's own fill.sh prints them over the translation 68dd39bd8fa24396… (all of the seat's roots in one cut). By AI agents, Wed Nov 11 2026. No macro, syntax, notation, axiom, sorry.
-/
import Derived.Test.YtncoodplmpgnbaaFmtChecked
import GoSem.PinnedTables
import GoSem.Claim
import GoSem.ClaimJoined
import GoSem.ClaimMapViews
import Derived.JoinedTies
import Derived.KernelRfl
namespace Go.Proofs.YtncoodplmpgnbaaFmt
/- THE CELL 'sum', in the pinned program and in every row, IS THE sha256 OF THE DUMP (.gsa) THAT YtncoodplmpgnbaaFmtProg.lean LOADS. Nothing in Lean hashes anything: it is a label: what it is worth is what the hold of that sum in a sandbox is worth. -/
noncomputable def Tryf.pinned : Pinned := { name := "ytncoodplmpgnbaafmt", sum := "68dd39bd8fa24396f61cb70e3d9efaee8efa1213bf7b65c9a49e9bb35c540bbc", checked := Tryf.checked }
namespace Rows
def none {H : Type} : Left H := { results := [], args := [] }

/- WHAT THE LISTED PACKAGE-LEVEL VARIABLES READ AS WHEN THE CALL BEGINS. Each datum BY PROGRAM (the guide's laid-datum.mjs) off the statement by which the dump's own 'gosem.cut.vars' lays the variable. In a bare row this is a premise. The card (YtncoodplmpgnbaaFmtCards.lean) ties it to the program's text. -/
def laid_unicode_utf8_acceptRanges {H : Type} : DataW H := .agg [.agg [.lit (.int .u8 128), .lit (.int .u8 191)], .agg [.lit (.int .u8 160), .lit (.int .u8 191)], .agg [.lit (.int .u8 128), .lit (.int .u8 159)], .agg [.lit (.int .u8 144), .lit (.int .u8 191)], .agg [.lit (.int .u8 128), .lit (.int .u8 143)], .agg [.lit (.int .u8 0), .lit (.int .u8 0)], .agg [.lit (.int .u8 0), .lit (.int .u8 0)], .agg [.lit (.int .u8 0), .lit (.int .u8 0)], .agg [.lit (.int .u8 0), .lit (.int .u8 0)], .agg [.lit (.int .u8 0), .lit (.int .u8 0)], .agg [.lit (.int .u8 0), .lit (.int .u8 0)], .agg [.lit (.int .u8 0), .lit (.int .u8 0)], .agg [.lit (.int .u8 0), .lit (.int .u8 0)], .agg [.lit (.int .u8 0), .lit (.int .u8 0)], .agg [.lit (.int .u8 0), .lit (.int .u8 0)], .agg [.lit (.int .u8 0), .lit (.int .u8 0)]]
/-- One of Go's own tables, pinned by name: the form's constant. -/
def laid_unicode_utf8_first : DataW Unit := Go.Pinned.utf8First

/-- 'n003_106.FnUnescapeRefusals': WHATEVER THE INPUT: true; the input reads as it did. -/
def fnUnescapeRefusalsSpec : ChangeSpec := { name := "fnUnescapeRefusals", fn := fun _ => fun
  | [d] => { results := [.lit (.bool true)], args := [d] }
  | _ => none }
def fnUnescapeRefusalsRow : OpenClaim := { program := "ytncoodplmpgnbaafmt", sum := "68dd39bd8fa24396f61cb70e3d9efaee8efa1213bf7b65c9a49e9bb35c540bbc", func := "github.com/expr-lang/expr/n003_106.FnUnescapeRefusals", spec := "fnUnescapeRefusals", stops := ["fmt.errorf"], inPlace := ["fmt.errorf", "internal/abi.NoEscape", "internal/bytealg.MakeNoZero"], named := ["unicode/utf8.first", "unicode/utf8.acceptRanges"], apart := false, laid := [("unicode/utf8.acceptRanges", laid_unicode_utf8_acceptRanges), ("unicode/utf8.first", laid_unicode_utf8_first)] }
/-- NO THEOREM (fmt's text is open here; it may be false): for the released tool's asking of the row's closed facts alone. THE STATEMENT IS 'FnUnescapeRefusalsToldSaid' (YtncoodplmpgnbaaFmtCards.lean). -/
def FnUnescapeRefusalsFormAsk : Prop := fnUnescapeRefusalsRow.holds Tryf.pinned (OpenSpec.ofChange fnUnescapeRefusalsSpec)

/-- ITS FALSE NEIGHBOUR: 'it returns false'. Refute it at one input. -/
def fnUnescapeRefusalsWrong : ChangeSpec := { name := "fnUnescapeRefusals", fn := fun _ => fun
  | [d] => { results := [.lit (.bool false)], args := [d] }
  | _ => none }
def FnUnescapeRefusalsWrongFormAsk : Prop := fnUnescapeRefusalsRow.holds Tryf.pinned (OpenSpec.ofChange fnUnescapeRefusalsWrong)

/-- 'n003_106.FnUnescapeBytesRoundTrip': WHATEVER THE INPUT: true; the input reads as it did. -/
def fnUnescapeBytesRoundTripSpec : ChangeSpec := { name := "fnUnescapeBytesRoundTrip", fn := fun _ => fun
  | [d1, d2, d3] => { results := [.lit (.bool true)], args := [d1, d2, d3] }
  | _ => none }
def fnUnescapeBytesRoundTripRow : OpenClaim := { program := "ytncoodplmpgnbaafmt", sum := "68dd39bd8fa24396f61cb70e3d9efaee8efa1213bf7b65c9a49e9bb35c540bbc", func := "github.com/expr-lang/expr/n003_106.FnUnescapeBytesRoundTrip", spec := "fnUnescapeBytesRoundTrip", stops := ["fmt.errorf"], inPlace := ["fmt.errorf", "internal/abi.NoEscape", "internal/bytealg.MakeNoZero"], named := ["unicode/utf8.first", "unicode/utf8.acceptRanges"], apart := false, laid := [("unicode/utf8.acceptRanges", laid_unicode_utf8_acceptRanges), ("unicode/utf8.first", laid_unicode_utf8_first)] }
/-- NO THEOREM (fmt's text is open here; it may be false): for the released tool's asking of the row's closed facts alone. THE STATEMENT IS 'FnUnescapeBytesRoundTripToldSaid' (YtncoodplmpgnbaaFmtCards.lean). -/
def FnUnescapeBytesRoundTripFormAsk : Prop := fnUnescapeBytesRoundTripRow.holds Tryf.pinned (OpenSpec.ofChange fnUnescapeBytesRoundTripSpec)

/-- ITS FALSE NEIGHBOUR: 'it returns false'. Refute it at one input. -/
def fnUnescapeBytesRoundTripWrong : ChangeSpec := { name := "fnUnescapeBytesRoundTrip", fn := fun _ => fun
  | [d1, d2, d3] => { results := [.lit (.bool false)], args := [d1, d2, d3] }
  | _ => none }
def FnUnescapeBytesRoundTripWrongFormAsk : Prop := fnUnescapeBytesRoundTripRow.holds Tryf.pinned (OpenSpec.ofChange fnUnescapeBytesRoundTripWrong)

/-- 'n003_106.FnUnescapeRoundTrip': WHATEVER THE INPUT: true; the input reads as it did. -/
def fnUnescapeRoundTripSpec : ChangeSpec := { name := "fnUnescapeRoundTrip", fn := fun _ => fun
  | [d1, d2, d3] => { results := [.lit (.bool true)], args := [d1, d2, d3] }
  | _ => none }
def fnUnescapeRoundTripRow : OpenClaim := { program := "ytncoodplmpgnbaafmt", sum := "68dd39bd8fa24396f61cb70e3d9efaee8efa1213bf7b65c9a49e9bb35c540bbc", func := "github.com/expr-lang/expr/n003_106.FnUnescapeRoundTrip", spec := "fnUnescapeRoundTrip", stops := ["fmt.errorf"], inPlace := ["fmt.errorf", "internal/abi.NoEscape", "internal/bytealg.MakeNoZero"], named := ["unicode/utf8.first", "unicode/utf8.acceptRanges"], apart := false, laid := [("unicode/utf8.acceptRanges", laid_unicode_utf8_acceptRanges), ("unicode/utf8.first", laid_unicode_utf8_first)] }
/-- NO THEOREM (fmt's text is open here; it may be false): for the released tool's asking of the row's closed facts alone. THE STATEMENT IS 'FnUnescapeRoundTripToldSaid' (YtncoodplmpgnbaaFmtCards.lean). -/
def FnUnescapeRoundTripFormAsk : Prop := fnUnescapeRoundTripRow.holds Tryf.pinned (OpenSpec.ofChange fnUnescapeRoundTripSpec)

/-- ITS FALSE NEIGHBOUR: 'it returns false'. Refute it at one input. -/
def fnUnescapeRoundTripWrong : ChangeSpec := { name := "fnUnescapeRoundTrip", fn := fun _ => fun
  | [d1, d2, d3] => { results := [.lit (.bool false)], args := [d1, d2, d3] }
  | _ => none }
def FnUnescapeRoundTripWrongFormAsk : Prop := fnUnescapeRoundTripRow.holds Tryf.pinned (OpenSpec.ofChange fnUnescapeRoundTripWrong)

/-- 'n003_106.FnUnicodeEscapeTextOnly': WHATEVER THE INPUT: true; the input reads as it did. -/
def fnUnicodeEscapeTextOnlySpec : ChangeSpec := { name := "fnUnicodeEscapeTextOnly", fn := fun _ => fun
  | [d1, d2, d3] => { results := [.lit (.bool true)], args := [d1, d2, d3] }
  | _ => none }
def fnUnicodeEscapeTextOnlyRow : OpenClaim := { program := "ytncoodplmpgnbaafmt", sum := "68dd39bd8fa24396f61cb70e3d9efaee8efa1213bf7b65c9a49e9bb35c540bbc", func := "github.com/expr-lang/expr/n003_106.FnUnicodeEscapeTextOnly", spec := "fnUnicodeEscapeTextOnly", stops := ["fmt.errorf"], inPlace := ["fmt.errorf", "internal/abi.NoEscape", "internal/bytealg.MakeNoZero"], named := ["unicode/utf8.first", "unicode/utf8.acceptRanges"], apart := false, laid := [("unicode/utf8.acceptRanges", laid_unicode_utf8_acceptRanges), ("unicode/utf8.first", laid_unicode_utf8_first)] }
/-- NO THEOREM (fmt's text is open here; it may be false): for the released tool's asking of the row's closed facts alone. THE STATEMENT IS 'FnUnicodeEscapeTextOnlyToldSaid' (YtncoodplmpgnbaaFmtCards.lean). -/
def FnUnicodeEscapeTextOnlyFormAsk : Prop := fnUnicodeEscapeTextOnlyRow.holds Tryf.pinned (OpenSpec.ofChange fnUnicodeEscapeTextOnlySpec)

/-- ITS FALSE NEIGHBOUR: 'it returns false'. Refute it at one input. -/
def fnUnicodeEscapeTextOnlyWrong : ChangeSpec := { name := "fnUnicodeEscapeTextOnly", fn := fun _ => fun
  | [d1, d2, d3] => { results := [.lit (.bool false)], args := [d1, d2, d3] }
  | _ => none }
def FnUnicodeEscapeTextOnlyWrongFormAsk : Prop := fnUnicodeEscapeTextOnlyRow.holds Tryf.pinned (OpenSpec.ofChange fnUnicodeEscapeTextOnlyWrong)

end Rows
end Go.Proofs.YtncoodplmpgnbaaFmt
