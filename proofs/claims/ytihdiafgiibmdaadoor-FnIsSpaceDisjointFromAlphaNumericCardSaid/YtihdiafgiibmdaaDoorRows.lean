/-
  NARROWER THAN 'FOR EVERY INPUT', by the rows' own cells (each row's printed sentence says how): FnIsSpaceWhiteSpaceTable: laid · FnIsAlphabeticAgreesWithIdentifierHead: laid · FnIsSpaceDisjointFromAlphaNumeric: laid · FnIsAlphaNumericAgreesWithIdentifierTail: laid · FnIsAlphaNumericLatin1Table: laid · FnIsAlphabeticLatin1Table: laid.
  DERIVED. THE GIVEN ROWS OF THIS SEAT. 6 by the template 'for every input the law returns true; each argument reads behind the call as it read before'; 0 by the template 'total and deterministic' (their statements: YtihdiafgiibmdaaDoorTotals.lean).
  GIVEN WITH THE SEED: the statements are not yours to turn. If you find one false, say at which input.
  Laid BY PROGRAM, IN A SANDBOX (cutbox-rows.mjs): the forced cells as the released guide's own fill.sh prints them over the translation 6a415fa836b16274… (all of the seat's roots in one cut). By AI agents, Wed Nov 11 2026. No macro, syntax, notation, axiom, sorry.
-/
import Derived.Test.YtihdiafgiibmdaaDoorChecked
import GoSem.PinnedTables
import GoSem.Claim
import GoSem.ClaimJoined
import GoSem.ClaimMapViews
import Derived.JoinedTies
import Derived.KernelRfl
namespace Go.Proofs.YtihdiafgiibmdaaDoor
/- THE CELL 'sum', in the pinned program and in every row, IS THE sha256 OF THE DUMP (.gsa) THAT YtihdiafgiibmdaaDoorProg.lean LOADS. Nothing in Lean hashes anything: it is a label: what it is worth is what the hold of that sum in a sandbox is worth. -/
noncomputable def Tryd.pinned : Pinned := { name := "ytihdiafgiibmdaadoor", sum := "6a415fa836b16274d8040e68a0eb3fc60350659f4b50500cc844836c633bad97", checked := Tryd.checked }
namespace Rows
def none {H : Type} : Left H := { results := [], args := [] }

/- WHAT THE LISTED PACKAGE-LEVEL VARIABLES READ AS WHEN THE CALL BEGINS. Each datum BY PROGRAM (the guide's laid-datum.mjs) off the statement by which the dump's own 'gosem.cut.vars' lays the variable. In a bare row this is a premise. The card (YtihdiafgiibmdaaDoorCards.lean) ties it to the program's text. -/
def laid_unicode_White_Space {H : Type} : DataW H := .ptr (.agg [.slice [.agg [.lit (.int .u16 9), .lit (.int .u16 13), .lit (.int .u16 1)], .agg [.lit (.int .u16 32), .lit (.int .u16 133), .lit (.int .u16 101)], .agg [.lit (.int .u16 160), .lit (.int .u16 5760), .lit (.int .u16 5600)], .agg [.lit (.int .u16 8192), .lit (.int .u16 8202), .lit (.int .u16 1)], .agg [.lit (.int .u16 8232), .lit (.int .u16 8233), .lit (.int .u16 1)], .agg [.lit (.int .u16 8239), .lit (.int .u16 8287), .lit (.int .u16 48)], .agg [.lit (.int .u16 12288), .lit (.int .u16 12288), .lit (.int .u16 1)]] [], .nil, .lit (.int .i64 2)])
def laid_unicode_utf8_acceptRanges {H : Type} : DataW H := .agg [.agg [.lit (.int .u8 128), .lit (.int .u8 191)], .agg [.lit (.int .u8 160), .lit (.int .u8 191)], .agg [.lit (.int .u8 128), .lit (.int .u8 159)], .agg [.lit (.int .u8 144), .lit (.int .u8 191)], .agg [.lit (.int .u8 128), .lit (.int .u8 143)], .agg [.lit (.int .u8 0), .lit (.int .u8 0)], .agg [.lit (.int .u8 0), .lit (.int .u8 0)], .agg [.lit (.int .u8 0), .lit (.int .u8 0)], .agg [.lit (.int .u8 0), .lit (.int .u8 0)], .agg [.lit (.int .u8 0), .lit (.int .u8 0)], .agg [.lit (.int .u8 0), .lit (.int .u8 0)], .agg [.lit (.int .u8 0), .lit (.int .u8 0)], .agg [.lit (.int .u8 0), .lit (.int .u8 0)], .agg [.lit (.int .u8 0), .lit (.int .u8 0)], .agg [.lit (.int .u8 0), .lit (.int .u8 0)], .agg [.lit (.int .u8 0), .lit (.int .u8 0)]]
def laid_unicode_properties {H : Type} : DataW H := .agg [.lit (.int .u8 1), .lit (.int .u8 1), .lit (.int .u8 1), .lit (.int .u8 1), .lit (.int .u8 1), .lit (.int .u8 1), .lit (.int .u8 1), .lit (.int .u8 1), .lit (.int .u8 1), .lit (.int .u8 1), .lit (.int .u8 1), .lit (.int .u8 1), .lit (.int .u8 1), .lit (.int .u8 1), .lit (.int .u8 1), .lit (.int .u8 1), .lit (.int .u8 1), .lit (.int .u8 1), .lit (.int .u8 1), .lit (.int .u8 1), .lit (.int .u8 1), .lit (.int .u8 1), .lit (.int .u8 1), .lit (.int .u8 1), .lit (.int .u8 1), .lit (.int .u8 1), .lit (.int .u8 1), .lit (.int .u8 1), .lit (.int .u8 1), .lit (.int .u8 1), .lit (.int .u8 1), .lit (.int .u8 1), .lit (.int .u8 144), .lit (.int .u8 130), .lit (.int .u8 130), .lit (.int .u8 130), .lit (.int .u8 136), .lit (.int .u8 130), .lit (.int .u8 130), .lit (.int .u8 130), .lit (.int .u8 130), .lit (.int .u8 130), .lit (.int .u8 130), .lit (.int .u8 136), .lit (.int .u8 130), .lit (.int .u8 130), .lit (.int .u8 130), .lit (.int .u8 130), .lit (.int .u8 132), .lit (.int .u8 132), .lit (.int .u8 132), .lit (.int .u8 132), .lit (.int .u8 132), .lit (.int .u8 132), .lit (.int .u8 132), .lit (.int .u8 132), .lit (.int .u8 132), .lit (.int .u8 132), .lit (.int .u8 130), .lit (.int .u8 130), .lit (.int .u8 136), .lit (.int .u8 136), .lit (.int .u8 136), .lit (.int .u8 130), .lit (.int .u8 130), .lit (.int .u8 160), .lit (.int .u8 160), .lit (.int .u8 160), .lit (.int .u8 160), .lit (.int .u8 160), .lit (.int .u8 160), .lit (.int .u8 160), .lit (.int .u8 160), .lit (.int .u8 160), .lit (.int .u8 160), .lit (.int .u8 160), .lit (.int .u8 160), .lit (.int .u8 160), .lit (.int .u8 160), .lit (.int .u8 160), .lit (.int .u8 160), .lit (.int .u8 160), .lit (.int .u8 160), .lit (.int .u8 160), .lit (.int .u8 160), .lit (.int .u8 160), .lit (.int .u8 160), .lit (.int .u8 160), .lit (.int .u8 160), .lit (.int .u8 160), .lit (.int .u8 160), .lit (.int .u8 130), .lit (.int .u8 130), .lit (.int .u8 130), .lit (.int .u8 136), .lit (.int .u8 130), .lit (.int .u8 136), .lit (.int .u8 192), .lit (.int .u8 192), .lit (.int .u8 192), .lit (.int .u8 192), .lit (.int .u8 192), .lit (.int .u8 192), .lit (.int .u8 192), .lit (.int .u8 192), .lit (.int .u8 192), .lit (.int .u8 192), .lit (.int .u8 192), .lit (.int .u8 192), .lit (.int .u8 192), .lit (.int .u8 192), .lit (.int .u8 192), .lit (.int .u8 192), .lit (.int .u8 192), .lit (.int .u8 192), .lit (.int .u8 192), .lit (.int .u8 192), .lit (.int .u8 192), .lit (.int .u8 192), .lit (.int .u8 192), .lit (.int .u8 192), .lit (.int .u8 192), .lit (.int .u8 192), .lit (.int .u8 130), .lit (.int .u8 136), .lit (.int .u8 130), .lit (.int .u8 136), .lit (.int .u8 1), .lit (.int .u8 1), .lit (.int .u8 1), .lit (.int .u8 1), .lit (.int .u8 1), .lit (.int .u8 1), .lit (.int .u8 1), .lit (.int .u8 1), .lit (.int .u8 1), .lit (.int .u8 1), .lit (.int .u8 1), .lit (.int .u8 1), .lit (.int .u8 1), .lit (.int .u8 1), .lit (.int .u8 1), .lit (.int .u8 1), .lit (.int .u8 1), .lit (.int .u8 1), .lit (.int .u8 1), .lit (.int .u8 1), .lit (.int .u8 1), .lit (.int .u8 1), .lit (.int .u8 1), .lit (.int .u8 1), .lit (.int .u8 1), .lit (.int .u8 1), .lit (.int .u8 1), .lit (.int .u8 1), .lit (.int .u8 1), .lit (.int .u8 1), .lit (.int .u8 1), .lit (.int .u8 1), .lit (.int .u8 1), .lit (.int .u8 16), .lit (.int .u8 130), .lit (.int .u8 136), .lit (.int .u8 136), .lit (.int .u8 136), .lit (.int .u8 136), .lit (.int .u8 136), .lit (.int .u8 130), .lit (.int .u8 136), .lit (.int .u8 136), .lit (.int .u8 224), .lit (.int .u8 130), .lit (.int .u8 136), .lit (.int .u8 0), .lit (.int .u8 136), .lit (.int .u8 136), .lit (.int .u8 136), .lit (.int .u8 136), .lit (.int .u8 132), .lit (.int .u8 132), .lit (.int .u8 136), .lit (.int .u8 192), .lit (.int .u8 130), .lit (.int .u8 130), .lit (.int .u8 136), .lit (.int .u8 132), .lit (.int .u8 224), .lit (.int .u8 130), .lit (.int .u8 132), .lit (.int .u8 132), .lit (.int .u8 132), .lit (.int .u8 130), .lit (.int .u8 160), .lit (.int .u8 160), .lit (.int .u8 160), .lit (.int .u8 160), .lit (.int .u8 160), .lit (.int .u8 160), .lit (.int .u8 160), .lit (.int .u8 160), .lit (.int .u8 160), .lit (.int .u8 160), .lit (.int .u8 160), .lit (.int .u8 160), .lit (.int .u8 160), .lit (.int .u8 160), .lit (.int .u8 160), .lit (.int .u8 160), .lit (.int .u8 160), .lit (.int .u8 160), .lit (.int .u8 160), .lit (.int .u8 160), .lit (.int .u8 160), .lit (.int .u8 160), .lit (.int .u8 160), .lit (.int .u8 136), .lit (.int .u8 160), .lit (.int .u8 160), .lit (.int .u8 160), .lit (.int .u8 160), .lit (.int .u8 160), .lit (.int .u8 160), .lit (.int .u8 160), .lit (.int .u8 192), .lit (.int .u8 192), .lit (.int .u8 192), .lit (.int .u8 192), .lit (.int .u8 192), .lit (.int .u8 192), .lit (.int .u8 192), .lit (.int .u8 192), .lit (.int .u8 192), .lit (.int .u8 192), .lit (.int .u8 192), .lit (.int .u8 192), .lit (.int .u8 192), .lit (.int .u8 192), .lit (.int .u8 192), .lit (.int .u8 192), .lit (.int .u8 192), .lit (.int .u8 192), .lit (.int .u8 192), .lit (.int .u8 192), .lit (.int .u8 192), .lit (.int .u8 192), .lit (.int .u8 192), .lit (.int .u8 192), .lit (.int .u8 136), .lit (.int .u8 192), .lit (.int .u8 192), .lit (.int .u8 192), .lit (.int .u8 192), .lit (.int .u8 192), .lit (.int .u8 192), .lit (.int .u8 192), .lit (.int .u8 192)]
/-- One of Go's own tables, pinned by name: the form's constant. -/
def laid_unicode_Digit : DataW Unit := Go.Pinned.digit
/-- One of Go's own tables, pinned by name: the form's constant. -/
def laid_unicode_Letter : DataW Unit := Go.Pinned.letter
/-- One of Go's own tables, pinned by name: the form's constant. -/
def laid_unicode_utf8_first : DataW Unit := Go.Pinned.utf8First

/-- 'n003_79.FnIsSpaceWhiteSpaceTable': WHATEVER THE INPUT: true; the input reads as it did. -/
def fnIsSpaceWhiteSpaceTableSpec : ChangeSpec := { name := "fnIsSpaceWhiteSpaceTable", fn := fun _ => fun
  | [d] => { results := [.lit (.bool true)], args := [d] }
  | _ => none }
def fnIsSpaceWhiteSpaceTableRow : OpenClaim := { program := "ytihdiafgiibmdaadoor", sum := "6a415fa836b16274d8040e68a0eb3fc60350659f4b50500cc844836c633bad97", func := "github.com/expr-lang/expr/n003_79.FnIsSpaceWhiteSpaceTable", spec := "fnIsSpaceWhiteSpaceTable", named := ["unicode.White_Space"], apart := false, laid := [("unicode.White_Space", laid_unicode_White_Space)] }
def FnIsSpaceWhiteSpaceTableSaid : Prop := fnIsSpaceWhiteSpaceTableRow.holds Tryd.pinned (OpenSpec.ofChange fnIsSpaceWhiteSpaceTableSpec)

/-- ITS FALSE NEIGHBOUR: 'it returns false'. Refute it at one input. -/
def fnIsSpaceWhiteSpaceTableWrong : ChangeSpec := { name := "fnIsSpaceWhiteSpaceTable", fn := fun _ => fun
  | [d] => { results := [.lit (.bool false)], args := [d] }
  | _ => none }
def FnIsSpaceWhiteSpaceTableWrongFalsely : Prop := fnIsSpaceWhiteSpaceTableRow.holds Tryd.pinned (OpenSpec.ofChange fnIsSpaceWhiteSpaceTableWrong)

/-- 'n003_79.FnIsAlphabeticAgreesWithIdentifierHead': WHATEVER THE INPUT: true; the input reads as it did. -/
def fnIsAlphabeticAgreesWithIdentifierHeadSpec : ChangeSpec := { name := "fnIsAlphabeticAgreesWithIdentifierHead", fn := fun _ => fun
  | [d] => { results := [.lit (.bool true)], args := [d] }
  | _ => none }
def fnIsAlphabeticAgreesWithIdentifierHeadRow : OpenClaim := { program := "ytihdiafgiibmdaadoor", sum := "6a415fa836b16274d8040e68a0eb3fc60350659f4b50500cc844836c633bad97", func := "github.com/expr-lang/expr/n003_79.FnIsAlphabeticAgreesWithIdentifierHead", spec := "fnIsAlphabeticAgreesWithIdentifierHead", named := ["unicode/utf8.first", "unicode/utf8.acceptRanges", "unicode.properties", "unicode.Letter", "unicode.Digit"], apart := false, laid := [("unicode/utf8.acceptRanges", laid_unicode_utf8_acceptRanges), ("unicode.properties", laid_unicode_properties), ("unicode.Digit", laid_unicode_Digit), ("unicode.Letter", laid_unicode_Letter), ("unicode/utf8.first", laid_unicode_utf8_first)] }
def FnIsAlphabeticAgreesWithIdentifierHeadSaid : Prop := fnIsAlphabeticAgreesWithIdentifierHeadRow.holds Tryd.pinned (OpenSpec.ofChange fnIsAlphabeticAgreesWithIdentifierHeadSpec)

/-- ITS FALSE NEIGHBOUR: 'it returns false'. Refute it at one input. -/
def fnIsAlphabeticAgreesWithIdentifierHeadWrong : ChangeSpec := { name := "fnIsAlphabeticAgreesWithIdentifierHead", fn := fun _ => fun
  | [d] => { results := [.lit (.bool false)], args := [d] }
  | _ => none }
def FnIsAlphabeticAgreesWithIdentifierHeadWrongFalsely : Prop := fnIsAlphabeticAgreesWithIdentifierHeadRow.holds Tryd.pinned (OpenSpec.ofChange fnIsAlphabeticAgreesWithIdentifierHeadWrong)

/-- 'n003_79.FnIsSpaceDisjointFromAlphaNumeric': WHATEVER THE INPUT: true; the input reads as it did. -/
def fnIsSpaceDisjointFromAlphaNumericSpec : ChangeSpec := { name := "fnIsSpaceDisjointFromAlphaNumeric", fn := fun _ => fun
  | [d] => { results := [.lit (.bool true)], args := [d] }
  | _ => none }
def fnIsSpaceDisjointFromAlphaNumericRow : OpenClaim := { program := "ytihdiafgiibmdaadoor", sum := "6a415fa836b16274d8040e68a0eb3fc60350659f4b50500cc844836c633bad97", func := "github.com/expr-lang/expr/n003_79.FnIsSpaceDisjointFromAlphaNumeric", spec := "fnIsSpaceDisjointFromAlphaNumeric", named := ["unicode.White_Space", "unicode.properties", "unicode.Letter", "unicode.Digit"], apart := false, laid := [("unicode.White_Space", laid_unicode_White_Space), ("unicode.properties", laid_unicode_properties), ("unicode.Digit", laid_unicode_Digit), ("unicode.Letter", laid_unicode_Letter)] }
def FnIsSpaceDisjointFromAlphaNumericSaid : Prop := fnIsSpaceDisjointFromAlphaNumericRow.holds Tryd.pinned (OpenSpec.ofChange fnIsSpaceDisjointFromAlphaNumericSpec)

/-- ITS FALSE NEIGHBOUR: 'it returns false'. Refute it at one input. -/
def fnIsSpaceDisjointFromAlphaNumericWrong : ChangeSpec := { name := "fnIsSpaceDisjointFromAlphaNumeric", fn := fun _ => fun
  | [d] => { results := [.lit (.bool false)], args := [d] }
  | _ => none }
def FnIsSpaceDisjointFromAlphaNumericWrongFalsely : Prop := fnIsSpaceDisjointFromAlphaNumericRow.holds Tryd.pinned (OpenSpec.ofChange fnIsSpaceDisjointFromAlphaNumericWrong)

/-- 'n003_79.FnIsAlphaNumericAgreesWithIdentifierTail': WHATEVER THE INPUT: true; the input reads as it did. -/
def fnIsAlphaNumericAgreesWithIdentifierTailSpec : ChangeSpec := { name := "fnIsAlphaNumericAgreesWithIdentifierTail", fn := fun _ => fun
  | [d] => { results := [.lit (.bool true)], args := [d] }
  | _ => none }
def fnIsAlphaNumericAgreesWithIdentifierTailRow : OpenClaim := { program := "ytihdiafgiibmdaadoor", sum := "6a415fa836b16274d8040e68a0eb3fc60350659f4b50500cc844836c633bad97", func := "github.com/expr-lang/expr/n003_79.FnIsAlphaNumericAgreesWithIdentifierTail", spec := "fnIsAlphaNumericAgreesWithIdentifierTail", named := ["unicode.properties", "unicode.Letter", "unicode.Digit", "unicode/utf8.first", "unicode/utf8.acceptRanges"], apart := false, laid := [("unicode/utf8.acceptRanges", laid_unicode_utf8_acceptRanges), ("unicode.properties", laid_unicode_properties), ("unicode.Digit", laid_unicode_Digit), ("unicode.Letter", laid_unicode_Letter), ("unicode/utf8.first", laid_unicode_utf8_first)] }
def FnIsAlphaNumericAgreesWithIdentifierTailSaid : Prop := fnIsAlphaNumericAgreesWithIdentifierTailRow.holds Tryd.pinned (OpenSpec.ofChange fnIsAlphaNumericAgreesWithIdentifierTailSpec)

/-- ITS FALSE NEIGHBOUR: 'it returns false'. Refute it at one input. -/
def fnIsAlphaNumericAgreesWithIdentifierTailWrong : ChangeSpec := { name := "fnIsAlphaNumericAgreesWithIdentifierTail", fn := fun _ => fun
  | [d] => { results := [.lit (.bool false)], args := [d] }
  | _ => none }
def FnIsAlphaNumericAgreesWithIdentifierTailWrongFalsely : Prop := fnIsAlphaNumericAgreesWithIdentifierTailRow.holds Tryd.pinned (OpenSpec.ofChange fnIsAlphaNumericAgreesWithIdentifierTailWrong)

/-- 'n003_79.FnIsAlphaNumericLatin1Table': WHATEVER THE INPUT: true; the input reads as it did. -/
def fnIsAlphaNumericLatin1TableSpec : ChangeSpec := { name := "fnIsAlphaNumericLatin1Table", fn := fun _ => fun
  | [d] => { results := [.lit (.bool true)], args := [d] }
  | _ => none }
def fnIsAlphaNumericLatin1TableRow : OpenClaim := { program := "ytihdiafgiibmdaadoor", sum := "6a415fa836b16274d8040e68a0eb3fc60350659f4b50500cc844836c633bad97", func := "github.com/expr-lang/expr/n003_79.FnIsAlphaNumericLatin1Table", spec := "fnIsAlphaNumericLatin1Table", named := ["unicode.properties", "unicode.Letter", "unicode.Digit"], apart := false, laid := [("unicode.properties", laid_unicode_properties), ("unicode.Digit", laid_unicode_Digit), ("unicode.Letter", laid_unicode_Letter)] }
def FnIsAlphaNumericLatin1TableSaid : Prop := fnIsAlphaNumericLatin1TableRow.holds Tryd.pinned (OpenSpec.ofChange fnIsAlphaNumericLatin1TableSpec)

/-- ITS FALSE NEIGHBOUR: 'it returns false'. Refute it at one input. -/
def fnIsAlphaNumericLatin1TableWrong : ChangeSpec := { name := "fnIsAlphaNumericLatin1Table", fn := fun _ => fun
  | [d] => { results := [.lit (.bool false)], args := [d] }
  | _ => none }
def FnIsAlphaNumericLatin1TableWrongFalsely : Prop := fnIsAlphaNumericLatin1TableRow.holds Tryd.pinned (OpenSpec.ofChange fnIsAlphaNumericLatin1TableWrong)

/-- 'n003_79.FnIsAlphabeticLatin1Table': WHATEVER THE INPUT: true; the input reads as it did. -/
def fnIsAlphabeticLatin1TableSpec : ChangeSpec := { name := "fnIsAlphabeticLatin1Table", fn := fun _ => fun
  | [d] => { results := [.lit (.bool true)], args := [d] }
  | _ => none }
def fnIsAlphabeticLatin1TableRow : OpenClaim := { program := "ytihdiafgiibmdaadoor", sum := "6a415fa836b16274d8040e68a0eb3fc60350659f4b50500cc844836c633bad97", func := "github.com/expr-lang/expr/n003_79.FnIsAlphabeticLatin1Table", spec := "fnIsAlphabeticLatin1Table", named := ["unicode.properties", "unicode.Letter"], apart := false, laid := [("unicode.properties", laid_unicode_properties), ("unicode.Letter", laid_unicode_Letter)] }
def FnIsAlphabeticLatin1TableSaid : Prop := fnIsAlphabeticLatin1TableRow.holds Tryd.pinned (OpenSpec.ofChange fnIsAlphabeticLatin1TableSpec)

/-- ITS FALSE NEIGHBOUR: 'it returns false'. Refute it at one input. -/
def fnIsAlphabeticLatin1TableWrong : ChangeSpec := { name := "fnIsAlphabeticLatin1Table", fn := fun _ => fun
  | [d] => { results := [.lit (.bool false)], args := [d] }
  | _ => none }
def FnIsAlphabeticLatin1TableWrongFalsely : Prop := fnIsAlphabeticLatin1TableRow.holds Tryd.pinned (OpenSpec.ofChange fnIsAlphabeticLatin1TableWrong)

/- THE SECOND FORM. 'bulk': how many values and letters a reading holds, each counted each time it is reached (what is shared counts as often as it is met; a slice's spare places count too). A statement '..UptoSaid' is the law's where the arguments, and the package variables that the reading takes, are together of bulk at most 1048576: NARROWER than '..Said'. Prove '..Said' where nothing that the law and all that it calls make is longer than what came in: it says more and counts as full. Else prove '..UptoSaid'. A law counts once. -/
mutual
def uptoBulk {H : Type} : DataW H → Nat
  | .lit (.string bytes) => bytes.length + 1
  | .lit _ => 1
  | .nil => 1
  | .ptr d => uptoBulk d + 1
  | .slice elems spare => uptoBulkAll elems + uptoBulkAll spare + 1
  | .agg parts => uptoBulkAll parts + 1
  | .iface _ d => uptoBulk d + 1
  | .map entries => uptoBulkEntries entries + 1
  | .held _ => 1
def uptoBulkAll {H : Type} : List (DataW H) → Nat
  | [] => 0
  | d :: r => uptoBulk d + uptoBulkAll r
def uptoBulkEntries {H : Type} : List (Lit × DataW H) → Nat
  | [] => 0
  | x :: r => uptoBulkEntry x + uptoBulkEntries r
def uptoBulkEntry {H : Type} : Lit × DataW H → Nat
  | (.string bytes, d) => bytes.length + uptoBulk d + 1
  | (_, d) => uptoBulk d + 1
 end
def uptoSmall : (H : Type) → List (DataW H) → Bool := fun _ ds => decide (uptoBulkAll ds ≤ 1048576)
def OpenSpec.upto (s : _root_.Go.ChangeSpec) : _root_.Go.OpenSpec := { _root_.Go.OpenSpec.ofChange s with cond := some uptoSmall }

/-- 'n003_79.FnIsSpaceWhiteSpaceTable', WHERE WHAT IT READS IS OF BULK AT MOST 1048576: true; the input reads as it did. -/
def fnIsSpaceWhiteSpaceTableUptoRow : OpenClaim := { program := "ytihdiafgiibmdaadoor", sum := "6a415fa836b16274d8040e68a0eb3fc60350659f4b50500cc844836c633bad97", func := "github.com/expr-lang/expr/n003_79.FnIsSpaceWhiteSpaceTable", spec := "fnIsSpaceWhiteSpaceTable", named := ["unicode.White_Space"], apart := false, laid := [("unicode.White_Space", laid_unicode_White_Space)], narrowed := true }
def FnIsSpaceWhiteSpaceTableUptoSaid : Prop := fnIsSpaceWhiteSpaceTableUptoRow.holds Tryd.pinned (OpenSpec.upto fnIsSpaceWhiteSpaceTableSpec)

/-- 'n003_79.FnIsAlphabeticAgreesWithIdentifierHead', WHERE WHAT IT READS IS OF BULK AT MOST 1048576: true; the input reads as it did. -/
def fnIsAlphabeticAgreesWithIdentifierHeadUptoRow : OpenClaim := { program := "ytihdiafgiibmdaadoor", sum := "6a415fa836b16274d8040e68a0eb3fc60350659f4b50500cc844836c633bad97", func := "github.com/expr-lang/expr/n003_79.FnIsAlphabeticAgreesWithIdentifierHead", spec := "fnIsAlphabeticAgreesWithIdentifierHead", named := ["unicode/utf8.first", "unicode/utf8.acceptRanges", "unicode.properties", "unicode.Letter", "unicode.Digit"], apart := false, laid := [("unicode/utf8.acceptRanges", laid_unicode_utf8_acceptRanges), ("unicode.properties", laid_unicode_properties), ("unicode.Digit", laid_unicode_Digit), ("unicode.Letter", laid_unicode_Letter), ("unicode/utf8.first", laid_unicode_utf8_first)], narrowed := true }
def FnIsAlphabeticAgreesWithIdentifierHeadUptoSaid : Prop := fnIsAlphabeticAgreesWithIdentifierHeadUptoRow.holds Tryd.pinned (OpenSpec.upto fnIsAlphabeticAgreesWithIdentifierHeadSpec)

/-- 'n003_79.FnIsSpaceDisjointFromAlphaNumeric', WHERE WHAT IT READS IS OF BULK AT MOST 1048576: true; the input reads as it did. -/
def fnIsSpaceDisjointFromAlphaNumericUptoRow : OpenClaim := { program := "ytihdiafgiibmdaadoor", sum := "6a415fa836b16274d8040e68a0eb3fc60350659f4b50500cc844836c633bad97", func := "github.com/expr-lang/expr/n003_79.FnIsSpaceDisjointFromAlphaNumeric", spec := "fnIsSpaceDisjointFromAlphaNumeric", named := ["unicode.White_Space", "unicode.properties", "unicode.Letter", "unicode.Digit"], apart := false, laid := [("unicode.White_Space", laid_unicode_White_Space), ("unicode.properties", laid_unicode_properties), ("unicode.Digit", laid_unicode_Digit), ("unicode.Letter", laid_unicode_Letter)], narrowed := true }
def FnIsSpaceDisjointFromAlphaNumericUptoSaid : Prop := fnIsSpaceDisjointFromAlphaNumericUptoRow.holds Tryd.pinned (OpenSpec.upto fnIsSpaceDisjointFromAlphaNumericSpec)

/-- 'n003_79.FnIsAlphaNumericAgreesWithIdentifierTail', WHERE WHAT IT READS IS OF BULK AT MOST 1048576: true; the input reads as it did. -/
def fnIsAlphaNumericAgreesWithIdentifierTailUptoRow : OpenClaim := { program := "ytihdiafgiibmdaadoor", sum := "6a415fa836b16274d8040e68a0eb3fc60350659f4b50500cc844836c633bad97", func := "github.com/expr-lang/expr/n003_79.FnIsAlphaNumericAgreesWithIdentifierTail", spec := "fnIsAlphaNumericAgreesWithIdentifierTail", named := ["unicode.properties", "unicode.Letter", "unicode.Digit", "unicode/utf8.first", "unicode/utf8.acceptRanges"], apart := false, laid := [("unicode/utf8.acceptRanges", laid_unicode_utf8_acceptRanges), ("unicode.properties", laid_unicode_properties), ("unicode.Digit", laid_unicode_Digit), ("unicode.Letter", laid_unicode_Letter), ("unicode/utf8.first", laid_unicode_utf8_first)], narrowed := true }
def FnIsAlphaNumericAgreesWithIdentifierTailUptoSaid : Prop := fnIsAlphaNumericAgreesWithIdentifierTailUptoRow.holds Tryd.pinned (OpenSpec.upto fnIsAlphaNumericAgreesWithIdentifierTailSpec)

/-- 'n003_79.FnIsAlphaNumericLatin1Table', WHERE WHAT IT READS IS OF BULK AT MOST 1048576: true; the input reads as it did. -/
def fnIsAlphaNumericLatin1TableUptoRow : OpenClaim := { program := "ytihdiafgiibmdaadoor", sum := "6a415fa836b16274d8040e68a0eb3fc60350659f4b50500cc844836c633bad97", func := "github.com/expr-lang/expr/n003_79.FnIsAlphaNumericLatin1Table", spec := "fnIsAlphaNumericLatin1Table", named := ["unicode.properties", "unicode.Letter", "unicode.Digit"], apart := false, laid := [("unicode.properties", laid_unicode_properties), ("unicode.Digit", laid_unicode_Digit), ("unicode.Letter", laid_unicode_Letter)], narrowed := true }
def FnIsAlphaNumericLatin1TableUptoSaid : Prop := fnIsAlphaNumericLatin1TableUptoRow.holds Tryd.pinned (OpenSpec.upto fnIsAlphaNumericLatin1TableSpec)

/-- 'n003_79.FnIsAlphabeticLatin1Table', WHERE WHAT IT READS IS OF BULK AT MOST 1048576: true; the input reads as it did. -/
def fnIsAlphabeticLatin1TableUptoRow : OpenClaim := { program := "ytihdiafgiibmdaadoor", sum := "6a415fa836b16274d8040e68a0eb3fc60350659f4b50500cc844836c633bad97", func := "github.com/expr-lang/expr/n003_79.FnIsAlphabeticLatin1Table", spec := "fnIsAlphabeticLatin1Table", named := ["unicode.properties", "unicode.Letter"], apart := false, laid := [("unicode.properties", laid_unicode_properties), ("unicode.Letter", laid_unicode_Letter)], narrowed := true }
def FnIsAlphabeticLatin1TableUptoSaid : Prop := fnIsAlphabeticLatin1TableUptoRow.holds Tryd.pinned (OpenSpec.upto fnIsAlphabeticLatin1TableSpec)

end Rows
end Go.Proofs.YtihdiafgiibmdaaDoor
