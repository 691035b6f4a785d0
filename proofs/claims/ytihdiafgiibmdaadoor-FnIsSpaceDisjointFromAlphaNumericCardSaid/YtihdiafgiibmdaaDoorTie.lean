/-
  DERIVED. GIVEN WITH THE SEED: THE PROGRAM's TIES (one call each: nine closed facts by the kernel) AND EACH ROW's TIE, after the 31st guide's Derived/Test/Toyas{Tie, Card}.lean. No idea stands in it: it is a product of the set-up. Laid BY PROGRAM, IN A SANDBOX (cutbox-door.mjs). By AI agents, Wed Nov 11 2026. No macro, syntax, notation, axiom, sorry.
-/
import Derived.Test.YtihdiafgiibmdaaDoorRows
import Derived.LaidByTextLater
import Derived.SevenTiedAt
import Derived.LaidSub
import Derived.LaidOnce
namespace Go.Proofs.YtihdiafgiibmdaaDoor
open Go
set_option maxRecDepth 100000
theorem seatTie1 : Tryd.prog.laidByTextLater [("unicode/utf8.acceptRanges", Rows.laid_unicode_utf8_acceptRanges), ("unicode.White_Space", Rows.laid_unicode_White_Space), ("unicode.properties", Rows.laid_unicode_properties)] [.data, .listed, .data] true :=
  Program.laidByTextLater_by_one 43 8 257 (by kernel_rfl) (by kernel_rfl) (by kernel_rfl) (by kernel_rfl) (by kernel_rfl) (by kernel_rfl) (fun _ _ => by kernel_rfl)
theorem pin_laid_unicode_Digit : Tryd.pinned.checked.prog.pinnedFits "unicode.Digit" = true := by kernel_rfl
theorem pin_laid_unicode_Letter : Tryd.pinned.checked.prog.pinnedFits "unicode.Letter" = true := by kernel_rfl
theorem pin_laid_unicode_utf8_first : Tryd.pinned.checked.prog.pinnedFits "unicode/utf8.first" = true := by kernel_rfl
theorem noOwnUnsafe : Tryd.pinned.checked.prog.headLifts.contains "ownunsafe" = false := by kernel_rfl
theorem tie : Tryd.prog.laidByTextLater [("unicode.White_Space", Rows.laid_unicode_White_Space)] [.listed] true :=
  Program.laidByTextLater.sub seatTie1 ["unicode.White_Space"] (by kernel_rfl) (by kernel_rfl)
theorem fnIsSpaceWhiteSpaceTable_row_tie : Rows.fnIsSpaceWhiteSpaceTableRow.laidByTextAt .later Tryd.pinned [.listed] true :=
  OpenClaim.laidByTextAt_later rfl rfl tie noOwnUnsafe
theorem fits2 : Tryd.pinned.checked.prog.listedFits [("unicode/utf8.acceptRanges", Rows.laid_unicode_utf8_acceptRanges), ("unicode.properties", Rows.laid_unicode_properties), ("unicode.Digit", Rows.laid_unicode_Digit), ("unicode.Letter", Rows.laid_unicode_Letter), ("unicode/utf8.first", Rows.laid_unicode_utf8_first)] = true := by
  unfold Program.listedFits
  rw [noOwnUnsafe]
  kernel_rfl
theorem tie2 : Tryd.prog.laidByTextLater [("unicode/utf8.acceptRanges", Rows.laid_unicode_utf8_acceptRanges), ("unicode.properties", Rows.laid_unicode_properties)] [.data, .data] true :=
  Program.laidByTextLater.sub seatTie1 ["unicode/utf8.acceptRanges", "unicode.properties"] (by kernel_rfl) (by kernel_rfl)
theorem fnIsAlphabeticAgreesWithIdentifierHead_row_tie : Rows.fnIsAlphabeticAgreesWithIdentifierHeadRow.laidByTextAt .later Tryd.pinned [.data, .data, .pinned, .pinned, .pinned] true :=
  OpenClaim.laidByTextAt_pinned rfl rfl tie2 rfl rfl rfl rfl (fun y hy _e => by
    simp only [Rows.fnIsAlphabeticAgreesWithIdentifierHeadRow, List.zip_cons_cons, List.zip_nil_right, List.mem_cons, List.mem_nil_iff, or_false] at hy
    rcases hy with rfl | rfl | rfl | rfl | rfl
    · cases _e
    · cases _e
    · exact ⟨pin_laid_unicode_Digit, by kernel_rfl⟩
    · exact ⟨pin_laid_unicode_Letter, by kernel_rfl⟩
    · exact ⟨pin_laid_unicode_utf8_first, by kernel_rfl⟩) fits2
theorem fnIsAlphaNumericAgreesWithIdentifierTail_row_tie : Rows.fnIsAlphaNumericAgreesWithIdentifierTailRow.laidByTextAt .later Tryd.pinned [.data, .data, .pinned, .pinned, .pinned] true :=
  OpenClaim.laidByTextAt_pinned rfl rfl tie2 rfl rfl rfl rfl (fun y hy _e => by
    simp only [Rows.fnIsAlphaNumericAgreesWithIdentifierTailRow, List.zip_cons_cons, List.zip_nil_right, List.mem_cons, List.mem_nil_iff, or_false] at hy
    rcases hy with rfl | rfl | rfl | rfl | rfl
    · cases _e
    · cases _e
    · exact ⟨pin_laid_unicode_Digit, by kernel_rfl⟩
    · exact ⟨pin_laid_unicode_Letter, by kernel_rfl⟩
    · exact ⟨pin_laid_unicode_utf8_first, by kernel_rfl⟩) fits2
theorem fits3 : Tryd.pinned.checked.prog.listedFits [("unicode.White_Space", Rows.laid_unicode_White_Space), ("unicode.properties", Rows.laid_unicode_properties), ("unicode.Digit", Rows.laid_unicode_Digit), ("unicode.Letter", Rows.laid_unicode_Letter)] = true := by
  unfold Program.listedFits
  rw [noOwnUnsafe]
  kernel_rfl
theorem tie3 : Tryd.prog.laidByTextLater [("unicode.White_Space", Rows.laid_unicode_White_Space), ("unicode.properties", Rows.laid_unicode_properties)] [.listed, .data] true :=
  Program.laidByTextLater.sub seatTie1 ["unicode.White_Space", "unicode.properties"] (by kernel_rfl) (by kernel_rfl)
theorem fnIsSpaceDisjointFromAlphaNumeric_row_tie : Rows.fnIsSpaceDisjointFromAlphaNumericRow.laidByTextAt .later Tryd.pinned [.listed, .data, .pinned, .pinned] true :=
  OpenClaim.laidByTextAt_pinned rfl rfl tie3 rfl rfl rfl rfl (fun y hy _e => by
    simp only [Rows.fnIsSpaceDisjointFromAlphaNumericRow, List.zip_cons_cons, List.zip_nil_right, List.mem_cons, List.mem_nil_iff, or_false] at hy
    rcases hy with rfl | rfl | rfl | rfl
    · cases _e
    · cases _e
    · exact ⟨pin_laid_unicode_Digit, by kernel_rfl⟩
    · exact ⟨pin_laid_unicode_Letter, by kernel_rfl⟩) fits3
theorem fits4 : Tryd.pinned.checked.prog.listedFits [("unicode.properties", Rows.laid_unicode_properties), ("unicode.Digit", Rows.laid_unicode_Digit), ("unicode.Letter", Rows.laid_unicode_Letter)] = true := by
  unfold Program.listedFits
  rw [noOwnUnsafe]
  kernel_rfl
theorem tie4 : Tryd.prog.laidByTextLater [("unicode.properties", Rows.laid_unicode_properties)] [.data] true :=
  Program.laidByTextLater.sub seatTie1 ["unicode.properties"] (by kernel_rfl) (by kernel_rfl)
theorem fnIsAlphaNumericLatin1Table_row_tie : Rows.fnIsAlphaNumericLatin1TableRow.laidByTextAt .later Tryd.pinned [.data, .pinned, .pinned] true :=
  OpenClaim.laidByTextAt_pinned rfl rfl tie4 rfl rfl rfl rfl (fun y hy _e => by
    simp only [Rows.fnIsAlphaNumericLatin1TableRow, List.zip_cons_cons, List.zip_nil_right, List.mem_cons, List.mem_nil_iff, or_false] at hy
    rcases hy with rfl | rfl | rfl
    · cases _e
    · exact ⟨pin_laid_unicode_Digit, by kernel_rfl⟩
    · exact ⟨pin_laid_unicode_Letter, by kernel_rfl⟩) fits4
theorem fits5 : Tryd.pinned.checked.prog.listedFits [("unicode.properties", Rows.laid_unicode_properties), ("unicode.Letter", Rows.laid_unicode_Letter)] = true := by
  unfold Program.listedFits
  rw [noOwnUnsafe]
  kernel_rfl
theorem tie5 : Tryd.prog.laidByTextLater [("unicode.properties", Rows.laid_unicode_properties)] [.data] true :=
  Program.laidByTextLater.sub seatTie1 ["unicode.properties"] (by kernel_rfl) (by kernel_rfl)
theorem fnIsAlphabeticLatin1Table_row_tie : Rows.fnIsAlphabeticLatin1TableRow.laidByTextAt .later Tryd.pinned [.data, .pinned] true :=
  OpenClaim.laidByTextAt_pinned rfl rfl tie5 rfl rfl rfl rfl (fun y hy _e => by
    simp only [Rows.fnIsAlphabeticLatin1TableRow, List.zip_cons_cons, List.zip_nil_right, List.mem_cons, List.mem_nil_iff, or_false] at hy
    rcases hy with rfl | rfl
    · cases _e
    · exact ⟨pin_laid_unicode_Letter, by kernel_rfl⟩) fits5
theorem fnIsSpaceWhiteSpaceTableUpto_row_tie : Rows.fnIsSpaceWhiteSpaceTableUptoRow.laidByTextAt .later Tryd.pinned [.listed] true :=
  OpenClaim.laidByTextAt_later rfl rfl tie noOwnUnsafe
theorem fnIsAlphabeticAgreesWithIdentifierHeadUpto_row_tie : Rows.fnIsAlphabeticAgreesWithIdentifierHeadUptoRow.laidByTextAt .later Tryd.pinned [.data, .data, .pinned, .pinned, .pinned] true :=
  OpenClaim.laidByTextAt_pinned rfl rfl tie2 rfl rfl rfl rfl (fun y hy _e => by
    simp only [Rows.fnIsAlphabeticAgreesWithIdentifierHeadUptoRow, List.zip_cons_cons, List.zip_nil_right, List.mem_cons, List.mem_nil_iff, or_false] at hy
    rcases hy with rfl | rfl | rfl | rfl | rfl
    · cases _e
    · cases _e
    · exact ⟨pin_laid_unicode_Digit, by kernel_rfl⟩
    · exact ⟨pin_laid_unicode_Letter, by kernel_rfl⟩
    · exact ⟨pin_laid_unicode_utf8_first, by kernel_rfl⟩) fits2
theorem fnIsSpaceDisjointFromAlphaNumericUpto_row_tie : Rows.fnIsSpaceDisjointFromAlphaNumericUptoRow.laidByTextAt .later Tryd.pinned [.listed, .data, .pinned, .pinned] true :=
  OpenClaim.laidByTextAt_pinned rfl rfl tie3 rfl rfl rfl rfl (fun y hy _e => by
    simp only [Rows.fnIsSpaceDisjointFromAlphaNumericUptoRow, List.zip_cons_cons, List.zip_nil_right, List.mem_cons, List.mem_nil_iff, or_false] at hy
    rcases hy with rfl | rfl | rfl | rfl
    · cases _e
    · cases _e
    · exact ⟨pin_laid_unicode_Digit, by kernel_rfl⟩
    · exact ⟨pin_laid_unicode_Letter, by kernel_rfl⟩) fits3
theorem fnIsAlphaNumericAgreesWithIdentifierTailUpto_row_tie : Rows.fnIsAlphaNumericAgreesWithIdentifierTailUptoRow.laidByTextAt .later Tryd.pinned [.data, .data, .pinned, .pinned, .pinned] true :=
  OpenClaim.laidByTextAt_pinned rfl rfl tie2 rfl rfl rfl rfl (fun y hy _e => by
    simp only [Rows.fnIsAlphaNumericAgreesWithIdentifierTailUptoRow, List.zip_cons_cons, List.zip_nil_right, List.mem_cons, List.mem_nil_iff, or_false] at hy
    rcases hy with rfl | rfl | rfl | rfl | rfl
    · cases _e
    · cases _e
    · exact ⟨pin_laid_unicode_Digit, by kernel_rfl⟩
    · exact ⟨pin_laid_unicode_Letter, by kernel_rfl⟩
    · exact ⟨pin_laid_unicode_utf8_first, by kernel_rfl⟩) fits2
theorem fnIsAlphaNumericLatin1TableUpto_row_tie : Rows.fnIsAlphaNumericLatin1TableUptoRow.laidByTextAt .later Tryd.pinned [.data, .pinned, .pinned] true :=
  OpenClaim.laidByTextAt_pinned rfl rfl tie4 rfl rfl rfl rfl (fun y hy _e => by
    simp only [Rows.fnIsAlphaNumericLatin1TableUptoRow, List.zip_cons_cons, List.zip_nil_right, List.mem_cons, List.mem_nil_iff, or_false] at hy
    rcases hy with rfl | rfl | rfl
    · cases _e
    · exact ⟨pin_laid_unicode_Digit, by kernel_rfl⟩
    · exact ⟨pin_laid_unicode_Letter, by kernel_rfl⟩) fits4
theorem fnIsAlphabeticLatin1TableUpto_row_tie : Rows.fnIsAlphabeticLatin1TableUptoRow.laidByTextAt .later Tryd.pinned [.data, .pinned] true :=
  OpenClaim.laidByTextAt_pinned rfl rfl tie5 rfl rfl rfl rfl (fun y hy _e => by
    simp only [Rows.fnIsAlphabeticLatin1TableUptoRow, List.zip_cons_cons, List.zip_nil_right, List.mem_cons, List.mem_nil_iff, or_false] at hy
    rcases hy with rfl | rfl
    · cases _e
    · exact ⟨pin_laid_unicode_Letter, by kernel_rfl⟩) fits5
end Go.Proofs.YtihdiafgiibmdaaDoor
