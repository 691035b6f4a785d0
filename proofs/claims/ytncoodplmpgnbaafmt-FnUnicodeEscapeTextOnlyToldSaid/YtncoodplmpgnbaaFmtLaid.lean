/-
  From what the rows list of the library's tables to what the contracts ask of the world. Condition: the listed variables read as listed.
-/
import Derived.Test.YtncoodplmpgnbaaFmtRows
import Derived.Test.YtncoodplmpgnbaaFmtUc
import Derived.PinnedBridge
import Derived.Lib.LaidU8
import Derived.ProofKit
namespace Go.Proofs.YtncoodplmpgnbaaFmt
open Go.RowKit Go.Lib Go.Shelf Go.Proofs

theorem xU : U8Extra Tryf.prog Tryf.lays197_ren := ⟨by kernel_rfl, by kernel_rfl, by kernel_rfl, by kernel_rfl, by kernel_rfl, by kernel_rfl, by kernel_rfl⟩
theorem eqAccept : (Rows.laid_unicode_utf8_acceptRanges : DataW Unit) = acceptData := by kernel_rfl
theorem eqFirst : Rows.laid_unicode_utf8_first = firstData := Pinned.utf8First_eq
theorem TU_of_laid {l : List (String × DataW Unit)} {W : World} (h : laidMet Tryf.prog l W) (hm : ("unicode/utf8.first", Rows.laid_unicode_utf8_first) ∈ l) (hn : ("unicode/utf8.acceptRanges", Rows.laid_unicode_utf8_acceptRanges) ∈ l) : TU W := by
  rw [eqAccept] at hn
  exact utf8Tabs_of_reads { Tryf.lays197 with } xU (eqFirst ▸ Lib.laidMet.reads h hm) (Lib.laidMet.reads h hn)
end Go.Proofs.YtncoodplmpgnbaaFmt
