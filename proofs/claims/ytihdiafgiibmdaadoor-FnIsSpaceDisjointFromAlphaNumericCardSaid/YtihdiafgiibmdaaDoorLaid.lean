/-
  From what the rows list of the library's tables to what the contracts ask of the world. Condition: the listed variables read as listed.
-/
import Derived.Test.YtihdiafgiibmdaaDoorRows
import Derived.Test.YtihdiafgiibmdaaDoorFns
import Derived.PinnedBridge
import Derived.Lib.LaidRTab
import Derived.ProofKit
namespace Go.Proofs.YtihdiafgiibmdaaDoor
open Go.RowKit Go.Lib Go.Shelf Go.Proofs

theorem xR : RExtra Tryd.prog Tryd.lays200_ren := ⟨by kernel_rfl, by kernel_rfl, by kernel_rfl, by kernel_rfl, by kernel_rfl, by kernel_rfl, by kernel_rfl, by kernel_rfl⟩
theorem xW : WhiteExtra Tryd.prog Tryd.lays199_ren := ⟨by kernel_rfl, by kernel_rfl, by kernel_rfl, by kernel_rfl, by kernel_rfl, by kernel_rfl, by kernel_rfl, by kernel_rfl⟩
theorem xU : U8Extra Tryd.prog Tryd.lays197_ren := ⟨by kernel_rfl, by kernel_rfl, by kernel_rfl, by kernel_rfl, by kernel_rfl, by kernel_rfl, by kernel_rfl⟩
theorem eqWhite : (Rows.laid_unicode_White_Space : DataW Unit) = whiteData := by kernel_rfl
theorem eqProps : (Rows.laid_unicode_properties : DataW Unit) = tabData .u8 propertiesTab := by kernel_rfl
theorem eqAccept : (Rows.laid_unicode_utf8_acceptRanges : DataW Unit) = acceptData := by kernel_rfl
theorem eqLetter : Rows.laid_unicode_Letter = rtabData letterT := Pinned.letter_eq
theorem eqDigit : Rows.laid_unicode_Digit = rtabData digitT := Pinned.digit_eq
theorem eqFirst : Rows.laid_unicode_utf8_first = firstData := Pinned.utf8First_eq
theorem cells5 : Tryd.prog.cellsOf 5 = 1 := by kernel_rfl

theorem TW_of_laid {l : List (String × DataW Unit)} {W : World} (h : laidMet Tryd.prog l W) (hm : ("unicode.White_Space", Rows.laid_unicode_White_Space) ∈ l) : TW W := by
  rw [eqWhite] at hm
  exact whiteTab_of_reads Tryd.lays199 xW (Lib.laidMet.reads h hm)
theorem tabIs_reads {P : Program} {W : World} {name : String} {k : IntKind} {zs : List Int} {g : Nat} {t e : TypeId} {n : Nat}
    (hg : P.globalNamed name = some g) (hty : (P.globals[g]?).map (·.type) = some t) (ht : P.underlying t = some (.array n e)) (he : P.underlying e = some (.int k)) (hce : P.cellsOf e = 1) (hct : P.cellsOf t = n)
    (h : VarReads P W name (tabData k zs)) : TabIs P W name k zs := by
  obtain ⟨g', t', cs, fuel, p, hg', ht', hvar, hd⟩ := h
  obtain rfl := Option.some.inj (hg.symm.trans hg')
  obtain rfl := Option.some.inj (hty.symm.trans ht')
  unfold TabIs
  rw [hvar, ← cells_of_tab ht he hce hct hd]
theorem TL_of_laid {l : List (String × DataW Unit)} {W : World} (h : laidMet Tryd.prog l W) (hm : ("unicode.properties", Rows.laid_unicode_properties) ∈ l) (hn : ("unicode.Letter", Rows.laid_unicode_Letter) ∈ l) : TL W := by
  rw [eqProps] at hm
  refine ⟨tabIs_reads gProps (t := 32) (e := 5) (n := 256) (by kernel_rfl) Tryd.underlying32 Tryd.underlying5 cells5 (by kernel_rfl) (Lib.laidMet.reads h hm), ?_⟩
  exact rvar_of_reads { Tryd.lays200 with } xR (by kernel_rfl) (by kernel_rfl) (eqLetter ▸ Lib.laidMet.reads h hn)
theorem TD_of_laid {l : List (String × DataW Unit)} {W : World} (h : laidMet Tryd.prog l W) (hn : ("unicode.Digit", Rows.laid_unicode_Digit) ∈ l) : TD W :=
  rvar_of_reads { Tryd.lays200 with } xR (by kernel_rfl) (by kernel_rfl) (eqDigit ▸ Lib.laidMet.reads h hn)
theorem TU_of_laid {l : List (String × DataW Unit)} {W : World} (h : laidMet Tryd.prog l W) (hm : ("unicode/utf8.first", Rows.laid_unicode_utf8_first) ∈ l) (hn : ("unicode/utf8.acceptRanges", Rows.laid_unicode_utf8_acceptRanges) ∈ l) : TU W := by
  rw [eqAccept] at hn
  exact utf8Tabs_of_reads { Tryd.lays197 with } xU (eqFirst ▸ Lib.laidMet.reads h hm) (Lib.laidMet.reads h hn)
end Go.Proofs.YtihdiafgiibmdaaDoor
