/-
  The law's own escaper by contract: whatever form it takes, unescapeChar's spec reads the code point back. No condition beyond the bounds.
-/
import Derived.Test.YthpchfbjnhdcdaaFmtReadE
import Derived.Test.YthpchfbjnhdcdaaFmtEncC
import Derived.Test.YthpchfbjnhdcdaaFmtWalkTripC
namespace Go.Proofs.YthpchfbjnhdcdaaFmt
open Go.RowKit Go.Lib Go.Shelf Go.Proofs
set_option linter.unusedVariables false
set_option linter.unusedSimpArgs false

/-- A text whose front the reader reads as r. -/
def Reads (r : Nat) (E : ByteArray) : Prop := 2 ≤ E.size ∧ E.size ≤ 10 ∧ ∀ t, unesc (E ++ t) = some ((r : Int), true, E.size)
theorem reads_item (c n r : Nat) (up : Bool) (hc : (c = 120 ∨ c = 88) ∧ n = 2 ∨ c = 117 ∧ n = 4 ∨ c = 85 ∧ n = 8) (hr : r < 16 ^ n) (hm : r ≤ 1114111) : Reads r (bytes8 [92, c] ++ bytes8 (hexL r up n)) := by
  rw [bytes8_app]
  have hz : (bytes8 ([92, c] ++ hexL r up n)).size = 2 + n := by rw [bytes8_size]; simp [hexL_length]; omega
  exact ⟨by omega, by omega, fun t => by rw [hz]; exact read_item c n r up t hc hr hm⟩
theorem reads_oct (b : Nat) (hb : b ≤ 255) : Reads b (bytes8 [92] ++ bytes8 (octL b)) := by
  rw [bytes8_app]
  have hz : (bytes8 ([92] ++ octL b)).size = 4 := by rw [bytes8_size]; rfl
  exact ⟨by omega, by omega, fun t => by rw [hz]; exact read_octU b t hb⟩
theorem reads_brace (r n : Nat) (up : Bool) (hn1 : 1 ≤ n) (hn : n ≤ 6) (hr : r < 16 ^ n) (hm : r ≤ 1114111) : Reads r (bytes8 [92, 117, 123] ++ bytes8 (hexL r up n) ++ bytes8 [125]) := by
  rw [bytes8_app, bytes8_app]
  have hz : (bytes8 ([92, 117, 123] ++ hexL r up n ++ [125])).size = 4 + n := by rw [bytes8_size]; simp [hexL_length]; omega
  exact ⟨by omega, by omega, fun t => by rw [hz]; exact read_brace r n up t hn1 hn hr hm⟩
end Go.Proofs.YthpchfbjnhdcdaaFmt
