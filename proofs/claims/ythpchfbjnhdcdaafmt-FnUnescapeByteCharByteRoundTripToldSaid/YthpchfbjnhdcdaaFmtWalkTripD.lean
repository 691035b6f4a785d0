/-
  The walk of the statement that a byte written in any of its forms is read back as that byte. Condition: utf8's two tables hold what their initialisers lay.
-/
import Derived.Test.YthpchfbjnhdcdaaFmtWalkTripB
import Derived.Test.YthpchfbjnhdcdaaFmtWalkTripE
import Derived.Test.YthpchfbjnhdcdaaFmtWalkTripF
namespace Go.Proofs.YthpchfbjnhdcdaaFmt
open Go.RowKit Go.Lib Go.Shelf Go.Proofs
set_option linter.unusedVariables false
set_option linter.unusedSimpArgs false

theorem all6 (b f : Int) (up : Bool) (s : ByteArray) (w : World) (hm : s.size ≤ maxLen) (b0 : 0 ≤ b) (b1 : b ≤ 255) (f0 : 0 ≤ f) (f1 : f ≤ 255) (hT : TU w) :
    Calls Tryf.prog 6 #[.int .u8 b, .int .u8 f, .bool up, .string s] w fun e w' => e = .returned (.bool true) ∧ Below w.heap.size w w' := by
  obtain ⟨b, rfl⟩ := Int.eq_ofNat_of_zero_le b0
  obtain ⟨f, rfl⟩ := Int.eq_ofNat_of_zero_le f0
  by_cases h : s.size ≤ 1048576
  · rcases (show f % 4 = 0 ∨ f % 4 = 1 ∨ f % 4 = 2 ∨ f % 4 = 3 by omega) with e | e | e | e
    · exact law6_0 b f up s w h (by omega) (by omega) hT e
    · exact law6_1 b f up s w h (by omega) (by omega) hT e
    · rcases hn : nameV b with _ | c
      · exact law6_2n b f up s w h (by omega) (by omega) hT e hn
      · exact law6_2s b f up s w h (by omega) (by omega) hT c e hn
    · by_cases h2 : b < 128 ∧ b ≠ 92
      · exact law6_3p b f up s w h (by omega) (by omega) hT e h2.1 h2.2
      · by_cases h3 : b = 92
        · exact law6_3q b f up s w h (by omega) (by omega) hT e h3
        · exact law6_3o b f up s w h (by omega) (by omega) hT e (by omega)
  · exact big6 b f up s w (by omega)
end Go.Proofs.YthpchfbjnhdcdaaFmt
