/-
  The law's own width of a rune and its count of runes, by contract. No condition beyond the size.
-/
import Derived.Test.YtlfgaikcdelknaaModelA
import Derived.Handy
import Derived.WalkLawsBesides
namespace Go.Proofs.Ytlfgaikcdelknaa
open Go.RowKit Go.Lib Go.Shelf Go.Proofs
set_option linter.unusedVariables false
set_option linter.unusedSimpArgs false

theorem decode_bytes (s : ByteArray) (i : Nat) : Utf8.decode s i = decodeN (s.size - i) (byteAt s i) (byteAt s (i + 1)) (byteAt s (i + 2)) (byteAt s (i + 3)) := by
  rw [decode_N, len_data]
  rfl
theorem ret_w {k : IntKind} {a a' : Int} (h1 : a = a') : Ending.returned (.int k a) = .returned (.int k a') := by rw [h1]
end Go.Proofs.Ytlfgaikcdelknaa
