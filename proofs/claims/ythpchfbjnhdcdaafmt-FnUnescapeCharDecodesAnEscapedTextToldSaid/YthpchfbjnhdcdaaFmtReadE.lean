/-
  How unescapeChar's spec reads the braced form, whole. No program in sight.
-/
import Derived.Test.YthpchfbjnhdcdaaFmtReadD
namespace Go.Proofs.YthpchfbjnhdcdaaFmt
open Go.Lib
set_option linter.unusedVariables false
set_option linter.unusedSimpArgs false

theorem read_brace (r n : Nat) (up : Bool) (t : ByteArray) (hn1 : 1 ≤ n) (hn : n ≤ 6) (hr : r < 16 ^ n) (hm : r ≤ 1114111) :
    unesc (bytes8 (92 :: 117 :: 123 :: (hexL r up n ++ [125])) ++ t) = some ((r : Int), true, 4 + n) := by
  have hl : ∀ y ∈ 92 :: 117 :: 123 :: (hexL r up n ++ [125]), y < 256 := by
    intro y hy
    simp only [List.mem_cons, List.mem_append, List.mem_nil_iff, or_false] at hy
    rcases hy with rfl | rfl | rfl | hy | rfl
    · omega
    · omega
    · omega
    · exact hexL_lt r up n y hy
    · omega
  have hlen : (92 :: 117 :: 123 :: (hexL r up n ++ [125])).length = 4 + n := by simp [hexL_length]; omega
  have h0 := app_get _ hl t 0 (by omega)
  have h1 := app_get _ hl t 1 (by omega)
  have h2 := app_get _ hl t 2 (by omega)
  have hd : ∀ k, k < n → byteAt (bytes8 (92 :: 117 :: 123 :: (hexL r up n ++ [125])) ++ t) (3 + k) = hexC (r / 16 ^ (n - 1 - k) % 16) up := fun k hk => by
    rw [app_get _ hl t (3 + k) (by omega), show 3 + k = k + 1 + 1 + 1 by omega]
    simp only [List.getD_cons_succ]
    rw [← hexL_get r up n k hk]
    simp [List.getD, List.getElem?_append_left (show k < (hexL r up n).length by rw [hexL_length]; exact hk)]
  have he : byteAt (bytes8 (92 :: 117 :: 123 :: (hexL r up n ++ [125])) ++ t) (3 + n) = 125 := by
    rw [app_get _ hl t (3 + n) (by omega), show 3 + n = n + 1 + 1 + 1 by omega]
    simp only [List.getD_cons_succ]
    simp [List.getD, List.getElem?_append_right (show (hexL r up n).length ≤ n by rw [hexL_length]; exact Nat.le_refl _), hexL_length]
  have hs : 4 + n ≤ (bytes8 (92 :: 117 :: 123 :: (hexL r up n ++ [125])) ++ t).size := by rw [size_app, bytes8_size, hlen]; omega
  generalize bytes8 (92 :: 117 :: 123 :: (hexL r up n ++ [125])) ++ t = s at *
  simp at h0 h1 h2
  unfold unesc
  rw [if_neg (by omega), if_neg (by omega), if_neg (by omega), h1]
  have hsv : simpleV 117 = none := rfl
  rw [hsv]
  simp only []
  rw [if_neg (by omega), if_pos trivial, if_pos ⟨by omega, h2⟩]
  have h := scan_run s r n up hn1 hn hm hs hd he n 0 (by omega)
  rw [Nat.div_eq_of_lt hr] at h
  exact h
end Go.Proofs.YthpchfbjnhdcdaaFmt
