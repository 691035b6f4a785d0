/-
  How unescapeChar's spec reads what the law's escaper writes: the octal and the braced form. No program in sight.
-/
import Derived.Test.YthpchfbjnhdcdaaFmtReadC
namespace Go.Proofs.YthpchfbjnhdcdaaFmt
open Go.Lib
set_option linter.unusedVariables false
set_option linter.unusedSimpArgs false

theorem read_octU (b : Nat) (t : ByteArray) (hb : b ≤ 255) : unesc (bytes8 (92 :: octL b) ++ t) = some ((b : Int), true, 4) := by
  have hl : ∀ y ∈ 92 :: octL b, y < 256 := by
    intro y hy
    simp [octL] at hy
    omega
  have hlen : (92 :: octL b).length = 4 := rfl
  have h0 := app_get _ hl t 0 (by omega)
  have h1 := app_get _ hl t 1 (by omega)
  have h2 := app_get _ hl t 2 (by omega)
  have h3 := app_get _ hl t 3 (by omega)
  have hs : 4 ≤ (bytes8 (92 :: octL b) ++ t).size := by rw [size_app, bytes8_size, hlen]; omega
  generalize bytes8 (92 :: octL b) ++ t = s at *
  simp [octL] at h0 h1 h2 h3
  unfold unesc
  rw [if_neg (by omega), if_neg (by omega), if_neg (by omega)]
  have hsv : simpleV (byteAt s 1) = none := by
    rw [h1]
    rcases (show b / 64 % 8 = 0 ∨ b / 64 % 8 = 1 ∨ b / 64 % 8 = 2 ∨ b / 64 % 8 = 3 by omega) with e | e | e | e <;> rw [e] <;> rfl
  rw [hsv]
  simp only []
  rw [if_neg (by omega), if_neg (by omega), if_neg (by omega), if_pos (by omega)]
  unfold octItem
  rw [if_neg (by omega), if_pos (by simp [isOct]; omega)]
  congr 2
  omega
theorem hexL_get (v : Nat) (up : Bool) : ∀ (m k : Nat), k < m → (hexL v up m).getD k 0 = hexC (v / 16 ^ (m - 1 - k) % 16) up
  | 0, k, hk => by omega
  | m + 1, 0, hk => by simp [hexL]
  | m + 1, k + 1, hk => by
    have := hexL_get v up m k (by omega)
    simp only [hexL, List.getD_cons_succ]
    rw [this, show m + 1 - 1 - (k + 1) = m - 1 - k by omega]
theorem scan_run (s : ByteArray) (r n : Nat) (up : Bool) (hn1 : 1 ≤ n) (hn : n ≤ 6) (hm : r ≤ 1114111) (hs : 4 + n ≤ s.size)
    (hd : ∀ k, k < n → byteAt s (3 + k) = hexC (r / 16 ^ (n - 1 - k) % 16) up) (he : byteAt s (3 + n) = 125) :
    ∀ j k, k + j = n → scan s (7 - k) k (r / 16 ^ j) = some ((r : Int), true, 4 + n) := by
  intro j
  induction j with
  | zero =>
    intro k hk
    obtain rfl : k = n := by omega
    rw [show 7 - k = (6 - k) + 1 by omega, Nat.pow_zero, Nat.div_one]
    unfold scan
    rw [if_neg (by omega), if_pos he, if_neg (by omega), if_neg (by omega)]
  | succ j ih =>
    intro k hk
    have h1 := hd k (by omega)
    rw [show n - 1 - k = j by omega] at h1
    have tab := hexC_tab ⟨r / 16 ^ j % 16, Nat.mod_lt _ (by decide)⟩ up
    simp only at tab
    rw [show 7 - k = (6 - k) + 1 by omega]
    unfold scan
    rw [if_neg (by omega), if_neg (by rw [h1]; exact tab.2.2.1), h1, tab.1]
    simp only []
    rw [if_neg (by omega)]
    have e : r / 16 ^ (j + 1) * 16 + r / 16 ^ j % 16 = r / 16 ^ j := by
      rw [Nat.pow_succ, ← Nat.div_div_eq_div_mul]
      omega
    rw [e, show 6 - k = 7 - (k + 1) by omega]
    exact ih (k + 1) (by omega)
end Go.Proofs.YthpchfbjnhdcdaaFmt
