/-
  How the reader reads what the law writes: hex, octal and braced items. Plain.
-/
import Derived.Test.YtncoodplmpgnbaaFmtGrE
namespace Go.Proofs.YtncoodplmpgnbaaFmt
open Go.RowKit Go.Lib Go.Shelf Go.Proofs
set_option linter.unusedVariables false
set_option linter.unusedSimpArgs false



theorem hexL_head (v : Nat) (up : Bool) (n : Nat) (h : 1 ≤ n) : (hexL v up n).getD 0 0 ≠ 123 := by
  obtain ⟨m, rfl⟩ : ∃ m, n = m + 1 := ⟨n - 1, by omega⟩
  show hexC (v / 16 ^ m % 16) up ≠ 123
  exact (hexC_tab ⟨v / 16 ^ m % 16, Nat.mod_lt _ (by decide)⟩ up).2.2.2
theorem read_item (c n r : Nat) (up : Bool) (t : ByteArray) (hc : (c = 120 ∨ c = 88) ∧ n = 2 ∨ c = 117 ∧ n = 4 ∨ c = 85 ∧ n = 8) (hr : r < 16 ^ n) (hm : r ≤ 1114111) :
    unesc (bytes8 (92 :: c :: hexL r up n) ++ t) = some ((r : Int), true, 2 + n) := by
  have hl : ∀ y ∈ 92 :: c :: hexL r up n, y < 256 := by
    intro y hy
    rcases List.mem_cons.1 hy with rfl | hy
    · omega
    rcases List.mem_cons.1 hy with rfl | hy
    · omega
    · exact hexL_lt r up n y hy
  have hlen : (92 :: c :: hexL r up n).length = 2 + n := by simp [hexL_length]; omega
  have h0 := app_get _ hl t 0 (by omega)
  have h1 := app_get _ hl t 1 (by omega)
  have h2 := app_get _ hl t 2 (by omega)
  have hN : hexN (bytes8 (92 :: c :: hexL r up n) ++ t) 2 n = some r := hexN_whole _ 2 r up n hr (fun k hk => by
    rw [app_get _ hl t (2 + k) (by omega), show 2 + k = k + 1 + 1 by omega]
    rfl)
  have hs : 2 + n ≤ (bytes8 (92 :: c :: hexL r up n) ++ t).size := by rw [size_app, bytes8_size, hlen]; omega
  have hh := hexL_head r up n (by omega)
  have h2' : byteAt (bytes8 (92 :: c :: hexL r up n) ++ t) 2 ≠ 123 := by rw [h2]; exact hh
  have hw : w32 r = (r : Int) := w32_small (by omega)
  generalize bytes8 (92 :: c :: hexL r up n) ++ t = s at *
  simp at h0 h1
  unfold unesc
  rw [if_neg (by omega), if_neg (by omega), if_neg (by omega), h1]
  have hsv : simpleV c = none := by rcases hc with ⟨rfl | rfl, _⟩ | ⟨rfl, _⟩ | ⟨rfl, _⟩ <;> rfl
  have hi : hexItem s n = some ((r : Int), true, 2 + n) := by
    unfold hexItem
    rw [if_neg (by omega), hN]
    simp only []
    rw [hw, if_neg (by omega)]
  rw [hsv]
  simp only []
  rcases hc with ⟨h, rfl⟩ | ⟨rfl, rfl⟩ | ⟨rfl, rfl⟩
  · rw [if_pos h, hi]
  · rw [if_neg (by omega), if_pos rfl, if_neg (by omega), hi]
  · rw [if_neg (by omega), if_neg (by omega), if_pos rfl, hi]


theorem read_octU (b : Nat) (t : ByteArray) (hb : b ≤ 255) : unesc (bytes8 (92 :: octL b) ++ t) = some ((b : Int), true, 4) := by
  have hl : ∀ y ∈ 92 :: octL b, y < 256 := by
    intro y hy
    simp [octL] at hy
    omega
  have hlen : (92 :: octL b).length = 4 := rfl
  have h0 := app_get _ hl t 0 (by omega)
  have h1 := app_get _ hl t 1 (by omega)
  have h2 := app_get _ hl t 2 (by omega)
  have h3 := app_get _ hl t 3 (by omega)
  have hs : 4 ≤ (bytes8 (92 :: octL b) ++ t).size := by rw [size_app, bytes8_size, hlen]; omega
  generalize bytes8 (92 :: octL b) ++ t = s at *
  simp [octL] at h0 h1 h2 h3
  unfold unesc
  rw [if_neg (by omega), if_neg (by omega), if_neg (by omega)]
  have hsv : simpleV (byteAt s 1) = none := by
    rw [h1]
    rcases (show b / 64 % 8 = 0 ∨ b / 64 % 8 = 1 ∨ b / 64 % 8 = 2 ∨ b / 64 % 8 = 3 by omega) with e | e | e | e <;> rw [e] <;> rfl
  rw [hsv]
  simp only []
  rw [if_neg (by omega), if_neg (by omega), if_neg (by omega), if_pos (by omega)]
  unfold octItem
  rw [if_neg (by omega), if_pos (by simp [isOct]; omega)]
  congr 2
  omega
theorem hexL_get (v : Nat) (up : Bool) : ∀ (m k : Nat), k < m → (hexL v up m).getD k 0 = hexC (v / 16 ^ (m - 1 - k) % 16) up
  | 0, k, hk => by omega
  | m + 1, 0, hk => by simp [hexL]
  | m + 1, k + 1, hk => by
    have := hexL_get v up m k (by omega)
    simp only [hexL, List.getD_cons_succ]
    rw [this, show m + 1 - 1 - (k + 1) = m - 1 - k by omega]
theorem scan_run (s : ByteArray) (r n : Nat) (up : Bool) (hn1 : 1 ≤ n) (hn : n ≤ 6) (hm : r ≤ 1114111) (hs : 4 + n ≤ s.size)
    (hd : ∀ k, k < n → byteAt s (3 + k) = hexC (r / 16 ^ (n - 1 - k) % 16) up) (he : byteAt s (3 + n) = 125) :
    ∀ j k, k + j = n → scan s (7 - k) k (r / 16 ^ j) = some ((r : Int), true, 4 + n) := by
  intro j
  induction j with
  | zero =>
    intro k hk
    obtain rfl : k = n := by omega
    rw [show 7 - k = (6 - k) + 1 by omega, Nat.pow_zero, Nat.div_one]
    unfold scan
    rw [if_neg (by omega), if_pos he, if_neg (by omega), if_neg (by omega)]
  | succ j ih =>
    intro k hk
    have h1 := hd k (by omega)
    rw [show n - 1 - k = j by omega] at h1
    have tab := hexC_tab ⟨r / 16 ^ j % 16, Nat.mod_lt _ (by decide)⟩ up
    simp only at tab
    rw [show 7 - k = (6 - k) + 1 by omega]
    unfold scan
    rw [if_neg (by omega), if_neg (by rw [h1]; exact tab.2.2.1), h1, tab.1]
    simp only []
    rw [if_neg (by omega)]
    have e : r / 16 ^ (j + 1) * 16 + r / 16 ^ j % 16 = r / 16 ^ j := by
      rw [Nat.pow_succ, ← Nat.div_div_eq_div_mul]
      omega
    rw [e, show 6 - k = 7 - (k + 1) by omega]
    exact ih (k + 1) (by omega)


theorem read_brace (r n : Nat) (up : Bool) (t : ByteArray) (hn1 : 1 ≤ n) (hn : n ≤ 6) (hr : r < 16 ^ n) (hm : r ≤ 1114111) :
    unesc (bytes8 (92 :: 117 :: 123 :: (hexL r up n ++ [125])) ++ t) = some ((r : Int), true, 4 + n) := by
  have hl : ∀ y ∈ 92 :: 117 :: 123 :: (hexL r up n ++ [125]), y < 256 := by
    intro y hy
    simp only [List.mem_cons, List.mem_append, List.mem_nil_iff, or_false] at hy
    rcases hy with rfl | rfl | rfl | hy | rfl
    · omega
    · omega
    · omega
    · exact hexL_lt r up n y hy
    · omega
  have hlen : (92 :: 117 :: 123 :: (hexL r up n ++ [125])).length = 4 + n := by simp [hexL_length]; omega
  have h0 := app_get _ hl t 0 (by omega)
  have h1 := app_get _ hl t 1 (by omega)
  have h2 := app_get _ hl t 2 (by omega)
  have hd : ∀ k, k < n → byteAt (bytes8 (92 :: 117 :: 123 :: (hexL r up n ++ [125])) ++ t) (3 + k) = hexC (r / 16 ^ (n - 1 - k) % 16) up := fun k hk => by
    rw [app_get _ hl t (3 + k) (by omega), show 3 + k = k + 1 + 1 + 1 by omega]
    simp only [List.getD_cons_succ]
    rw [← hexL_get r up n k hk]
    simp [List.getD, List.getElem?_append_left (show k < (hexL r up n).length by rw [hexL_length]; exact hk)]
  have he : byteAt (bytes8 (92 :: 117 :: 123 :: (hexL r up n ++ [125])) ++ t) (3 + n) = 125 := by
    rw [app_get _ hl t (3 + n) (by omega), show 3 + n = n + 1 + 1 + 1 by omega]
    simp only [List.getD_cons_succ]
    simp [List.getD, List.getElem?_append_right (show (hexL r up n).length ≤ n by rw [hexL_length]; exact Nat.le_refl _), hexL_length]
  have hs : 4 + n ≤ (bytes8 (92 :: 117 :: 123 :: (hexL r up n ++ [125])) ++ t).size := by rw [size_app, bytes8_size, hlen]; omega
  generalize bytes8 (92 :: 117 :: 123 :: (hexL r up n ++ [125])) ++ t = s at *
  simp at h0 h1 h2
  unfold unesc
  rw [if_neg (by omega), if_neg (by omega), if_neg (by omega), h1]
  have hsv : simpleV 117 = none := rfl
  rw [hsv]
  simp only []
  rw [if_neg (by omega), if_pos trivial, if_pos ⟨by omega, h2⟩]
  have h := scan_run s r n up hn1 hn hm hs hd he n 0 (by omega)
  rw [Nat.div_eq_of_lt hr] at h
  exact h
end Go.Proofs.YtncoodplmpgnbaaFmt
