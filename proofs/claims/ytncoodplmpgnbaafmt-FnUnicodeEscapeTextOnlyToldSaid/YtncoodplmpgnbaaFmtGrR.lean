/-
  How the byte reader reads what the law writes. No condition beyond the bounds.
-/
import Derived.Test.YtncoodplmpgnbaaFmtGrB
namespace Go.Proofs.YtncoodplmpgnbaaFmt
open Go.RowKit Go.Lib Go.Shelf Go.Proofs
set_option linter.unusedVariables false
set_option linter.unusedSimpArgs false

theorem size_app (a b : ByteArray) : (a ++ b).size = a.size + b.size := ByteArray.size_append
theorem byteAt_app_left (a b : ByteArray) (k : Nat) (h : k < a.size) : byteAt (a ++ b) k = byteAt a k := by
  unfold byteAt
  rw [ByteArray.data_append, Array.toList_append]
  have h' : k < a.data.toList.length := by rw [← Lib.size_eq]; exact h
  simp [List.getD, List.getElem?_append_left h']
theorem byteAt_app_right (a b : ByteArray) (k : Nat) : byteAt (a ++ b) (a.size + k) = byteAt b k := by
  unfold byteAt
  rw [ByteArray.data_append, Array.toList_append]
  have h' : a.data.toList.length = a.size := (Lib.size_eq a).symm
  simp only [List.getD]
  rw [List.getElem?_append_right (by omega), h']
  simp
theorem cut_app (a b : ByteArray) : (a ++ b).extract a.size (a ++ b).size = b := by
  have h : ((a ++ b).extract a.size (a ++ b).size).data.toList = b.data.toList := by
    simp only [ByteArray.data_extract, Array.toList_extract, List.extract_eq_take_drop, ByteArray.data_append, Array.toList_append, size_app]
    rw [List.drop_left' (Lib.size_eq a).symm, List.take_of_length_le (by rw [← Lib.size_eq]; omega)]
  exact ba_ext h

/-- A text that holds hexL v up n at place i reads there as v's last n digits. -/
theorem hexN_of (s : ByteArray) (i v : Nat) (up : Bool) (n : Nat) (h : ∀ k, k < n → byteAt s (i + k) = (hexL v up n).getD k 0) : ∀ j, j ≤ n → hexN s i j = some (v % 16 ^ n / 16 ^ (n - j)) := by
  intro j
  induction j with
  | zero =>
    intro _
    have : v % 16 ^ n / 16 ^ (n - 0) = 0 := Nat.div_eq_of_lt (by rw [Nat.sub_zero]; exact Nat.mod_lt _ (Nat.pow_pos (by decide)))
    rw [this]
    rfl
  | succ j ih =>
    intro hj
    have h1 := ih (by omega)
    have h2 : ∀ (m k : Nat), k < m → (hexL v up m).getD k 0 = hexC (v / 16 ^ (m - 1 - k) % 16) up := by
      intro m
      induction m with
      | zero => intro k hk; omega
      | succ m ihm =>
        intro k hk
        cases k with
        | zero => simp [hexL]
        | succ k =>
          have := ihm k (by omega)
          simp only [hexL, List.getD_cons_succ]
          rw [this, show m + 1 - 1 - (k + 1) = m - 1 - k by omega]
    have h3 : hexD (byteAt s (i + j)) = some (v / 16 ^ (n - 1 - j) % 16) := by
      rw [h j (by omega), h2 n j (by omega)]
      exact hexD_hexC (Nat.mod_lt _ (by decide)) up
    rw [hexN_succ_some h1 h3]
    congr 1
    have e : n - j = (n - (j + 1)) + 1 := by omega
    have e2 : n - 1 - j = n - (j + 1) := by omega
    rw [e, e2, Nat.pow_succ, ← Nat.div_div_eq_div_mul]
    have hm : v % 16 ^ n / 16 ^ (n - (j + 1)) % 16 = v / 16 ^ (n - (j + 1)) % 16 := by
      have e3 : 16 ^ n = 16 ^ (n - (j + 1)) * (16 * 16 ^ j) := by
        rw [← Nat.pow_succ', ← Nat.pow_add]
        congr 1
        omega
      rw [e3, Nat.mod_mul_right_div_self, Nat.mod_mul_right_mod]
    have hd := Nat.div_add_mod (v % 16 ^ n / 16 ^ (n - (j + 1))) 16
    omega
theorem hexN_whole (s : ByteArray) (i v : Nat) (up : Bool) (n : Nat) (hv : v < 16 ^ n) (h : ∀ k, k < n → byteAt s (i + k) = (hexL v up n).getD k 0) : hexN s i n = some v := by
  rw [hexN_of s i v up n h n (Nat.le_refl _), Nat.sub_self, Nat.pow_zero, Nat.div_one, Nat.mod_eq_of_lt hv]

/-! ### contracts -/
theorem app_get (a : List Nat) (ha : ∀ x ∈ a, x < 256) (t : ByteArray) (k : Nat) (h : k < a.length) : byteAt (bytes8 a ++ t) k = a.getD k 0 := by
  rw [byteAt_app_left _ _ _ (by rw [bytes8_size]; exact h), bytes8_at a ha k h]
theorem read_hex (x b : Nat) (up : Bool) (t : ByteArray) (hx : x = 88 ∨ x = 120) (hb : b ≤ 255) :
    unescB (bytes8 (92 :: x :: hexL b up 2) ++ t) = some ((b : Int), false, 4) := by
  have hl : ∀ y ∈ 92 :: x :: hexL b up 2, y < 256 := by
    intro y hy
    rcases List.mem_cons.1 hy with rfl | hy
    · omega
    rcases List.mem_cons.1 hy with rfl | hy
    · omega
    · exact hexL_lt b up 2 y hy
  have hlen : (92 :: x :: hexL b up 2).length = 4 := by simp [hexL_length]
  have h0 := app_get _ hl t 0 (by omega)
  have h1 := app_get _ hl t 1 (by omega)
  have hN : hexN (bytes8 (92 :: x :: hexL b up 2) ++ t) 2 2 = some b := hexN_whole _ 2 b up 2 (by omega) (fun k hk => by
    rw [app_get _ hl t (2 + k) (by omega)]
    have : k = 0 ∨ k = 1 := by omega
    rcases this with rfl | rfl <;> rfl)
  have hs : 4 ≤ (bytes8 (92 :: x :: hexL b up 2) ++ t).size := by rw [size_app, bytes8_size, hlen]; omega
  generalize bytes8 (92 :: x :: hexL b up 2) ++ t = s at *
  simp at h0 h1
  unfold unescB
  rw [if_neg (by omega), if_neg (by omega), if_neg (by omega), h1]
  have hsv : simpleV x = none := by rcases hx with rfl | rfl <;> rfl
  rw [hsv]
  simp only []
  rw [if_pos (by omega)]
  unfold hexB
  rw [if_neg (by omega), hN]
theorem read_oct (b : Nat) (t : ByteArray) (hb : b ≤ 255) : unescB (bytes8 (92 :: octL b) ++ t) = some ((b : Int), false, 4) := by
  have hl : ∀ y ∈ 92 :: octL b, y < 256 := by
    intro y hy
    simp [octL] at hy
    omega
  have hlen : (92 :: octL b).length = 4 := rfl
  have h0 := app_get _ hl t 0 (by omega)
  have h1 := app_get _ hl t 1 (by omega)
  have h2 := app_get _ hl t 2 (by omega)
  have h3 := app_get _ hl t 3 (by omega)
  have hs : 4 ≤ (bytes8 (92 :: octL b) ++ t).size := by rw [size_app, bytes8_size, hlen]; omega
  generalize bytes8 (92 :: octL b) ++ t = s at *
  simp [octL] at h0 h1 h2 h3
  unfold unescB
  rw [if_neg (by omega), if_neg (by omega), if_neg (by omega)]
  have hsv : simpleV (byteAt s 1) = none := by
    rw [h1]
    rcases (show b / 64 % 8 = 0 ∨ b / 64 % 8 = 1 ∨ b / 64 % 8 = 2 ∨ b / 64 % 8 = 3 by omega) with e | e | e | e <;> rw [e] <;> rfl
  rw [hsv]
  simp only []
  rw [if_neg (by omega), if_pos (by omega)]
  unfold octB
  rw [if_neg (by omega), if_pos (by simp [isOct]; omega)]
  congr 2
  omega
theorem read_name (c b : Nat) (t : ByteArray) (h : simpleV c = some b) (hc : c < 128) : unescB (bytes8 [92, c] ++ t) = some ((b : Int), false, 2) := by
  have hl : ∀ y ∈ [92, c], y < 256 := by
    intro y hy
    simp at hy
    omega
  have h0 := app_get _ hl t 0 (by simp)
  have h1 := app_get _ hl t 1 (by simp)
  have hs : 2 ≤ (bytes8 [92, c] ++ t).size := by rw [size_app, bytes8_size]; simp
  generalize bytes8 [92, c] ++ t = s at *
  simp at h0 h1
  unfold unescB
  rw [if_neg (by omega), if_neg (by omega), if_neg (by omega), h1, h]
theorem read_plain (b : Nat) (t : ByteArray) (hb : b < 128) (h92 : b ≠ 92) : unescB (bytes8 [b] ++ t) = some ((b : Int), false, 1) := by
  have hl : ∀ y ∈ [b], y < 256 := by
    intro y hy
    simp at hy
    omega
  have h0 := app_get _ hl t 0 (by simp)
  generalize bytes8 [b] ++ t = s at *
  simp at h0
  unfold unescB
  rw [if_neg (by omega), if_pos (by omega), h0]
end Go.Proofs.YtncoodplmpgnbaaFmt
