/-
  How unescapeChar's spec reads what the law's escaper writes: the forms of fixed length. No program in sight.
-/
import Derived.Test.YthpchfbjnhdcdaaFmtTrip
namespace Go.Proofs.YthpchfbjnhdcdaaFmt
open Go.Lib
set_option linter.unusedVariables false
set_option linter.unusedSimpArgs false

theorem hexL_head (v : Nat) (up : Bool) (n : Nat) (h : 1 ≤ n) : (hexL v up n).getD 0 0 ≠ 123 := by
  obtain ⟨m, rfl⟩ : ∃ m, n = m + 1 := ⟨n - 1, by omega⟩
  show hexC (v / 16 ^ m % 16) up ≠ 123
  exact (hexC_tab ⟨v / 16 ^ m % 16, Nat.mod_lt _ (by decide)⟩ up).2.2.2
theorem read_item (c n r : Nat) (up : Bool) (t : ByteArray) (hc : (c = 120 ∨ c = 88) ∧ n = 2 ∨ c = 117 ∧ n = 4 ∨ c = 85 ∧ n = 8) (hr : r < 16 ^ n) (hm : r ≤ 1114111) :
    unesc (bytes8 (92 :: c :: hexL r up n) ++ t) = some ((r : Int), true, 2 + n) := by
  have hl : ∀ y ∈ 92 :: c :: hexL r up n, y < 256 := by
    intro y hy
    rcases List.mem_cons.1 hy with rfl | hy
    · omega
    rcases List.mem_cons.1 hy with rfl | hy
    · omega
    · exact hexL_lt r up n y hy
  have hlen : (92 :: c :: hexL r up n).length = 2 + n := by simp [hexL_length]; omega
  have h0 := app_get _ hl t 0 (by omega)
  have h1 := app_get _ hl t 1 (by omega)
  have h2 := app_get _ hl t 2 (by omega)
  have hN : hexN (bytes8 (92 :: c :: hexL r up n) ++ t) 2 n = some r := hexN_whole _ 2 r up n hr (fun k hk => by
    rw [app_get _ hl t (2 + k) (by omega), show 2 + k = k + 1 + 1 by omega]
    rfl)
  have hs : 2 + n ≤ (bytes8 (92 :: c :: hexL r up n) ++ t).size := by rw [size_app, bytes8_size, hlen]; omega
  have hh := hexL_head r up n (by omega)
  have h2' : byteAt (bytes8 (92 :: c :: hexL r up n) ++ t) 2 ≠ 123 := by rw [h2]; exact hh
  have hw : w32 r = (r : Int) := w32_small (by omega)
  generalize bytes8 (92 :: c :: hexL r up n) ++ t = s at *
  simp at h0 h1
  unfold unesc
  rw [if_neg (by omega), if_neg (by omega), if_neg (by omega), h1]
  have hsv : simpleV c = none := by rcases hc with ⟨rfl | rfl, _⟩ | ⟨rfl, _⟩ | ⟨rfl, _⟩ <;> rfl
  have hi : hexItem s n = some ((r : Int), true, 2 + n) := by
    unfold hexItem
    rw [if_neg (by omega), hN]
    simp only []
    rw [hw, if_neg (by omega)]
  rw [hsv]
  simp only []
  rcases hc with ⟨h, rfl⟩ | ⟨rfl, rfl⟩ | ⟨rfl, rfl⟩
  · rw [if_pos h, hi]
  · rw [if_neg (by omega), if_pos rfl, if_neg (by omega), hi]
  · rw [if_neg (by omega), if_neg (by omega), if_pos rfl, hi]
end Go.Proofs.YthpchfbjnhdcdaaFmt
