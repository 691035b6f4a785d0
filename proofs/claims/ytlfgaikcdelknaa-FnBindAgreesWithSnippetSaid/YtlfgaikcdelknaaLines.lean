/-
  Plain laws on the line that the reading ends in: its bounds, its number, its runes. No program in sight.
-/
import Derived.Test.YtlfgaikcdelknaaModelA
namespace Go.Proofs.Ytlfgaikcdelknaa
open Go.Lib
set_option linter.unusedVariables false
set_option linter.unusedSimpArgs false

/-- Where the i-th line begins (counted from 0). -/
def lineStart (src : ByteArray) : Nat → Nat
  | 0 => 0
  | i + 1 => lineEnd src (lineStart src i) + 1
structure Lines (src : ByteArray) (l ls : Nat) : Prop where
  one : 1 ≤ l
  here : lineStart src (l - 1) = ls
  full : ∀ i, i + 1 < l → lineStart src i ≤ src.size ∧ lineEnd src (lineStart src i) < src.size
structure ScanOut (src : ByteArray) (S : Nat × Nat × Nat) : Prop where
  ls_le : S.1 ≤ src.size
  l_le : S.2.1 ≤ src.size + 1
  c_le : S.2.2 ≤ src.size
  lines : Lines src S.2.1 S.1
  col : S.2.2 ≤ cnt (src.extract S.1 (lineEnd src S.1)).data.toList
theorem scan_out (src : ByteArray) (f : Int) : ∀ (n pos rc ls l c : Nat), pos ≤ src.size → ls ≤ pos → pos ≤ lineEnd src ls → rc ≤ pos → l ≤ ls + 1 → c ≤ rc → Lines src l ls →
    c + cnt ((src.data.toList.drop pos).take (lineEnd src ls - pos)) = cnt (src.extract ls (lineEnd src ls)).data.toList → ScanOut src (scanB src f n pos rc ls l c) := by
  intro n
  induction n with
  | zero =>
    intro pos rc ls l c h1 h2 h3 h4 h5 h6 h7 h8
    exact ⟨by simp only [scanB]; omega, by simp only [scanB]; omega, by simp only [scanB]; omega, h7, by simp only [scanB]; omega⟩
  | succ n ih =>
    intro pos rc ls l c h1 h2 h3 h4 h5 h6 h7 h8
    obtain ⟨a1, a2, a3, a4⟩ := lineEnd_spec src ls (by omega)
    have stop : ScanOut src (ls, l, c) := ⟨show ls ≤ src.size by omega, show l ≤ src.size + 1 by omega, show c ≤ src.size by omega, h7, show c ≤ cnt (src.extract ls (lineEnd src ls)).data.toList by omega⟩
    unfold scanB
    by_cases hend : src.size ≤ pos
    · rw [if_pos hend]; exact stop
    · rw [if_neg hend]
      have hne : src.data.toList.drop pos ≠ [] := by
        intro e
        have := congrArg List.length e
        rw [List.length_drop, len_data, List.length_nil] at this
        omega
      by_cases hf : (rc : Int) = f
      · rw [if_pos hf]; exact stop
      · rw [if_neg hf]
        have hdec : Utf8.decode src pos = decodeL (src.data.toList.drop pos) := (decodeL_drop src pos).symm
        by_cases h10 : (Utf8.decode src pos).1 = 10
        · rw [if_pos h10]
          have hw1 := ten_one src pos (by omega) h10
          have hn10 : src.data.toList[pos]? = some 10 := by
            have h := (ten_head _ hne).1 (by rw [← hdec]; exact h10)
            rw [List.getElem?_drop] at h
            exact h
          have hpe : pos = lineEnd src ls := by
            rcases Nat.lt_or_ge pos (lineEnd src ls) with h | h
            · exact absurd hn10 (a4 pos h2 h)
            · omega
          obtain ⟨b1, b2, b3, b4⟩ := lineEnd_spec src (pos + 1) (by omega)
          rw [hw1]
          refine ih (pos + 1) (rc + 1) (pos + 1) (l + 1) 0 (by omega) (Nat.le_refl _) b1 (by omega) (by omega) (by omega) ⟨by omega, ?_, ?_⟩ (by rw [Nat.zero_add, cut_data])
          · have h := h7.here
            have h1 := h7.one
            rw [show l + 1 - 1 = (l - 1) + 1 by omega]
            show lineEnd src (lineStart src (l - 1)) + 1 = pos + 1
            rw [h, ← hpe]
          · intro i hi
            by_cases c2 : i + 1 < l
            · exact h7.full i c2
            · have e : i = l - 1 := by have := h7.one; omega
              rw [e, h7.here, ← hpe]
              exact ⟨by omega, by omega⟩
        · rw [if_neg h10]
          have hpe : pos < lineEnd src ls := by
            rcases Nat.lt_or_ge pos (lineEnd src ls) with h | h
            · exact h
            · exfalso
              have e : pos = lineEnd src ls := by omega
              rcases a3 with a3 | a3
              · omega
              · rw [← e] at a3
                exact h10 (by rw [hdec]; exact (ten_head _ hne).2 (by rw [List.getElem?_drop]; exact a3))
          obtain ⟨k1, k2⟩ := cnt_line src.data.toList pos (lineEnd src ls) hpe (by rw [len_data]; omega) (by rw [len_data]; exact a3)
          rw [← hdec] at k1 k2
          have hw := (dl_pos _ hne).1
          rw [← hdec] at hw
          exact ih (pos + (Utf8.decode src pos).2) (rc + 1) ls l (c + 1) (by omega) (by omega) k2 (by omega) h5 (by omega) h7 (by omega)
theorem scan_facts (src : ByteArray) (f : Int) : ScanOut src (scanB src f src.size 0 0 0 1 0) := by
  obtain ⟨a1, a2, a3, a4⟩ := lineEnd_spec src 0 (Nat.zero_le _)
  exact scan_out src f src.size 0 0 0 1 0 (Nat.zero_le _) (Nat.le_refl _) a1 (Nat.le_refl _) (by omega) (Nat.le_refl _) ⟨Nat.le_refl _, rfl, fun i hi => by omega⟩ (by rw [Nat.zero_add, cut_data])
end Go.Proofs.Ytlfgaikcdelknaa
