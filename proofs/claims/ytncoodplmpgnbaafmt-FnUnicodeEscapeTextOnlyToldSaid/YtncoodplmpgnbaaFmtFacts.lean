/-
  What the readers' specs say of a text's front: length, value, flag. No program in sight.
-/
import Derived.Test.YtncoodplmpgnbaaFmtUcE
import Derived.Test.YtncoodplmpgnbaaFmtUbB
namespace Go.Proofs.YtncoodplmpgnbaaFmt
open Go.Lib
set_option linter.unusedVariables false
set_option linter.unusedSimpArgs false

theorem decode_bytes (s : ByteArray) (i : Nat) : Utf8.decode s i = decodeN (s.size - i) (byteAt s i) (byteAt s (i + 1)) (byteAt s (i + 2)) (byteAt s (i + 3)) := by
  rw [decode_N, ← Lib.size_eq]
  rfl
theorem unesc_esc (s : ByteArray) (h0 : byteAt s 0 = 92) (h1 : 1 < s.size) (hn : simpleV (byteAt s 1) = none) : unesc s =
    if byteAt s 1 = 120 ∨ byteAt s 1 = 88 then hexItem s 2
    else if byteAt s 1 = 117 then (if 2 < s.size ∧ byteAt s 2 = 123 then scan s 7 0 0 else hexItem s 4)
    else if byteAt s 1 = 85 then hexItem s 8
    else if 48 ≤ byteAt s 1 ∧ byteAt s 1 ≤ 51 then octItem s
    else none := by
  unfold unesc
  rw [if_neg (by omega), if_neg (by omega), if_neg (by omega), hn]
theorem hexItem_short (s : ByteArray) (n : Nat) (h : s.size < 2 + n) : hexItem s n = none := by unfold hexItem; rw [if_pos h]
theorem hexItem_bad (s : ByteArray) (n k : Nat) (hk : k < n) (h : hexD (byteAt s (2 + k)) = none) : hexItem s n = none := by
  unfold hexItem
  have h1 := hexN_stay_none (hexN_succ_none (s := s) (i := 2) (n := k) h) (n - (k + 1))
  rw [show k + 1 + (n - (k + 1)) = n by omega] at h1
  rw [h1]
  split <;> rfl
theorem hexItem_good (s : ByteArray) (n v : Nat) (hs : 2 + n ≤ s.size) (h : hexN s 2 n = some v) : hexItem s n = if 1114111 < w32 v then none else some (w32 v, true, 2 + n) := by
  unfold hexItem
  rw [if_neg (by omega), h]
theorem hexItem_small (s : ByteArray) (n v : Nat) (hs : 2 + n ≤ s.size) (h : hexN s 2 n = some v) (hn : n ≤ 4) : hexItem s n = some ((v : Int), true, 2 + n) := by
  have h1 := hexN_lt h
  have h2 : 16 ^ n ≤ 16 ^ 4 := Nat.pow_le_pow_right (by decide) hn
  rw [hexItem_good s n v hs h, w32_small (by omega), if_neg (by omega)]
theorem hexItem_facts {s : ByteArray} {n : Nat} {v : Int} {mb : Bool} {m : Nat} (h : hexItem s n = some (v, mb, m)) : mb = true ∧ m = 2 + n ∧ v ≤ 1114111 ∧ 2 + n ≤ s.size := by
  unfold hexItem at h
  split at h
  · cases h
  · split at h
    · cases h
    · split at h
      · cases h
      · simp only [Option.some.injEq, Prod.mk.injEq] at h
        obtain ⟨rfl, rfl, rfl⟩ := h
        exact ⟨rfl, rfl, by omega, by omega⟩
theorem hexItem_sign {s : ByteArray} {n : Nat} {v : Int} {mb : Bool} {m : Nat} (h : hexItem s n = some (v, mb, m)) (hn : n ≤ 4) : 0 ≤ v := by
  unfold hexItem at h
  split at h
  · cases h
  · split at h
    · cases h
    · rename_i u hu
      have h1 := hexN_lt hu
      have h2 : 16 ^ n ≤ 16 ^ 4 := Nat.pow_le_pow_right (by decide) hn
      rw [w32_small (by omega)] at h
      split at h
      · cases h
      · simp only [Option.some.injEq, Prod.mk.injEq] at h
        omega
theorem scan_facts {s : ByteArray} {v : Int} {mb : Bool} {m : Nat} : ∀ (f k v0 : Nat), k + f = 7 → scan s f k v0 = some (v, mb, m) → mb = true ∧ 5 ≤ m ∧ m ≤ 10 ∧ m ≤ s.size ∧ 0 ≤ v ∧ v ≤ 1114111
  | 0, k, v0, hk, h => by simp [scan] at h
  | f + 1, k, v0, hk, h => by
    unfold scan at h
    split at h
    · cases h
    · split at h
      · split at h
        · cases h
        · split at h
          · cases h
          · simp only [Option.some.injEq, Prod.mk.injEq] at h
            obtain ⟨rfl, rfl, rfl⟩ := h
            exact ⟨rfl, by omega, by omega, by omega, by omega, by omega⟩
      · split at h
        · cases h
        · split at h
          · cases h
          · exact scan_facts f (k + 1) _ (by omega) h
theorem octItem_facts {s : ByteArray} {v : Int} {mb : Bool} {m : Nat} (h : octItem s = some (v, mb, m)) (hc : byteAt s 1 ≤ 51) : mb = true ∧ m = 4 ∧ 4 ≤ s.size ∧ 0 ≤ v ∧ v ≤ 1114111 := by
  unfold octItem at h
  split at h
  · cases h
  · split at h
    · rename_i ho
      simp only [Option.some.injEq, Prod.mk.injEq] at h
      obtain ⟨rfl, rfl, rfl⟩ := h
      simp [isOct] at ho
      exact ⟨rfl, rfl, by omega, by omega, by omega⟩
    · cases h
theorem unesc_facts {s : ByteArray} (hs : 0 < s.size) {v : Int} {mb : Bool} {n : Nat} (h : unesc s = some (v, mb, n)) : n ≤ s.size ∧ 1 ≤ n ∧ n ≤ 10 ∧
    ((128 ≤ byteAt s 0 ∧ v = ((Utf8.decode s 0).1 : Int) ∧ mb = true ∧ n = (Utf8.decode s 0).2) ∨
     (byteAt s 0 < 128 ∧ byteAt s 0 ≠ 92 ∧ v = (byteAt s 0 : Int) ∧ mb = false ∧ n = 1) ∨
     (byteAt s 0 = 92 ∧ 1 < s.size ∧ (∃ c, simpleV (byteAt s 1) = some c ∧ v = (c : Int) ∧ mb = false ∧ n = 2)) ∨
     (byteAt s 0 = 92 ∧ 1 < s.size ∧ simpleV (byteAt s 1) = none ∧ mb = true ∧ v ≤ 1114111)) := by
  by_cases a1 : 128 ≤ byteAt s 0
  · unfold unesc at h
    rw [if_pos a1] at h
    simp only [Option.some.injEq, Prod.mk.injEq] at h
    obtain ⟨rfl, rfl, rfl⟩ := h
    have h1 := dec_fits s hs
    have h2 : 1 ≤ (Utf8.decode s 0).2 ∧ (Utf8.decode s 0).2 ≤ 4 := by
      rw [decode_bytes]
      unfold decodeN
      repeat' split
      all_goals (simp only []; omega)
    exact ⟨h1, h2.1, by omega, .inl ⟨a1, rfl, rfl, rfl⟩⟩
  by_cases a2 : byteAt s 0 ≠ 92
  · unfold unesc at h
    rw [if_neg a1, if_pos a2] at h
    simp only [Option.some.injEq, Prod.mk.injEq] at h
    obtain ⟨rfl, rfl, rfl⟩ := h
    exact ⟨by omega, by omega, by omega, .inr (.inl ⟨by omega, a2, rfl, rfl, rfl⟩)⟩
  by_cases a3 : s.size ≤ 1
  · unfold unesc at h
    rw [if_neg a1, if_neg a2, if_pos a3] at h
    cases h
  have e0 : byteAt s 0 = 92 := by omega
  rcases hc : simpleV (byteAt s 1) with _ | c
  · rw [unesc_esc s e0 (by omega) hc] at h
    split at h
    · have := hexItem_facts h
      exact ⟨by omega, by omega, by omega, .inr (.inr (.inr ⟨e0, by omega, rfl, this.1, this.2.2.1⟩))⟩
    · split at h
      · split at h
        · have := scan_facts 7 0 0 rfl h
          exact ⟨by omega, by omega, by omega, .inr (.inr (.inr ⟨e0, by omega, rfl, this.1, by omega⟩))⟩
        · have := hexItem_facts h
          exact ⟨by omega, by omega, by omega, .inr (.inr (.inr ⟨e0, by omega, rfl, this.1, this.2.2.1⟩))⟩
      · split at h
        · have := hexItem_facts h
          exact ⟨by omega, by omega, by omega, .inr (.inr (.inr ⟨e0, by omega, rfl, this.1, this.2.2.1⟩))⟩
        · split at h
          · rename_i h5
            have := octItem_facts h h5.2
            exact ⟨by omega, by omega, by omega, .inr (.inr (.inr ⟨e0, by omega, rfl, this.1, by omega⟩))⟩
          · cases h
  · unfold unesc at h
    rw [if_neg a1, if_neg a2, if_neg a3, hc] at h
    simp only [Option.some.injEq, Prod.mk.injEq] at h
    obtain ⟨rfl, rfl, rfl⟩ := h
    exact ⟨by omega, by omega, by omega, .inr (.inr (.inl ⟨e0, by omega, c, rfl, rfl, rfl, rfl⟩))⟩

theorem simpleV_tab : ∀ c : Fin 128, (match simpleV c.val with | some v => decide (v ≤ 255 ∧ c.val ≠ 117 ∧ c.val ≠ 85) | none => true) = true := by decide +kernel
theorem simpleV_big {c : Nat} (h : 128 ≤ c) : simpleV c = none := by
  unfold simpleV
  rw [if_neg (by omega), if_neg (by omega), if_neg (by omega), if_neg (by omega), if_neg (by omega), if_neg (by omega), if_neg (by omega), if_neg (by omega), if_neg (by omega), if_neg (by omega), if_neg (by omega), if_neg (by omega)]
theorem simpleV_le {c v : Nat} (h : simpleV c = some v) : v ≤ 255 ∧ c ≠ 117 ∧ c ≠ 85 := by
  rcases Nat.lt_or_ge c 128 with hc | hc
  · have := simpleV_tab ⟨c, hc⟩
    simp only [h] at this
    simpa using this
  · rw [simpleV_big hc] at h
    cases h
theorem dec_le (s : ByteArray) : (Utf8.decode s 0).1 ≤ 1114111 := by
  rw [← decodeL_drop]
  exact decodeL_rune _
theorem dec_wid (s : ByteArray) : 1 ≤ (Utf8.decode s 0).2 ∧ (Utf8.decode s 0).2 ≤ 4 := by
  rw [decode_bytes]
  unfold decodeN
  repeat' split
  all_goals (simp only []; omega)
theorem unescB_facts {s : ByteArray} (hs : 0 < s.size) {v : Int} {mb : Bool} {n : Nat} (h : unescB s = some (v, mb, n)) : n ≤ s.size ∧ 1 ≤ n ∧ n ≤ 4 ∧ 0 ≤ v ∧ v ≤ 1114111 := by
  unfold unescB at h
  split at h
  · simp only [Option.some.injEq, Prod.mk.injEq] at h
    obtain ⟨rfl, rfl, rfl⟩ := h
    have h1 := dec_fits s hs
    have h2 := dec_wid s
    have h3 := dec_le s
    omega
  · split at h
    · simp only [Option.some.injEq, Prod.mk.injEq] at h
      obtain ⟨rfl, rfl, rfl⟩ := h
      have := byteAt_le s 0
      omega
    · split at h
      · cases h
      · split at h
        · rename_i c hc
          simp only [Option.some.injEq, Prod.mk.injEq] at h
          obtain ⟨rfl, rfl, rfl⟩ := h
          have := (simpleV_le hc).1
          omega
        · split at h
          · unfold hexB at h
            split at h
            · cases h
            · split at h
              · cases h
              · rename_i u hu
                have := hexN_lt hu
                simp only [Option.some.injEq, Prod.mk.injEq] at h
                omega
          · split at h
            · rename_i hc
              unfold octB at h
              split at h
              · cases h
              · split at h
                · rename_i ho
                  simp [isOct] at ho
                  simp only [Option.some.injEq, Prod.mk.injEq] at h
                  omega
                · cases h
            · cases h
theorem unesc_value {s : ByteArray} (hs : 0 < s.size) {v : Int} {mb : Bool} {n : Nat} (h : unesc s = some (v, mb, n)) : v ≤ 1114111 := by
  obtain ⟨_, _, _, ⟨a1, rfl, _, _⟩ | ⟨_, _, rfl, _, _⟩ | ⟨_, _, c, hc, rfl, _, _⟩ | ⟨_, _, _, _, hv⟩⟩ := unesc_facts hs h
  · have := dec_le s
    omega
  · have := byteAt_le s 0
    omega
  · have := (simpleV_le hc).1
    omega
  · exact hv
end Go.Proofs.YtncoodplmpgnbaaFmt
