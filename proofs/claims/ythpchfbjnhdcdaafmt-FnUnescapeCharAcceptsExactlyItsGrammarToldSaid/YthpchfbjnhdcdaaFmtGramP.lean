/-
  What the reader's spec says of a text's front: its length, value and flag, form by form. No program in sight.
-/
import Derived.Test.YthpchfbjnhdcdaaFmtGramB
import Derived.Test.YthpchfbjnhdcdaaFmtGramC
namespace Go.Proofs.YthpchfbjnhdcdaaFmt
open Go.RowKit Go.Lib Go.Shelf Go.Proofs
set_option linter.unusedVariables false
set_option linter.unusedSimpArgs false

theorem unesc_esc (s : ByteArray) (h0 : byteAt s 0 = 92) (h1 : 1 < s.size) (hn : simpleV (byteAt s 1) = none) : unesc s =
    if byteAt s 1 = 120 ∨ byteAt s 1 = 88 then hexItem s 2
    else if byteAt s 1 = 117 then (if 2 < s.size ∧ byteAt s 2 = 123 then scan s 7 0 0 else hexItem s 4)
    else if byteAt s 1 = 85 then hexItem s 8
    else if 48 ≤ byteAt s 1 ∧ byteAt s 1 ≤ 51 then octItem s
    else none := by
  unfold unesc
  rw [if_neg (by omega), if_neg (by omega), if_neg (by omega), hn]
theorem hexItem_short (s : ByteArray) (n : Nat) (h : s.size < 2 + n) : hexItem s n = none := by unfold hexItem; rw [if_pos h]
theorem hexItem_bad (s : ByteArray) (n k : Nat) (hk : k < n) (h : hexD (byteAt s (2 + k)) = none) : hexItem s n = none := by
  unfold hexItem
  have h1 := hexN_stay_none (hexN_succ_none (s := s) (i := 2) (n := k) h) (n - (k + 1))
  rw [show k + 1 + (n - (k + 1)) = n by omega] at h1
  rw [h1]
  split <;> rfl
theorem hexItem_good (s : ByteArray) (n v : Nat) (hs : 2 + n ≤ s.size) (h : hexN s 2 n = some v) : hexItem s n = if 1114111 < w32 v then none else some (w32 v, true, 2 + n) := by
  unfold hexItem
  rw [if_neg (by omega), h]
theorem hexItem_small (s : ByteArray) (n v : Nat) (hs : 2 + n ≤ s.size) (h : hexN s 2 n = some v) (hn : n ≤ 4) : hexItem s n = some ((v : Int), true, 2 + n) := by
  have h1 := hexN_lt h
  have h2 : 16 ^ n ≤ 16 ^ 4 := Nat.pow_le_pow_right (by decide) hn
  rw [hexItem_good s n v hs h, w32_small (by omega), if_neg (by omega)]
theorem hexItem_facts {s : ByteArray} {n : Nat} {v : Int} {mb : Bool} {m : Nat} (h : hexItem s n = some (v, mb, m)) : mb = true ∧ m = 2 + n ∧ v ≤ 1114111 ∧ 2 + n ≤ s.size := by
  unfold hexItem at h
  split at h
  · cases h
  · split at h
    · cases h
    · split at h
      · cases h
      · simp only [Option.some.injEq, Prod.mk.injEq] at h
        obtain ⟨rfl, rfl, rfl⟩ := h
        exact ⟨rfl, rfl, by omega, by omega⟩
theorem hexItem_sign {s : ByteArray} {n : Nat} {v : Int} {mb : Bool} {m : Nat} (h : hexItem s n = some (v, mb, m)) (hn : n ≤ 4) : 0 ≤ v := by
  unfold hexItem at h
  split at h
  · cases h
  · split at h
    · cases h
    · rename_i u hu
      have h1 := hexN_lt hu
      have h2 : 16 ^ n ≤ 16 ^ 4 := Nat.pow_le_pow_right (by decide) hn
      rw [w32_small (by omega)] at h
      split at h
      · cases h
      · simp only [Option.some.injEq, Prod.mk.injEq] at h
        omega
theorem scan_facts {s : ByteArray} {v : Int} {mb : Bool} {m : Nat} : ∀ (f k v0 : Nat), k + f = 7 → scan s f k v0 = some (v, mb, m) → mb = true ∧ 5 ≤ m ∧ m ≤ 10 ∧ m ≤ s.size ∧ 0 ≤ v ∧ v ≤ 1114111
  | 0, k, v0, hk, h => by simp [scan] at h
  | f + 1, k, v0, hk, h => by
    unfold scan at h
    split at h
    · cases h
    · split at h
      · split at h
        · cases h
        · split at h
          · cases h
          · simp only [Option.some.injEq, Prod.mk.injEq] at h
            obtain ⟨rfl, rfl, rfl⟩ := h
            exact ⟨rfl, by omega, by omega, by omega, by omega, by omega⟩
      · split at h
        · cases h
        · split at h
          · cases h
          · exact scan_facts f (k + 1) _ (by omega) h
theorem octItem_facts {s : ByteArray} {v : Int} {mb : Bool} {m : Nat} (h : octItem s = some (v, mb, m)) (hc : byteAt s 1 ≤ 51) : mb = true ∧ m = 4 ∧ 4 ≤ s.size ∧ 0 ≤ v ∧ v ≤ 1114111 := by
  unfold octItem at h
  split at h
  · cases h
  · split at h
    · rename_i ho
      simp only [Option.some.injEq, Prod.mk.injEq] at h
      obtain ⟨rfl, rfl, rfl⟩ := h
      simp [isOct] at ho
      exact ⟨rfl, rfl, by omega, by omega, by omega⟩
    · cases h
theorem unesc_facts {s : ByteArray} (hs : 0 < s.size) {v : Int} {mb : Bool} {n : Nat} (h : unesc s = some (v, mb, n)) : n ≤ s.size ∧ 1 ≤ n ∧ n ≤ 10 ∧
    ((128 ≤ byteAt s 0 ∧ v = ((Utf8.decode s 0).1 : Int) ∧ mb = true ∧ n = (Utf8.decode s 0).2) ∨
     (byteAt s 0 < 128 ∧ byteAt s 0 ≠ 92 ∧ v = (byteAt s 0 : Int) ∧ mb = false ∧ n = 1) ∨
     (byteAt s 0 = 92 ∧ 1 < s.size ∧ (∃ c, simpleV (byteAt s 1) = some c ∧ v = (c : Int) ∧ mb = false ∧ n = 2)) ∨
     (byteAt s 0 = 92 ∧ 1 < s.size ∧ simpleV (byteAt s 1) = none ∧ mb = true ∧ v ≤ 1114111)) := by
  by_cases a1 : 128 ≤ byteAt s 0
  · unfold unesc at h
    rw [if_pos a1] at h
    simp only [Option.some.injEq, Prod.mk.injEq] at h
    obtain ⟨rfl, rfl, rfl⟩ := h
    have h1 := dec_fits s hs
    have h2 : 1 ≤ (Utf8.decode s 0).2 ∧ (Utf8.decode s 0).2 ≤ 4 := by
      rw [decode_bytes]
      unfold decodeN
      repeat' split
      all_goals (simp only []; omega)
    exact ⟨h1, h2.1, by omega, .inl ⟨a1, rfl, rfl, rfl⟩⟩
  by_cases a2 : byteAt s 0 ≠ 92
  · unfold unesc at h
    rw [if_neg a1, if_pos a2] at h
    simp only [Option.some.injEq, Prod.mk.injEq] at h
    obtain ⟨rfl, rfl, rfl⟩ := h
    exact ⟨by omega, by omega, by omega, .inr (.inl ⟨by omega, a2, rfl, rfl, rfl⟩)⟩
  by_cases a3 : s.size ≤ 1
  · unfold unesc at h
    rw [if_neg a1, if_neg a2, if_pos a3] at h
    cases h
  have e0 : byteAt s 0 = 92 := by omega
  rcases hc : simpleV (byteAt s 1) with _ | c
  · rw [unesc_esc s e0 (by omega) hc] at h
    split at h
    · have := hexItem_facts h
      exact ⟨by omega, by omega, by omega, .inr (.inr (.inr ⟨e0, by omega, rfl, this.1, this.2.2.1⟩))⟩
    · split at h
      · split at h
        · have := scan_facts 7 0 0 rfl h
          exact ⟨by omega, by omega, by omega, .inr (.inr (.inr ⟨e0, by omega, rfl, this.1, by omega⟩))⟩
        · have := hexItem_facts h
          exact ⟨by omega, by omega, by omega, .inr (.inr (.inr ⟨e0, by omega, rfl, this.1, this.2.2.1⟩))⟩
      · split at h
        · have := hexItem_facts h
          exact ⟨by omega, by omega, by omega, .inr (.inr (.inr ⟨e0, by omega, rfl, this.1, this.2.2.1⟩))⟩
        · split at h
          · rename_i h5
            have := octItem_facts h h5.2
            exact ⟨by omega, by omega, by omega, .inr (.inr (.inr ⟨e0, by omega, rfl, this.1, by omega⟩))⟩
          · cases h
  · unfold unesc at h
    rw [if_neg a1, if_neg a2, if_neg a3, hc] at h
    simp only [Option.some.injEq, Prod.mk.injEq] at h
    obtain ⟨rfl, rfl, rfl⟩ := h
    exact ⟨by omega, by omega, by omega, .inr (.inr (.inl ⟨e0, by omega, c, rfl, rfl, rfl, rfl⟩))⟩

/-! ### the braced form by its run of digits -/
theorem hexD_125 : hexD 125 = none := by decide
theorem scan_skip (s : ByteArray) (k : Nat) (hf : 3 + k ≤ s.size) (hd : ∀ j, j < k → (hexD (byteAt s (3 + j))).isSome = true) (hk : k ≤ 6) :
    ∀ (m j v : Nat), j + m = k → hexN s 3 j = some v → ∃ u, hexN s 3 k = some u ∧ scan s (7 - j) j v = scan s (7 - k) k u
  | 0, j, v, hj, hv => by
    obtain rfl : j = k := by omega
    exact ⟨v, hv, rfl⟩
  | m + 1, j, v, hj, hv => by
    obtain ⟨d, hx⟩ := Option.isSome_iff_exists.1 (hd j (by omega))
    obtain ⟨u, hu, he⟩ := scan_skip s k hf hd hk m (j + 1) (v * 16 + d) (by omega) (hexN_succ_some hv hx)
    refine ⟨u, hu, ?_⟩
    rw [← he, show 7 - j = (7 - (j + 1)) + 1 by omega]
    conv => lhs; unfold scan
    rw [if_neg (by omega), if_neg (by intro e; rw [e, hexD_125] at hx; cases hx), hx]
    simp only []
    rw [if_neg (by omega)]
theorem scan_no_run (s : ByteArray) (k : Nat) (h : IsRun s 3 k) (hk : k < 1 ∨ 6 < k) : scan s 7 0 0 = none := by
  rcases hk with hk | hk
  · obtain rfl : k = 0 := by omega
    unfold scan
    by_cases h1 : s.size ≤ 3 + 0
    · rw [if_pos h1]
    · rw [if_neg h1]
      by_cases h2 : byteAt s (3 + 0) = 125
      · rw [if_pos h2, if_pos rfl]
      · rw [if_neg h2, h.stop (by omega) (by omega)]
  · obtain rfl : k = 7 := by have := h.le; omega
    have hf := h.fits
    obtain ⟨u, hu, he⟩ := scan_skip s 6 (by omega) (fun j hj => h.dig j (by omega)) (by omega) 6 0 0 rfl rfl
    have he' : scan s 7 0 0 = scan s 1 6 u := he
    rw [he']
    obtain ⟨d, hx⟩ := Option.isSome_iff_exists.1 (h.dig 6 (by omega))
    unfold scan
    rw [if_neg (by omega), if_neg (by intro e; rw [e, hexD_125] at hx; cases hx), hx]
    rfl
theorem scan_by_run (s : ByteArray) (k u : Nat) (h : IsRun s 3 k) (h1 : 1 ≤ k) (h6 : k ≤ 6) (hu : hexN s 3 k = some u) :
    scan s 7 0 0 = if 3 + k < s.size ∧ byteAt s (3 + k) = 125 ∧ u ≤ 1114111 then some ((u : Int), true, 4 + k) else none := by
  have hf := h.fits
  obtain ⟨u', hu', he⟩ := scan_skip s k hf h.dig h6 k 0 0 (by omega) rfl
  obtain rfl : u' = u := Option.some.inj (hu'.symm.trans hu)
  have he' : scan s 7 0 0 = scan s (7 - k) k u' := he
  rw [he', show 7 - k = (6 - k) + 1 by omega]
  unfold scan
  by_cases c1 : s.size ≤ 3 + k
  · rw [if_pos c1, if_neg (by omega)]
  · rw [if_neg c1]
    by_cases c2 : byteAt s (3 + k) = 125
    · rw [if_pos c2, if_neg (by omega)]
      by_cases c3 : 1114111 < u'
      · rw [if_pos c3, if_neg (by omega)]
      · rw [if_neg c3, if_pos ⟨by omega, c2, by omega⟩]
    · rw [if_neg c2, if_neg (by intro e; exact c2 e.2.1), h.stop (by omega) (by omega)]
end Go.Proofs.YthpchfbjnhdcdaaFmt
