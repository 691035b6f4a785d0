/-
  Plain laws under the refusals: a quoted text stays quoted, a text that ends in an odd run of backslashes is never read to its end. No program in sight.
-/
import Derived.Test.YtncoodplmpgnbaaFmtUneB
namespace Go.Proofs.YtncoodplmpgnbaaFmt
open Go.Lib
set_option linter.unusedVariables false
set_option linter.unusedSimpArgs false

theorem hexN_run (s : ByteArray) (i k : Nat) (h : ∀ j, j < k → (hexD (byteAt s (i + j))).isSome = true) : ∀ j, j ≤ k → ∃ v, hexN s i j = some v := by
  intro j
  induction j with
  | zero => intro _; exact ⟨0, rfl⟩
  | succ j ih =>
    intro hj
    obtain ⟨v, hv⟩ := ih (by omega)
    obtain ⟨d, hd⟩ := Option.isSome_iff_exists.1 (h j (by omega))
    exact ⟨_, hexN_succ_some hv hd⟩
theorem hexN_some_dig (s : ByteArray) (i : Nat) : ∀ (n v : Nat), hexN s i n = some v → ∀ j, j < n → ∃ u d, hexN s i j = some u ∧ hexD (byteAt s (i + j)) = some d ∧ hexN s i (j + 1) = some (u * 16 + d)
  | 0, v, h, j, hj => by omega
  | n + 1, v, h, j, hj => by
    unfold hexN at h
    split at h
    · rename_i a d ha hd
      by_cases e : j = n
      · subst e
        exact ⟨a, d, ha, hd, hexN_succ_some ha hd⟩
      · exact hexN_some_dig s i n a ha j (by omega)
    · cases h
theorem snoc_cases (a : List UInt8) : a = [] ∨ ∃ (b : List UInt8) (q : UInt8), a = b ++ [q] := by
  rcases List.eq_nil_or_concat a with h | ⟨b, q, h⟩
  · exact .inl h
  · exact .inr ⟨b, q, by rw [h, List.concat_eq_append]⟩
/-! ### newlines and ends -/
theorem nl_snoc (q : UInt8) (h : q ≠ 10) : ∀ (n : Nat) (a : List UInt8), a.length ≤ n → nlL (a ++ [q]) = nlL a ++ [if q = 13 then 10 else q]
  | 0, a, hn => by
    have : a = [] := List.length_eq_zero_iff.1 (by omega)
    subst this
    simp [nlL]
  | n + 1, [], hn => by simp [nlL]
  | n + 1, [c], hn => by
    by_cases c13 : c = 13
    · subst c13
      simp [nlL, h]
    · simp [nlL, c13]
  | n + 1, c :: d :: r, hn => by
    have h1 := nl_snoc q h n r (by simp at hn; omega)
    have h2 := nl_snoc q h n (d :: r) (by simp at hn ⊢; omega)
    show nlL (c :: d :: (r ++ [q])) = _
    by_cases c13 : c = 13
    · subst c13
      by_cases d10 : d = 10
      · subst d10
        rw [nl_crlf, nl_crlf, h1]
        rfl
      · rw [nl_cr _ (by simp [d10]), nl_cr _ (by simp [d10])]
        rw [show d :: (r ++ [q]) = (d :: r) ++ [q] from rfl, h2]
        rfl
    · rw [nl_other _ _ c13, nl_other _ _ c13, show d :: (r ++ [q]) = (d :: r) ++ [q] from rfl, h2]
      rfl
theorem nl_last10 : ∀ (n : Nat) (a : List UInt8), a.length ≤ n → (nlL (a ++ [10])).getLast? = some 10
  | 0, a, hn => by
    have : a = [] := List.length_eq_zero_iff.1 (by omega)
    subst this
    rfl
  | n + 1, [], hn => rfl
  | n + 1, [c], hn => by
    by_cases c13 : c = 13
    · subst c13
      rfl
    · rw [show [c] ++ [10] = c :: [10] from rfl, nl_other _ _ c13]
      rfl
  | n + 1, c :: d :: r, hn => by
    have h1 := nl_last10 n r (by simp at hn; omega)
    have h2 := nl_last10 n (d :: r) (by simp at hn ⊢; omega)
    show (nlL (c :: d :: (r ++ [10]))).getLast? = _
    by_cases c13 : c = 13
    · subst c13
      by_cases d10 : d = 10
      · subst d10
        rw [nl_crlf, List.getLast?_cons, h1]
        rfl
      · rw [nl_cr _ (by simp [d10]), List.getLast?_cons]
        rw [show d :: (r ++ [10]) = (d :: r) ++ [10] from rfl, h2]
        rfl
    · rw [nl_other _ _ c13, List.getLast?_cons]
      rw [show d :: (r ++ [10]) = (d :: r) ++ [10] from rfl, h2]
      rfl
theorem nl_head (c : UInt8) (r : List UInt8) : (nlL (c :: r)).head? = some (if c = 13 then 10 else c) := by
  cases r with
  | nil => rfl
  | cons d r =>
    unfold nlL
    by_cases c13 : c = 13
    · rw [if_pos c13, if_pos c13]
      split <;> rfl
    · rw [if_neg c13, if_neg c13]
      rfl
/-- The last of what is left of a text whose last byte is no backslash is none. -/
theorem nl_lastne (a : List UInt8) (h : ∀ x, a.getLast? = some x → x ≠ 92) : ∀ x, (nlL a).getLast? = some x → x ≠ 92 := by
  intro x hx
  rcases snoc_cases a with rfl | ⟨b, q, rfl⟩
  · simp [nlL] at hx
  · have hq := h q (by simp)
    by_cases q10 : q = 10
    · subst q10
      rw [nl_last10 _ b (Nat.le_refl _)] at hx
      injection hx with hx
      rw [← hx]
      decide
    · rw [nl_snoc q q10 _ b (Nat.le_refl _)] at hx
      simp at hx
      rw [← hx]
      split
      · decide
      · exact hq
theorem nl_run (a : List UInt8) : ∀ j, nlL (a ++ List.replicate j 92) = nlL a ++ List.replicate j 92
  | 0 => by simp
  | j + 1 => by
    rw [List.replicate_succ', ← List.append_assoc, nl_snoc 92 (by decide) _ _ (Nat.le_refl _), nl_run a j, List.append_assoc]
    rfl
theorem nl_quoted (q : UInt8) (m : List UInt8) (h10 : q ≠ 10) (h13 : q ≠ 13) : nlL (q :: (m ++ [q])) = q :: (nlL m ++ [q]) := by
  rw [nl_other _ _ h13, nl_snoc q h10 _ m (Nat.le_refl _), if_neg h13]
/-! ### quotes -/
theorem at_list (l : List UInt8) (k : Nat) : byteAt (bytesB l) k = (l.getD k 0).toNat := by unfold byteAt; rw [bytesB_data]
theorem quoted_back (s : ByteArray) (h : quotedB (bytesB (nlL s.data.toList))) : quotedB s := by
  obtain ⟨h1, h2, h3⟩ := h
  rw [bytesB_size] at h1 h2
  rw [at_list] at h2 h3
  rw [at_list] at h2
  have hl : s.data.toList.length = s.size := len_data s
  have e0 : ∀ k, byteAt s k = (s.data.toList.getD k 0).toNat := fun k => rfl
  unfold quotedB
  rw [e0, e0, ← hl]
  generalize s.data.toList = l at *
  rcases l with _ | ⟨c, r⟩
  · simp [nlL] at h1
  · rcases snoc_cases r with rfl | ⟨m, q, rfl⟩
    · simp [nlL] at h1
    · have hh := nl_head c (m ++ [q])
      have e1 : (nlL (c :: (m ++ [q]))).getD 0 0 = if c = 13 then 10 else c := by
        rw [List.head?_eq_getElem?] at hh
        simp only [List.getD, hh, Option.getD_some]
      have e2 : ∀ (z : List UInt8) x, z.getLast? = some x → z.getD (z.length - 1) 0 = x := fun z x hz => by
        rw [List.getLast?_eq_getElem?] at hz
        simp only [List.getD, hz, Option.getD_some]
      have hz : (nlL (c :: (m ++ [q]))).getLast? = some (if q = 10 then 10 else if q = 13 then 10 else q) := by
        by_cases q10 : q = 10
        · subst q10
          rw [if_pos rfl, show c :: (m ++ [10]) = (c :: m) ++ [10] from rfl]
          exact nl_last10 _ _ (Nat.le_refl _)
        · rw [if_neg q10, show c :: (m ++ [q]) = (c :: m) ++ [q] from rfl, nl_snoc q q10 _ _ (Nat.le_refl _)]
          simp
      rw [e1, e2 _ _ hz] at h2
      rw [e1] at h3
      have hc : c ≠ 13 := by
        intro e
        rw [if_pos e] at h3
        revert h3
        decide
      rw [if_neg hc] at h2 h3
      have hq : (if q = 10 then (10 : UInt8) else if q = 13 then 10 else q) = c := UInt8.toNat_inj.1 h2.symm
      have hqc : q = c := by
        by_cases q10 : q = 10
        · rw [if_pos q10] at hq
          rw [q10, hq]
        · rw [if_neg q10] at hq
          by_cases q13 : q = 13
          · exfalso
            rw [if_pos q13] at hq
            rw [← hq] at h3
            revert h3
            decide
          · rw [if_neg q13] at hq
            exact hq
      have el : (c :: (m ++ [q])).length - 1 = m.length + 1 := by simp
      refine ⟨by simp, ?_, h3⟩
      rw [el]
      simp [List.getD, hqc]
/-! ### an odd run of backslashes at the end -/
structure Tail (t : ByteArray) (m : Nat) : Prop where
  le : m < t.size
  odd : (t.size - m) % 2 = 1
  all : ∀ i, m ≤ i → i < t.size → byteAt t i = 92
  ne : m = 0 ∨ byteAt t (m - 1) ≠ 92
/-- What an item eats. -/
structure Eats (rd : Reader) : Prop where
  one : ∀ {t : ByteArray}, t.size = 1 → byteAt t 0 = 92 → rd t = none
  eat : ∀ {t : ByteArray} {v : Int} {mb : Bool} {n : Nat}, 0 < t.size → rd t = some (v, mb, n) → 1 ≤ n ∧ n ≤ t.size ∧
    ((byteAt t 0 = 92 ∧ byteAt t 1 = 92 ∧ n = 2) ∨ (byteAt t 0 = 92 ∧ 2 ≤ n ∧ ∀ i, 1 ≤ i → i < n → byteAt t i ≠ 92) ∨ (byteAt t 0 ≠ 92 ∧ ∀ i, i < n → byteAt t i ≠ 92))
theorem Tail.next {rd : Reader} (he : Eats rd) {t : ByteArray} {m : Nat} (h : Tail t m) {v : Int} {mb : Bool} {n : Nat} (hr : rd t = some (v, mb, n)) : ∃ m', Tail (t.extract n t.size) m' := by
  obtain ⟨h1, h2, h3, h4⟩ := h
  obtain ⟨e1, e2, e3⟩ := he.eat (by omega) hr
  have hsz : (t.extract n t.size).size = t.size - n := by simp
  by_cases hm : m = 0
  · subst hm
    have b0 := h3 0 (Nat.le_refl _) (by omega)
    rcases e3 with ⟨_, b1, rfl⟩ | ⟨_, c2, c3⟩ | ⟨c1, _⟩
    · refine ⟨0, by rw [hsz]; omega, by rw [hsz]; omega, fun i hi hi2 => ?_, .inl rfl⟩
      rw [byteAt_cut]
      exact h3 _ (by omega) (by rw [hsz] at hi2; omega)
    · by_cases hs1 : t.size = 1
      · omega
      · exact absurd (h3 1 (by omega) (by omega)) (c3 1 (Nat.le_refl _) (by omega))
    · exact absurd b0 c1
  · have hm1 : byteAt t (m - 1) ≠ 92 := by
      rcases h4 with h4 | h4
      · exact absurd h4 hm
      · exact h4
    have hn : n ≤ m := by
      rcases e3 with ⟨b0, b1, rfl⟩ | ⟨b0, c2, c3⟩ | ⟨c1, c3⟩
      · rcases Nat.lt_or_ge m 2 with hx | hx
        · have : m = 1 := by omega
          subst this
          exact absurd b0 hm1
        · exact hx
      · rcases Nat.lt_or_ge m n with hx | hx
        · exact absurd (h3 m (Nat.le_refl _) h1) (c3 m (by omega) hx)
        · exact hx
      · rcases Nat.lt_or_ge m n with hx | hx
        · exact absurd (h3 m (Nat.le_refl _) h1) (c3 m hx)
        · exact hx
    refine ⟨m - n, by rw [hsz]; omega, by rw [hsz]; omega, fun i hi hi2 => ?_, ?_⟩
    · rw [byteAt_cut]
      exact h3 _ (by omega) (by rw [hsz] at hi2; omega)
    · by_cases hmn : m - n = 0
      · exact .inl hmn
      · right
        rw [byteAt_cut, show n + (m - n - 1) = m - 1 by omega]
        exact hm1
theorem tail_none {rd : Reader} (he : Eats rd) : ∀ (n : Nat) (t : ByteArray) (m : Nat), Tail t m → t.size ≤ n → unAll rd n t = none
  | 0, t, m, h, hn => by have := h.le; omega
  | n + 1, t, m, h, hn => by
    have hle := h.le
    unfold unAll
    rw [if_neg (by omega)]
    rcases hr : rd t with _ | ⟨v, mb, k⟩
    · rfl
    · obtain ⟨m', hm'⟩ := h.next he hr
      have hk := he.eat (by omega) hr
      simp only []
      rw [tail_none he n _ m' hm' (by simp; omega)]
      rfl
/-! ### the two readers eat so -/
theorem hexD_92 : hexD 92 = none := by decide
theorem dig_ne {s : ByteArray} {i : Nat} {d : Nat} (h : hexD (byteAt s i) = some d) : byteAt s i ≠ 92 := by
  intro e
  rw [e, hexD_92] at h
  cases h
theorem dec_ne (s : ByteArray) (h0 : 128 ≤ byteAt s 0) : ∀ i, i < (Utf8.decode s 0).2 → byteAt s i ≠ 92 := by
  intro i hi
  have hw := dec_wid s
  rw [decode_bytes] at hi hw
  have h : ∀ (n b0 b1 b2 b3 : Nat), 128 ≤ b0 → (2 ≤ (decodeN n b0 b1 b2 b3).2 → b1 / 64 = 2) ∧ (3 ≤ (decodeN n b0 b1 b2 b3).2 → b2 / 64 = 2) ∧ (4 ≤ (decodeN n b0 b1 b2 b3).2 → b3 / 64 = 2) := by
    intro n b0 b1 b2 b3 hb
    unfold decodeN
    repeat' split
    all_goals (simp only []; omega)
  obtain ⟨a1, a2, a3⟩ := h (s.size - 0) (byteAt s 0) (byteAt s (0 + 1)) (byteAt s (0 + 2)) (byteAt s (0 + 3)) h0
  simp only [Nat.zero_add] at a1 a2 a3 hi hw
  rcases (show i = 0 ∨ i = 1 ∨ i = 2 ∨ i = 3 by omega) with rfl | rfl | rfl | rfl
  · omega
  · have := a1 (by omega); omega
  · have := a2 (by omega); omega
  · have := a3 (by omega); omega
theorem hexItem_ne {s : ByteArray} {n : Nat} {v : Int} {mb : Bool} {m : Nat} (h : hexItem s n = some (v, mb, m)) : ∀ i, 2 ≤ i → i < m → byteAt s i ≠ 92 := by
  have hf := hexItem_facts h
  unfold hexItem at h
  split at h
  · cases h
  · split at h
    · cases h
    · rename_i u hu
      intro i hi hi2
      obtain ⟨_, d, _, hd, _⟩ := hexN_some_dig s 2 n u hu (i - 2) (by omega)
      rw [show 2 + (i - 2) = i by omega] at hd
      exact dig_ne hd
theorem scan_ne {s : ByteArray} {v : Int} {mb : Bool} {m : Nat} : ∀ (f k v0 : Nat), scan s f k v0 = some (v, mb, m) → ∀ i, 3 + k ≤ i → i < m → byteAt s i ≠ 92
  | 0, k, v0, h => by simp [scan] at h
  | f + 1, k, v0, h => by
    unfold scan at h
    split at h
    · cases h
    · split at h
      · rename_i h125
        split at h
        · cases h
        · split at h
          · cases h
          · simp only [Option.some.injEq, Prod.mk.injEq] at h
            intro i hi hi2
            have : i = 3 + k := by omega
            subst this
            omega
      · split at h
        · cases h
        · rename_i d hd
          split at h
          · cases h
          · intro i hi hi2
            by_cases e : i = 3 + k
            · subst e
              exact dig_ne hd
            · exact scan_ne f (k + 1) _ h i (by omega) hi2
theorem octItem_ne {s : ByteArray} {v : Int} {mb : Bool} {m : Nat} (h : octItem s = some (v, mb, m)) : ∀ i, 2 ≤ i → i < m → byteAt s i ≠ 92 := by
  unfold octItem at h
  split at h
  · cases h
  · split at h
    · rename_i ho
      simp [isOct] at ho
      simp only [Option.some.injEq, Prod.mk.injEq] at h
      intro i hi hi2
      rcases (show i = 2 ∨ i = 3 by omega) with rfl | rfl <;> omega
    · cases h
theorem from_two {t : ByteArray} {n : Nat} (h1 : byteAt t 1 ≠ 92) (h2 : ∀ i, 2 ≤ i → i < n → byteAt t i ≠ 92) : ∀ i, 1 ≤ i → i < n → byteAt t i ≠ 92 := by
  intro i hi hi2
  by_cases e : i = 1
  · subst e; exact h1
  · exact h2 i (by omega) hi2
theorem eats_unesc : Eats unesc := by
  refine ⟨fun {t} h1 h0 => ?_, fun {t v mb n} h0 h => ?_⟩
  · unfold unesc
    rw [if_neg (by omega), if_neg (by omega), if_pos (by omega)]
  · obtain ⟨f1, f2, f3, f4⟩ := unesc_facts h0 h
    refine ⟨f2, f1, ?_⟩
    rcases f4 with ⟨a1, rfl, rfl, rfl⟩ | ⟨a1, a2, rfl, rfl, rfl⟩ | ⟨a1, a2, c, hc, rfl, rfl, rfl⟩ | ⟨a1, a2, hc, rfl, hv⟩
    · exact .inr (.inr ⟨by omega, dec_ne t a1⟩)
    · exact .inr (.inr ⟨a2, fun i hi => by have e : i = 0 := (by omega); rw [e]; exact a2⟩)
    · by_cases e : byteAt t 1 = 92
      · exact .inl ⟨a1, e, rfl⟩
      · exact .inr (.inl ⟨a1, Nat.le_refl _, from_two e (fun i hi hi2 => by omega)⟩)
    · have e : byteAt t 1 ≠ 92 := by
        intro e
        rw [e] at hc
        exact absurd hc (by decide)
      rw [unesc_esc t a1 a2 hc] at h
      refine .inr (.inl ⟨a1, ?_⟩)
      split at h
      · have := hexItem_facts h
        exact ⟨by omega, from_two e (hexItem_ne h)⟩
      · split at h
        · split at h
          · rename_i hb
            have := scan_facts 7 0 0 rfl h
            refine ⟨by omega, from_two e (fun i hi hi2 => ?_)⟩
            by_cases e2 : i = 2
            · subst e2; omega
            · exact scan_ne 7 0 0 h i (by omega) hi2
          · have := hexItem_facts h
            exact ⟨by omega, from_two e (hexItem_ne h)⟩
        · split at h
          · have := hexItem_facts h
            exact ⟨by omega, from_two e (hexItem_ne h)⟩
          · split at h
            · rename_i h5
              have := octItem_facts h h5.2
              exact ⟨by omega, from_two e (octItem_ne h)⟩
            · cases h
theorem eats_unescB : Eats unescB := by
  refine ⟨fun {t} h1 h0 => ?_, fun {t v mb n} h0 h => ?_⟩
  · unfold unescB
    rw [if_neg (by omega), if_neg (by omega), if_pos (by omega)]
  · have hf := unescB_facts h0 h
    refine ⟨hf.2.1, hf.1, ?_⟩
    unfold unescB at h
    split at h
    · rename_i a1
      simp only [Option.some.injEq, Prod.mk.injEq] at h
      obtain ⟨rfl, rfl, rfl⟩ := h
      exact .inr (.inr ⟨by omega, dec_ne t a1⟩)
    · split at h
      · rename_i a1 a2
        simp only [Option.some.injEq, Prod.mk.injEq] at h
        obtain ⟨rfl, rfl, rfl⟩ := h
        exact .inr (.inr ⟨a2, fun i hi => by have e : i = 0 := (by omega); rw [e]; exact a2⟩)
      · rename_i a1 a2
        have a0 : byteAt t 0 = 92 := by omega
        split at h
        · cases h
        · split at h
          · rename_i c hc
            simp only [Option.some.injEq, Prod.mk.injEq] at h
            obtain ⟨rfl, rfl, rfl⟩ := h
            by_cases e : byteAt t 1 = 92
            · exact .inl ⟨a0, e, rfl⟩
            · exact .inr (.inl ⟨a0, Nat.le_refl _, from_two e (fun i hi hi2 => by omega)⟩)
          · rename_i hc
            have e : byteAt t 1 ≠ 92 := by
              intro e
              rw [e] at hc
              exact absurd hc (by decide)
            refine .inr (.inl ⟨a0, ?_⟩)
            split at h
            · unfold hexB at h
              split at h
              · cases h
              · split at h
                · cases h
                · rename_i u hu
                  simp only [Option.some.injEq, Prod.mk.injEq] at h
                  refine ⟨by omega, from_two e (fun i hi hi2 => ?_)⟩
                  obtain ⟨_, d, _, hd, _⟩ := hexN_some_dig t 2 2 u hu (i - 2) (by omega)
                  rw [show 2 + (i - 2) = i by omega] at hd
                  exact dig_ne hd
            · split at h
              · unfold octB at h
                split at h
                · cases h
                · split at h
                  · rename_i ho
                    simp [isOct] at ho
                    simp only [Option.some.injEq, Prod.mk.injEq] at h
                    refine ⟨by omega, from_two e (fun i hi hi2 => ?_)⟩
                    rcases (show i = 2 ∨ i = 3 by omega) with rfl | rfl <;> omega
                  · cases h
              · cases h
/-- What must be refused: not quoted; or quoted, the inside ending in an odd run. -/
theorem refused {rd : Reader} (he : Eats rd) (s : ByteArray) (h : ¬ quotedB s ∨ (quotedB s ∧ ∃ j, j % 2 = 1 ∧ j + 2 ≤ s.size ∧ (∀ i, s.size - 1 - j ≤ i → i < s.size - 1 → byteAt s i = 92) ∧ (j + 2 = s.size ∨ byteAt s (s.size - 2 - j) ≠ 92))) :
    unText rd (bytesB (nlL s.data.toList)) = none := by
  rcases h with h | ⟨h, j, hj1, hj2, hj3, hj4⟩
  · unfold unText
    rw [if_neg (fun hq => h (quoted_back s hq))]
  · obtain ⟨h1, h2, h3⟩ := h
    have hl : s.data.toList.length = s.size := len_data s
    have e0 : ∀ k, byteAt s k = (s.data.toList.getD k 0).toNat := fun k => rfl
    simp only [e0] at h2 h3 hj3 hj4
    rw [← hl] at h1 h2 hj2 hj3 hj4
    generalize s.data.toList = l at *
    rcases l with _ | ⟨c, r⟩
    · simp at h1
    · rcases snoc_cases r with rfl | ⟨mid, q, rfl⟩
      · simp at h1
      · have el : (c :: (mid ++ [q])).length = mid.length + 2 := by simp
        rw [el] at h1 h2 hj2 hj3 hj4
        have hq : q = c := by
          have : (c :: (mid ++ [q])).getD (mid.length + 2 - 1) 0 = q := by simp [List.getD]
          rw [this] at h2
          exact (UInt8.toNat_inj.1 h2).symm
        subst hq
        have hq0 : q.toNat = 34 ∨ q.toNat = 39 := h3
        have q10 : q ≠ 10 := by intro e; subst e; revert hq0; decide
        have q13 : q ≠ 13 := by intro e; subst e; revert hq0; decide
        rw [nl_quoted q mid q10 q13]
        have hin : (bytesB (q :: (nlL mid ++ [q]))).extract 1 ((bytesB (q :: (nlL mid ++ [q]))).size - 1) = bytesB (nlL mid) := by
          apply ba_ext
          rw [cut_data, bytesB_data, bytesB_data, bytesB_size]
          simp
        have hqz : quotedB (bytesB (q :: (nlL mid ++ [q]))) := by
          unfold quotedB
          rw [bytesB_size, at_list, at_list]
          have : (q :: (nlL mid ++ [q])).getD ((q :: (nlL mid ++ [q])).length - 1) 0 = q := by simp [List.getD]
          rw [this]
          exact ⟨by simp, rfl, hq0⟩
        unfold unText
        rw [if_pos hqz, hin]
        have hmid : ∀ k, k < mid.length → (q :: (mid ++ [q])).getD (k + 1) 0 = mid.getD k 0 := fun k hk => by
          simp [List.getD, List.getElem?_append_left hk]
        have hrun : mid = mid.take (mid.length - j) ++ List.replicate j 92 := by
          apply List.ext_getElem?
          intro i
          by_cases c1 : i < mid.length - j
          · rw [List.getElem?_append_left (by rw [List.length_take]; omega), List.getElem?_take_of_lt c1]
          · rw [List.getElem?_append_right (by rw [List.length_take]; omega), List.length_take, List.getElem?_replicate]
            by_cases c2 : i < mid.length
            · rw [if_pos (by omega)]
              have h5 := hj3 (i + 1) (by omega) (by omega)
              rw [hmid i c2] at h5
              rw [List.getD, List.getElem?_eq_getElem c2] at h5
              rw [List.getElem?_eq_getElem c2]
              congr 1
              exact UInt8.toNat_inj.1 h5
            · rw [if_neg (by omega), List.getElem?_eq_none (by omega)]
        have hlast : ∀ x, (mid.take (mid.length - j)).getLast? = some x → x ≠ 92 := by
          intro x hx e
          subst e
          rcases hj4 with hj4 | hj4
          · rw [show mid.length - j = 0 by omega] at hx
            simp at hx
          · rw [List.getLast?_eq_getElem?, List.length_take] at hx
            have hpos : 0 < mid.length - j := by
              rcases Nat.eq_zero_or_pos (mid.length - j) with h0 | h0
              · rw [h0] at hx
                simp at hx
              · exact h0
            rw [List.getElem?_take_of_lt (by omega)] at hx
            apply hj4
            rw [show mid.length + 2 - 2 - j = (min (mid.length - j) mid.length - 1) + 1 by omega, hmid _ (by omega)]
            simp only [List.getD, hx, Option.getD_some]
            rfl
        have hnl : nlL mid = nlL (mid.take (mid.length - j)) ++ List.replicate j 92 := by
          conv => lhs; rw [hrun]
          exact nl_run _ j
        have hla := nl_lastne _ hlast
        generalize nlL (mid.take (mid.length - j)) = a at *
        refine tail_none he _ _ a.length ⟨?_, ?_, ?_, ?_⟩ (Nat.le_refl _)
        · rw [bytesB_size, hnl]
          simp
          omega
        · rw [bytesB_size, hnl]
          simp
          omega
        · intro i hi hi2
          rw [bytesB_size, hnl] at hi2
          rw [at_list, hnl]
          simp only [List.getD]
          rw [List.getElem?_append_right hi, List.getElem?_replicate, if_pos (by simp at hi2; omega)]
          rfl
        · rcases snoc_cases a with rfl | ⟨b, x, rfl⟩
          · exact .inl rfl
          · right
            have hx := hla x (by simp)
            rw [at_list, hnl]
            simp only [List.getD]
            rw [List.getElem?_append_left (by simp)]
            simp
            intro e
            exact hx (UInt8.toNat_inj.1 e)
end Go.Proofs.YtncoodplmpgnbaaFmt
