/-
  Plain laws of decoding forward and backward: what each step's width and rune can be, and that at a place which forward decoding reached the backward decoder finds the width of the rune just read. No program in sight.
-/
import Derived.Lib.MapLaws
import Derived.Lib.TrimU
import Derived.KernelRfl
namespace Go.Proofs.YtklkbalbmeefjaaDoor
open Go.Lib
set_option linter.unusedVariables false

theorem decN_ext (n n' b0 b1 b2 b3 b0' b1' b2' b3' k : Nat) (h : (decodeN n b0 b1 b2 b3).2 = k) (hk : 2 ≤ k) (hn : k ≤ n') (e0 : b0' = b0) (e1 : b1' = b1) (e2 : 3 ≤ k → b2' = b2) (e3 : 4 ≤ k → b3' = b3) :
    decodeN n' b0' b1' b2' b3' = decodeN n b0 b1 b2 b3 := by
  subst e0 e1
  rcases decodeN_shape n b0' b1' b2 b3 with ⟨c, e⟩ | ⟨c1, c2, c3, cv, e⟩ | ⟨c1, c2, c3, c4, cv, cs, e⟩ | ⟨c1, c2, c3, c4, c5, cv, cw, e⟩ | e
  · rw [e] at h; simp at h; omega
  · rw [e] at h ⊢
    simp at h
    subst h
    unfold decodeN
    rw [if_neg (by omega), if_pos (by omega), if_pos (by omega)]
  · rw [e] at h ⊢
    simp at h
    subst h
    have := e2 (by omega)
    subst this
    unfold decodeN
    rw [if_neg (by omega), if_neg (by omega), if_pos (by omega), if_pos (by omega)]
  · rw [e] at h ⊢
    simp at h
    subst h
    obtain rfl := e2 (by omega)
    obtain rfl := e3 (by omega)
    unfold decodeN
    rw [if_neg (by omega), if_neg (by omega), if_neg (by omega), if_pos (by omega), if_pos (by omega)]
  · rw [e] at h; simp at h; omega

theorem getD_take (l : List UInt8) (j i : Nat) (h : i < j) : (l.take j).getD i 0 = l.getD i 0 := by
  simp [List.getD, h]

/-- What is read whole from a prefix is read alike from the whole. -/
theorem dec_prefix (l : List UInt8) (j : Nat) (h : 2 ≤ (decodeL (l.take j)).2) : decodeL l = decodeL (l.take j) := by
  have hne : l.take j ≠ [] := by
    intro e
    rw [e] at h
    have : (decodeL []).2 = 1 := by decide
    omega
  have hle := decodeL_le _ hne
  rw [List.length_take] at hle
  rw [decodeL_N l, decodeL_N (l.take j)]
  rw [decodeL_N] at h hle
  exact decN_ext _ _ _ _ _ _ _ _ _ _ _ rfl h (by omega) (by rw [getD_take _ _ _ (by omega)]) (by rw [getD_take _ _ _ (by omega)]) (fun h3 => by rw [getD_take _ _ _ (by omega)]) (fun h4 => by rw [getD_take _ _ _ (by omega)])
/-- What is read from the whole is read alike from a prefix that holds it. -/
theorem dec_take (l : List UInt8) (j : Nat) (h : 2 ≤ (decodeL l).2) (hj : (decodeL l).2 ≤ j) : decodeL (l.take j) = decodeL l := by
  have hne : l ≠ [] := by
    intro e
    rw [e] at h
    have : (decodeL []).2 = 1 := by decide
    omega
  have hle := decodeL_le _ hne
  rw [decodeL_N l, decodeL_N (l.take j), List.length_take]
  rw [decodeL_N] at h hle hj
  exact decN_ext _ _ _ _ _ _ _ _ _ _ _ rfl h (by omega) (by rw [getD_take _ _ _ (by omega)]) (by rw [getD_take _ _ _ (by omega)]) (fun h3 => by rw [getD_take _ _ _ (by omega)]) (fun h4 => by rw [getD_take _ _ _ (by omega)])

/-- The bytes of a rune of two or more: a lead byte, then continuation bytes. -/
theorem dec_bytes (l : List UInt8) (h : 2 ≤ (decodeL l).2) :
    (decodeL l).2 ≤ 4 ∧ (decodeL l).2 ≤ l.length ∧ runeStartB (l.getD 0 0) = true ∧ ∀ i, 1 ≤ i → i < (decodeL l).2 → runeStartB (l.getD i 0) = false ∧ 128 ≤ (l.getD i 0).toNat := by
  rw [decodeL_N] at h ⊢
  have k0 := (l.getD 0 0).toNat_lt
  have k1 := (l.getD 1 0).toNat_lt
  have k2 := (l.getD 2 0).toNat_lt
  have k3 := (l.getD 3 0).toNat_lt
  rcases decodeN_shape l.length (l.getD 0 0).toNat (l.getD 1 0).toNat (l.getD 2 0).toNat (l.getD 3 0).toNat with ⟨c, e⟩ | ⟨c1, c2, c3, cv, e⟩ | ⟨c1, c2, c3, c4, cv, cs, e⟩ | ⟨c1, c2, c3, c4, c5, cv, cw, e⟩ | e
  · rw [e] at h; simp at h
  · rw [e]
    refine ⟨by simp, by simp; omega, by simp only [runeStartB, bne_iff_ne]; omega, fun i h1 h2 => ?_⟩
    simp at h2
    obtain rfl : i = 1 := by omega
    exact ⟨by simp only [runeStartB, bne_eq_false_iff_eq]; omega, by omega⟩
  · rw [e]
    refine ⟨by simp, by simp; omega, by simp only [runeStartB, bne_iff_ne]; omega, fun i h1 h2 => ?_⟩
    simp at h2
    rcases (show i = 1 ∨ i = 2 by omega) with rfl | rfl
    · exact ⟨by simp only [runeStartB, bne_eq_false_iff_eq]; omega, by omega⟩
    · exact ⟨by simp only [runeStartB, bne_eq_false_iff_eq]; omega, by omega⟩
  · rw [e]
    refine ⟨by simp, by simp; omega, by simp only [runeStartB, bne_iff_ne]; omega, fun i h1 h2 => ?_⟩
    simp at h2
    rcases (show i = 1 ∨ i = 2 ∨ i = 3 by omega) with rfl | rfl | rfl
    · exact ⟨by simp only [runeStartB, bne_eq_false_iff_eq]; omega, by omega⟩
    · exact ⟨by simp only [runeStartB, bne_eq_false_iff_eq]; omega, by omega⟩
    · exact ⟨by simp only [runeStartB, bne_eq_false_iff_eq]; omega, by omega⟩
  · rw [e] at h; simp at h

/-- A byte that starts no rune is read as one byte. -/
theorem dec_cont (l : List UInt8) (h : runeStartB (l.getD 0 0) = false) : (decodeL l).2 = 1 := by
  have hw := decodeL_width l
  rcases Nat.lt_or_ge (decodeL l).2 2 with h' | h'
  · omega
  · have := (dec_bytes l h').2.2.1
    rw [h] at this
    cases this

theorem getD_drop' (l : List UInt8) (p i : Nat) : (l.drop p).getD i 0 = l.getD (p + i) 0 := by
  simp [List.getD, List.getElem?_drop]

/-- No rune that begins before p reaches beyond p. -/
def Bd (l : List UInt8) (p : Nat) : Prop := ∀ i, i < p → i + (decodeL (l.drop i)).2 ≤ p
theorem Bd.zero (l : List UInt8) : Bd l 0 := fun i h => by omega
theorem Bd.step {l : List UInt8} {p : Nat} (h : Bd l p) : Bd l (p + (decodeL (l.drop p)).2) := by
  intro i hi
  rcases Nat.lt_trichotomy i p with hlt | rfl | hgt
  · have := h i hlt
    omega
  · exact Nat.le_refl _
  · have hk : 2 ≤ (decodeL (l.drop p)).2 := by omega
    obtain ⟨_, _, _, hc⟩ := dec_bytes _ hk
    have := (hc (i - p) (by omega) (by omega)).1
    rw [getD_drop', show p + (i - p) = i by omega] at this
    have h1 := dec_cont (l.drop i) (by rw [getD_drop']; simpa using this)
    omega

theorem last_width {l : List UInt8} {p : Nat} (h : Bd l p) (hp : p < l.length) : (decodeLastL (l.take (p + (decodeL (l.drop p)).2))).2 = (decodeL (l.drop p)).2 := by
  have hne : l.drop p ≠ [] := fun e => by have := congrArg List.length e; rw [List.length_drop] at this; simp at this; omega
  have hle := decodeL_le _ hne
  rw [List.length_drop] at hle
  have hpos := decodeL_width (l.drop p)
  obtain ⟨k, hk⟩ : ∃ k, (decodeL (l.drop p)).2 = k := ⟨_, rfl⟩
  rw [hk] at hle hpos ⊢
  obtain ⟨m, hm⟩ : ∃ m, p + k = m := ⟨_, rfl⟩
  rw [hm]
  have hlen : (l.take m).length = m := by rw [List.length_take]; omega
  have hLne : l.take m ≠ [] := fun e => by have := congrArg List.length e; rw [hlen] at this; simp at this; omega
  have hlast : (l.take m).getD (m - 1) 0 = l.getD (m - 1) 0 := getD_take _ _ _ (by omega)
  unfold decodeLastL
  rw [if_neg hLne, hlen, hlast]
  by_cases hk1 : k = 1
  · subst hk1
    split
    · rfl
    · show (if lastStart (l.take m) + (decodeL ((l.take m).drop (lastStart (l.take m)))).2 = m then decodeL ((l.take m).drop (lastStart (l.take m))) else (Utf8.runeError, 1)).2 = 1
      generalize lastStart (l.take m) = j
      split
      · rename_i hj
        have hdp := decodeL_width ((l.take m).drop j)
        rcases Nat.lt_or_ge j p with hjp | hjp
        · exfalso
          rw [List.drop_take] at hj
          have h2 : 2 ≤ (decodeL ((l.drop j).take (m - j))).2 := by omega
          have h3 := dec_prefix (l.drop j) (m - j) h2
          have h4 := h j hjp
          rw [h3] at h4
          omega
        · omega
      · rfl
  · have hk2 : 2 ≤ (decodeL (l.drop p)).2 := by omega
    obtain ⟨h4, _, hs, hc⟩ := dec_bytes _ hk2
    rw [hk] at h4 hc
    have hcl := (hc (k - 1) (by omega) (by omega)).2
    rw [getD_drop', show p + (k - 1) = m - 1 by omega] at hcl
    rw [if_neg (by omega)]
    have hg : ∀ x, 1 ≤ x → x ≤ m → (l.take m).getD (m - x) 0 = l.getD (m - x) 0 := fun x h1 h2 => getD_take _ _ _ (by omega)
    have hc' : ∀ x, 1 ≤ x → x < k → runeStartB (l.getD (m - x) 0) = false := fun x h1 h2 => by
      have := (hc (k - x) (by omega) (by omega)).1
      rw [getD_drop', show p + (k - x) = m - x by omega] at this
      exact this
    have hs' : runeStartB (l.getD (m - k) 0) = true := by
      rw [getD_drop'] at hs
      rw [show m - k = p + 0 by omega]
      exact hs
    have hst : lastStart (l.take m) = p := by
      unfold lastStart
      simp only [hlen]
      rw [if_neg (by omega)]
      rcases (show k = 2 ∨ k = 3 ∨ k = 4 by omega) with rfl | rfl | rfl
      · rw [hg 2 (by omega) (by omega), hs', if_pos rfl]; omega
      · rw [hg 2 (by omega) (by omega), hc' 2 (by omega) (by omega), if_neg (by simp), if_neg (by omega), hg 3 (by omega) (by omega), hs', if_pos rfl]; omega
      · rw [hg 2 (by omega) (by omega), hc' 2 (by omega) (by omega), if_neg (by simp), if_neg (by omega), hg 3 (by omega) (by omega), hc' 3 (by omega) (by omega), if_neg (by simp), if_neg (by omega), hg 4 (by omega) (by omega), hs', if_pos rfl]; omega
    show (if lastStart (l.take m) + (decodeL ((l.take m).drop (lastStart (l.take m)))).2 = m then decodeL ((l.take m).drop (lastStart (l.take m))) else (Utf8.runeError, 1)).2 = k
    rw [hst, List.drop_take, show m - p = k by omega, dec_take (l.drop p) k hk2 (by omega), hk, if_pos hm, hk]

/-- One step's width and rune. -/
theorem dec_facts (s : ByteArray) (p : Nat) (h : p < s.size) :
    1 ≤ (Utf8.decode s p).2 ∧ (Utf8.decode s p).2 ≤ 4 ∧ p + (Utf8.decode s p).2 ≤ s.size ∧ (Utf8.decode s p).1 ≤ 1114111 ∧ ¬ (55296 ≤ (Utf8.decode s p).1 ∧ (Utf8.decode s p).1 ≤ 57343) := by
  rw [← decodeL_drop]
  have hne : s.data.toList.drop p ≠ [] := fun e => by have := congrArg List.length e; rw [List.length_drop, ← Lib.size_eq] at this; simp at this; omega
  have hle := decodeL_le _ hne
  rw [List.length_drop, ← Lib.size_eq] at hle
  have hpos := decodeL_width (s.data.toList.drop p)
  have hr := decodeL_rune (s.data.toList.drop p)
  refine ⟨hpos, ?_, by omega, hr, ?_⟩
  · rcases Nat.lt_or_ge (decodeL (s.data.toList.drop p)).2 2 with h' | h'
    · omega
    · exact (dec_bytes _ h').1
  · rw [decodeL_N]
    rcases decodeN_shape (s.data.toList.drop p).length ((s.data.toList.drop p).getD 0 0).toNat ((s.data.toList.drop p).getD 1 0).toNat ((s.data.toList.drop p).getD 2 0).toNat ((s.data.toList.drop p).getD 3 0).toNat with ⟨c, e⟩ | ⟨c1, c2, c3, cv, e⟩ | ⟨c1, c2, c3, c4, cv, cs, e⟩ | ⟨c1, c2, c3, c4, c5, cv, cw, e⟩ | e
    · rw [e]; simp only; omega
    · rw [e]; simp only; omega
    · rw [e]; simp only; omega
    · rw [e]; simp only; omega
    · rw [e]; simp only; omega
end Go.Proofs.YtklkbalbmeefjaaDoor
