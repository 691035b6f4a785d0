/-
  Plain laws on runes and lines: how many runes a text has, that a line's runes are the whole text's, and that the reading by runes comes to what the reading by lines says. No program in sight.
-/
import Derived.Test.YtlfgaikcdelknaaBindA
namespace Go.Proofs.Ytlfgaikcdelknaa
open Go.Lib
set_option linter.unusedVariables false
set_option linter.unusedSimpArgs false

/-- How many runes. -/
def cntF : Nat → List UInt8 → Nat
  | 0, _ => 0
  | n + 1, l => if l = [] then 0 else 1 + cntF n (l.drop (decodeL l).2)
def cnt (l : List UInt8) : Nat := cntF l.length l
theorem dl_pos (l : List UInt8) (h : l ≠ []) : 1 ≤ (decodeL l).2 ∧ (decodeL l).2 ≤ l.length := by
  refine ⟨?_, decodeL_le l h⟩
  rw [decodeL_N]
  unfold decodeN
  repeat' split
  all_goals (simp only []; omega)
theorem cntF_more : ∀ (n m : Nat) (l : List UInt8), l.length ≤ n → l.length ≤ m → cntF n l = cntF m l
  | 0, 0, l, _, _ => rfl
  | 0, m + 1, l, h, _ => by
    have : l = [] := List.length_eq_zero_iff.1 (by omega)
    simp [cntF, this]
  | n + 1, 0, l, _, h => by
    have : l = [] := List.length_eq_zero_iff.1 (by omega)
    simp [cntF, this]
  | n + 1, m + 1, l, h1, h2 => by
    unfold cntF
    by_cases e : l = []
    · rw [if_pos e, if_pos e]
    · rw [if_neg e, if_neg e]
      have h := dl_pos l e
      rw [cntF_more n m _ (by rw [List.length_drop]; omega) (by rw [List.length_drop]; omega)]
theorem cnt_nil : cnt [] = 0 := rfl
theorem cnt_step (l : List UInt8) (h : l ≠ []) : cnt l = 1 + cnt (l.drop (decodeL l).2) := by
  have hp := dl_pos l h
  unfold cnt
  obtain ⟨n, hn⟩ : ∃ n, l.length = n + 1 := ⟨l.length - 1, by omega⟩
  rw [hn]
  conv => lhs; unfold cntF
  rw [if_neg h, cntF_more n (l.drop (decodeL l).2).length _ (by rw [List.length_drop]; omega) (Nat.le_refl _)]
theorem cnt_le : ∀ (n : Nat) (l : List UInt8), l.length ≤ n → cnt l ≤ l.length
  | 0, l, h => by
    have : l = [] := List.length_eq_zero_iff.1 (by omega)
    simp [this, cnt_nil]
  | n + 1, l, h => by
    by_cases e : l = []
    · simp [e, cnt_nil]
    · have hp := dl_pos l e
      rw [cnt_step l e]
      have := cnt_le n (l.drop (decodeL l).2) (by rw [List.length_drop]; omega)
      rw [List.length_drop] at this
      omega
/-- What is behind a newline turns nothing ahead of it. -/
theorem take_N (l : List UInt8) (e i : Nat) (h : i < e) : (l.take e).getD i 0 = l.getD i 0 := by
  simp only [List.getD]
  rw [List.getElem?_take_of_lt h]
theorem take_O (l : List UInt8) (e i : Nat) (h : e ≤ i) : (l.take e).getD i 0 = 0 := by
  simp only [List.getD]
  rw [List.getElem?_eq_none (by rw [List.length_take]; omega)]
  rfl
theorem decN_cut (n e b0 b1 b2 b3 b1' b2' b3' : Nat) (he : 1 ≤ e) (hn : e ≤ n) (h1 : if e = 1 then b1' = 0 ∧ (n = 1 ∨ b1 = 10) else b1' = b1) (h2 : if e ≤ 2 then b2' = 0 ∧ (e = 2 → n = 2 ∨ b2 = 10) else b2' = b2) (h3 : if e ≤ 3 then b3' = 0 ∧ (e = 3 → n = 3 ∨ b3 = 10) else b3' = b3) :
    decodeN e b0 b1' b2' b3' = decodeN n b0 b1 b2 b3 := by
  have q1 : (1 < e ∧ b1' / 64 = 2) = (1 < n ∧ b1 / 64 = 2) := by
    by_cases c : e = 1
    · rw [if_pos c] at h1
      exact propext ⟨fun h => by omega, fun h => by omega⟩
    · rw [if_neg c] at h1
      subst h1
      exact propext ⟨fun h => ⟨by omega, h.2⟩, fun h => ⟨by omega, h.2⟩⟩
  by_cases c1 : e = 1
  · have z1 : (1 < n ∧ b1 / 64 = 2) = False := by
      rw [← q1]
      exact eq_false (fun h => by omega)
    unfold decodeN
    simp only [q1, z1, false_and, and_false, if_false]
  rw [if_neg c1] at h1
  subst h1
  have q2 : (2 < e ∧ b2' / 64 = 2) = (2 < n ∧ b2 / 64 = 2) := by
    by_cases c : e ≤ 2
    · rw [if_pos c] at h2
      have e2 : e = 2 := by omega
      have := h2.2 e2
      exact propext ⟨fun h => by omega, fun h => by omega⟩
    · rw [if_neg c] at h2
      subst h2
      exact propext ⟨fun h => ⟨by omega, h.2⟩, fun h => ⟨by omega, h.2⟩⟩
  by_cases c2 : e ≤ 2
  · have z2 : (2 < n ∧ b2 / 64 = 2) = False := by
      rw [← q2]
      exact eq_false (fun h => by omega)
    unfold decodeN
    simp only [q1, q2, z2, false_and, and_false, if_false]
  rw [if_neg c2] at h2
  subst h2
  have q3 : (3 < e ∧ b3' / 64 = 2) = (3 < n ∧ b3 / 64 = 2) := by
    by_cases c : e ≤ 3
    · rw [if_pos c] at h3
      have e3 : e = 3 := by omega
      have := h3.2 e3
      exact propext ⟨fun h => by omega, fun h => by omega⟩
    · rw [if_neg c] at h3
      subst h3
      exact propext ⟨fun h => ⟨by omega, h.2⟩, fun h => ⟨by omega, h.2⟩⟩
  by_cases c3 : e ≤ 3
  · have z3 : (3 < n ∧ b3 / 64 = 2) = False := by
      rw [← q3]
      exact eq_false (fun h => by omega)
    unfold decodeN
    simp only [q1, q2, q3, z3, false_and, and_false, if_false]
  rw [if_neg c3] at h3
  subst h3
  unfold decodeN
  simp only [q1, q2, q3]
theorem dec_line (l : List UInt8) (e : Nat) (he : 1 ≤ e) (hl : e ≤ l.length) (hn : e = l.length ∨ l[e]? = some 10) : decodeL (l.take e) = decodeL l := by
  have hg : e = l.length ∨ (l.getD e 0).toNat = 10 := by
    rcases hn with h | h
    · exact .inl h
    · right
      simp [List.getD, h]
  rw [decodeL_N, decodeL_N]
  have hlen : (l.take e).length = e := by rw [List.length_take]; omega
  rw [hlen, take_N l e 0 (by omega)]
  refine decN_cut _ _ _ _ _ _ _ _ _ he hl ?_ ?_ ?_
  · by_cases c : e = 1
    · rw [if_pos c, take_O l e 1 (by omega)]
      subst c
      exact ⟨rfl, hg.imp (fun h => h.symm) id⟩
    · rw [if_neg c, take_N l e 1 (by omega)]
  · by_cases c : e ≤ 2
    · rw [if_pos c, take_O l e 2 (by omega)]
      refine ⟨rfl, fun c2 => ?_⟩
      subst c2
      exact hg.imp (fun h => h.symm) id
    · rw [if_neg c, take_N l e 2 (by omega)]
  · by_cases c : e ≤ 3
    · rw [if_pos c, take_O l e 3 (by omega)]
      refine ⟨rfl, fun c2 => ?_⟩
      subst c2
      exact hg.imp (fun h => h.symm) id
    · rw [if_neg c, take_N l e 3 (by omega)]
theorem ten_head (l : List UInt8) (h : l ≠ []) : (decodeL l).1 = 10 ↔ l[0]? = some 10 := by
  obtain ⟨a, m, rfl⟩ := List.exists_cons_of_ne_nil h
  rw [decodeL_N]
  have h0 : ((a :: m).getD 0 0).toNat = a.toNat := rfl
  rw [h0]
  have ha := a.toNat_lt
  constructor
  · intro e
    have h1 : a.toNat = 10 := by
      unfold decodeN at e
      repeat' split at e
      all_goals (simp only [] at e; omega)
    show some a = some 10
    congr 1
    exact UInt8.toNat_inj.1 h1
  · intro e
    have e' : a = 10 := by injection e
    subst e'
    rfl
/-- The runes of a line from place p on, e its end. -/
theorem cnt_line (l : List UInt8) (p e : Nat) (hp : p < e) (he : e ≤ l.length) (hn : e = l.length ∨ l[e]? = some 10) :
    cnt ((l.drop p).take (e - p)) = 1 + cnt ((l.drop (p + (decodeL (l.drop p)).2)).take (e - (p + (decodeL (l.drop p)).2))) ∧ p + (decodeL (l.drop p)).2 ≤ e := by
  have hd : decodeL ((l.drop p).take (e - p)) = decodeL (l.drop p) := dec_line (l.drop p) (e - p) (by omega) (by rw [List.length_drop]; omega) (by
    rcases hn with h | h
    · left; rw [List.length_drop]; omega
    · right; rw [List.getElem?_drop, show p + (e - p) = e by omega]; exact h)
  have hne : (l.drop p).take (e - p) ≠ [] := by
    intro h
    have := congrArg List.length h
    rw [List.length_take, List.length_drop, List.length_nil] at this
    omega
  have hle := (dl_pos _ hne).2
  rw [hd, List.length_take, List.length_drop] at hle
  refine ⟨?_, by omega⟩
  rw [cnt_step _ hne, hd, List.drop_take, List.drop_drop]
  congr 3
  omega

/-! ### a line's end -/
theorem lineEnd_spec (src : ByteArray) (ls : Nat) (h : ls ≤ src.size) :
    ls ≤ lineEnd src ls ∧ lineEnd src ls ≤ src.size ∧ (lineEnd src ls = src.size ∨ src.data.toList[lineEnd src ls]? = some 10) ∧ ∀ p, ls ≤ p → p < lineEnd src ls → src.data.toList[p]? ≠ some 10 := by
  have hget : ∀ k, (src.extract ls src.size).data.toList[k]? = src.data.toList[ls + k]? := fun k => by
    rw [cut_data, List.take_of_length_le (by rw [List.length_drop, len_data]; exact Nat.le_refl _), List.getElem?_drop]
  unfold lineEnd
  by_cases c : indexByte (src.extract ls src.size).data.toList 10 < 0
  · rw [if_pos c]
    have hm : indexByte (src.extract ls src.size).data.toList 10 = -1 := by have := indexByte_ge (src.extract ls src.size).data.toList 10; omega
    refine ⟨h, Nat.le_refl _, .inl rfl, fun p hp _ e => ?_⟩
    have := indexByte_none hm (p - ls)
    rw [hget, show ls + (p - ls) = p by omega] at this
    exact this e
  · rw [if_neg c]
    obtain ⟨o, ho⟩ := Int.eq_ofNat_of_zero_le (show 0 ≤ indexByte (src.extract ls src.size).data.toList 10 by omega)
    rw [ho]
    obtain ⟨a1, a2⟩ := indexByte_some ho
    rw [hget] at a1
    have hlt := (List.getElem?_eq_some_iff.1 a1).1
    rw [len_data] at hlt
    refine ⟨by simp, by simp; omega, .inr a1, fun p hp hlt2 e => ?_⟩
    have := a2 (p - ls) (by simp at hlt2; omega)
    rw [hget, show ls + (p - ls) = p by omega] at this
    exact this e
theorem lineEnd_eq (src : ByteArray) (ls e : Nat) (h1 : ls ≤ e) (h2 : e ≤ src.size) (h3 : e = src.size ∨ src.data.toList[e]? = some 10) (h4 : ∀ p, ls ≤ p → p < e → src.data.toList[p]? ≠ some 10) : lineEnd src ls = e := by
  obtain ⟨a1, a2, a3, a4⟩ := lineEnd_spec src ls (by omega)
  rcases Nat.lt_trichotomy (lineEnd src ls) e with h | h | h
  · rcases a3 with a3 | a3
    · omega
    · exact absurd a3 (h4 _ a1 h)
  · exact h
  · rcases h3 with h3 | h3
    · omega
    · exact absurd h3 (a4 e h1 h)
/-- The model: line by line. -/
def modelGo (src : ByteArray) : Nat → Nat → Nat → Nat → Nat × Nat × Nat × Nat
  | 0, line, k, start => (line, k, start, lineEnd src start)
  | n + 1, line, k, start =>
    if k ≤ cnt (src.extract start (lineEnd src start)).data.toList ∨ lineEnd src start = src.size then (line, k, start, lineEnd src start)
    else modelGo src n (line + 1) (k - cnt (src.extract start (lineEnd src start)).data.toList - 1) (lineEnd src start + 1)
/-- Where the model looks: from where it is in the text, else the end. -/
def place (src : ByteArray) (f : Int) : Nat := if f < 0 ∨ (cnt src.data.toList : Int) < f then cnt src.data.toList else f.toNat
theorem scan_model (src : ByteArray) (f : Int) : ∀ (n m pos rc ls l c : Nat), src.size ≤ pos + n → src.size < ls + m → pos ≤ src.size → ls ≤ pos → pos ≤ lineEnd src ls →
    rc + cnt (src.data.toList.drop pos) = cnt src.data.toList → c + cnt ((src.data.toList.drop pos).take (lineEnd src ls - pos)) = cnt (src.extract ls (lineEnd src ls)).data.toList → rc ≤ place src f → c ≤ rc →
    ∃ S, scanB src f n pos rc ls l c = S ∧ modelGo src m l (place src f - rc + c) ls = (S.2.1, S.2.2, S.1, lineEnd src S.1) := by
  intro n
  induction n with
  | zero =>
    intro m pos rc ls l c h1 hm h2 h3 h4 h5 h6 h7 h8
    refine ⟨_, rfl, ?_⟩
    obtain ⟨m, rfl⟩ : ∃ x, m = x + 1 := ⟨m - 1, by omega⟩
    have e1 : pos = src.size := by omega
    obtain ⟨a1, a2, a3, a4⟩ := lineEnd_spec src ls (by omega)
    have e2 : lineEnd src ls = src.size := by omega
    have e3 : cnt (src.data.toList.drop pos) = 0 := by rw [List.drop_of_length_le (by rw [len_data]; omega)]; rfl
    have e4 : place src f ≤ cnt src.data.toList := by unfold place; split <;> omega
    unfold modelGo
    rw [if_pos (.inr e2)]
    rw [show place src f - rc + c = c by omega]
    rfl
  | succ n ih =>
    intro m pos rc ls l c h1 hm h2 h3 h4 h5 h6 h7 h8
    obtain ⟨m, rfl⟩ : ∃ x, m = x + 1 := ⟨m - 1, by omega⟩
    obtain ⟨a1, a2, a3, a4⟩ := lineEnd_spec src ls (by omega)
    have hpl : place src f ≤ cnt src.data.toList := by unfold place; split <;> omega
    by_cases hend : src.size ≤ pos
    · refine ⟨_, rfl, ?_⟩
      unfold scanB
      rw [if_pos hend]
      have e1 : pos = src.size := by omega
      have e2 : lineEnd src ls = src.size := by omega
      have e3 : cnt (src.data.toList.drop pos) = 0 := by rw [List.drop_of_length_le (by rw [len_data]; omega)]; rfl
      unfold modelGo
      rw [if_pos (.inr e2)]
      rw [show place src f - rc + c = c by omega]
    · have hne : src.data.toList.drop pos ≠ [] := by
        intro e
        have := congrArg List.length e
        rw [List.length_drop, len_data, List.length_nil] at this
        omega
      have hst := cnt_step _ hne
      by_cases hf : (rc : Int) = f
      · refine ⟨_, rfl, ?_⟩
        unfold scanB
        rw [if_neg hend, if_pos hf]
        have hp : place src f = rc := by unfold place; rw [if_neg (by omega)]; omega
        unfold modelGo
        rw [if_pos (.inl (by rw [hp]; omega)), hp, show rc - rc + c = c by omega]
      · have hp : rc < place src f := by
          have hu : place src f = cnt src.data.toList ∨ (place src f : Int) = f := by
            unfold place
            split
            · exact .inl rfl
            · right; omega
          rcases hu with hu | hu
          · omega
          · have : rc ≠ place src f := by intro e; rw [← e] at hu; exact hf hu
            omega
        have hdec : Utf8.decode src pos = decodeL (src.data.toList.drop pos) := (decodeL_drop src pos).symm
        have htl := hdec ▸ (dl_pos _ hne).2
        rw [List.length_drop, len_data] at htl
        by_cases h10 : (Utf8.decode src pos).1 = 10
        · have hw1 := ten_one src pos (by omega) h10
          have hn10 : src.data.toList[pos]? = some 10 := by
            have h := (ten_head _ hne).1 (by rw [← hdec]; exact h10)
            rw [List.getElem?_drop] at h
            exact h
          have hpe : pos = lineEnd src ls := by
            rcases Nat.lt_or_ge pos (lineEnd src ls) with h | h
            · exact absurd hn10 (a4 pos h3 h)
            · omega
          obtain ⟨b1, b2, b3, b4⟩ := lineEnd_spec src (pos + 1) (by omega)
          have hcz : c = cnt (src.extract ls (lineEnd src ls)).data.toList := by
            rw [← hpe, Nat.sub_self, List.take_zero, cnt_nil] at h6
            rw [← hpe]
            omega
          have hdw : (decodeL (src.data.toList.drop pos)).2 = 1 := by rw [← hdec]; exact hw1
          rw [hdw, List.drop_drop] at hst
          obtain ⟨S, hS1, hS2⟩ := ih m (pos + 1) (rc + 1) (pos + 1) (l + 1) 0 (by omega) (by omega) (by omega) (Nat.le_refl _) b1 (by omega) (by rw [Nat.zero_add, cut_data]) (by omega) (by omega)
          refine ⟨S, ?_, ?_⟩
          · unfold scanB
            rw [if_neg hend, if_neg hf, if_pos h10, hw1]
            exact hS1
          · unfold modelGo
            rw [if_neg (by rw [← hcz]; omega), ← hcz, ← hpe, ← hS2]
            congr 1
            omega
        · have hpe : pos < lineEnd src ls := by
            rcases Nat.lt_or_ge pos (lineEnd src ls) with h | h
            · exact h
            · exfalso
              have e : pos = lineEnd src ls := by omega
              rcases a3 with a3 | a3
              · omega
              · rw [← e] at a3
                exact h10 (by rw [hdec]; exact (ten_head _ hne).2 (by rw [List.getElem?_drop]; exact a3))
          obtain ⟨k1, k2⟩ := cnt_line src.data.toList pos (lineEnd src ls) hpe (by rw [len_data]; omega) (by rw [len_data]; exact a3)
          rw [← hdec] at k1 k2 hst
          rw [List.drop_drop] at hst
          have hw := (dl_pos _ hne).1
          rw [← hdec] at hw
          obtain ⟨S, hS1, hS2⟩ := ih (m + 1) (pos + (Utf8.decode src pos).2) (rc + 1) ls l (c + 1) (by omega) hm (by omega) (by omega) k2 (by omega) (by omega) (by omega) (by omega)
          refine ⟨S, ?_, ?_⟩
          · unfold scanB
            rw [if_neg hend, if_neg hf, if_neg h10]
            exact hS1
          · rw [← hS2]
            congr 1
            omega
theorem bind_model (src : ByteArray) (f : Int) : modelGo src (src.size + 1) 1 (place src f) 0 = ((scanB src f src.size 0 0 0 1 0).2.1, (scanB src f src.size 0 0 0 1 0).2.2, (scanB src f src.size 0 0 0 1 0).1, lineEnd src (scanB src f src.size 0 0 0 1 0).1) := by
  obtain ⟨a1, a2, a3, a4⟩ := lineEnd_spec src 0 (Nat.zero_le _)
  obtain ⟨S, h1, h2⟩ := scan_model src f src.size (src.size + 1) 0 0 0 1 0 (by omega) (by omega) (by omega) (by omega) a1 (by simp) (by rw [Nat.zero_add, cut_data]) (Nat.zero_le _) (Nat.le_refl _)
  rw [h1, ← h2]
  rfl
end Go.Proofs.Ytlfgaikcdelknaa
