/-
  Plain laws under the six statements on identifier characters: what the table search says on a whole interval at once; spaces are no letters and no digits; what is no code point is no letter and no digit; a rune's UTF-8 form decodes to that rune. No program in sight. No condition beyond the bounds that each theorem names.
-/
import Derived.Lib.IsU
import Derived.Lib.MapLaws
import Derived.Lib.RuneBytes
import Derived.Shelf.Unicode.IsSpaceAny
import Derived.KernelRfl
namespace Go.Proofs.YtihdiafgiibmdaaDoor
open Go.Lib
set_option maxRecDepth 100000

/-- The binary search's answer for every number from a to b at once, where each comparison comes out alike for all of them. -/
def binIv (T : Array Rg) (a b : Nat) : Nat → Nat → Nat → Option Bool
  | 0, _, _ => some false
  | f + 1, lo, hi =>
    if lo < hi then
      (if (T.getD ((lo + hi) / 2) (0, 0, 0)).1 ≤ a ∧ b ≤ (T.getD ((lo + hi) / 2) (0, 0, 0)).2.1 ∧ (T.getD ((lo + hi) / 2) (0, 0, 0)).2.2 = 1 then some true
       else if b < (T.getD ((lo + hi) / 2) (0, 0, 0)).1 then binIv T a b f lo ((lo + hi) / 2)
       else if (T.getD ((lo + hi) / 2) (0, 0, 0)).1 ≤ a ∧ (T.getD ((lo + hi) / 2) (0, 0, 0)).2.1 < a then binIv T a b f ((lo + hi) / 2 + 1) hi
       else none)
    else some false

theorem binIv_spec {T : Array Rg} {a b r : Nat} (ha : a ≤ r) (hb : r ≤ b) : ∀ (f lo hi : Nat) (v : Bool), binIv T a b f lo hi = some v → binGo T r f lo hi = v := by
  intro f
  induction f with
  | zero => intro lo hi v h; simpa [binIv, binGo] using h
  | succ f ih =>
    intro lo hi v h
    unfold binIv at h
    unfold binGo
    by_cases hl : lo < hi
    · rw [if_pos hl] at h ⊢
      obtain ⟨x, hx⟩ : ∃ x, T.getD ((lo + hi) / 2) (0, 0, 0) = x := ⟨_, rfl⟩
      rw [hx] at h ⊢
      by_cases c1 : x.1 ≤ a ∧ b ≤ x.2.1 ∧ x.2.2 = 1
      · rw [if_pos c1] at h
        rw [if_pos ⟨by omega, by omega⟩]
        simp at h
        subst h
        simp [Rg.has, c1.2.2]
      · rw [if_neg c1] at h
        by_cases c2 : b < x.1
        · rw [if_pos c2] at h
          rw [if_neg (by omega), if_pos (by omega)]
          exact ih _ _ v h
        · rw [if_neg c2] at h
          by_cases c3 : x.1 ≤ a ∧ x.2.1 < a
          · rw [if_pos c3] at h
            rw [if_neg (by omega), if_neg (by omega)]
            exact ih _ _ v h
          · rw [if_neg c3] at h
            cases h
    · rw [if_neg hl] at h ⊢
      simpa using h

theorem u32Of_nat (z : Nat) (h : z < 4294967296) : u32Of (z : Int) = z := by unfold u32Of; omega

theorem excl16 (T : RTab) (a b z : Nat) (v : Bool) (h0 : 255 < a) (h1 : a ≤ z) (h2 : z ≤ b) (h3 : b < 65536) (c1 : T.off < T.r16.size) (c2 : b ≤ (T.r16.getD (T.r16.size - 1) (0, 0, 0)).2.1)
    (c3 : 18 < (T.r16.extract T.off T.r16.size).size) (hq : binIv (T.r16.extract T.off T.r16.size) a b ((T.r16.extract T.off T.r16.size).size + 1) 0 (T.r16.extract T.off T.r16.size).size = some v) :
    exclGo T (z : Int) = v := by
  have e := binIv_spec h1 h2 _ _ _ v hq
  unfold exclGo
  rw [u32Of_nat z (by omega), if_pos ⟨c1, by omega⟩, Nat.mod_eq_of_lt (by omega)]
  unfold is16Go
  rw [if_neg (by omega)]
  exact e

theorem exclNeg (T : RTab) (r : Int) (hr : r < 0) (hlo : -2147483648 ≤ r) (c2 : (T.r16.getD (T.r16.size - 1) (0, 0, 0)).2.1 < 65536) : exclGo T r = false := by
  unfold exclGo
  have hu : 65536 ≤ u32Of r := by unfold u32Of; omega
  rw [if_neg (by omega), if_neg (by omega)]

theorem exclBig (T : RTab) (z : Nat) (h : 1114111 < z) (hz : z ≤ 2147483647) (c2 : (T.r16.getD (T.r16.size - 1) (0, 0, 0)).2.1 < 65536) (c3 : 18 < T.r32.size)
    (hq : binIv T.r32 1114112 2147483647 (T.r32.size + 1) 0 T.r32.size = some false) : exclGo T (z : Int) = false := by
  have e := binIv_spec (show 1114112 ≤ z by omega) hz _ _ _ false hq
  unfold exclGo
  rw [u32Of_nat z (by omega), if_neg (by omega)]
  split
  · unfold is32Go
    rw [if_neg (by omega)]
    exact e
  · rfl

theorem letterLast : (letterT.r16.getD (letterT.r16.size - 1) (0, 0, 0)).2.1 = 65500 := by kernel_rfl
theorem digitLast : (digitT.r16.getD (digitT.r16.size - 1) (0, 0, 0)).2.1 = 65305 := by kernel_rfl
theorem letterOff : letterT.off < letterT.r16.size := by decide +kernel
theorem digitOff : digitT.off < digitT.r16.size := by decide +kernel
theorem letterEx : 18 < (letterT.r16.extract letterT.off letterT.r16.size).size := by decide +kernel
theorem digitEx : 18 < (digitT.r16.extract digitT.off digitT.r16.size).size := by decide +kernel
theorem letter32 : 18 < letterT.r32.size := by decide +kernel
theorem digit32 : 18 < digitT.r32.size := by decide +kernel
theorem letterSur : binIv (letterT.r16.extract letterT.off letterT.r16.size) 55296 57343 ((letterT.r16.extract letterT.off letterT.r16.size).size + 1) 0 (letterT.r16.extract letterT.off letterT.r16.size).size = some false := by kernel_rfl
theorem digitSur : binIv (digitT.r16.extract digitT.off digitT.r16.size) 55296 57343 ((digitT.r16.extract digitT.off digitT.r16.size).size + 1) 0 (digitT.r16.extract digitT.off digitT.r16.size).size = some false := by kernel_rfl
theorem letterHangul : binIv (letterT.r16.extract letterT.off letterT.r16.size) 44032 55203 ((letterT.r16.extract letterT.off letterT.r16.size).size + 1) 0 (letterT.r16.extract letterT.off letterT.r16.size).size = some true := by kernel_rfl
theorem letterExtA : binIv (letterT.r16.extract letterT.off letterT.r16.size) 256 383 ((letterT.r16.extract letterT.off letterT.r16.size).size + 1) 0 (letterT.r16.extract letterT.off letterT.r16.size).size = some true := by kernel_rfl
theorem letterBig : binIv letterT.r32 1114112 2147483647 (letterT.r32.size + 1) 0 letterT.r32.size = some false := by kernel_rfl
theorem digitBig : binIv digitT.r32 1114112 2147483647 (digitT.r32.size + 1) 0 digitT.r32.size = some false := by kernel_rfl

/-- Not a Unicode scalar value. -/
def outB (r : Int) : Bool := decide (r < 0) || decide (1114111 < r) || (decide (55296 ≤ r) && decide (r ≤ 57343))
theorem outB_iff (r : Int) : outB r = true ↔ (r < 0 ∨ 1114111 < r ∨ (55296 ≤ r ∧ r ≤ 57343)) := by simp [outB, or_assoc]

theorem outB_yes (r : Int) (h : r < 0 ∨ 1114111 < r ∨ (55296 ≤ r ∧ r ≤ 57343)) : outB r = true := (outB_iff r).2 h
theorem outB_no (r : Int) (h : ¬ (r < 0 ∨ 1114111 < r ∨ (55296 ≤ r ∧ r ≤ 57343))) : outB r = false := by
  cases e : outB r with
  | false => rfl
  | true => exact absurd ((outB_iff r).1 e) h
/-- The two blocks that are all letters. -/
def blockB (r : Int) : Bool := (decide (256 ≤ r) && decide (r ≤ 383)) || (decide (44032 ≤ r) && decide (r ≤ 55203))
theorem block_yes (r : Int) (h : (256 ≤ r ∧ r ≤ 383) ∨ (44032 ≤ r ∧ r ≤ 55203)) : blockB r = true := by simp [blockB]; omega
theorem block_no (r : Int) (h : ¬ ((256 ≤ r ∧ r ≤ 383) ∨ (44032 ≤ r ∧ r ≤ 55203))) : blockB r = false := by simp [blockB]; omega
theorem letterL_yes (r : Int) (h : (65 ≤ r ∧ r ≤ 90) ∨ (97 ≤ r ∧ r ≤ 122) ∨ r = 170 ∨ r = 181 ∨ r = 186 ∨ (192 ≤ r ∧ r ≤ 214) ∨ (216 ≤ r ∧ r ≤ 246) ∨ (248 ≤ r ∧ r ≤ 255)) : true = isLetterL r := by
  simp [isLetterL, isUpperL, isLowerL]; omega
theorem letterL_no (r : Int) (h : ¬ ((65 ≤ r ∧ r ≤ 90) ∨ (97 ≤ r ∧ r ≤ 122) ∨ r = 170 ∨ r = 181 ∨ r = 186 ∨ (192 ≤ r ∧ r ≤ 214) ∨ (216 ≤ r ∧ r ≤ 246) ∨ (248 ≤ r ∧ r ≤ 255))) : false = isLetterL r := by
  symm; simp [isLetterL, isUpperL, isLowerL]; omega
theorem letter_not_latin (r : Int) (h : r < 0 ∨ 255 < r) : isLetterU r = exclGo letterT r := by
  unfold isLetterU
  have hl : latin1 r = false := by simp [latin1]; omega
  rw [hl]; rfl
theorem letter_out (r : Int) (hlo : -2147483648 ≤ r) (hhi : r ≤ 2147483647) (h : outB r = true) : isLetterU r = false := by
  rw [outB_iff] at h
  rw [letter_not_latin r (by omega)]
  rcases h with h | h | h
  · exact exclNeg _ r h hlo (by rw [letterLast]; omega)
  · obtain ⟨z, rfl⟩ := Int.eq_ofNat_of_zero_le (show 0 ≤ r by omega)
    exact exclBig _ z (by omega) (by omega) (by rw [letterLast]; omega) letter32 letterBig
  · obtain ⟨z, rfl⟩ := Int.eq_ofNat_of_zero_le (show 0 ≤ r by omega)
    exact excl16 _ 55296 57343 z false (by omega) (by omega) (by omega) (by omega) letterOff (by rw [letterLast]; omega) letterEx letterSur
theorem digit_out (r : Int) (hlo : -2147483648 ≤ r) (hhi : r ≤ 2147483647) (h : outB r = true) : isDigitU r = false := by
  rw [outB_iff] at h
  unfold isDigitU
  rcases h with h | h | h
  · rw [if_pos (by omega)]; simp [isDigitL]; omega
  · rw [if_neg (by omega)]
    obtain ⟨z, rfl⟩ := Int.eq_ofNat_of_zero_le (show 0 ≤ r by omega)
    exact exclBig _ z (by omega) (by omega) (by rw [digitLast]; omega) digit32 digitBig
  · rw [if_neg (by omega)]
    obtain ⟨z, rfl⟩ := Int.eq_ofNat_of_zero_le (show 0 ≤ r by omega)
    exact excl16 _ 55296 57343 z false (by omega) (by omega) (by omega) (by omega) digitOff (by rw [digitLast]; omega) digitEx digitSur
theorem letter_block (r : Int) (h : (256 ≤ r ∧ r ≤ 383) ∨ (44032 ≤ r ∧ r ≤ 55203)) : isLetterU r = true := by
  rw [letter_not_latin r (by omega)]
  obtain ⟨z, rfl⟩ := Int.eq_ofNat_of_zero_le (show 0 ≤ r by omega)
  rcases h with h | h
  · exact excl16 _ 256 383 z true (by omega) (by omega) (by omega) (by omega) letterOff (by rw [letterLast]; omega) letterEx letterExtA
  · exact excl16 _ 44032 55203 z true (by omega) (by omega) (by omega) (by omega) letterOff (by rw [letterLast]; omega) letterEx letterHangul
theorem letter_latin (r : Int) (h0 : 0 ≤ r) (h1 : r ≤ 255) : isLetterU r = isLetterL r := by
  unfold isLetterU
  have hl : latin1 r = true := by simp [latin1]; omega
  rw [hl]; rfl

theorem spaceZ_yes (r : Int) (h : (9 ≤ r ∧ r ≤ 13) ∨ r = 32 ∨ r = 133 ∨ r = 160 ∨ r = 5760 ∨ (8192 ≤ r ∧ r ≤ 8202) ∨ r = 8232 ∨ r = 8233 ∨ r = 8239 ∨ r = 8287 ∨ r = 12288) : true = isSpaceZ r := by
  unfold isSpaceZ
  rw [if_pos (by omega)]
  simp [isSpaceR]
  omega
theorem spaceZ_no (r : Int) (h : ¬ ((9 ≤ r ∧ r ≤ 13) ∨ r = 32 ∨ r = 133 ∨ r = 160 ∨ r = 5760 ∨ (8192 ≤ r ∧ r ≤ 8202) ∨ r = 8232 ∨ r = 8233 ∨ r = 8239 ∨ r = 8287 ∨ r = 12288)) : false = isSpaceZ r := by
  unfold isSpaceZ
  split
  · symm
    simp [isSpaceR]
    omega
  · rfl
/-- A space is none of these. -/
theorem spaces_not : ∀ z ∈ [(9 : Nat), 10, 11, 12, 13, 32, 133, 160, 5760, 8192, 8193, 8194, 8195, 8196, 8197, 8198, 8199, 8200, 8201, 8202, 8232, 8233, 8239, 8287, 12288], isLetterU (z : Int) = false ∧ isDigitU (z : Int) = false := by
  decide +kernel
theorem space_mem (z : Nat) (h : isSpaceR z = true) : z ∈ [(9 : Nat), 10, 11, 12, 13, 32, 133, 160, 5760, 8192, 8193, 8194, 8195, 8196, 8197, 8198, 8199, 8200, 8201, 8202, 8232, 8233, 8239, 8287, 12288] := by
  simp [isSpaceR] at h
  simp
  omega
theorem space_not (r : Int) (h : isSpaceZ r = true) : isLetterU r = false ∧ isDigitU r = false ∧ r ≠ 95 ∧ r ≠ 36 := by
  unfold isSpaceZ at h
  split at h
  · obtain ⟨z, rfl⟩ := Int.eq_ofNat_of_zero_le (show 0 ≤ r by omega)
    have hm := space_mem z (by simpa using h)
    obtain ⟨a, b⟩ := spaces_not z hm
    simp at hm
    exact ⟨a, b, by omega, by omega⟩
  · cases h

/-- A rune's UTF-8 form decodes to the rune, whatever follows. -/
theorem decode_encode (r : Int) (h0 : 0 ≤ r) (h1 : r ≤ 1114111) (h2 : ¬ (55296 ≤ r ∧ r ≤ 57343)) (l : List UInt8) : decodeL (encodeRune r ++ l) = (r.toNat, (encodeRune r).length) := by
  obtain ⟨z, rfl⟩ := Int.eq_ofNat_of_zero_le h0
  rw [decodeL_N]
  unfold encodeRune
  by_cases c1 : (z : Int) ≤ 127
  · rw [encodeRuneZ_one h0 c1]
    simp only [List.map_cons, List.map_nil, List.cons_append, List.nil_append, List.getD_cons_zero, List.length_cons, List.length_nil]
    have e0 : ((z : Int).toNat.toUInt8).toNat = z := by simp; omega
    rw [e0]
    unfold decodeN
    rw [if_pos (by omega)]
    simp
  · by_cases c2 : (z : Int) ≤ 2047
    · rw [encodeRuneZ_two (by omega) c2]
      simp only [List.map_cons, List.map_nil, List.cons_append, List.nil_append, List.getD_cons_zero, List.getD_cons_succ, List.length_cons, List.length_nil]
      have e0 : ((192 + (z : Int) / 64).toNat.toUInt8).toNat = 192 + z / 64 := by simp; omega
      have e1 : ((128 + (z : Int) % 64).toNat.toUInt8).toNat = 128 + z % 64 := by simp; omega
      rw [e0, e1]
      unfold decodeN
      rw [if_neg (by omega), if_pos (by omega), if_pos (by omega)]
      simp; omega
    · by_cases c3 : (z : Int) ≤ 65535
      · rw [encodeRuneZ_three (by omega)]
        simp only [List.map_cons, List.map_nil, List.cons_append, List.nil_append, List.getD_cons_zero, List.getD_cons_succ, List.length_cons, List.length_nil]
        have e0 : ((224 + (z : Int) / 4096).toNat.toUInt8).toNat = 224 + z / 4096 := by simp; omega
        have e1 : ((128 + (z : Int) / 64 % 64).toNat.toUInt8).toNat = 128 + z / 64 % 64 := by simp; omega
        have e2 : ((128 + (z : Int) % 64).toNat.toUInt8).toNat = 128 + z % 64 := by simp; omega
        rw [e0, e1, e2]
        unfold decodeN
        rw [if_neg (by omega), if_neg (by omega), if_pos (by omega), if_pos (by omega)]
        simp; omega
      · rw [encodeRuneZ_four (by omega) (by omega)]
        simp only [List.map_cons, List.map_nil, List.cons_append, List.nil_append, List.getD_cons_zero, List.getD_cons_succ, List.length_cons, List.length_nil]
        have e0 : ((240 + (z : Int) / 262144).toNat.toUInt8).toNat = 240 + z / 262144 := by simp; omega
        have e1 : ((128 + (z : Int) / 4096 % 64).toNat.toUInt8).toNat = 128 + z / 4096 % 64 := by simp; omega
        have e2 : ((128 + (z : Int) / 64 % 64).toNat.toUInt8).toNat = 128 + z / 64 % 64 := by simp; omega
        have e3 : ((128 + (z : Int) % 64).toNat.toUInt8).toNat = 128 + z % 64 := by simp; omega
        rw [e0, e1, e2, e3]
        unfold decodeN
        rw [if_neg (by omega), if_neg (by omega), if_neg (by omega), if_pos (by omega), if_pos (by omega)]
        simp; omega
end Go.Proofs.YtihdiafgiibmdaaDoor
