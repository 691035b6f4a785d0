/-
  The walks of the two statements on identifiers: a scalar value opens an identifier exactly when IsAlphabetic says so, and continues one exactly when IsAlphaNumeric says so. Conditions: the library's tables hold what their initialisers lay.
-/
import Derived.Test.YtihdiafgiibmdaaDoorEnc
import Derived.Test.YtihdiafgiibmdaaDoorIdent
import Derived.Test.YtihdiafgiibmdaaDoorWalksB
namespace Go.Proofs.YtihdiafgiibmdaaDoor
open Go.RowKit Go.Lib Go.Shelf Go.Proofs
set_option linter.unusedSimpArgs false

theorem dl_ascii (b : UInt8) (t : List UInt8) (h : b.toNat < 128) : decodeL (b :: t) = (b.toNat, 1) := by
  rw [decodeL_N]
  unfold decodeN
  rw [if_pos (by simpa using h)]
  simp
theorem rest_one (m : Nat) (b : UInt8) (hb : b.toNat < 128) (h : isAlnumU (b.toNat : Int) = true) : restOk (m + 1) [b] = true := by
  unfold restOk
  rw [if_neg (by simp), dl_ascii b [] hb, h]
  simp [restOk_nil]
theorem rest_two (m : Nat) : restOk (m + 2) [95, 48] = true := by
  unfold restOk
  rw [if_neg (by simp), dl_ascii 95 [48] (by decide)]
  have h1 : isAlnumU ((95 : UInt8).toNat : Int) = true := by decide
  rw [h1]
  exact rest_one m 48 (by decide) (by decide)
theorem enc_ne (r : Int) : encodeRune r ≠ [] := by
  have h := (encodeRuneZ_length r).1
  intro e
  have := congrArg List.length e
  simp [encodeRune] at this
  rw [this] at h
  simp at h
theorem head_law (z : Nat) (h1 : z ≤ 1114111) (h2 : ¬ (55296 ≤ z ∧ z ≤ 57343)) : validId (encodeRune z ++ [95, 48]) = isAlphaU z := by
  have hd := decode_encode z (by omega) (by omega) (by omega) [95, 48]
  unfold validId
  rw [if_neg (by simp [enc_ne]), hd]
  have e : (encodeRune z ++ [95, 48]).length = (encodeRune z).length + 2 := by simp
  rw [e]
  simp [rest_two]
theorem tail_law (z : Nat) (h1 : z ≤ 1114111) (h2 : ¬ (55296 ≤ z ∧ z ≤ 57343)) : validId ([95] ++ encodeRune z ++ [57]) = isAlnumU z := by
  have hd := decode_encode z (by omega) (by omega) (by omega) [57]
  obtain ⟨m, hm⟩ : ∃ m, (encodeRune z).length = m + 1 := ⟨(encodeRune z).length - 1, by have := List.length_pos_iff.2 (enc_ne z); omega⟩
  have e0 : [95] ++ encodeRune z ++ [57] = 95 :: (encodeRune z ++ [57]) := by simp
  unfold validId
  rw [e0, if_neg (by simp), dl_ascii 95 _ (by decide)]
  have h1 : isAlphaU ((95 : UInt8).toNat : Int) = true := by decide
  have e : (95 :: (encodeRune z ++ [57])).length = m + 2 + 1 := by simp [hm]
  rw [h1, e]
  show (true && restOk (m + 2 + 1) (encodeRune z ++ [57])) = _
  unfold restOk
  rw [if_neg (by simp), hd]
  simp [show restOk (m + 2) [57] = true from rest_one (m + 1) 57 (by decide) (by decide)]

theorem law4 (r : Int) (w : World) (hlo : -2147483648 ≤ r) (hhi : r ≤ 2147483647) (hU : TU w) (hL : TL w) (hD : TD w) :
    Calls Tryd.prog 4 #[.int .i32 r] w fun e w' => e = .returned (.bool true) ∧ Below w.heap.size w w' := by
  have H1 := fun w => hide (outside_any r w)
  cases ho : outB r with
  | true =>
    rw [ho] at H1
    clear ho
    go_enter Tryd.func4, Tryd.ntmps4
    go_wp2_with fail
    refine (H1 w).out.mono ?_
    rintro e w1 ⟨rfl, rfl⟩
    go_wp2
    go_ret
    exact ⟨rfl, Below.refl _ _⟩
  | false =>
    have ho' : ¬ (r < 0 ∨ 1114111 < r ∨ (55296 ≤ r ∧ r ≤ 57343)) := fun h => by rw [(outB_iff r).2 h] at ho; cases ho
    rw [ho] at H1
    clear ho
    obtain ⟨z, rfl⟩ := Int.eq_ofNat_of_zero_le (show 0 ≤ r by omega)
    have HE := hide (enc_any z w (by omega) (by omega))
    have hv := hide (head_law z (by omega) (by omega))
    have hl : (encodeRune z).length ≤ 4 := by have := (encodeRuneZ_length z).2; simpa [encodeRune] using this
    have HA := fun w hT => hide (isAlphabetic_any (z : Int) w hlo hhi hT)
    have HV := fun s w hs hU hL hD => hide (valid_any s w hs hU hL hD)
    obtain ⟨B, hB⟩ : ∃ B, encodeRune z = B := ⟨_, rfl⟩
    rw [hB] at HE hv hl
    clear ho' hB
    go_enter Tryd.func4, Tryd.ntmps4
    go_wp2_with fail
    refine (H1 w).out.mono ?_
    rintro e w1 ⟨rfl, rfl⟩
    go_wp2_with fail
    refine HE.out.mono ?_
    rintro e w1 ⟨rfl, hb1⟩
    have hU1 := hU.below hb1
    have hL1 := hL.below hb1
    have hD1 := hD.below hb1
    obtain ⟨s, hs⟩ : ∃ s, ((⟨B.toArray⟩ : ByteArray) ++ (⟨#[95, 48]⟩ : ByteArray)) = s := ⟨_, rfl⟩
    have hsL : s.data.toList = B ++ [95, 48] := by rw [← hs]; simp [ByteArray.data_append]
    have hsz : s.size ≤ 9223372036854775807 := by rw [Lib.size_eq, hsL]; simp; omega
    rw [← hsL] at hv
    have HV1 := HV s w1 hsz hU1 hL1 hD1
    rw [hv.out] at HV1
    have hs' := hide hs
    clear hs hsL HV
    go_wp2_with fail
    rw [hs'.out]
    refine HV1.out.mono ?_
    rintro e w2 ⟨rfl, hb2⟩
    have hL2 := hL1.below hb2
    go_wp2_with fail
    refine (HA w2 hL2).out.mono ?_
    rintro e w3 ⟨rfl, hb3⟩
    go_wp2
    go_ret
    have b2 := hb1.trans (hb2.mono hb1.size)
    exact ⟨by simp, b2.trans (hb3.mono b2.size)⟩

theorem law6 (r : Int) (w : World) (hlo : -2147483648 ≤ r) (hhi : r ≤ 2147483647) (hU : TU w) (hL : TL w) (hD : TD w) :
    Calls Tryd.prog 6 #[.int .i32 r] w fun e w' => e = .returned (.bool true) ∧ Below w.heap.size w w' := by
  have H1 := fun w => hide (outside_any r w)
  have HA := hide (isAlphabetic_any r w hlo hhi hL)
  have HN := fun w hL hD => hide (isAlphaNumeric_any r w hlo hhi hL hD)
  have HV := fun s w hs hU hL hD => hide (valid_any s w hs hU hL hD)
  -- what follows the first test, from whichever world it leaves
  have rest : ∀ (z : Nat) (w1 : World), r = z → ¬ (r < 0 ∨ 1114111 < r ∨ (55296 ≤ r ∧ r ≤ 57343)) → Hid (∃ (B : List UInt8) (s : ByteArray), Hid (((⟨#[95]⟩ : ByteArray) ++ (⟨B.toArray⟩ : ByteArray)) ++ (⟨#[57]⟩ : ByteArray) = s) ∧ B.length ≤ 4 ∧ s.size ≤ 9223372036854775807 ∧ Hid (validId s.data.toList = isAlnumU r) ∧
      Hid (Calls Tryd.prog 12 #[.int .i32 r] w1 fun e w' => e = .returned (.string ⟨B.toArray⟩) ∧ Below w1.heap.size w1 w')) := by
    intro z w1 hz ho'
    subst hz
    have HE := hide (enc_any z w1 (by omega) (by omega))
    have hv := tail_law z (by omega) (by omega)
    have hl : (encodeRune z).length ≤ 4 := by have := (encodeRuneZ_length z).2; simpa [encodeRune] using this
    refine hide ⟨encodeRune z, ((⟨#[95]⟩ : ByteArray) ++ (⟨(encodeRune z).toArray⟩ : ByteArray)) ++ (⟨#[57]⟩ : ByteArray), rfl, hl, ?_, ?_, HE⟩
    · rw [Lib.size_eq]; simp [ByteArray.data_append]; omega
    · unfold Hid; rw [← hv]; simp [ByteArray.data_append]
  cases ho : outB r with
  | true =>
    rw [alpha_out r hlo hhi ho] at HA
    rw [ho] at H1
    clear ho rest
    go_enter Tryd.func6, Tryd.ntmps6
    go_wp2_with fail
    refine HA.out.mono ?_
    rintro e w1 ⟨rfl, hb1⟩
    go_wp2_with fail
    refine (H1 w1).out.mono ?_
    rintro e w2 ⟨rfl, rfl⟩
    go_wp2
    go_ret
    exact ⟨rfl, hb1⟩
  | false =>
    have ho' : ¬ (r < 0 ∨ 1114111 < r ∨ (55296 ≤ r ∧ r ≤ 57343)) := fun h => by rw [(outB_iff r).2 h] at ho; cases ho
    rw [ho] at H1
    obtain ⟨z, hz⟩ := Int.eq_ofNat_of_zero_le (show 0 ≤ r by omega)
    have rest' := fun w1 => rest z w1 hz ho'
    clear ho ho' hz rest
    cases ha : isAlphaU r with
    | true =>
      have hn : isAlnumU r = true := by unfold isAlnumU; rw [ha]; rfl
      rw [ha] at HA
      rw [hn] at HN rest'
      clear ha hn
      go_enter Tryd.func6, Tryd.ntmps6
      go_wp2_with fail
      refine HA.out.mono ?_
      rintro e w1 ⟨rfl, hb1⟩
      have hU1 := hU.below hb1
      have hL1 := hL.below hb1
      have hD1 := hD.below hb1
      go_wp2_with fail
      refine (HN w1 hL1 hD1).out.mono ?_
      rintro e w2 ⟨rfl, hb2⟩
      have hU2 := hU1.below hb2
      have hL2 := hL1.below hb2
      have hD2 := hD1.below hb2
      have b2 := hb1.trans (hb2.mono hb1.size)
      go_wp2_with fail
      refine (H1 w2).out.mono ?_
      rintro e w3 ⟨rfl, rfl⟩
      obtain ⟨B, s, hs, hl, hsz, hv, HE⟩ := (rest' w2).out
      go_wp2_with fail
      refine HE.out.mono ?_
      rintro e w3 ⟨rfl, hb3⟩
      have hU3 := hU2.below hb3
      have hL3 := hL2.below hb3
      have hD3 := hD2.below hb3
      have HV1 := HV s w3 hsz hU3 hL3 hD3
      rw [hv.out] at HV1
      have b3 := b2.trans (hb3.mono b2.size)
      clear HV rest'
      go_wp2_with fail
      rw [hs.out]
      refine HV1.out.mono ?_
      rintro e w4 ⟨rfl, hb4⟩
      have hL4 := hL3.below hb4
      have hD4 := hD3.below hb4
      have b4 := b3.trans (hb4.mono b3.size)
      go_wp2_with fail
      refine (HN w4 hL4 hD4).out.mono ?_
      rintro e w5 ⟨rfl, hb5⟩
      go_wp2
      go_ret
      exact ⟨rfl, b4.trans (hb5.mono b4.size)⟩
    | false =>
      rw [ha] at HA
      clear ha
      obtain ⟨N, hN⟩ : ∃ N, isAlnumU r = N := ⟨_, rfl⟩
      rw [hN] at HN rest'
      clear hN
      go_enter Tryd.func6, Tryd.ntmps6
      go_wp2_with fail
      refine HA.out.mono ?_
      rintro e w2 ⟨rfl, b2⟩
      have hU2 := hU.below b2
      have hL2 := hL.below b2
      have hD2 := hD.below b2
      go_wp2_with fail
      refine (H1 w2).out.mono ?_
      rintro e w3 ⟨rfl, rfl⟩
      obtain ⟨B, s, hs, hl, hsz, hv, HE⟩ := (rest' w2).out
      go_wp2_with fail
      refine HE.out.mono ?_
      rintro e w3 ⟨rfl, hb3⟩
      have hU3 := hU2.below hb3
      have hL3 := hL2.below hb3
      have hD3 := hD2.below hb3
      have HV1 := HV s w3 hsz hU3 hL3 hD3
      rw [hv.out] at HV1
      have b3 := b2.trans (hb3.mono b2.size)
      clear HV rest'
      go_wp2_with fail
      rw [hs.out]
      refine HV1.out.mono ?_
      rintro e w4 ⟨rfl, hb4⟩
      have hL4 := hL3.below hb4
      have hD4 := hD3.below hb4
      have b4 := b3.trans (hb4.mono b3.size)
      go_wp2_with fail
      refine (HN w4 hL4 hD4).out.mono ?_
      rintro e w5 ⟨rfl, hb5⟩
      go_wp2
      go_ret
      exact ⟨by simp, b4.trans (hb5.mono b4.size)⟩
end Go.Proofs.YtihdiafgiibmdaaDoor
