/-
  The walks of the two table statements (IsAlphabetic and IsAlphaNumeric on non-scalars, Latin-1 and the blocks of letters): each returns true at every int32. Conditions: the library's tables hold what their initialisers lay.
-/
import Derived.Test.YtihdiafgiibmdaaDoorFns
namespace Go.Proofs.YtihdiafgiibmdaaDoor
open Go.RowKit Go.Lib Go.Shelf Go.Proofs

theorem alpha_out (r : Int) (hlo : -2147483648 ≤ r) (hhi : r ≤ 2147483647) (h : outB r = true) : isAlphaU r = false := by
  have h' := (outB_iff r).1 h
  unfold isAlphaU
  rw [letter_out r hlo hhi h]
  simp
  omega
theorem alnum_out (r : Int) (hlo : -2147483648 ≤ r) (hhi : r ≤ 2147483647) (h : outB r = true) : isAlnumU r = false := by
  unfold isAlnumU
  rw [alpha_out r hlo hhi h, digit_out r hlo hhi h]
  rfl
theorem alpha_block (r : Int) (h : (256 ≤ r ∧ r ≤ 383) ∨ (44032 ≤ r ∧ r ≤ 55203)) : isAlphaU r = true := by
  unfold isAlphaU
  rw [letter_block r h]
  simp
theorem alnum_block (r : Int) (h : (256 ≤ r ∧ r ≤ 383) ∨ (44032 ≤ r ∧ r ≤ 55203)) : isAlnumU r = true := by
  unfold isAlnumU
  rw [alpha_block r h]
  rfl
theorem alpha_latin (r : Int) (h0 : 0 ≤ r) (h1 : r ≤ 255) (n1 : r ≠ 95) (n2 : r ≠ 36) : isAlphaU r = isLetterL r := by
  unfold isAlphaU
  rw [letter_latin r h0 h1]
  simp [n1, n2]
theorem alnum_latin (r : Int) (h0 : 0 ≤ r) (h1 : r ≤ 255) (n1 : r ≠ 95) (n2 : r ≠ 36) (n3 : ¬ (48 ≤ r ∧ r ≤ 57)) : isAlnumU r = isLetterL r := by
  unfold isAlnumU
  rw [alpha_latin r h0 h1 n1 n2]
  unfold isDigitU
  rw [if_pos h1]
  have : isDigitL r = false := by simp [isDigitL]; omega
  rw [this]
  simp
theorem alnum_digit (r : Int) (h : 48 ≤ r ∧ r ≤ 57) : isAlnumU r = true := by
  unfold isAlnumU isDigitU
  rw [if_pos (by omega)]
  have : isDigitL r = true := by simp [isDigitL]; omega
  rw [this]
  simp

theorem law8 (r : Int) (w : World) (hlo : -2147483648 ≤ r) (hhi : r ≤ 2147483647) (hL : TL w) :
    Calls Tryd.prog 8 #[.int .i32 r] w fun e w' => e = .returned (.bool true) ∧ Below w.heap.size w w' := by
  have H1 := fun w => hide (outside_any r w)
  have H2 := fun w => hide (block_any r w)
  have H3 := hide (isAlphabetic_any r w hlo hhi hL)
  have H4 := fun w => hide (latinModel_any r w)
  cases ho : outB r with
  | true =>
    rw [alpha_out r hlo hhi ho] at H3
    rw [ho] at H1
    clear ho
    go_enter Tryd.func8, Tryd.ntmps8
    go_wp2_with fail
    refine (H1 w).out.mono ?_
    rintro e w1 ⟨rfl, rfl⟩
    go_wp2_with fail
    all_goals
      refine (H2 w).out.mono ?_
      rintro e w1 ⟨rfl, rfl⟩
      go_wp2_with fail
      refine (H3).out.mono ?_
      rintro e w1 ⟨rfl, hb⟩
      go_wp2
      go_ret
      exact ⟨rfl, hb⟩
  | false =>
    have ho' : ¬ (r < 0 ∨ 1114111 < r ∨ (55296 ≤ r ∧ r ≤ 57343)) := fun h => by rw [(outB_iff r).2 h] at ho; cases ho
    rw [ho] at H1
    clear ho
    have h0 : 0 ≤ r := by omega
    by_cases h1 : r ≤ 255
    · have d1 : decide (r ≤ 255) = true := by simpa using h1
      rw [block_no r (by omega)] at H2
      by_cases n1 : r = 95
      · subst n1
        rw [show isAlphaU 95 = true from rfl] at H3
        clear ho'
        go_enter Tryd.func8, Tryd.ntmps8
        go_wp2_with fail
        refine (H1 w).out.mono ?_
        rintro e w1 ⟨rfl, rfl⟩
        go_wp2_with fail
        refine (H2 w).out.mono ?_
        rintro e w1 ⟨rfl, rfl⟩
        go_wp2_with fail
        refine (H3).out.mono ?_
        rintro e w1 ⟨rfl, hb⟩
        go_wp2
        go_ret
        exact ⟨rfl, hb⟩
      · by_cases n2 : r = 36
        · subst n2
          rw [show isAlphaU 36 = true from rfl] at H3
          clear ho'
          go_enter Tryd.func8, Tryd.ntmps8
          go_wp2_with fail
          refine (H1 w).out.mono ?_
          rintro e w1 ⟨rfl, rfl⟩
          go_wp2_with fail
          refine (H2 w).out.mono ?_
          rintro e w1 ⟨rfl, rfl⟩
          go_wp2_with fail
          refine (H3).out.mono ?_
          rintro e w1 ⟨rfl, hb⟩
          go_wp2
          go_ret
          exact ⟨rfl, hb⟩
        · rw [alpha_latin r h0 h1 n1 n2] at H3
          have e1 : (r == 95) = false := by simpa using n1
          have e2 : (r == 36) = false := by simpa using n2
          clear ho' n1 n2
          go_enter Tryd.func8, Tryd.ntmps8
          go_wp2_with fail
          refine (H1 w).out.mono ?_
          rintro e w1 ⟨rfl, rfl⟩
          go_wp2_with fail
          refine (H2 w).out.mono ?_
          rintro e w1 ⟨rfl, rfl⟩
          go_wp2_with fail
          refine (H3).out.mono ?_
          rintro e w1 ⟨rfl, hb⟩
          go_wp2_with fail
          refine (H4 w1).out.mono ?_
          rintro e w2 ⟨rfl, rfl⟩
          go_wp2
          go_ret
          exact ⟨by simp, hb⟩
    · have d1 : decide (r ≤ 255) = false := by simpa using h1
      by_cases h2 : (256 ≤ r ∧ r ≤ 383) ∨ (44032 ≤ r ∧ r ≤ 55203)
      · rw [block_yes r h2] at H2
        rw [alpha_block r h2] at H3
        clear ho' h2
        go_enter Tryd.func8, Tryd.ntmps8
        go_wp2_with fail
        refine (H1 w).out.mono ?_
        rintro e w1 ⟨rfl, rfl⟩
        go_wp2_with fail
        refine (H2 w).out.mono ?_
        rintro e w1 ⟨rfl, rfl⟩
        go_wp2_with fail
        refine (H3).out.mono ?_
        rintro e w1 ⟨rfl, hb⟩
        go_wp2
        go_ret
        exact ⟨rfl, hb⟩
      · rw [block_no r h2] at H2
        clear ho' h2
        go_enter Tryd.func8, Tryd.ntmps8
        go_wp2_with fail
        refine (H1 w).out.mono ?_
        rintro e w1 ⟨rfl, rfl⟩
        go_wp2_with fail
        refine (H2 w).out.mono ?_
        rintro e w1 ⟨rfl, rfl⟩
        go_wp2
        go_ret
        exact ⟨rfl, Below.refl _ _⟩
theorem law7 (r : Int) (w : World) (hlo : -2147483648 ≤ r) (hhi : r ≤ 2147483647) (hL : TL w) (hD : TD w) :
    Calls Tryd.prog 7 #[.int .i32 r] w fun e w' => e = .returned (.bool true) ∧ Below w.heap.size w w' := by
  have H1 := fun w => hide (outside_any r w)
  have H2 := fun w => hide (block_any r w)
  have H3 := hide (isAlphaNumeric_any r w hlo hhi hL hD)
  have H4 := fun w => hide (latinModel_any r w)
  cases ho : outB r with
  | true =>
    rw [alnum_out r hlo hhi ho] at H3
    rw [ho] at H1
    clear ho
    go_enter Tryd.func7, Tryd.ntmps7
    go_wp2_with fail
    refine (H1 w).out.mono ?_
    rintro e w1 ⟨rfl, rfl⟩
    go_wp2_with fail
    all_goals
      refine (H2 w).out.mono ?_
      rintro e w1 ⟨rfl, rfl⟩
      go_wp2_with fail
      refine (H3).out.mono ?_
      rintro e w1 ⟨rfl, hb⟩
      go_wp2
      go_ret
      exact ⟨rfl, hb⟩
  | false =>
    have ho' : ¬ (r < 0 ∨ 1114111 < r ∨ (55296 ≤ r ∧ r ≤ 57343)) := fun h => by rw [(outB_iff r).2 h] at ho; cases ho
    rw [ho] at H1
    clear ho
    have h0 : 0 ≤ r := by omega
    by_cases h1 : r ≤ 255
    · have d1 : decide (r ≤ 255) = true := by simpa using h1
      rw [block_no r (by omega)] at H2
      by_cases n1 : r = 95
      · subst n1
        rw [show isAlnumU 95 = true from rfl] at H3
        clear ho'
        go_enter Tryd.func7, Tryd.ntmps7
        go_wp2_with fail
        refine (H1 w).out.mono ?_
        rintro e w1 ⟨rfl, rfl⟩
        go_wp2_with fail
        refine (H2 w).out.mono ?_
        rintro e w1 ⟨rfl, rfl⟩
        go_wp2_with fail
        refine (H3).out.mono ?_
        rintro e w1 ⟨rfl, hb⟩
        go_wp2
        go_ret
        exact ⟨rfl, hb⟩
      · by_cases n2 : r = 36
        · subst n2
          rw [show isAlnumU 36 = true from rfl] at H3
          clear ho'
          go_enter Tryd.func7, Tryd.ntmps7
          go_wp2_with fail
          refine (H1 w).out.mono ?_
          rintro e w1 ⟨rfl, rfl⟩
          go_wp2_with fail
          refine (H2 w).out.mono ?_
          rintro e w1 ⟨rfl, rfl⟩
          go_wp2_with fail
          refine (H3).out.mono ?_
          rintro e w1 ⟨rfl, hb⟩
          go_wp2
          go_ret
          exact ⟨rfl, hb⟩
        · have e1 : (r == 95) = false := by simpa using n1
          have e2 : (r == 36) = false := by simpa using n2
          by_cases n3 : 48 ≤ r ∧ r ≤ 57
          · rw [alnum_digit r n3] at H3
            obtain ⟨n3, n4⟩ := n3
            have d4 : decide (r ≤ 57) = true := by simpa using n4
            clear ho' n1 n2
            go_enter Tryd.func7, Tryd.ntmps7
            go_wp2_with fail
            refine (H1 w).out.mono ?_
            rintro e w1 ⟨rfl, rfl⟩
            go_wp2_with fail
            refine (H2 w).out.mono ?_
            rintro e w1 ⟨rfl, rfl⟩
            go_wp2_with fail
            refine (H3).out.mono ?_
            rintro e w1 ⟨rfl, hb⟩
            go_wp2
            go_ret
            exact ⟨rfl, hb⟩
          · rw [alnum_latin r h0 h1 n1 n2 n3] at H3
            by_cases n4 : 48 ≤ r
            · have d4 : decide (r ≤ 57) = false := by simp; omega
              clear n3
              clear ho' n1 n2
              go_enter Tryd.func7, Tryd.ntmps7
              go_wp2_with fail
              refine (H1 w).out.mono ?_
              rintro e w1 ⟨rfl, rfl⟩
              go_wp2_with fail
              refine (H2 w).out.mono ?_
              rintro e w1 ⟨rfl, rfl⟩
              go_wp2_with fail
              refine (H3).out.mono ?_
              rintro e w1 ⟨rfl, hb⟩
              go_wp2_with fail
              refine (H4 w1).out.mono ?_
              rintro e w2 ⟨rfl, rfl⟩
              go_wp2
              go_ret
              exact ⟨by simp, hb⟩
            · clear n3
              clear ho' n1 n2
              go_enter Tryd.func7, Tryd.ntmps7
              go_wp2_with fail
              refine (H1 w).out.mono ?_
              rintro e w1 ⟨rfl, rfl⟩
              go_wp2_with fail
              refine (H2 w).out.mono ?_
              rintro e w1 ⟨rfl, rfl⟩
              go_wp2_with fail
              refine (H3).out.mono ?_
              rintro e w1 ⟨rfl, hb⟩
              go_wp2_with fail
              refine (H4 w1).out.mono ?_
              rintro e w2 ⟨rfl, rfl⟩
              go_wp2
              go_ret
              exact ⟨by simp, hb⟩
    · have d1 : decide (r ≤ 255) = false := by simpa using h1
      by_cases h2 : (256 ≤ r ∧ r ≤ 383) ∨ (44032 ≤ r ∧ r ≤ 55203)
      · rw [block_yes r h2] at H2
        rw [alnum_block r h2] at H3
        clear ho' h2
        go_enter Tryd.func7, Tryd.ntmps7
        go_wp2_with fail
        refine (H1 w).out.mono ?_
        rintro e w1 ⟨rfl, rfl⟩
        go_wp2_with fail
        refine (H2 w).out.mono ?_
        rintro e w1 ⟨rfl, rfl⟩
        go_wp2_with fail
        refine (H3).out.mono ?_
        rintro e w1 ⟨rfl, hb⟩
        go_wp2
        go_ret
        exact ⟨rfl, hb⟩
      · rw [block_no r h2] at H2
        clear ho' h2
        go_enter Tryd.func7, Tryd.ntmps7
        go_wp2_with fail
        refine (H1 w).out.mono ?_
        rintro e w1 ⟨rfl, rfl⟩
        go_wp2_with fail
        refine (H2 w).out.mono ?_
        rintro e w1 ⟨rfl, rfl⟩
        go_wp2
        go_ret
        exact ⟨rfl, Below.refl _ _⟩
end Go.Proofs.YtihdiafgiibmdaaDoor
