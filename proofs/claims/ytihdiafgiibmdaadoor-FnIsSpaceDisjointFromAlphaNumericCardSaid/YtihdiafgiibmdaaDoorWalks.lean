/-
  The walks of four statements: the table of spaces, spaces against identifier characters, and the two tables on non-scalars, Latin-1 and the blocks of letters: each returns true at every int32. Conditions: the library's tables hold what their initialisers lay.
-/
import Derived.Test.YtihdiafgiibmdaaDoorFns
namespace Go.Proofs.YtihdiafgiibmdaaDoor
open Go.RowKit Go.Lib Go.Shelf Go.Proofs

theorem law3 (r : Int) (w : World) (hlo : -2147483648 ≤ r) (hhi : r ≤ 2147483647) (hT : TW w) :
    Calls Tryd.prog 3 #[.int .i32 r] w fun e w' => e = .returned (.bool true) ∧ Below w.heap.size w w' := by
  have H1 := hide (isSpace_any r w hlo hhi hT)
  go_enter Tryd.func3, Tryd.ntmps3
  go_wp2_with fail
  refine (H1.out).mono ?_
  rintro e w1 ⟨rfl, hb⟩
  have H2 := hide (whiteModel_any r w1)
  go_wp2_with fail
  refine (H2.out).mono ?_
  rintro e w2 ⟨rfl, rfl⟩
  go_wp2
  go_ret
  exact ⟨by simp, hb⟩

theorem law5 (r : Int) (w : World) (hlo : -2147483648 ≤ r) (hhi : r ≤ 2147483647) (hT : TW w) (hL : TL w) (hD : TD w) :
    Calls Tryd.prog 5 #[.int .i32 r] w fun e w' => e = .returned (.bool true) ∧ Below w.heap.size w w' := by
  have H1 := fun w hT => hide (isSpace_any r w hlo hhi hT)
  cases hs : isSpaceZ r with
  | false =>
    rw [hs] at H1
    clear hs
    go_enter Tryd.func5, Tryd.ntmps5
    go_wp2_with fail
    refine (H1 w hT).out.mono ?_
    rintro e w1 ⟨rfl, hb⟩
    have hT1 := hT.below hb
    go_wp2_with fail
    refine (H1 w1 hT1).out.mono ?_
    rintro e w2 ⟨rfl, hb2⟩
    go_wp2
    go_ret
    exact ⟨rfl, hb.trans (hb2.mono hb.size)⟩
  | true =>
    rw [hs] at H1
    obtain ⟨n1, n2, n3, n4⟩ := space_not r hs
    have ea : isAlphaU r = false := by unfold isAlphaU; rw [n1]; simp [n3, n4]
    have en : isAlnumU r = false := by unfold isAlnumU; rw [ea, n2]; rfl
    have HA := fun w hL => hide (isAlphabetic_any r w hlo hhi hL)
    have HN := fun w hL hD => hide (isAlphaNumeric_any r w hlo hhi hL hD)
    rw [ea] at HA
    rw [en] at HN
    clear hs ea en n1 n2 n3 n4
    go_enter Tryd.func5, Tryd.ntmps5
    go_wp2_with fail
    refine (H1 w hT).out.mono ?_
    rintro e w1 ⟨rfl, hb1⟩
    have hT1 := hT.below hb1
    have hL1 := hL.below hb1
    have hD1 := hD.below hb1
    go_wp2_with fail
    refine (HN w1 hL1 hD1).out.mono ?_
    rintro e w2 ⟨rfl, hb2⟩
    have hT2 := hT1.below hb2
    have hL2 := hL1.below hb2
    go_wp2_with fail
    refine (H1 w2 hT2).out.mono ?_
    rintro e w3 ⟨rfl, hb3⟩
    have hL3 := hL2.below hb3
    go_wp2_with fail
    refine (HA w3 hL3).out.mono ?_
    rintro e w4 ⟨rfl, hb4⟩
    go_wp2
    go_ret
    have b2 := hb1.trans (hb2.mono hb1.size)
    have b3 := b2.trans (hb3.mono b2.size)
    exact ⟨rfl, b3.trans (hb4.mono b3.size)⟩

end Go.Proofs.YtihdiafgiibmdaaDoor
