/-
  The walk of the statement on unicode escapes: whole. Condition: utf8's two tables hold what their initialisers lay.
-/
import Derived.Test.YtncoodplmpgnbaaFmtWalkToB0
import Derived.Test.YtncoodplmpgnbaaFmtWalkToB1
import Derived.Test.YtncoodplmpgnbaaFmtWalkToC0
import Derived.Test.YtncoodplmpgnbaaFmtWalkToC1
namespace Go.Proofs.YtncoodplmpgnbaaFmt
open Go.RowKit Go.Lib Go.Shelf Go.Proofs
set_option linter.unusedVariables false
set_option linter.unusedSimpArgs false

set_option maxRecDepth 20000 in
theorem all6 (s : ByteArray) (r st : Int) (w : World) (hs : s.size ≤ maxLen) (h0 : 0 ≤ st) (h1 : st ≤ 255) (hT : TU w) :
    Calls Tryf.prog 6 #[.string s, .int .i32 r, .int .u8 st] w fun e w' => e = .returned (.bool true) ∧ Below w.heap.size w w' := by
  obtain ⟨st, rfl⟩ := Int.eq_ofNat_of_zero_le h0
  by_cases hb : s.size ≤ 1048576
  · have Z := hide (zz18_yes s r (st : Int) w hb)
    by_cases h2 : s.size ≤ 65536
    · by_cases hr0 : r < 0
      · have h2' : (s.size : Int) ≤ 65536 := by omega
        clear hs h0 h1 hT hb h2
        go_enter Tryf.func6, Tryf.ntmps6
        go_wp2_with fail
        refine Z.out.mono ?_
        rintro e w' ⟨rfl, rfl⟩
        go_wp2
        go_ret
        exact ⟨rfl, Below.refl _ _⟩
      · by_cases hr1 : 1114111 < r
        · have h2' : (s.size : Int) ≤ 65536 := by omega
          clear hs h0 h1 hT hb h2
          go_enter Tryf.func6, Tryf.ntmps6
          go_wp2_with fail
          refine Z.out.mono ?_
          rintro e w' ⟨rfl, rfl⟩
          go_wp2
          go_ret
          exact ⟨rfl, Below.refl _ _⟩
        · obtain ⟨z, rfl⟩ := Int.eq_ofNat_of_zero_le (show 0 ≤ r by omega)
          have hz : z ≤ 1114111 := by omega
          have hst : st ≤ 255 := by omega
          rcases (show st / 4 % 2 = 0 ∨ st / 4 % 2 = 1 by omega) with hu | hu
          · rcases (show st % 3 = 0 ∨ st % 3 = 1 ∨ st % 3 = 2 by omega) with hm | hm | hm
            · exact to_a0 s z st w h2 hz hst hT hm hu
            · exact to_b0 s z st w h2 hz hst hT hm hu
            · by_cases hl : z ≤ 65535
              · exact to_c0 s z st w h2 hz hst hT hm hu hl
              · exact to_d0 s z st w h2 hz hst hT hm hu (by omega)
          · rcases (show st % 3 = 0 ∨ st % 3 = 1 ∨ st % 3 = 2 by omega) with hm | hm | hm
            · exact to_a1 s z st w h2 hz hst hT hm hu
            · exact to_b1 s z st w h2 hz hst hT hm hu
            · by_cases hl : z ≤ 65535
              · exact to_c1 s z st w h2 hz hst hT hm hu hl
              · exact to_d1 s z st w h2 hz hst hT hm hu (by omega)
    · have h2' : (65536 : Int) < (s.size : Int) := by omega
      clear hs h0 h1 hT hb h2
      go_enter Tryf.func6, Tryf.ntmps6
      go_wp2_with fail
      refine Z.out.mono ?_
      rintro e w' ⟨rfl, rfl⟩
      go_wp2
      all_goals (first | (go_ret; exact ⟨rfl, Below.refl _ _⟩) | (exfalso; omega))
  · have Z := hide (zz18_no s r (st : Int) w (by omega) hs)
    clear hs h0 h1 hT hb
    go_enter Tryf.func6, Tryf.ntmps6
    go_wp2_with fail
    refine Z.out.mono ?_
    rintro e w' ⟨rfl, rfl⟩
    go_wp2
    go_ret
    exact ⟨rfl, Below.refl _ _⟩
end Go.Proofs.YtncoodplmpgnbaaFmt
