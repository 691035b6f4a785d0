/-
  Contracts of the small functions on runes that the six statements call, over this dump: IsSpace, IsAlphabetic, IsAlphaNumeric and the laws' own models, at every int32. Conditions: the library's tables hold what their initialisers lay.
-/
import Derived.Test.YtihdiafgiibmdaaDoorShelf
import Derived.Test.YtihdiafgiibmdaaDoorPlain
import Derived.WalkKit
import Derived.Handy
namespace Go.Proofs.YtihdiafgiibmdaaDoor
open Go.RowKit Go.Lib Go.Shelf Go.Proofs

theorem hide {p : Prop} (h : p) : Hid p := h
theorem ret_b {a b : Bool} (h : a = b) : Ending.returned (.bool a) = .returned (.bool b) := by rw [h]

theorem gProps : Tryd.prog.globalNamed "unicode.properties" = some (Tryd.lays200_ren.g 7) := by kernel_rfl

/-- The tables that IsLetter reads. -/
def TL (w : World) : Prop := TabIs Tryd.prog w "unicode.properties" .u8 propertiesTab ∧ RVar (Tryd.lays200_ren.g 8) letterT w
/-- The table that IsDigit reads. -/
def TD (w : World) : Prop := RVar (Tryd.lays198_ren.g 5) digitT w
/-- The table that IsSpace reads. -/
def TW (w : World) : Prop := WhiteTab (Tryd.lays199_ren.g 6) w
/-- The tables that DecodeRuneInString reads. -/
def TU (w : World) : Prop := Utf8Tabs (Tryd.lays197_ren.g 3) (Tryd.lays197_ren.g 4) w

theorem cell_below' {w w' : World} (hb : Below w.heap.size w w') {a : Addr} {v : Value} (hc : w.cell? a = some v) : w'.cell? a = some v := (hb.cell (World.block_lt_of_cell? w a hc)).trans hc
theorem RTabAt_below' {Tb oT : Nat} {T : RTab} {w w' : World} (h : RTabAt Tb oT T w) (hb : Below w.heap.size w w') : RTabAt Tb oT T w' := by
  obtain ⟨a16, a32, R16, o16, c16, R32, o32, c32, k0, k1, k2, h1, h2, t1, t2, hc⟩ := h
  exact ⟨a16, a32, R16, o16, c16, R32, o32, c32, cell_below' hb k0, cell_below' hb k1, cell_below' hb k2, h1, h2, RgTab_below t1 hb, RgTab_below t2 hb, hc⟩
theorem RVar_below' {g : Nat} {T : RTab} {w w' : World} (h : RVar g T w) (hb : Below w.heap.size w w') : RVar g T w' := by
  obtain ⟨Tb, oT, hp, hA⟩ := h
  exact ⟨Tb, oT, cell_below' hb hp, RTabAt_below' hA hb⟩
theorem TabIs_below' {P : Program} {n : String} {g : Nat} {k : IntKind} {zs : List Int} {w w' : World} (hg : P.globalNamed n = some g) (h : TabIs P w n k zs) (hb : Below w.heap.size w w') : TabIs P w' n k zs := by
  unfold TabIs World.var? at h ⊢
  rw [hg] at h ⊢
  simp only [Option.bind_some] at h ⊢
  have hlt : g < w.heap.size := by
    rcases Nat.lt_or_ge g w.heap.size with h' | h'
    · exact h'
    · rw [Array.getElem?_eq_none h'] at h; cases h
  rw [hb.block g hlt]
  exact h
theorem TL.below {w w' : World} (h : TL w) (hb : Below w.heap.size w w') : TL w' := ⟨TabIs_below' gProps h.1 hb, RVar_below' h.2 hb⟩
theorem TD.below {w w' : World} (h : TD w) (hb : Below w.heap.size w w') : TD w' := RVar_below' h hb
theorem TW.below {w w' : World} (h : TW w) (hb : Below w.heap.size w w') : TW w' := WhiteTab_below h hb
theorem TU.below {w w' : World} (h : TU w) (hb : Below w.heap.size w w') : TU w' := Utf8Tabs_below h hb

def isAlphaU (r : Int) : Bool := r == 95 || r == 36 || isLetterU r
def isAlnumU (r : Int) : Bool := isAlphaU r || isDigitU r

theorem isLetter_any (r : Int) (w : World) (hlo : -2147483648 ≤ r) (hhi : r ≤ 2147483647) (hT : TL w) :
    Calls Tryd.prog 20 #[.int .i32 r] w fun e w' => e = .returned (.bool (isLetterU r)) ∧ Below w.heap.size w w' :=
  Any.unicode_IsLetter_any Tryd.lays200 gProps letterT r w hlo hhi hT.1 hT.2 letterT_ok
theorem isDigit_any (r : Int) (w : World) (hlo : -2147483648 ≤ r) (hhi : r ≤ 2147483647) (hT : TD w) :
    Calls Tryd.prog 21 #[.int .i32 r] w fun e w' => e = .returned (.bool (isDigitU r)) ∧ Below w.heap.size w w' :=
  Any.unicode_IsDigit_any Tryd.lays198 digitT r w hlo hhi hT digitT_ok
theorem uniSpace_any (r : Int) (w : World) (hlo : -2147483648 ≤ r) (hhi : r ≤ 2147483647) (hT : TW w) :
    Calls Tryd.prog 18 #[.int .i32 r] w fun e w' => e = .returned (.bool (isSpaceZ r)) ∧ Below w.heap.size w w' :=
  Any.unicode_IsSpace_any Tryd.lays199 r w hlo hhi hT

/-- utils.IsSpace. -/
theorem isSpace_any (r : Int) (w : World) (hlo : -2147483648 ≤ r) (hhi : r ≤ 2147483647) (hT : TW w) :
    Calls Tryd.prog 9 #[.int .i32 r] w fun e w' => e = .returned (.bool (isSpaceZ r)) ∧ Below w.heap.size w w' := by
  have c := uniSpace_any r w hlo hhi hT
  have H := hide c
  clear c
  go_enter Tryd.func9, Tryd.ntmps9
  go_wp2_with fail
  refine (H.out).mono ?_
  rintro e w' ⟨rfl, hb⟩
  go_wp2
  go_ret
  exact ⟨rfl, hb⟩

/-- utils.IsAlphabetic. -/
theorem isAlphabetic_any (r : Int) (w : World) (hlo : -2147483648 ≤ r) (hhi : r ≤ 2147483647) (hT : TL w) :
    Calls Tryd.prog 14 #[.int .i32 r] w fun e w' => e = .returned (.bool (isAlphaU r)) ∧ Below w.heap.size w w' := by
  by_cases h1 : r = 95
  · subst h1
    go_enter Tryd.func14, Tryd.ntmps14
    go_wp2
    go_ret
    exact ⟨rfl, Below.refl _ _⟩
  · by_cases h2 : r = 36
    · subst h2
      go_enter Tryd.func14, Tryd.ntmps14
      go_wp2
      go_ret
      exact ⟨rfl, Below.refl _ _⟩
    · have e1 : (r == 95) = false := by simpa using h1
      have e2 : (r == 36) = false := by simpa using h2
      have H := hide (isLetter_any r w hlo hhi hT)
      have he : Hid (isAlphaU r = isLetterU r) := by unfold isAlphaU; rw [e1, e2]; rfl
      clear h1 h2
      go_enter Tryd.func14, Tryd.ntmps14
      go_wp2_with fail
      refine (H.out).mono ?_
      rintro e w' ⟨rfl, hb⟩
      go_wp2
      go_ret
      exact ⟨ret_b he.out.symm, hb⟩

/-- utils.IsAlphaNumeric. -/
theorem isAlphaNumeric_any (r : Int) (w : World) (hlo : -2147483648 ≤ r) (hhi : r ≤ 2147483647) (hT : TL w) (hD : TD w) :
    Calls Tryd.prog 15 #[.int .i32 r] w fun e w' => e = .returned (.bool (isAlnumU r)) ∧ Below w.heap.size w w' := by
  have HA := hide (isAlphabetic_any r w hlo hhi hT)
  cases ha : isAlphaU r with
  | true =>
    have he : Hid (isAlnumU r = true) := by unfold Hid isAlnumU; rw [ha]; rfl
    rw [ha] at HA
    clear ha
    go_enter Tryd.func15, Tryd.ntmps15
    go_wp2_with fail
    refine (HA.out).mono ?_
    rintro e w' ⟨rfl, hb⟩
    go_wp2
    go_ret
    exact ⟨ret_b he.out.symm, hb⟩
  | false =>
    have he : Hid (isAlnumU r = isDigitU r) := by unfold Hid isAlnumU; rw [ha]; rfl
    rw [ha] at HA
    clear ha
    go_enter Tryd.func15, Tryd.ntmps15
    go_wp2_with fail
    refine (HA.out).mono ?_
    rintro e w1 ⟨rfl, hb⟩
    have HD := hide (isDigit_any r w1 hlo hhi (hD.below hb))
    go_wp2_with fail
    refine (HD.out).mono ?_
    rintro e w2 ⟨rfl, hb2⟩
    go_wp2
    go_ret
    exact ⟨ret_b he.out.symm, hb.trans (hb2.mono hb.size)⟩

/-- The law's own table of spaces. -/
theorem whiteModel_any (r : Int) (w : World) : Calls Tryd.prog 10 #[.int .i32 r] w fun e w' => e = .returned (.bool (isSpaceZ r)) ∧ w = w' := by
  go_enter Tryd.func10, Tryd.ntmps10
  go_wp2
  all_goals
    go_ret
    refine ⟨ret_b ?_, rfl⟩
    try simp only [beq_iff_eq, beq_eq_false_iff_ne] at *
    first | exact spaceZ_yes r (by omega) | exact spaceZ_no r (by omega)

/-- The law's own test for what is no scalar value. -/
theorem outside_any (r : Int) (w : World) : Calls Tryd.prog 11 #[.int .i32 r] w fun e w' => e = .returned (.bool (outB r)) ∧ w = w' := by
  by_cases h0 : r < 0
  · have he := hide (outB_yes r (by omega))
    go_enter Tryd.func11, Tryd.ntmps11
    go_wp2
    go_ret
    exact ⟨ret_b he.out.symm, rfl⟩
  · by_cases h1 : 1114111 < r
    · have he := hide (outB_yes r (by omega))
      go_enter Tryd.func11, Tryd.ntmps11
      go_wp2
      go_ret
      exact ⟨ret_b he.out.symm, rfl⟩
    · have d0 : decide (r < 0) = false := by simpa using h0
      have d1 : decide (1114111 < r) = false := by simpa using h1
      by_cases h2 : 55296 ≤ r
      · by_cases h3 : r ≤ 57343
        · have he := hide (outB_yes r (by omega))
          have d3 : decide (r ≤ 57343) = true := by simpa using h3
          go_enter Tryd.func11, Tryd.ntmps11
          go_wp2
          go_ret
          exact ⟨ret_b he.out.symm, rfl⟩
        · have he := hide (outB_no r (by omega))
          have d3 : decide (r ≤ 57343) = false := by simpa using h3
          go_enter Tryd.func11, Tryd.ntmps11
          go_wp2
          go_ret
          exact ⟨ret_b he.out.symm, rfl⟩
      · have he := hide (outB_no r (by omega))
        go_enter Tryd.func11, Tryd.ntmps11
        go_wp2
        go_ret
        exact ⟨ret_b he.out.symm, rfl⟩

/-- The law's two blocks of letters. -/
theorem block_any (r : Int) (w : World) : Calls Tryd.prog 16 #[.int .i32 r] w fun e w' => e = .returned (.bool (blockB r)) ∧ w = w' := by
  have fin : ∀ b : Bool, Hid (blockB r = b) → Ending.returned (.bool b) = .returned (.bool (blockB r)) := fun b h => by rw [h.out]
  by_cases h0 : 256 ≤ r
  · by_cases h1 : r ≤ 383
    · have he := hide (block_yes r (by omega))
      have d1 : decide (r ≤ 383) = true := by simpa using h1
      go_enter Tryd.func16, Tryd.ntmps16
      go_wp2
      go_ret
      exact ⟨ret_b he.out.symm, rfl⟩
    · have d1 : decide (r ≤ 383) = false := by simpa using h1
      by_cases h2 : 44032 ≤ r
      · by_cases h3 : r ≤ 55203
        · have he := hide (block_yes r (by omega))
          have d3 : decide (r ≤ 55203) = true := by simpa using h3
          go_enter Tryd.func16, Tryd.ntmps16
          go_wp2
          go_ret
          exact ⟨ret_b he.out.symm, rfl⟩
        · have he := hide (block_no r (by omega))
          have d3 : decide (r ≤ 55203) = false := by simpa using h3
          go_enter Tryd.func16, Tryd.ntmps16
          go_wp2
          go_ret
          exact ⟨ret_b he.out.symm, rfl⟩
      · have he := hide (block_no r (by omega))
        go_enter Tryd.func16, Tryd.ntmps16
        go_wp2
        go_ret
        exact ⟨ret_b he.out.symm, rfl⟩
  · have he := hide (block_no r (by omega))
    go_enter Tryd.func16, Tryd.ntmps16
    go_wp2
    go_ret
    exact ⟨ret_b he.out.symm, rfl⟩

/-- The law's own table of Latin-1 letters. -/
theorem latinModel_any (r : Int) (w : World) : Calls Tryd.prog 17 #[.int .i32 r] w fun e w' => e = .returned (.bool (isLetterL r)) ∧ w = w' := by
  go_enter Tryd.func17, Tryd.ntmps17
  go_wp2
  all_goals
    go_ret
    refine ⟨ret_b ?_, rfl⟩
    try simp only [beq_iff_eq, beq_eq_false_iff_ne] at *
    first | exact letterL_yes r (by omega) | exact letterL_no r (by omega)

end Go.Proofs.YtihdiafgiibmdaaDoor
