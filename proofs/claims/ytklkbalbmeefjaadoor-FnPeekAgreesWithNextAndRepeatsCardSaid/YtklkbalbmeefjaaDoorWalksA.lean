/-
  Walks of the statements on peek and next. Conditions: utf8's two tables hold what their initialisers lay.
-/
import Derived.Test.YtklkbalbmeefjaaDoorLexB
import Derived.Test.YtklkbalbmeefjaaDoorPlainD
namespace Go.Proofs.YtklkbalbmeefjaaDoor
open Go.RowKit Go.Lib Go.Shelf Go.Proofs
set_option linter.unusedVariables false

/-- The lexer's block below the next world, whatever was written to it alone. -/
theorem below_only {w0 w w' : World} {b : Nat} (h : Below w0.heap.size w0 w) (hg : w.grownBy w' (some b)) (hb : w0.heap.size ≤ b) : Below w0.heap.size w0 w' :=
  h.grown hg h.size (fun k hk => by cases hk; exact hb)

theorem big3 (s : ByteArray) (w : World) (hs : 1048576 < s.size) (hm : s.size ≤ 9223372036854775807) :
    Calls Tryd.prog 3 #[.string s] w fun e w' => e = .returned (.bool true) ∧ Below w.heap.size w w' := by
  have hs' : (1048576 : Int) < (s.size : Int) := by omega
  clear hs
  go_enter Tryd.func3, Tryd.ntmps3
  go_wp2
  go_ret
  exact ⟨rfl, Below.refl _ _⟩

theorem law3 (s : ByteArray) (w : World) (hs : s.size ≤ 1048576) (hU : TU w) :
    Calls Tryd.prog 3 #[.string s] w fun e w' => e = .returned (.bool true) ∧ Below w.heap.size w w' := by
  have hs' : (s.size : Int) ≤ 1048576 := by omega
  have HN := hide (new_any s w)
  go_enter Tryd.func3, Tryd.ntmps3
  go_wp2_with (first | (go_at_call 12; refine HN.out.mono ?_; rintro e w1 ⟨b, rfl, hb0, hx, hb1⟩) | go_in)
  have hx1 := hide hx
  clear hx HN
  go_loopw [4] (fun st wr => ∃ p c : Nat, st = .int .i64 c ∧ c ≤ p ∧ p ≤ s.size ∧ Hid (Lx wr b s 0 0 p c false) ∧ Below w.heap.size w wr) (fun st _ => s.size + 2 - (RowKit.intOf st).toNat)
  case atStart => exact ⟨0, 0, rfl, by omega, by omega, hx1, hb1⟩
  case round =>
    obtain ⟨p, c, rfl, hc, hp, hL, hbw⟩ := hrel
    have hcs : (c : Int) ≤ (s.size : Int) := by omega
    by_cases hlt : p < s.size
    · obtain ⟨d1, d2, d3, d4, d5⟩ := dec_facts s p hlt
      have HP := fun w hL hU => hide (zpeek_in w b s 0 0 c p false hL hlt hs hU)
      have HX := fun w hL hU => hide (znext_in w b s 0 0 p c false hL hlt hs (by omega) hU)
      obtain ⟨R, hR⟩ : ∃ R, (Utf8.decode s p).1 = R := ⟨_, rfl⟩
      obtain ⟨K, hK⟩ : ∃ K, (Utf8.decode s p).2 = K := ⟨_, rfl⟩
      rw [hR] at HP d4 d5
      rw [hR, hK] at HX
      rw [hK] at d1 d2 d3
      clear hR hK d5 hlt
      have hR1 : ((R : Int) == -1) = false := by rw [beq_eq_false_iff_ne]; omega
      go_wp2_with fail
      refine (HP wr hL.out (hU.below hbw)).out.mono ?_
      rintro e w2 ⟨rfl, hb2⟩
      have hL2 := hide (hL.out.below hb2)
      have hbw2 := hbw.trans (hb2.mono hbw.size)
      go_wp2_with fail
      refine (HP w2 hL2.out (hU.below hbw2)).out.mono ?_
      rintro e w3 ⟨rfl, hb3⟩
      have hL3 := hide (hL2.out.below hb3)
      have hbw3 := hbw2.trans (hb3.mono hbw2.size)
      go_wp2_with fail
      refine (HX w3 hL3.out (hU.below hbw3)).out.mono ?_
      rintro e w4 ⟨rfl, hx4, hg4⟩
      have hL4 := hide hx4
      have hbw4 := below_only hbw3 hg4 hb0
      clear hx4 hg4 HP HX
      go_wp2
      go_roundw
      case rel => exact ⟨p + K, c + 1, by go_num, by omega, by omega, hL4, hbw4⟩
      case measure => simp [RowKit.intOf]; omega
    · have HP := fun w hL => hide (zpeek_end w b s 0 0 c p false hL (by omega) hs)
      have HX := fun w hL => hide (znext_end w b s 0 0 c p false hL (by omega) hs)
      have hps : p = s.size := by omega
      subst hps
      have HP := fun w hL => hide (zpeek_end w b s 0 0 c s.size false hL (Nat.le_refl _) hs)
      have HX := fun w hL => hide (znext_end w b s 0 0 c s.size false hL (Nat.le_refl _) hs)
      have HE := fun w hL => hide (endByte_any w b s 0 0 s.size c true hL)
      clear hlt
      go_wp2_with fail
      refine (HP wr hL.out).out.mono ?_
      rintro e w2 ⟨rfl, hb2⟩
      have hL2 := hide (hL.out.below hb2)
      have hbw2 := hbw.trans (hb2.mono hbw.size)
      go_wp2_with fail
      refine (HP w2 hL2.out).out.mono ?_
      rintro e w3 ⟨rfl, hb3⟩
      have hL3 := hide (hL2.out.below hb3)
      have hbw3 := hbw2.trans (hb3.mono hbw2.size)
      go_wp2_with fail
      refine (HX w3 hL3.out).out.mono ?_
      rintro e w4 ⟨rfl, hx4, hg4⟩
      have hL4 := hide hx4
      have hbw4 := below_only hbw3 hg4 hb0
      clear hx4 hg4 HP HX
      go_wp2_with fail
      refine (HE w4 hL4.out).out.mono ?_
      rintro e w5 ⟨rfl, rfl⟩
      go_wp2
      go_ret
      exact ⟨rfl, hbw4⟩

theorem all3 (s : ByteArray) (w : World) (hm : s.size ≤ maxLen) (hU : TU w) :
    Calls Tryd.prog 3 #[.string s] w fun e w' => e = .returned (.bool true) ∧ Below w.heap.size w w' := by
  by_cases h : s.size ≤ 1048576
  · exact law3 s w h hU
  · exact big3 s w (by omega) (by unfold maxLen at hm; omega)
end Go.Proofs.YtklkbalbmeefjaaDoor
