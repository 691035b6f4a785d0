/-
  The walk of the statement that backup undoes next. Conditions: utf8's two tables hold what their initialisers lay.
-/
import Derived.Test.YtklkbalbmeefjaaDoorSteps
namespace Go.Proofs.YtklkbalbmeefjaaDoor
open Go.RowKit Go.Lib Go.Shelf Go.Proofs
set_option linter.unusedVariables false

theorem big4 (s : ByteArray) (w : World) (hs : 1048576 < s.size) (hm : s.size ≤ 9223372036854775807) :
    Calls Tryd.prog 4 #[.string s] w fun e w' => e = .returned (.bool true) ∧ Below w.heap.size w w' := by
  have hs' : (1048576 : Int) < (s.size : Int) := by omega
  clear hs
  go_enter Tryd.func4, Tryd.ntmps4
  go_wp2
  go_ret
  exact ⟨rfl, Below.refl _ _⟩

set_option maxRecDepth 20000 in
set_option maxHeartbeats 1000000 in
theorem law4 (s : ByteArray) (w : World) (hs : s.size ≤ 1048576) (hU : TU w) :
    Calls Tryd.prog 4 #[.string s] w fun e w' => e = .returned (.bool true) ∧ Below w.heap.size w w' := by
  have hs' : (s.size : Int) ≤ 1048576 := by omega
  have HN := hide (new_any s w)
  go_enter Tryd.func4, Tryd.ntmps4
  go_wp2_with (first | (go_at_call 12; refine HN.out.mono ?_; rintro e w1 ⟨b, rfl, hb0, hx, hb1⟩) | go_in)
  have hx1 := hide hx
  clear hx HN
  go_loopw [4] (fun st wr => ∃ p c : Nat, st = .int .i64 c ∧ c ≤ p ∧ p ≤ s.size ∧ Hid (BdS s p) ∧ Hid (Lx wr b s 0 0 p c false) ∧ Below w.heap.size w wr) (fun st _ => s.size + 2 - (RowKit.intOf st).toNat)
  case atStart => exact ⟨0, 0, rfl, by omega, by omega, hide (BdS.zero s), hx1, hb1⟩
  case round =>
    obtain ⟨p, c, rfl, hc, hp, hB, hL, hbw⟩ := hrel
    have hcs : (c : Int) ≤ (s.size : Int) := by omega
    have G0_15 := hide (endByte_any wr b s 0 0 p c false hL.out)
    have G0_17 := hide (endRune_any wr b s 0 0 p c false hL.out)
    have G0_19 := hide (eof_any wr b s 0 0 p c false hL.out)
    have G0_22 := hide (startByte_any wr b s 0 0 p c false hL.out)
    have G0_23 := hide (startRune_any wr b s 0 0 p c false hL.out)
    by_cases hlt : p < s.size
    · obtain ⟨d1, d2, d3, d4, d5⟩ := dec_facts s p hlt
      obtain ⟨R, hR⟩ : ∃ R, (Utf8.decode s p).1 = R := ⟨_, rfl⟩
      obtain ⟨K, hK⟩ : ∃ K, (Utf8.decode s p).2 = K := ⟨_, rfl⟩
      have HX := fun w hL hU => hide (znx w b s 0 0 p c false hL hlt hs (by omega) hU R K hR hK)
      have hB2 := hide hB.out.step
      have hB3 := hB.out.last hlt
      rw [hK] at hB2 hB3
      have HB := fun w hL hU hp hc => hide (zback w b s 0 0 p c K hL hc hp hs hU hB3)
      rw [hR] at d4
      rw [hK] at d1 d2 d3
      clear hR hK d5 hB3
      have hR1 : ((R : Int) == -1) = false := by rw [beq_eq_false_iff_ne]; omega
      go_wp2_with (first | (go_at_call 15; refine G0_15.out.mono ?_; rintro e w' ⟨rfl, rfl⟩) | (go_at_call 17; refine G0_17.out.mono ?_; rintro e w' ⟨rfl, rfl⟩) | (go_at_call 19; refine G0_19.out.mono ?_; rintro e w' ⟨rfl, rfl⟩) | (go_at_call 22; refine G0_22.out.mono ?_; rintro e w' ⟨rfl, rfl⟩) | (go_at_call 23; refine G0_23.out.mono ?_; rintro e w' ⟨rfl, rfl⟩))
      refine (HX wr hL.out (hU.below hbw)).out.mono ?_
      rintro e w4 ⟨rfl, hL4, hg4⟩
      have hbw4 := below_one hbw hg4 hb0
      go_wp2_with fail
      refine (HB w4 hL4.out (hU.below hbw4) d3 (by omega)).out.mono ?_
      rintro e w5 ⟨rfl, hL5, hg5⟩
      have hbw5 := below_one hbw4 hg5 hb0
      clear hg4 hg5
      have G5_15 := hide (endByte_any w5 b s 0 0 p c false hL5.out)
      have G5_17 := hide (endRune_any w5 b s 0 0 p c false hL5.out)
      have G5_19 := hide (eof_any w5 b s 0 0 p c false hL5.out)
      have G5_22 := hide (startByte_any w5 b s 0 0 p c false hL5.out)
      have G5_23 := hide (startRune_any w5 b s 0 0 p c false hL5.out)
      go_wp2_with (first | (go_at_call 15; refine G5_15.out.mono ?_; rintro e w' ⟨rfl, rfl⟩) | (go_at_call 17; refine G5_17.out.mono ?_; rintro e w' ⟨rfl, rfl⟩) | (go_at_call 19; refine G5_19.out.mono ?_; rintro e w' ⟨rfl, rfl⟩) | (go_at_call 22; refine G5_22.out.mono ?_; rintro e w' ⟨rfl, rfl⟩) | (go_at_call 23; refine G5_23.out.mono ?_; rintro e w' ⟨rfl, rfl⟩))
      refine (HX w5 hL5.out (hU.below hbw5)).out.mono ?_
      rintro e w6 ⟨rfl, hL6, hg6⟩
      have hbw6 := below_one hbw5 hg6 hb0
      clear hg6 HX HB
      go_wp2
      go_roundw
      case rel => exact ⟨p + K, c + 1, by go_num, by omega, by omega, hB2, hide hL6.out.nat, hbw6⟩
      case measure => simp [RowKit.intOf]; omega
    · have hps : p = s.size := by omega
      subst hps
      have HX := fun w ef hL => hide (zne w b s 0 0 c ef hL hs)
      have HB := fun w hL => hide (zbeof w b s 0 0 s.size c hL)
      clear hlt
      go_wp2_with (first | (go_at_call 15; refine G0_15.out.mono ?_; rintro e w' ⟨rfl, rfl⟩) | (go_at_call 17; refine G0_17.out.mono ?_; rintro e w' ⟨rfl, rfl⟩) | (go_at_call 19; refine G0_19.out.mono ?_; rintro e w' ⟨rfl, rfl⟩) | (go_at_call 22; refine G0_22.out.mono ?_; rintro e w' ⟨rfl, rfl⟩) | (go_at_call 23; refine G0_23.out.mono ?_; rintro e w' ⟨rfl, rfl⟩))
      refine (HX wr false hL.out).out.mono ?_
      rintro e w4 ⟨rfl, hL4, hg4⟩
      have hbw4 := below_one hbw hg4 hb0
      go_wp2_with fail
      refine (HB w4 hL4.out).out.mono ?_
      rintro e w5 ⟨rfl, hL5, hg5⟩
      have hbw5 := below_one hbw4 hg5 hb0
      clear hg4 hg5
      have G5_15 := hide (endByte_any w5 b s 0 0 s.size c false hL5.out)
      have G5_17 := hide (endRune_any w5 b s 0 0 s.size c false hL5.out)
      have G5_19 := hide (eof_any w5 b s 0 0 s.size c false hL5.out)
      have G5_22 := hide (startByte_any w5 b s 0 0 s.size c false hL5.out)
      have G5_23 := hide (startRune_any w5 b s 0 0 s.size c false hL5.out)
      go_wp2_with (first | (go_at_call 15; refine G5_15.out.mono ?_; rintro e w' ⟨rfl, rfl⟩) | (go_at_call 17; refine G5_17.out.mono ?_; rintro e w' ⟨rfl, rfl⟩) | (go_at_call 19; refine G5_19.out.mono ?_; rintro e w' ⟨rfl, rfl⟩) | (go_at_call 22; refine G5_22.out.mono ?_; rintro e w' ⟨rfl, rfl⟩) | (go_at_call 23; refine G5_23.out.mono ?_; rintro e w' ⟨rfl, rfl⟩))
      refine (HX w5 false hL5.out).out.mono ?_
      rintro e w6 ⟨rfl, hL6, hg6⟩
      have hbw6 := below_one hbw5 hg6 hb0
      clear hg6
      have G6_15 := hide (endByte_any w6 b s 0 0 s.size c true hL6.out)
      have G6_17 := hide (endRune_any w6 b s 0 0 s.size c true hL6.out)
      have G6_19 := hide (eof_any w6 b s 0 0 s.size c true hL6.out)
      have G6_22 := hide (startByte_any w6 b s 0 0 s.size c true hL6.out)
      have G6_23 := hide (startRune_any w6 b s 0 0 s.size c true hL6.out)
      go_wp2_with (first | (go_at_call 15; refine G6_15.out.mono ?_; rintro e w' ⟨rfl, rfl⟩) | (go_at_call 17; refine G6_17.out.mono ?_; rintro e w' ⟨rfl, rfl⟩) | (go_at_call 19; refine G6_19.out.mono ?_; rintro e w' ⟨rfl, rfl⟩) | (go_at_call 22; refine G6_22.out.mono ?_; rintro e w' ⟨rfl, rfl⟩) | (go_at_call 23; refine G6_23.out.mono ?_; rintro e w' ⟨rfl, rfl⟩))
      go_ret
      exact ⟨rfl, hbw6⟩

theorem all4 (s : ByteArray) (w : World) (hm : s.size ≤ maxLen) (hU : TU w) :
    Calls Tryd.prog 4 #[.string s] w fun e w' => e = .returned (.bool true) ∧ Below w.heap.size w w' := by
  by_cases h : s.size ≤ 1048576
  · exact law4 s w h hU
  · exact big4 s w (by omega) (by unfold maxLen at hm; omega)
end Go.Proofs.YtklkbalbmeefjaaDoor
