/-
  The walk of the statement on the bounds of one step of next. Conditions: utf8's two tables hold what their initialisers lay.
-/
import Derived.Test.YtklkbalbmeefjaaDoorSteps
namespace Go.Proofs.YtklkbalbmeefjaaDoor
open Go.RowKit Go.Lib Go.Shelf Go.Proofs
set_option linter.unusedVariables false

theorem big8 (s : ByteArray) (w : World) (hs : 1048576 < s.size) (hm : s.size ≤ 9223372036854775807) :
    Calls Tryd.prog 8 #[.string s] w fun e w' => e = .returned (.bool true) ∧ Below w.heap.size w w' := by
  have hs' : (1048576 : Int) < (s.size : Int) := by omega
  clear hs
  go_enter Tryd.func8, Tryd.ntmps8
  go_wp2
  go_ret
  exact ⟨rfl, Below.refl _ _⟩

set_option maxRecDepth 200000 in
set_option maxHeartbeats 8000000 in
theorem law8 (s : ByteArray) (w : World) (hs : s.size ≤ 1048576) (hU : TU w) :
    Calls Tryd.prog 8 #[.string s] w fun e w' => e = .returned (.bool true) ∧ Below w.heap.size w w' := by
  have hs' : (s.size : Int) ≤ 1048576 := by omega
  have HN := hide (new_any s w)
  go_enter Tryd.func8, Tryd.ntmps8
  go_wp2_with (first | (go_at_call 12; refine HN.out.mono ?_; rintro e w1 ⟨b, rfl, hb0, hx, hb1⟩) | go_in)
  have hx1 := hide hx
  clear hx HN
  go_loopw [4] (fun st wr => ∃ p c : Nat, st = .int .i64 c ∧ c ≤ p ∧ p ≤ s.size ∧ Hid (Lx wr b s 0 0 p c false) ∧ Below w.heap.size w wr) (fun st _ => s.size + 2 - (RowKit.intOf st).toNat)
  case atStart => exact ⟨0, 0, rfl, by omega, by omega, hx1, hb1⟩
  case round =>
    obtain ⟨p, c, rfl, hc, hp, hL, hbw⟩ := hrel
    have hcs : (c : Int) ≤ (s.size : Int) := by omega
    have G0_15 := hide (endByte_any wr b s 0 0 p c false hL.out)
    have G0_17 := hide (endRune_any wr b s 0 0 p c false hL.out)
    have G0_19 := hide (eof_any wr b s 0 0 p c false hL.out)
    have G0_22 := hide (startByte_any wr b s 0 0 p c false hL.out)
    have G0_23 := hide (startRune_any wr b s 0 0 p c false hL.out)
    by_cases hlt : p < s.size
    · obtain ⟨d1, d2, d3, d4, d5⟩ := dec_facts s p hlt
      obtain ⟨R, hR⟩ : ∃ R, (Utf8.decode s p).1 = R := ⟨_, rfl⟩
      obtain ⟨K, hK⟩ : ∃ K, (Utf8.decode s p).2 = K := ⟨_, rfl⟩
      have HX := fun w hL hU => hide (znx w b s 0 0 p c false hL hlt hs (by omega) hU R K hR hK)
      have hcase := step_cases s p
      have g0 : ∀ h : p < s.size, ((s[p]'h).toNat : Int) = (byteAt s p : Int) := fun h => byteAt_get s p h
      have g1 : ∀ h : p + 1 < s.size, ((s[p + 1]'h).toNat : Int) = (byteAt s (p + 1) : Int) := fun h => byteAt_get s (p + 1) h
      have g2 : ∀ h : p + 2 < s.size, ((s[p + 2]'h).toNat : Int) = (byteAt s (p + 2) : Int) := fun h => byteAt_get s (p + 2) h
      have l0 := byteAt_le s p
      have HXr := HX wr hL.out (hU.below hbw)
      clear HX
      generalize byteAt s p = N0 at *
      generalize byteAt s (p + 1) = N1 at *
      generalize byteAt s (p + 2) = N2 at *
      rw [hR, hK] at hcase
      rw [hR] at d4 d5
      rw [hK] at d1 d2 d3
      clear hR hK
      have hR1 : ((R : Int) == -1) = false := by rw [beq_eq_false_iff_ne]; omega
      have hr2 : (R : Int) ≤ 1114111 := by omega
      have hp1 : (p : Int) < (s.size : Int) := by omega
      have hpK : (p : Int) + (K : Int) ≤ (s.size : Int) := by omega
      have hK1 : (1 : Int) ≤ (K : Int) := by omega
      have hK4 : (K : Int) ≤ 4 := by omega
      have hd : (p : Int) + (K : Int) - (p : Int) = (K : Int) := by omega
      have hl0 : (N0 : Int) ≤ 255 := by omega
      have hs0 := hide (show (decide (55296 ≤ (R : Int)) = false) ∨ (decide ((R : Int) ≤ 57343) = false) by simp only [decide_eq_false_iff_not]; omega)
      clear d4 d5
      rcases hcase with ⟨q1, q2, q3⟩ | ⟨q1, q2⟩ | ⟨q1, q2, q3⟩ | ⟨q1, q2, q3, q4, q5⟩
      · rcases hs0.out with hs1 | hs1
        all_goals
          clear hs0
          have q1' : (N0 : Int) < 128 := by omega
          have qn : ((R : Int) == 65533) = false := by rw [beq_eq_false_iff_ne]; omega
          have qk : ((K : Int) != 1) = false := by rw [bne_eq_false_iff_eq]; omega
          have qr : ((R : Int) != (N0 : Int)) = false := by rw [bne_eq_false_iff_eq]; omega
          clear q1 q2 q3
          go_wp2_with (first | (go_at_call 15; refine G0_15.out.mono ?_; rintro e w' ⟨rfl, rfl⟩) | (go_at_call 17; refine G0_17.out.mono ?_; rintro e w' ⟨rfl, rfl⟩) | (go_at_call 19; refine G0_19.out.mono ?_; rintro e w' ⟨rfl, rfl⟩) | (go_at_call 22; refine G0_22.out.mono ?_; rintro e w' ⟨rfl, rfl⟩) | (go_at_call 23; refine G0_23.out.mono ?_; rintro e w' ⟨rfl, rfl⟩))
          refine HXr.out.mono ?_
          rintro e w4 ⟨rfl, hL4, hg4⟩
          have hbw4 := below_one hbw hg4 hb0
          clear hg4 HXr
          have G4_15 := hide (endByte_any w4 b s 0 0 ((p : Int) + (K : Int)) ((c : Int) + 1) false hL4.out)
          have G4_17 := hide (endRune_any w4 b s 0 0 ((p : Int) + (K : Int)) ((c : Int) + 1) false hL4.out)
          have G4_19 := hide (eof_any w4 b s 0 0 ((p : Int) + (K : Int)) ((c : Int) + 1) false hL4.out)
          have G4_22 := hide (startByte_any w4 b s 0 0 ((p : Int) + (K : Int)) ((c : Int) + 1) false hL4.out)
          have G4_23 := hide (startRune_any w4 b s 0 0 ((p : Int) + (K : Int)) ((c : Int) + 1) false hL4.out)
          go_wp2_with (first | (go_at_call 15; refine G4_15.out.mono ?_; rintro e w' ⟨rfl, rfl⟩) | (go_at_call 17; refine G4_17.out.mono ?_; rintro e w' ⟨rfl, rfl⟩) | (go_at_call 19; refine G4_19.out.mono ?_; rintro e w' ⟨rfl, rfl⟩) | (go_at_call 22; refine G4_22.out.mono ?_; rintro e w' ⟨rfl, rfl⟩) | (go_at_call 23; refine G4_23.out.mono ?_; rintro e w' ⟨rfl, rfl⟩))
          all_goals
            go_roundw
            case rel => exact ⟨p + K, c + 1, by go_num, by omega, by omega, hide hL4.out.nat, hbw4⟩
            case measure => simp [RowKit.intOf]; omega
      · rcases hs0.out with hs1 | hs1
        all_goals
          clear hs0
          have q1' : (128 : Int) ≤ (N0 : Int) := by omega
          have qk : (K : Int) ≤ 1 := by omega
          clear q1 q2
          cases qn : ((R : Int) == 65533) with
          | false =>
            go_wp2_with (first | (go_at_call 15; refine G0_15.out.mono ?_; rintro e w' ⟨rfl, rfl⟩) | (go_at_call 17; refine G0_17.out.mono ?_; rintro e w' ⟨rfl, rfl⟩) | (go_at_call 19; refine G0_19.out.mono ?_; rintro e w' ⟨rfl, rfl⟩) | (go_at_call 22; refine G0_22.out.mono ?_; rintro e w' ⟨rfl, rfl⟩) | (go_at_call 23; refine G0_23.out.mono ?_; rintro e w' ⟨rfl, rfl⟩))
            refine HXr.out.mono ?_
            rintro e w4 ⟨rfl, hL4, hg4⟩
            have hbw4 := below_one hbw hg4 hb0
            clear hg4 HXr
            have G4_15 := hide (endByte_any w4 b s 0 0 ((p : Int) + (K : Int)) ((c : Int) + 1) false hL4.out)
            have G4_17 := hide (endRune_any w4 b s 0 0 ((p : Int) + (K : Int)) ((c : Int) + 1) false hL4.out)
            have G4_19 := hide (eof_any w4 b s 0 0 ((p : Int) + (K : Int)) ((c : Int) + 1) false hL4.out)
            have G4_22 := hide (startByte_any w4 b s 0 0 ((p : Int) + (K : Int)) ((c : Int) + 1) false hL4.out)
            have G4_23 := hide (startRune_any w4 b s 0 0 ((p : Int) + (K : Int)) ((c : Int) + 1) false hL4.out)
            go_wp2_with (first | (go_at_call 15; refine G4_15.out.mono ?_; rintro e w' ⟨rfl, rfl⟩) | (go_at_call 17; refine G4_17.out.mono ?_; rintro e w' ⟨rfl, rfl⟩) | (go_at_call 19; refine G4_19.out.mono ?_; rintro e w' ⟨rfl, rfl⟩) | (go_at_call 22; refine G4_22.out.mono ?_; rintro e w' ⟨rfl, rfl⟩) | (go_at_call 23; refine G4_23.out.mono ?_; rintro e w' ⟨rfl, rfl⟩))
            all_goals
              go_roundw
              case rel => exact ⟨p + K, c + 1, by go_num, by omega, by omega, hide hL4.out.nat, hbw4⟩
              case measure => simp [RowKit.intOf]; omega
          | true =>
            go_wp2_with (first | (go_at_call 15; refine G0_15.out.mono ?_; rintro e w' ⟨rfl, rfl⟩) | (go_at_call 17; refine G0_17.out.mono ?_; rintro e w' ⟨rfl, rfl⟩) | (go_at_call 19; refine G0_19.out.mono ?_; rintro e w' ⟨rfl, rfl⟩) | (go_at_call 22; refine G0_22.out.mono ?_; rintro e w' ⟨rfl, rfl⟩) | (go_at_call 23; refine G0_23.out.mono ?_; rintro e w' ⟨rfl, rfl⟩))
            refine HXr.out.mono ?_
            rintro e w4 ⟨rfl, hL4, hg4⟩
            have hbw4 := below_one hbw hg4 hb0
            clear hg4 HXr
            have G4_15 := hide (endByte_any w4 b s 0 0 ((p : Int) + (K : Int)) ((c : Int) + 1) false hL4.out)
            have G4_17 := hide (endRune_any w4 b s 0 0 ((p : Int) + (K : Int)) ((c : Int) + 1) false hL4.out)
            have G4_19 := hide (eof_any w4 b s 0 0 ((p : Int) + (K : Int)) ((c : Int) + 1) false hL4.out)
            have G4_22 := hide (startByte_any w4 b s 0 0 ((p : Int) + (K : Int)) ((c : Int) + 1) false hL4.out)
            have G4_23 := hide (startRune_any w4 b s 0 0 ((p : Int) + (K : Int)) ((c : Int) + 1) false hL4.out)
            go_wp2_with (first | (go_at_call 15; refine G4_15.out.mono ?_; rintro e w' ⟨rfl, rfl⟩) | (go_at_call 17; refine G4_17.out.mono ?_; rintro e w' ⟨rfl, rfl⟩) | (go_at_call 19; refine G4_19.out.mono ?_; rintro e w' ⟨rfl, rfl⟩) | (go_at_call 22; refine G4_22.out.mono ?_; rintro e w' ⟨rfl, rfl⟩) | (go_at_call 23; refine G4_23.out.mono ?_; rintro e w' ⟨rfl, rfl⟩))
            all_goals
              go_roundw
              case rel => exact ⟨p + K, c + 1, by go_num, by omega, by omega, hide hL4.out.nat, hbw4⟩
              case measure => simp [RowKit.intOf]; omega
      · rcases hs0.out with hs1 | hs1
        all_goals
          clear hs0
          have q1' : (128 : Int) ≤ (N0 : Int) := by omega
          have qn : ((R : Int) == 65533) = false := by rw [beq_eq_false_iff_ne]; omega
          have qK : (1 : Int) < (K : Int) := by omega
          clear q1 q2 q3
          go_wp2_with (first | (go_at_call 15; refine G0_15.out.mono ?_; rintro e w' ⟨rfl, rfl⟩) | (go_at_call 17; refine G0_17.out.mono ?_; rintro e w' ⟨rfl, rfl⟩) | (go_at_call 19; refine G0_19.out.mono ?_; rintro e w' ⟨rfl, rfl⟩) | (go_at_call 22; refine G0_22.out.mono ?_; rintro e w' ⟨rfl, rfl⟩) | (go_at_call 23; refine G0_23.out.mono ?_; rintro e w' ⟨rfl, rfl⟩))
          refine HXr.out.mono ?_
          rintro e w4 ⟨rfl, hL4, hg4⟩
          have hbw4 := below_one hbw hg4 hb0
          clear hg4 HXr
          have G4_15 := hide (endByte_any w4 b s 0 0 ((p : Int) + (K : Int)) ((c : Int) + 1) false hL4.out)
          have G4_17 := hide (endRune_any w4 b s 0 0 ((p : Int) + (K : Int)) ((c : Int) + 1) false hL4.out)
          have G4_19 := hide (eof_any w4 b s 0 0 ((p : Int) + (K : Int)) ((c : Int) + 1) false hL4.out)
          have G4_22 := hide (startByte_any w4 b s 0 0 ((p : Int) + (K : Int)) ((c : Int) + 1) false hL4.out)
          have G4_23 := hide (startRune_any w4 b s 0 0 ((p : Int) + (K : Int)) ((c : Int) + 1) false hL4.out)
          go_wp2_with (first | (go_at_call 15; refine G4_15.out.mono ?_; rintro e w' ⟨rfl, rfl⟩) | (go_at_call 17; refine G4_17.out.mono ?_; rintro e w' ⟨rfl, rfl⟩) | (go_at_call 19; refine G4_19.out.mono ?_; rintro e w' ⟨rfl, rfl⟩) | (go_at_call 22; refine G4_22.out.mono ?_; rintro e w' ⟨rfl, rfl⟩) | (go_at_call 23; refine G4_23.out.mono ?_; rintro e w' ⟨rfl, rfl⟩))
          all_goals
            go_roundw
            case rel => exact ⟨p + K, c + 1, by go_num, by omega, by omega, hide hL4.out.nat, hbw4⟩
            case measure => simp [RowKit.intOf]; omega
      · obtain rfl : R = 65533 := q2
        rw [show ((65533 : Nat) : Int) = (65533 : Int) from rfl] at HXr
        have q1' : (128 : Int) ≤ (N0 : Int) := by omega
        have qK : (1 : Int) < (K : Int) := by omega
        have qk : ((K : Int) != 3) = false := by rw [bne_eq_false_iff_eq]; omega
        have qa : ((N0 : Int) != 239) = false := by rw [bne_eq_false_iff_eq]; omega
        have qb : ((N1 : Int) != 191) = false := by rw [bne_eq_false_iff_eq]; omega
        have qc : ((N2 : Int) != 189) = false := by rw [bne_eq_false_iff_eq]; omega
        have qe : (p : Int) + 2 < (s.size : Int) := by omega
        have qf : (p : Int) + 1 < (s.size : Int) := by omega
        clear q1 q3 q4 q5 hs0 hR1 hr2
        go_wp2_with (first | (go_at_call 15; refine G0_15.out.mono ?_; rintro e w' ⟨rfl, rfl⟩) | (go_at_call 17; refine G0_17.out.mono ?_; rintro e w' ⟨rfl, rfl⟩) | (go_at_call 19; refine G0_19.out.mono ?_; rintro e w' ⟨rfl, rfl⟩) | (go_at_call 22; refine G0_22.out.mono ?_; rintro e w' ⟨rfl, rfl⟩) | (go_at_call 23; refine G0_23.out.mono ?_; rintro e w' ⟨rfl, rfl⟩))
        refine HXr.out.mono ?_
        rintro e w4 ⟨rfl, hL4, hg4⟩
        have hbw4 := below_one hbw hg4 hb0
        clear hg4 HXr
        have G4_15 := hide (endByte_any w4 b s 0 0 ((p : Int) + (K : Int)) ((c : Int) + 1) false hL4.out)
        have G4_17 := hide (endRune_any w4 b s 0 0 ((p : Int) + (K : Int)) ((c : Int) + 1) false hL4.out)
        have G4_19 := hide (eof_any w4 b s 0 0 ((p : Int) + (K : Int)) ((c : Int) + 1) false hL4.out)
        have G4_22 := hide (startByte_any w4 b s 0 0 ((p : Int) + (K : Int)) ((c : Int) + 1) false hL4.out)
        have G4_23 := hide (startRune_any w4 b s 0 0 ((p : Int) + (K : Int)) ((c : Int) + 1) false hL4.out)
        go_wp2_with (first | (go_at_call 15; refine G4_15.out.mono ?_; rintro e w' ⟨rfl, rfl⟩) | (go_at_call 17; refine G4_17.out.mono ?_; rintro e w' ⟨rfl, rfl⟩) | (go_at_call 19; refine G4_19.out.mono ?_; rintro e w' ⟨rfl, rfl⟩) | (go_at_call 22; refine G4_22.out.mono ?_; rintro e w' ⟨rfl, rfl⟩) | (go_at_call 23; refine G4_23.out.mono ?_; rintro e w' ⟨rfl, rfl⟩))
        all_goals
          go_roundw
          case rel => exact ⟨p + K, c + 1, by go_num, by omega, by omega, hide hL4.out.nat, hbw4⟩
          case measure => simp [RowKit.intOf]; omega
    · have hps : p = s.size := by omega
      subst hps
      have HX := fun w ef hL => hide (zne w b s 0 0 c ef hL hs)
      clear hlt
      go_wp2_with (first | (go_at_call 15; refine G0_15.out.mono ?_; rintro e w' ⟨rfl, rfl⟩) | (go_at_call 17; refine G0_17.out.mono ?_; rintro e w' ⟨rfl, rfl⟩) | (go_at_call 19; refine G0_19.out.mono ?_; rintro e w' ⟨rfl, rfl⟩) | (go_at_call 22; refine G0_22.out.mono ?_; rintro e w' ⟨rfl, rfl⟩) | (go_at_call 23; refine G0_23.out.mono ?_; rintro e w' ⟨rfl, rfl⟩))
      refine (HX wr false hL.out).out.mono ?_
      rintro e w4 ⟨rfl, hL4, hg4⟩
      have hbw4 := below_one hbw hg4 hb0
      clear hg4
      have G4_15 := hide (endByte_any w4 b s 0 0 s.size c true hL4.out)
      have G4_17 := hide (endRune_any w4 b s 0 0 s.size c true hL4.out)
      have G4_19 := hide (eof_any w4 b s 0 0 s.size c true hL4.out)
      have G4_22 := hide (startByte_any w4 b s 0 0 s.size c true hL4.out)
      have G4_23 := hide (startRune_any w4 b s 0 0 s.size c true hL4.out)
      go_wp2_with (first | (go_at_call 15; refine G4_15.out.mono ?_; rintro e w' ⟨rfl, rfl⟩) | (go_at_call 17; refine G4_17.out.mono ?_; rintro e w' ⟨rfl, rfl⟩) | (go_at_call 19; refine G4_19.out.mono ?_; rintro e w' ⟨rfl, rfl⟩) | (go_at_call 22; refine G4_22.out.mono ?_; rintro e w' ⟨rfl, rfl⟩) | (go_at_call 23; refine G4_23.out.mono ?_; rintro e w' ⟨rfl, rfl⟩))
      go_ret
      exact ⟨rfl, hbw4⟩

theorem all8 (s : ByteArray) (w : World) (hm : s.size ≤ maxLen) (hU : TU w) :
    Calls Tryd.prog 8 #[.string s] w fun e w' => e = .returned (.bool true) ∧ Below w.heap.size w w' := by
  by_cases h : s.size ≤ 1048576
  · exact law8 s w h hU
  · exact big8 s w (by omega) (by unfold maxLen at hm; omega)
end Go.Proofs.YtklkbalbmeefjaaDoor
