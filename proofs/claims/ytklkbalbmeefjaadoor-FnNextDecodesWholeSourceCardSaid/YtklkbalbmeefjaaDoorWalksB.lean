/-
  The walk of the statement that next reads the whole source as the law's own decoder does. Conditions: utf8's two tables hold what their initialisers lay.
-/
import Derived.Test.YtklkbalbmeefjaaDoorSteps
namespace Go.Proofs.YtklkbalbmeefjaaDoor
open Go.RowKit Go.Lib Go.Shelf Go.Proofs
set_option linter.unusedVariables false

theorem big5 (s : ByteArray) (w : World) (hs : 1048576 < s.size) (hm : s.size ≤ 9223372036854775807) :
    Calls Tryd.prog 5 #[.string s] w fun e w' => e = .returned (.bool true) ∧ Below w.heap.size w w' := by
  have hs' : (1048576 : Int) < (s.size : Int) := by omega
  clear hs
  go_enter Tryd.func5, Tryd.ntmps5
  go_wp2
  go_ret
  exact ⟨rfl, Below.refl _ _⟩

set_option maxRecDepth 20000 in
set_option maxHeartbeats 1000000 in
theorem law5 (s : ByteArray) (w : World) (hs : s.size ≤ 1048576) (hU : TU w) :
    Calls Tryd.prog 5 #[.string s] w fun e w' => e = .returned (.bool true) ∧ Below w.heap.size w w' := by
  have hs' : (s.size : Int) ≤ 1048576 := by omega
  have HN := hide (new_any s w)
  go_enter Tryd.func5, Tryd.ntmps5
  go_wp2_with (first | (go_at_call 12; refine HN.out.mono ?_; rintro e w1 ⟨b, rfl, hb0, hx, hb1⟩) | go_in)
  have hx1 := hide hx
  clear hx HN
  go_loopw [4, 5, 6] (fun vp vc st wr => ∃ p c : Nat, vp = .int .i64 p ∧ vc = .int .i64 c ∧ st = .int .i64 c ∧ c ≤ p ∧ p ≤ s.size ∧ Hid (Lx wr b s 0 0 p c false) ∧ Below w.heap.size w wr) (fun _ _ st _ => s.size + 2 - (RowKit.intOf st).toNat)
  case atStart => exact ⟨0, 0, rfl, rfl, rfl, by omega, by omega, hx1, hb1⟩
  case round =>
    obtain ⟨p, c, rfl, rfl, rfl, hc, hp, hL, hbw⟩ := hrel
    have hcs : (c : Int) ≤ (s.size : Int) := by omega
    by_cases hlt : p < s.size
    · obtain ⟨d1, d2, d3, d4, d5⟩ := dec_facts s p hlt
      obtain ⟨R, hR⟩ : ∃ R, (Utf8.decode s p).1 = R := ⟨_, rfl⟩
      obtain ⟨K, hK⟩ : ∃ K, (Utf8.decode s p).2 = K := ⟨_, rfl⟩
      have HX := fun w hL hU => hide (znx w b s 0 0 p c false hL hlt hs (by omega) hU R K hR hK)
      have HD := fun w => hide (dec_in s p w hlt hs R K hR hK)
      rw [hR] at d4
      rw [hK] at d1 d2 d3
      clear hR hK d5 hlt
      have hK0 : ((K : Int) == 0) = false := by rw [beq_eq_false_iff_ne]; omega
      go_wp2_with (first | (go_at_call 21; refine (HD _).out.mono ?_; rintro e w' ⟨rfl, rfl⟩))
      refine (HX wr hL.out (hU.below hbw)).out.mono ?_
      rintro e w4 ⟨rfl, hL4, hg4⟩
      have hbw4 := below_one hbw hg4 hb0
      clear hg4 HX HD
      have G4_15 := hide (endByte_any w4 b s 0 0 ((p : Int) + (K : Int)) ((c : Int) + 1) false hL4.out)
      have G4_17 := hide (endRune_any w4 b s 0 0 ((p : Int) + (K : Int)) ((c : Int) + 1) false hL4.out)
      have G4_19 := hide (eof_any w4 b s 0 0 ((p : Int) + (K : Int)) ((c : Int) + 1) false hL4.out)
      have G4_22 := hide (startByte_any w4 b s 0 0 ((p : Int) + (K : Int)) ((c : Int) + 1) false hL4.out)
      have G4_23 := hide (startRune_any w4 b s 0 0 ((p : Int) + (K : Int)) ((c : Int) + 1) false hL4.out)
      go_wp2_with (first | (go_at_call 15; refine G4_15.out.mono ?_; rintro e w' ⟨rfl, rfl⟩) | (go_at_call 17; refine G4_17.out.mono ?_; rintro e w' ⟨rfl, rfl⟩) | (go_at_call 19; refine G4_19.out.mono ?_; rintro e w' ⟨rfl, rfl⟩) | (go_at_call 22; refine G4_22.out.mono ?_; rintro e w' ⟨rfl, rfl⟩) | (go_at_call 23; refine G4_23.out.mono ?_; rintro e w' ⟨rfl, rfl⟩))
      go_roundw
      case rel => exact ⟨p + K, c + 1, by go_num, by go_num, by go_num, by omega, by omega, hide hL4.out.nat, hbw4⟩
      case measure => simp [RowKit.intOf]; omega
    · have hps : p = s.size := by omega
      subst hps
      have HD := fun w => hide (dec_end s s.size w (Nat.le_refl _))
      have HX := fun w ef hL => hide (zne w b s 0 0 c ef hL hs)
      clear hlt
      go_wp2_with (first | (go_at_call 21; refine (HD _).out.mono ?_; rintro e w' ⟨rfl, rfl⟩))
      refine (HX wr false hL.out).out.mono ?_
      rintro e w4 ⟨rfl, hL4, hg4⟩
      have hbw4 := below_one hbw hg4 hb0
      clear hg4 HD
      have G4_15 := hide (endByte_any w4 b s 0 0 s.size c true hL4.out)
      have G4_17 := hide (endRune_any w4 b s 0 0 s.size c true hL4.out)
      have G4_19 := hide (eof_any w4 b s 0 0 s.size c true hL4.out)
      have G4_22 := hide (startByte_any w4 b s 0 0 s.size c true hL4.out)
      have G4_23 := hide (startRune_any w4 b s 0 0 s.size c true hL4.out)
      go_wp2_with (first | (go_at_call 15; refine G4_15.out.mono ?_; rintro e w' ⟨rfl, rfl⟩) | (go_at_call 17; refine G4_17.out.mono ?_; rintro e w' ⟨rfl, rfl⟩) | (go_at_call 19; refine G4_19.out.mono ?_; rintro e w' ⟨rfl, rfl⟩) | (go_at_call 22; refine G4_22.out.mono ?_; rintro e w' ⟨rfl, rfl⟩) | (go_at_call 23; refine G4_23.out.mono ?_; rintro e w' ⟨rfl, rfl⟩))
      refine (HX w4 true hL4.out).out.mono ?_
      rintro e w5 ⟨rfl, hL5, hg5⟩
      have hbw5 := below_one hbw4 hg5 hb0
      clear hg5 HX
      have G5_15 := hide (endByte_any w5 b s 0 0 s.size c true hL5.out)
      have G5_17 := hide (endRune_any w5 b s 0 0 s.size c true hL5.out)
      have G5_19 := hide (eof_any w5 b s 0 0 s.size c true hL5.out)
      have G5_22 := hide (startByte_any w5 b s 0 0 s.size c true hL5.out)
      have G5_23 := hide (startRune_any w5 b s 0 0 s.size c true hL5.out)
      go_wp2_with (first | (go_at_call 15; refine G5_15.out.mono ?_; rintro e w' ⟨rfl, rfl⟩) | (go_at_call 17; refine G5_17.out.mono ?_; rintro e w' ⟨rfl, rfl⟩) | (go_at_call 19; refine G5_19.out.mono ?_; rintro e w' ⟨rfl, rfl⟩) | (go_at_call 22; refine G5_22.out.mono ?_; rintro e w' ⟨rfl, rfl⟩) | (go_at_call 23; refine G5_23.out.mono ?_; rintro e w' ⟨rfl, rfl⟩))
      go_ret
      exact ⟨rfl, hbw5⟩

theorem all5 (s : ByteArray) (w : World) (hm : s.size ≤ maxLen) (hU : TU w) :
    Calls Tryd.prog 5 #[.string s] w fun e w' => e = .returned (.bool true) ∧ Below w.heap.size w w' := by
  by_cases h : s.size ≤ 1048576
  · exact law5 s w h hU
  · exact big5 s w (by omega) (by unfold maxLen at hm; omega)
end Go.Proofs.YtklkbalbmeefjaaDoor
