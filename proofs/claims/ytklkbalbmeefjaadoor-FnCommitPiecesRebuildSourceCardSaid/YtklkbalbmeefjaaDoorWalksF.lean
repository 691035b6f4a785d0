/-
  The walk of the statement that commit sets start to the place read so far. Conditions: utf8's two tables hold what their initialisers lay.
-/
import Derived.Test.YtklkbalbmeefjaaDoorSteps
namespace Go.Proofs.YtklkbalbmeefjaaDoor
open Go.RowKit Go.Lib Go.Shelf Go.Proofs
set_option linter.unusedVariables false

theorem big7 (s : ByteArray) (k : Int) (w : World) (hs : 1048576 < s.size) (hm : s.size ≤ 9223372036854775807) :
    Calls Tryd.prog 7 #[.string s, .int .i64 k] w fun e w' => e = .returned (.bool true) ∧ Below w.heap.size w w' := by
  have hs' : (1048576 : Int) < (s.size : Int) := by omega
  clear hs
  go_enter Tryd.func7, Tryd.ntmps7
  go_wp2
  go_ret
  exact ⟨rfl, Below.refl _ _⟩
theorem neg7 (s : ByteArray) (k : Int) (w : World) (hs : s.size ≤ 1048576) (hk : k < 0) :
    Calls Tryd.prog 7 #[.string s, .int .i64 k] w fun e w' => e = .returned (.bool true) ∧ Below w.heap.size w w' := by
  have hs' : (s.size : Int) ≤ 1048576 := by omega
  go_enter Tryd.func7, Tryd.ntmps7
  go_wp2
  go_ret
  exact ⟨rfl, Below.refl _ _⟩
theorem pos7 (s : ByteArray) (k : Int) (w : World) (hs : s.size ≤ 1048576) (hk : 1048576 < k) :
    Calls Tryd.prog 7 #[.string s, .int .i64 k] w fun e w' => e = .returned (.bool true) ∧ Below w.heap.size w w' := by
  have hs' : (s.size : Int) ≤ 1048576 := by omega
  go_enter Tryd.func7, Tryd.ntmps7
  go_wp2
  go_ret
  exact ⟨rfl, Below.refl _ _⟩
theorem extract_self (s : ByteArray) (p : Nat) : s.extract p p = ⟨#[]⟩ := by
  have h : (s.extract p p).size = 0 := by simp
  have h2 : (s.extract p p).data = #[] := Array.eq_empty_of_size_eq_zero h
  cases hh : s.extract p p with | mk d => rw [hh] at h2; simp at h2; rw [h2]
theorem zwe (w : World) (b : Nat) (s : ByteArray) (sr er : Int) (p : Nat) (ef : Bool) (h : Lx w b s p sr p er ef) (h2 : p ≤ s.size) :
    Calls Tryd.prog 27 #[.pointer (some ⟨b, 0, none⟩)] w fun e w' => e = .returned (.string ⟨#[]⟩) ∧ Below w.heap.size w w' := by
  rw [← extract_self s p]
  exact zword_any w b s sr er p p ef h (Nat.le_refl _) h2
theorem zcm (w : World) (b : Nat) (s : ByteArray) (sb sr eb er : Int) (ef : Bool) (h : Lx w b s sb sr eb er ef) :
    Calls Tryd.prog 26 #[.pointer (some ⟨b, 0, none⟩)] w fun e w' => e = .returned (.tuple #[]) ∧ Hid (Lx w' b s eb er eb er ef) ∧ w.grownBy w' (some b) :=
  (zcommit_any w b s sb sr eb er ef h).mono fun e w' ⟨he, hx, hg⟩ => ⟨he, hide hx, hg⟩

set_option maxRecDepth 20000 in
set_option maxHeartbeats 4000000 in
theorem law7 (s : ByteArray) (k : Nat) (w : World) (hs : s.size ≤ 1048576) (hk : k ≤ 1048576) (hU : TU w) :
    Calls Tryd.prog 7 #[.string s, .int .i64 (k : Int)] w fun e w' => e = .returned (.bool true) ∧ Below w.heap.size w w' := by
  have hs' : (s.size : Int) ≤ 1048576 := by omega
  have hk0 : (0 : Int) ≤ (k : Int) := by omega
  have hk' : (k : Int) ≤ 1048576 := by omega
  have HN := hide (new_any s w)
  clear hk
  go_enter Tryd.func7, Tryd.ntmps7
  go_wp2_with (first | (go_at_call 12; refine HN.out.mono ?_; rintro e w1 ⟨b, rfl, hb0, hx, hb1⟩) | go_in)
  have hx1 := hide hx
  clear hx HN
  go_loopw [6, 7, 8] (fun vp vc st wr => ∃ p c : Nat, vp = .int .i64 p ∧ vc = .int .i64 c ∧ st = .int .i64 c ∧ c ≤ p ∧ p ≤ s.size ∧ Hid (Lx wr b s 0 0 p c false) ∧ Below w.heap.size w wr) (fun _ _ st _ => s.size + 2 - (RowKit.intOf st).toNat)
  case atStart => exact ⟨0, 0, rfl, rfl, rfl, by omega, by omega, hx1, hb1⟩
  case round =>
    obtain ⟨p, c, rfl, rfl, rfl, hc, hp, hL, hbw⟩ := hrel
    have hcs : (c : Int) ≤ (s.size : Int) := by omega
    by_cases hck : c < k
    · have hck' : (c : Int) < (k : Int) := by omega
      clear hck
      by_cases hlt : p < s.size
      · obtain ⟨d1, d2, d3, d4, d5⟩ := dec_facts s p hlt
        obtain ⟨R, hR⟩ : ∃ R, (Utf8.decode s p).1 = R := ⟨_, rfl⟩
        obtain ⟨K, hK⟩ : ∃ K, (Utf8.decode s p).2 = K := ⟨_, rfl⟩
        have HX := fun w hL hU => hide (znx w b s 0 0 p c false hL hlt hs (by omega) hU R K hR hK)
        have HD := fun w => hide (dec_in s p w hlt hs R K hR hK)
        rw [hK] at d1 d2 d3
        clear hR hK d4 d5 hlt
        have hK0 : ((K : Int) == 0) = false := by rw [beq_eq_false_iff_ne]; omega
        go_wp2_with (first | (go_at_call 21; refine (HD _).out.mono ?_; rintro e w' ⟨rfl, rfl⟩))
        refine (HX wr hL.out (hU.below hbw)).out.mono ?_
        rintro e w4 ⟨rfl, hL4, hg4⟩
        have hbw4 := below_one hbw hg4 hb0
        clear hg4 HX HD
        go_wp2
        go_roundw
        case rel => exact ⟨p + K, c + 1, by go_num, by go_num, by go_num, by omega, by omega, hide hL4.out.nat, hbw4⟩
        case measure => simp [RowKit.intOf]; omega
      · have hps : p = s.size := by omega
        subst hps
        have HD := fun w => hide (dec_end s s.size w (Nat.le_refl _))
        have HX := fun w ef hL => hide (zne w b s 0 0 c ef hL hs)
        clear hlt
        go_wp2_with (first | (go_at_call 21; refine (HD _).out.mono ?_; rintro e w' ⟨rfl, rfl⟩))
        refine (HX wr false hL.out).out.mono ?_
        rintro e w4 ⟨rfl, hL4, hg4⟩
        have hbw4 := below_one hbw hg4 hb0
        clear hg4 HD HX
        have G7_15 := hide (endByte_any w4 b s 0 0 s.size c true hL4.out)
        have G7_17 := hide (endRune_any w4 b s 0 0 s.size c true hL4.out)
        have G7_19 := hide (eof_any w4 b s 0 0 s.size c true hL4.out)
        have G7_22 := hide (startByte_any w4 b s 0 0 s.size c true hL4.out)
        have G7_23 := hide (startRune_any w4 b s 0 0 s.size c true hL4.out)
        go_wp2_with (first | (go_at_call 15; refine G7_15.out.mono ?_; rintro e w' ⟨rfl, rfl⟩) | (go_at_call 17; refine G7_17.out.mono ?_; rintro e w' ⟨rfl, rfl⟩) | (go_at_call 19; refine G7_19.out.mono ?_; rintro e w' ⟨rfl, rfl⟩) | (go_at_call 22; refine G7_22.out.mono ?_; rintro e w' ⟨rfl, rfl⟩) | (go_at_call 23; refine G7_23.out.mono ?_; rintro e w' ⟨rfl, rfl⟩))
        refine (zcm w4 b s 0 0 s.size c true hL4.out).mono ?_
        rintro e w8 ⟨rfl, hL8, hg8⟩
        have hbw8 := below_one hbw4 hg8 hb0
        clear hg8
        have G8_15 := hide (endByte_any w8 b s s.size c s.size c true hL8.out)
        have G8_17 := hide (endRune_any w8 b s s.size c s.size c true hL8.out)
        have G8_19 := hide (eof_any w8 b s s.size c s.size c true hL8.out)
        have G8_22 := hide (startByte_any w8 b s s.size c s.size c true hL8.out)
        have G8_23 := hide (startRune_any w8 b s s.size c s.size c true hL8.out)
        go_wp2_with (first | (go_at_call 15; refine G8_15.out.mono ?_; rintro e w' ⟨rfl, rfl⟩) | (go_at_call 17; refine G8_17.out.mono ?_; rintro e w' ⟨rfl, rfl⟩) | (go_at_call 19; refine G8_19.out.mono ?_; rintro e w' ⟨rfl, rfl⟩) | (go_at_call 22; refine G8_22.out.mono ?_; rintro e w' ⟨rfl, rfl⟩) | (go_at_call 23; refine G8_23.out.mono ?_; rintro e w' ⟨rfl, rfl⟩))
        refine (zwe w8 b s c c s.size true hL8.out (Nat.le_refl _)).mono ?_
        rintro e w9 ⟨rfl, hb9⟩
        have hL9 := hide (hL8.out.below hb9)
        have hbw9 := hbw8.trans (hb9.mono hbw8.size)
        have HD9 := fun w => hide (dec_end s s.size w (Nat.le_refl _))
        go_wp2_with (first | (go_at_call 21; refine (HD9 _).out.mono ?_; rintro e w' ⟨rfl, rfl⟩))
        refine (zne w9 b s s.size c c true hL9.out hs).mono ?_
        rintro e w10 ⟨rfl, hL10, hg10⟩
        have hbw10 := below_one hbw9 hg10 hb0
        clear hg10
        go_wp2
        go_ret
        exact ⟨by simp, hbw10⟩
    · have hck' : (k : Int) ≤ (c : Int) := by omega
      clear hck
      by_cases hlt : p < s.size
      · obtain ⟨d1, d2, d3, d4, d5⟩ := dec_facts s p hlt
        obtain ⟨R, hR⟩ : ∃ R, (Utf8.decode s p).1 = R := ⟨_, rfl⟩
        obtain ⟨K, hK⟩ : ∃ K, (Utf8.decode s p).2 = K := ⟨_, rfl⟩
        clear d1 d2 d3 d4 d5
        have hR' := hide hR
        have hK' := hide hK
        clear hR hK
        have G7_15 := hide (endByte_any wr b s 0 0 p c false hL.out)
        have G7_17 := hide (endRune_any wr b s 0 0 p c false hL.out)
        have G7_19 := hide (eof_any wr b s 0 0 p c false hL.out)
        have G7_22 := hide (startByte_any wr b s 0 0 p c false hL.out)
        have G7_23 := hide (startRune_any wr b s 0 0 p c false hL.out)
        go_wp2_with (first | (go_at_call 15; refine G7_15.out.mono ?_; rintro e w' ⟨rfl, rfl⟩) | (go_at_call 17; refine G7_17.out.mono ?_; rintro e w' ⟨rfl, rfl⟩) | (go_at_call 19; refine G7_19.out.mono ?_; rintro e w' ⟨rfl, rfl⟩) | (go_at_call 22; refine G7_22.out.mono ?_; rintro e w' ⟨rfl, rfl⟩) | (go_at_call 23; refine G7_23.out.mono ?_; rintro e w' ⟨rfl, rfl⟩))
        refine (zcm wr b s 0 0 p c false hL.out).mono ?_
        rintro e w8 ⟨rfl, hL8, hg8⟩
        have hbw8 := below_one hbw hg8 hb0
        clear hg8
        have G8_15 := hide (endByte_any w8 b s p c p c false hL8.out)
        have G8_17 := hide (endRune_any w8 b s p c p c false hL8.out)
        have G8_19 := hide (eof_any w8 b s p c p c false hL8.out)
        have G8_22 := hide (startByte_any w8 b s p c p c false hL8.out)
        have G8_23 := hide (startRune_any w8 b s p c p c false hL8.out)
        go_wp2_with (first | (go_at_call 15; refine G8_15.out.mono ?_; rintro e w' ⟨rfl, rfl⟩) | (go_at_call 17; refine G8_17.out.mono ?_; rintro e w' ⟨rfl, rfl⟩) | (go_at_call 19; refine G8_19.out.mono ?_; rintro e w' ⟨rfl, rfl⟩) | (go_at_call 22; refine G8_22.out.mono ?_; rintro e w' ⟨rfl, rfl⟩) | (go_at_call 23; refine G8_23.out.mono ?_; rintro e w' ⟨rfl, rfl⟩))
        refine (zwe w8 b s c c p false hL8.out hp).mono ?_
        rintro e w9 ⟨rfl, hb9⟩
        have hL9 := hide (hL8.out.below hb9)
        have hbw9 := hbw8.trans (hb9.mono hbw8.size)
        have HD9 := fun w => hide (dec_in s p w hlt hs R K hR'.out hK'.out)
        have HX9 := hide (znx w9 b s p c p c false hL9.out hlt hs (by omega) (hU.below hbw9) R K hR'.out hK'.out)
        go_wp2_with (first | (go_at_call 21; refine (HD9 _).out.mono ?_; rintro e w' ⟨rfl, rfl⟩))
        refine HX9.out.mono ?_
        rintro e w10 ⟨rfl, hL10, hg10⟩
        have hbw10 := below_one hbw9 hg10 hb0
        clear hg10
        go_wp2
        go_ret
        exact ⟨by simp, hbw10⟩
      · have hps : p = s.size := by omega
        subst hps
        clear hlt
        have G7_15 := hide (endByte_any wr b s 0 0 s.size c false hL.out)
        have G7_17 := hide (endRune_any wr b s 0 0 s.size c false hL.out)
        have G7_19 := hide (eof_any wr b s 0 0 s.size c false hL.out)
        have G7_22 := hide (startByte_any wr b s 0 0 s.size c false hL.out)
        have G7_23 := hide (startRune_any wr b s 0 0 s.size c false hL.out)
        go_wp2_with (first | (go_at_call 15; refine G7_15.out.mono ?_; rintro e w' ⟨rfl, rfl⟩) | (go_at_call 17; refine G7_17.out.mono ?_; rintro e w' ⟨rfl, rfl⟩) | (go_at_call 19; refine G7_19.out.mono ?_; rintro e w' ⟨rfl, rfl⟩) | (go_at_call 22; refine G7_22.out.mono ?_; rintro e w' ⟨rfl, rfl⟩) | (go_at_call 23; refine G7_23.out.mono ?_; rintro e w' ⟨rfl, rfl⟩))
        refine (zcm wr b s 0 0 s.size c false hL.out).mono ?_
        rintro e w8 ⟨rfl, hL8, hg8⟩
        have hbw8 := below_one hbw hg8 hb0
        clear hg8
        have G8_15 := hide (endByte_any w8 b s s.size c s.size c false hL8.out)
        have G8_17 := hide (endRune_any w8 b s s.size c s.size c false hL8.out)
        have G8_19 := hide (eof_any w8 b s s.size c s.size c false hL8.out)
        have G8_22 := hide (startByte_any w8 b s s.size c s.size c false hL8.out)
        have G8_23 := hide (startRune_any w8 b s s.size c s.size c false hL8.out)
        go_wp2_with (first | (go_at_call 15; refine G8_15.out.mono ?_; rintro e w' ⟨rfl, rfl⟩) | (go_at_call 17; refine G8_17.out.mono ?_; rintro e w' ⟨rfl, rfl⟩) | (go_at_call 19; refine G8_19.out.mono ?_; rintro e w' ⟨rfl, rfl⟩) | (go_at_call 22; refine G8_22.out.mono ?_; rintro e w' ⟨rfl, rfl⟩) | (go_at_call 23; refine G8_23.out.mono ?_; rintro e w' ⟨rfl, rfl⟩))
        refine (zwe w8 b s c c s.size false hL8.out (Nat.le_refl _)).mono ?_
        rintro e w9 ⟨rfl, hb9⟩
        have hL9 := hide (hL8.out.below hb9)
        have hbw9 := hbw8.trans (hb9.mono hbw8.size)
        have HD9 := fun w => hide (dec_end s s.size w (Nat.le_refl _))
        go_wp2_with (first | (go_at_call 21; refine (HD9 _).out.mono ?_; rintro e w' ⟨rfl, rfl⟩))
        refine (zne w9 b s s.size c c false hL9.out hs).mono ?_
        rintro e w10 ⟨rfl, hL10, hg10⟩
        have hbw10 := below_one hbw9 hg10 hb0
        clear hg10
        go_wp2
        go_ret
        exact ⟨by simp, hbw10⟩

theorem all7 (s : ByteArray) (k : Int) (w : World) (hm : s.size ≤ maxLen) (_h1 : -9223372036854775808 ≤ k) (_h2 : k ≤ 9223372036854775807) (hU : TU w) :
    Calls Tryd.prog 7 #[.string s, .int .i64 k] w fun e w' => e = .returned (.bool true) ∧ Below w.heap.size w w' := by
  by_cases h : s.size ≤ 1048576
  · by_cases h3 : k < 0
    · exact neg7 s k w h h3
    · by_cases h4 : 1048576 < k
      · exact pos7 s k w h h4
      · obtain ⟨n, rfl⟩ := Int.eq_ofNat_of_zero_le (show 0 ≤ k by omega)
        exact law7 s n w h (by omega) hU
  · exact big7 s k w (by omega) (by unfold maxLen at hm; omega)
end Go.Proofs.YtklkbalbmeefjaaDoor
