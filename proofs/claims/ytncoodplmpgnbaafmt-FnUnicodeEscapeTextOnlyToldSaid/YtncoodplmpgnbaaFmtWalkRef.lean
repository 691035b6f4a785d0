/-
  The walk of the statement on refusals. Condition: utf8's two tables hold what their initialisers lay.
-/
import Derived.Test.YtncoodplmpgnbaaFmtRef
namespace Go.Proofs.YtncoodplmpgnbaaFmt
open Go.RowKit Go.Lib Go.Shelf Go.Proofs
set_option linter.unusedVariables false
set_option linter.unusedSimpArgs false

theorem zz7_yes (s : ByteArray) (W : World) (h : s.size ≤ 1048576) : Calls Tryf.prog 7 #[.string s] W fun e w' => e = .returned (.bool true) ∧ W = w' := by
  have h' : (s.size : Int) ≤ 1048576 := by omega
  have h_0 : (s.size : Int) ≤ 1048576 := by omega
  clear h
  go_enter Tryf.func7, Tryf.ntmps7
  go_wp2
  go_ret
  exact ⟨rfl, rfl⟩
set_option maxRecDepth 20000 in
theorem zz7_no (s : ByteArray) (W : World) (h : 1048576 < s.size) (hm : s.size ≤ maxLen) : Calls Tryf.prog 7 #[.string s] W fun e w' => e = .returned (.bool false) ∧ W = w' := by
  have h' : 1048576 < (s.size : Int) := by omega
  have n_0 : (s.size : Int) ≤ 9223372036854775807 := by unfold maxLen at hm; omega
  clear h hm
  go_enter Tryf.func7, Tryf.ntmps7
  go_wp2
  all_goals (first | (go_ret; exact ⟨rfl, rfl⟩) | (exfalso; omega))
theorem bad8 (s : ByteArray) (w : World) (hs : s.size ≤ 1048600) (hT : TU w) (h : unText unesc (bytesB (nlL s.data.toList)) = none) :
    Calls Tryf.prog 8 #[.string s] w fun e w' => (∃ t a, e = .returned (.tuple #[.string t, .iface 68 (.pointer (some a))])) ∧ Below w.heap.size w w' := by
  have H := zz8 s w hs hT
  rw [h] at H
  exact H
theorem bad9 (s : ByteArray) (w : World) (hs : s.size ≤ 1048600) (hT : TU w) (h : unText unescB (bytesB (nlL s.data.toList)) = none) :
    Calls Tryf.prog 9 #[.string s] w fun e w' => (∃ t a, e = .returned (.tuple #[.string t, .iface 68 (.pointer (some a))])) ∧ Below w.heap.size w w' := by
  have H := zz9 s w hs hT
  rw [h] at H
  exact H
set_option maxRecDepth 20000 in
set_option maxHeartbeats 4000000 in
theorem ref_short (s : ByteArray) (w : World) (hs : s.size ≤ 1048576) (hT : TU w) (hq : s.size < 2) :
    Calls Tryf.prog 3 #[.string s] w fun e w' => e = .returned (.bool true) ∧ Below w.heap.size w w' := by
  have Z := hide (zz7_yes s w hs)
  have hs' : (s.size : Int) ≤ 1048576 := by omega
  have hTh := hide hT
  have H8 := fun w hT h => hide (bad8 s w (by omega) hT h)
  have H9 := fun w hT h => hide (bad9 s w (by omega) hT h)
  have hsh := hide hs
  have hr8 := hide (refused eats_unesc s (.inl (by unfold quotedB; omega)))
  have hr9 := hide (refused eats_unescB s (.inl (by unfold quotedB; omega)))
  have hq' : ¬ (2 : Int) ≤ (s.size : Int) := by omega
  clear hq
  clear hT
  go_enter Tryf.func3, Tryf.ntmps3
  go_wp2_with fail
  refine Z.out.mono ?_
  rintro e w' ⟨rfl, rfl⟩
  go_wp2_with fail
  refine wp_region_quiet_lit (by kernel_rfl) (by kernel_rfl) ?_
  repeat (go_big_quiet_step (fail))
  have hD : ∀ d : Decidable ((2 : Int) ≤ (s.size : Int)), @decide _ d = false := fun d => by rw [decide_eq_false_iff_not]; omega
  rw [hD]
  repeat (go_big_quiet_step (fail))
  refine wpQuiet_nil ?_
  intro _ hw'
  obtain ⟨nq, hw''⟩ := hw'
  subst hw''
  have hb0 := hide (below_drewN' (Below.refl w.heap.size w) nq)
  generalize w.drewN nq = W0 at *
  go_wp2_with fail
  refine (H8 W0 (hTh.out.below hb0.out) hr8.out).out.mono ?_
  rintro e W1 ⟨⟨t1, a1, rfl⟩, hb1⟩
  have hb1h := hide (hb0.out.trans (hb1.mono hb0.out.size))
  go_wp2_with fail
  refine (H9 W1 (hTh.out.below hb1h.out) hr9.out).out.mono ?_
  rintro e W2 ⟨⟨t2, a2, rfl⟩, hb2⟩
  have hb2h := hide (hb1h.out.trans (hb2.mono hb1h.out.size))
  go_wp2
  go_ret
  exact ⟨by simp, hb2h.out⟩

set_option maxRecDepth 20000 in
set_option maxHeartbeats 4000000 in
theorem ref_differ (s : ByteArray) (w : World) (hs : s.size ≤ 1048576) (hT : TU w) (hq : 2 ≤ s.size ∧ byteAt s 0 ≠ byteAt s (s.size - 1)) :
    Calls Tryf.prog 3 #[.string s] w fun e w' => e = .returned (.bool true) ∧ Below w.heap.size w w' := by
  have Z := hide (zz7_yes s w hs)
  have hs' : (s.size : Int) ≤ 1048576 := by omega
  have hTh := hide hT
  have H8 := fun w hT h => hide (bad8 s w (by omega) hT h)
  have H9 := fun w hT h => hide (bad9 s w (by omega) hT h)
  have hsh := hide hs
  have hr8 := hide (refused eats_unesc s (.inl (by unfold quotedB; omega)))
  have hr9 := hide (refused eats_unescB s (.inl (by unfold quotedB; omega)))
  have g0 : ∀ h : 0 < s.size, ((s[0]'h).toNat : Int) = (byteAt s 0 : Int) := fun h => byteAt_get s 0 h
  have gn : ∀ h : s.size - 1 < s.size, ((s[s.size - 1]'h).toNat : Int) = (byteAt s (s.size - 1) : Int) := fun h => byteAt_get s (s.size - 1) h
  have hq2 : (2 : Int) ≤ (s.size : Int) := by omega
  have hq2n := hq.1
  have k0 : ((byteAt s 0 : Int) == (byteAt s (s.size - 1) : Int)) = false := by rw [beq_eq_false_iff_ne]; omega
  clear hq
  clear hT
  go_enter Tryf.func3, Tryf.ntmps3
  go_wp2_with fail
  refine Z.out.mono ?_
  rintro e w' ⟨rfl, rfl⟩
  go_wp2_with fail
  go_quiet (fail)
  have hb0 := hide (below_drewN' (Below.refl w.heap.size w) nq)
  generalize w.drewN nq = W0 at *
  go_wp2_with fail
  refine (H8 W0 (hTh.out.below hb0.out) hr8.out).out.mono ?_
  rintro e W1 ⟨⟨t1, a1, rfl⟩, hb1⟩
  have hb1h := hide (hb0.out.trans (hb1.mono hb0.out.size))
  go_wp2_with fail
  refine (H9 W1 (hTh.out.below hb1h.out) hr9.out).out.mono ?_
  rintro e W2 ⟨⟨t2, a2, rfl⟩, hb2⟩
  have hb2h := hide (hb1h.out.trans (hb2.mono hb1h.out.size))
  go_wp2
  go_ret
  exact ⟨by simp, hb2h.out⟩

set_option maxRecDepth 20000 in
set_option maxHeartbeats 4000000 in
theorem ref_plain (s : ByteArray) (w : World) (hs : s.size ≤ 1048576) (hT : TU w) (hq : 2 ≤ s.size ∧ byteAt s 0 = byteAt s (s.size - 1) ∧ byteAt s 0 ≠ 34 ∧ byteAt s 0 ≠ 39) :
    Calls Tryf.prog 3 #[.string s] w fun e w' => e = .returned (.bool true) ∧ Below w.heap.size w w' := by
  have Z := hide (zz7_yes s w hs)
  have hs' : (s.size : Int) ≤ 1048576 := by omega
  have hTh := hide hT
  have H8 := fun w hT h => hide (bad8 s w (by omega) hT h)
  have H9 := fun w hT h => hide (bad9 s w (by omega) hT h)
  have hsh := hide hs
  have hr8 := hide (refused eats_unesc s (.inl (by unfold quotedB; omega)))
  have hr9 := hide (refused eats_unescB s (.inl (by unfold quotedB; omega)))
  have g0 : ∀ h : 0 < s.size, ((s[0]'h).toNat : Int) = (byteAt s 0 : Int) := fun h => byteAt_get s 0 h
  have gn : ∀ h : s.size - 1 < s.size, ((s[s.size - 1]'h).toNat : Int) = (byteAt s (s.size - 1) : Int) := fun h => byteAt_get s (s.size - 1) h
  have hq2 : (2 : Int) ≤ (s.size : Int) := by omega
  have hq2n := hq.1
  have k0 : ((byteAt s 0 : Int) == (byteAt s (s.size - 1) : Int)) = true := by rw [beq_iff_eq]; omega
  have k1 : ((byteAt s 0 : Int) == 34) = false := by rw [beq_eq_false_iff_ne]; omega
  have k2 : ((byteAt s 0 : Int) == 39) = false := by rw [beq_eq_false_iff_ne]; omega
  clear hq
  clear hT
  go_enter Tryf.func3, Tryf.ntmps3
  go_wp2_with fail
  refine Z.out.mono ?_
  rintro e w' ⟨rfl, rfl⟩
  go_wp2_with fail
  go_quiet (fail)
  have hb0 := hide (below_drewN' (Below.refl w.heap.size w) nq)
  generalize w.drewN nq = W0 at *
  go_wp2_with fail
  refine (H8 W0 (hTh.out.below hb0.out) hr8.out).out.mono ?_
  rintro e W1 ⟨⟨t1, a1, rfl⟩, hb1⟩
  have hb1h := hide (hb0.out.trans (hb1.mono hb0.out.size))
  go_wp2_with fail
  refine (H9 W1 (hTh.out.below hb1h.out) hr9.out).out.mono ?_
  rintro e W2 ⟨⟨t2, a2, rfl⟩, hb2⟩
  have hb2h := hide (hb1h.out.trans (hb2.mono hb1h.out.size))
  go_wp2
  go_ret
  exact ⟨by simp, hb2h.out⟩

set_option maxRecDepth 20000 in
set_option maxHeartbeats 4000000 in
theorem ref_dq (s : ByteArray) (w : World) (hs : s.size ≤ 1048576) (hT : TU w) (hq : 2 ≤ s.size ∧ byteAt s 0 = byteAt s (s.size - 1) ∧ byteAt s 0 = 34) :
    Calls Tryf.prog 3 #[.string s] w fun e w' => e = .returned (.bool true) ∧ Below w.heap.size w w' := by
  have Z := hide (zz7_yes s w hs)
  have hs' : (s.size : Int) ≤ 1048576 := by omega
  have hTh := hide hT
  have H8 := fun w hT h => hide (bad8 s w (by omega) hT h)
  have H9 := fun w hT h => hide (bad9 s w (by omega) hT h)
  have hsh := hide hs
  have g0 : ∀ h : 0 < s.size, ((s[0]'h).toNat : Int) = (byteAt s 0 : Int) := fun h => byteAt_get s 0 h
  have gn : ∀ h : s.size - 1 < s.size, ((s[s.size - 1]'h).toNat : Int) = (byteAt s (s.size - 1) : Int) := fun h => byteAt_get s (s.size - 1) h
  have hq2 : (2 : Int) ≤ (s.size : Int) := by omega
  have hq2n := hq.1
  have hquo := hide (show quotedB s by unfold quotedB; omega)
  have k0 : ((byteAt s 0 : Int) == (byteAt s (s.size - 1) : Int)) = true := by rw [beq_iff_eq]; omega
  have k1 : ((byteAt s 0 : Int) == 34) = true := by rw [beq_iff_eq]; omega
  clear hq
  clear hT
  go_enter Tryf.func3, Tryf.ntmps3
  go_wp2_with fail
  refine Z.out.mono ?_
  rintro e w' ⟨rfl, rfl⟩
  go_wp2_with fail
  go_quiet (fail)
  have hb0 := hide (below_drewN' (Below.refl w.heap.size w) nq)
  generalize w.drewN nq = W0 at *
  go_wp2_with fail
  go_loopw [6, 7] (fun rv iv wr => ∃ j p : Nat, rv = .int .i64 j ∧ iv = .int .i64 p ∧ p + j + 2 = s.size ∧ Hid (∀ i, p < i → i < s.size - 1 → byteAt s i = 92) ∧ W0 = wr) (fun _ iv _ => (RowKit.intOf iv).toNat)
  case atStart => exact ⟨0, s.size - 2, rfl, by go_num, by omega, hide (fun i h1 h2 => by omega), rfl⟩
  case round =>
    clear g0 gn k0 k1
    obtain ⟨j, p, rfl, rfl, hjp, hall, rfl⟩ := hrel
    have p0 : (0 : Int) ≤ (p : Int) := by omega
    have j0 : (0 : Int) ≤ (j : Int) := by omega
    have pj : (p : Int) + (j : Int) + 2 = (s.size : Int) := by omega
    have pjh := hide pj
    have pls : (p : Int) < (s.size : Int) := by omega
    have jb : (j : Int) ≤ 1048576 := by omega
    have gp : ∀ h : p < s.size, ((s[p]'h).toNat : Int) = (byteAt s p : Int) := fun h => byteAt_get s p h
    have hjph := hide hjp
    clear pj
    by_cases hc : 1 ≤ p ∧ byteAt s p = 92
    · have c1 : (1 : Int) ≤ (p : Int) := by omega
      have c2 : (byteAt s p : Int) = 92 := by omega
      have hall2 := hide (show ∀ i, p - 1 < i → i < s.size - 1 → byteAt s i = 92 by
        intro i h1 h2
        by_cases e : i = p
        · subst e; exact hc.2
        · exact hall.out i (by omega) h2)
      have hch := hide hc.1
      clear hjp hc hall
      go_wp2
      go_roundw
      case rel => exact ⟨j + 1, p - 1, by go_num, by have := hch.out; go_num, by have := hch.out; have := hjph.out; omega, hall2, by first | rfl | trivial⟩
      case measure => have := hch.out; simp [RowKit.intOf]; omega
    · have hex : p < 1 ∨ (1 ≤ p ∧ byteAt s p ≠ 92) := by
        by_cases h1 : 1 ≤ p
        · right
          exact ⟨h1, fun h2 => hc ⟨h1, h2⟩⟩
        · left; omega
      rcases (show j % 2 = 1 ∨ j % 2 = 0 by omega) with hodd | heven
      · have hmod : (j : Int).tmod 2 = 1 := by
          rw [Int.tmod_eq_emod_of_nonneg (by omega)]
          omega
        have hcond : ¬ quotedB s ∨ (quotedB s ∧ ∃ j, j % 2 = 1 ∧ j + 2 ≤ s.size ∧ (∀ i, s.size - 1 - j ≤ i → i < s.size - 1 → byteAt s i = 92) ∧ (j + 2 = s.size ∨ byteAt s (s.size - 2 - j) ≠ 92)) := by
          refine .inr ⟨hquo.out, j, hodd, by omega, fun i h1 h2 => hall.out i (by omega) h2, ?_⟩
          rcases hex with h | h
          · left; omega
          · right
            rw [show s.size - 2 - j = p by omega]
            exact h.2
        have hr8 := hide (refused eats_unesc s hcond)
        have hr9 := hide (refused eats_unescB s hcond)
        clear hcond hall hjp hc hodd
        rcases hex with hx | hx
        · have hx' : ¬ (1 : Int) ≤ (p : Int) := by omega
          clear hx
          go_wp2_with fail
          refine (H8 W0 (hTh.out.below hb0.out) hr8.out).out.mono ?_
          rintro e W1 ⟨⟨t1, a1, rfl⟩, hb1⟩
          have hb1h := hide (hb0.out.trans (hb1.mono hb0.out.size))
          go_wp2_with fail
          refine (H9 W1 (hTh.out.below hb1h.out) hr9.out).out.mono ?_
          rintro e W2 ⟨⟨t2, a2, rfl⟩, hb2⟩
          have hb2h := hide (hb1h.out.trans (hb2.mono hb1h.out.size))
          go_wp2
          go_ret
          exact ⟨by simp, hb2h.out⟩
        · have hx1 : (1 : Int) ≤ (p : Int) := by omega
          have hx2 : ((byteAt s p : Int) == 92) = false := by rw [beq_eq_false_iff_ne]; omega
          clear hx
          go_wp2_with fail
          refine (H8 W0 (hTh.out.below hb0.out) hr8.out).out.mono ?_
          rintro e W1 ⟨⟨t1, a1, rfl⟩, hb1⟩
          have hb1h := hide (hb0.out.trans (hb1.mono hb0.out.size))
          go_wp2_with fail
          refine (H9 W1 (hTh.out.below hb1h.out) hr9.out).out.mono ?_
          rintro e W2 ⟨⟨t2, a2, rfl⟩, hb2⟩
          have hb2h := hide (hb1h.out.trans (hb2.mono hb1h.out.size))
          go_wp2
          go_ret
          exact ⟨by simp, hb2h.out⟩
      · have hmod : (j : Int).tmod 2 = 0 := by
          rw [Int.tmod_eq_emod_of_nonneg (by omega)]
          omega
        clear hall hjp hc heven
        rcases hex with hx | hx
        · have hx' : ¬ (1 : Int) ≤ (p : Int) := by omega
          clear hx
          go_wp2
          go_ret
          exact ⟨by simp, hb0.out⟩
        · have hx1 : (1 : Int) ≤ (p : Int) := by omega
          have hx2 : ((byteAt s p : Int) == 92) = false := by rw [beq_eq_false_iff_ne]; omega
          clear hx
          go_wp2
          go_ret
          exact ⟨by simp, hb0.out⟩

set_option maxRecDepth 20000 in
set_option maxHeartbeats 4000000 in
theorem ref_sq (s : ByteArray) (w : World) (hs : s.size ≤ 1048576) (hT : TU w) (hq : 2 ≤ s.size ∧ byteAt s 0 = byteAt s (s.size - 1) ∧ byteAt s 0 = 39) :
    Calls Tryf.prog 3 #[.string s] w fun e w' => e = .returned (.bool true) ∧ Below w.heap.size w w' := by
  have Z := hide (zz7_yes s w hs)
  have hs' : (s.size : Int) ≤ 1048576 := by omega
  have hTh := hide hT
  have H8 := fun w hT h => hide (bad8 s w (by omega) hT h)
  have H9 := fun w hT h => hide (bad9 s w (by omega) hT h)
  have hsh := hide hs
  have g0 : ∀ h : 0 < s.size, ((s[0]'h).toNat : Int) = (byteAt s 0 : Int) := fun h => byteAt_get s 0 h
  have gn : ∀ h : s.size - 1 < s.size, ((s[s.size - 1]'h).toNat : Int) = (byteAt s (s.size - 1) : Int) := fun h => byteAt_get s (s.size - 1) h
  have hq2 : (2 : Int) ≤ (s.size : Int) := by omega
  have hq2n := hq.1
  have hquo := hide (show quotedB s by unfold quotedB; omega)
  have k0 : ((byteAt s 0 : Int) == (byteAt s (s.size - 1) : Int)) = true := by rw [beq_iff_eq]; omega
  have k1 : ((byteAt s 0 : Int) == 34) = false := by rw [beq_eq_false_iff_ne]; omega
  have k2 : ((byteAt s 0 : Int) == 39) = true := by rw [beq_iff_eq]; omega
  clear hq
  clear hT
  go_enter Tryf.func3, Tryf.ntmps3
  go_wp2_with fail
  refine Z.out.mono ?_
  rintro e w' ⟨rfl, rfl⟩
  go_wp2_with fail
  go_quiet (fail)
  have hb0 := hide (below_drewN' (Below.refl w.heap.size w) nq)
  generalize w.drewN nq = W0 at *
  go_wp2_with fail
  go_loopw [6, 7] (fun rv iv wr => ∃ j p : Nat, rv = .int .i64 j ∧ iv = .int .i64 p ∧ p + j + 2 = s.size ∧ Hid (∀ i, p < i → i < s.size - 1 → byteAt s i = 92) ∧ W0 = wr) (fun _ iv _ => (RowKit.intOf iv).toNat)
  case atStart => exact ⟨0, s.size - 2, rfl, by go_num, by omega, hide (fun i h1 h2 => by omega), rfl⟩
  case round =>
    clear g0 gn k0 k1 k2
    obtain ⟨j, p, rfl, rfl, hjp, hall, rfl⟩ := hrel
    have p0 : (0 : Int) ≤ (p : Int) := by omega
    have j0 : (0 : Int) ≤ (j : Int) := by omega
    have pj : (p : Int) + (j : Int) + 2 = (s.size : Int) := by omega
    have pjh := hide pj
    have pls : (p : Int) < (s.size : Int) := by omega
    have jb : (j : Int) ≤ 1048576 := by omega
    have gp : ∀ h : p < s.size, ((s[p]'h).toNat : Int) = (byteAt s p : Int) := fun h => byteAt_get s p h
    have hjph := hide hjp
    clear pj
    by_cases hc : 1 ≤ p ∧ byteAt s p = 92
    · have c1 : (1 : Int) ≤ (p : Int) := by omega
      have c2 : (byteAt s p : Int) = 92 := by omega
      have hall2 := hide (show ∀ i, p - 1 < i → i < s.size - 1 → byteAt s i = 92 by
        intro i h1 h2
        by_cases e : i = p
        · subst e; exact hc.2
        · exact hall.out i (by omega) h2)
      have hch := hide hc.1
      clear hjp hc hall
      go_wp2
      go_roundw
      case rel => exact ⟨j + 1, p - 1, by go_num, by have := hch.out; go_num, by have := hch.out; have := hjph.out; omega, hall2, by first | rfl | trivial⟩
      case measure => have := hch.out; simp [RowKit.intOf]; omega
    · have hex : p < 1 ∨ (1 ≤ p ∧ byteAt s p ≠ 92) := by
        by_cases h1 : 1 ≤ p
        · right
          exact ⟨h1, fun h2 => hc ⟨h1, h2⟩⟩
        · left; omega
      rcases (show j % 2 = 1 ∨ j % 2 = 0 by omega) with hodd | heven
      · have hmod : (j : Int).tmod 2 = 1 := by
          rw [Int.tmod_eq_emod_of_nonneg (by omega)]
          omega
        have hcond : ¬ quotedB s ∨ (quotedB s ∧ ∃ j, j % 2 = 1 ∧ j + 2 ≤ s.size ∧ (∀ i, s.size - 1 - j ≤ i → i < s.size - 1 → byteAt s i = 92) ∧ (j + 2 = s.size ∨ byteAt s (s.size - 2 - j) ≠ 92)) := by
          refine .inr ⟨hquo.out, j, hodd, by omega, fun i h1 h2 => hall.out i (by omega) h2, ?_⟩
          rcases hex with h | h
          · left; omega
          · right
            rw [show s.size - 2 - j = p by omega]
            exact h.2
        have hr8 := hide (refused eats_unesc s hcond)
        have hr9 := hide (refused eats_unescB s hcond)
        clear hcond hall hjp hc hodd
        rcases hex with hx | hx
        · have hx' : ¬ (1 : Int) ≤ (p : Int) := by omega
          clear hx
          go_wp2_with fail
          refine (H8 W0 (hTh.out.below hb0.out) hr8.out).out.mono ?_
          rintro e W1 ⟨⟨t1, a1, rfl⟩, hb1⟩
          have hb1h := hide (hb0.out.trans (hb1.mono hb0.out.size))
          go_wp2_with fail
          refine (H9 W1 (hTh.out.below hb1h.out) hr9.out).out.mono ?_
          rintro e W2 ⟨⟨t2, a2, rfl⟩, hb2⟩
          have hb2h := hide (hb1h.out.trans (hb2.mono hb1h.out.size))
          go_wp2
          go_ret
          exact ⟨by simp, hb2h.out⟩
        · have hx1 : (1 : Int) ≤ (p : Int) := by omega
          have hx2 : ((byteAt s p : Int) == 92) = false := by rw [beq_eq_false_iff_ne]; omega
          clear hx
          go_wp2_with fail
          refine (H8 W0 (hTh.out.below hb0.out) hr8.out).out.mono ?_
          rintro e W1 ⟨⟨t1, a1, rfl⟩, hb1⟩
          have hb1h := hide (hb0.out.trans (hb1.mono hb0.out.size))
          go_wp2_with fail
          refine (H9 W1 (hTh.out.below hb1h.out) hr9.out).out.mono ?_
          rintro e W2 ⟨⟨t2, a2, rfl⟩, hb2⟩
          have hb2h := hide (hb1h.out.trans (hb2.mono hb1h.out.size))
          go_wp2
          go_ret
          exact ⟨by simp, hb2h.out⟩
      · have hmod : (j : Int).tmod 2 = 0 := by
          rw [Int.tmod_eq_emod_of_nonneg (by omega)]
          omega
        clear hall hjp hc heven
        rcases hex with hx | hx
        · have hx' : ¬ (1 : Int) ≤ (p : Int) := by omega
          clear hx
          go_wp2
          go_ret
          exact ⟨by simp, hb0.out⟩
        · have hx1 : (1 : Int) ≤ (p : Int) := by omega
          have hx2 : ((byteAt s p : Int) == 92) = false := by rw [beq_eq_false_iff_ne]; omega
          clear hx
          go_wp2
          go_ret
          exact ⟨by simp, hb0.out⟩

theorem all3 (s : ByteArray) (w : World) (hm : s.size ≤ maxLen) (hT : TU w) :
    Calls Tryf.prog 3 #[.string s] w fun e w' => e = .returned (.bool true) ∧ Below w.heap.size w w' := by
  by_cases h : s.size ≤ 1048576
  · by_cases h1 : s.size < 2
    · exact ref_short s w h hT h1
    by_cases h2 : byteAt s 0 = byteAt s (s.size - 1)
    · by_cases h3 : byteAt s 0 = 34
      · exact ref_dq s w h hT ⟨by omega, h2, h3⟩
      · by_cases h4 : byteAt s 0 = 39
        · exact ref_sq s w h hT ⟨by omega, h2, h4⟩
        · exact ref_plain s w h hT ⟨by omega, h2, h3, h4⟩
    · exact ref_differ s w h hT ⟨by omega, h2⟩
  · have Z := hide (zz7_no s w (by omega) hm)
    clear h hm
    go_enter Tryf.func3, Tryf.ntmps3
    go_wp2_with fail
    refine Z.out.mono ?_
    rintro e w' ⟨rfl, rfl⟩
    go_wp2
    go_ret
    exact ⟨rfl, Below.refl _ _⟩
end Go.Proofs.YtncoodplmpgnbaaFmt
