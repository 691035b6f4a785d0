/-
  unescapeByteChar by contract: the hex form, the octal form, and all ways together. Condition: utf8's two tables hold what their initialisers lay, where the text says so.
-/
import Derived.Test.YtncoodplmpgnbaaFmtUb
namespace Go.Proofs.YtncoodplmpgnbaaFmt
open Go.RowKit Go.Lib Go.Shelf Go.Proofs
set_option linter.unusedVariables false
set_option linter.unusedSimpArgs false

set_option maxRecDepth 20000 in
set_option maxHeartbeats 4000000 in
theorem ub_hex120 (s : ByteArray) (w : World) (hs : s.size ≤ 9223372036854775807) (hs0 : 2 ≤ s.size) (h0 : byteAt s 0 = 92) (h1 : byteAt s 1 = 120) (hun : unescB s = hexB s) :
    Calls Tryf.prog 34 #[.string s] w fun e w' => UbRes s (unescB s) e ∧ Below w.heap.size w w' := by
  obtain ⟨t, ht⟩ : ∃ t, s.extract 2 s.size = t := ⟨_, rfl⟩
  have hts := cut_size s 2 hs0
  rw [ht] at hts
  have g0 : ∀ h : 0 < s.size, ((s[0]'h).toNat : Int) = (byteAt s 0 : Int) := fun h => byteAt_get s 0 h
  have g1 : ∀ h : 1 < s.size, ((s[1]'h).toNat : Int) = (byteAt s 1 : Int) := fun h => byteAt_get s 1 h
  have h0' : (byteAt s 0 : Int) = 92 := by omega
  have h1' : (byteAt s 1 : Int) = 120 := by omega
  have hs0' : (2 : Int) ≤ (s.size : Int) := by omega
  have hun' := hide hun
  have ht0 : (0 : Int) ≤ (t.size : Int) := by omega
  have htail := hide (cut_tail s t 2 2 ht)
  have p0 : ∀ h : 0 < t.size, ((t[0]'h).toNat : Int) = (byteAt s 2 : Int) := cut_get s t 2 0 ht
  have p1 : ∀ h : 1 < t.size, ((t[1]'h).toNat : Int) = (byteAt s 3 : Int) := cut_get s t 2 1 ht
  have l2 := byteAt_le s 2
  have l3 := byteAt_le s 3
  have hH : hexB s = if s.size < 4 then none else match hexN s 2 2 with | none => none | some v => some ((v : Int), false, 4) := rfl
  have hN : hexN s 2 2 = match hexD (byteAt s 2), hexD (byteAt s 3) with | some a, some b => some (a * 16 + b) | _, _ => none := by
    simp only [hexN]
    cases hexD (byteAt s 2) <;> cases hexD (byteAt s 3) <;> simp
  rw [hN] at hH
  have hH' := hide hH
  generalize byteAt s 0 = b0 at *
  generalize byteAt s 1 = b1 at *
  generalize byteAt s 2 = b2 at *
  generalize byteAt s 3 = b3 at *
  clear h0 h1 hun hH hN
  by_cases hsz : s.size < 4
  · have hsz' : (t.size : Int) < 2 := by omega
    have hu := hide (show unescB s = none by rw [hun'.out, hH'.out, if_pos hsz])
    clear hts
    go_enter Tryf.func34, Tryf.ntmps34
    go_wp2_with fail
    all_goals
      refine (errorf_any _ (by decide +kernel) _).mono ?_
      rintro e w1 ⟨a, rfl, hb1⟩
      go_wp2
      refine bodyPost_ret (results_tmp4 rfl _ _ _) rfl ?_
      exact ⟨UbRes.bad hu.out, hb1⟩
  · have hsz' : (2 : Int) ≤ (t.size : Int) := by omega
    clear hts
    have H2 := hide (unhex_any b2 w l2)
    have H3 := hide (unhex_any b3 w l3)
    rcases hd2 : hexD b2 with _ | d2
    · rw [show hexV b2 = 0 by unfold hexV; rw [hd2]; rfl, hd2] at H2
      have hu := hide (show unescB s = none by rw [hun'.out, hH'.out, if_neg hsz, hd2])
      clear hd2
      go_enter Tryf.func34, Tryf.ntmps34
      go_wp2_with fail
      refine H2.out.mono ?_
      rintro e w1 ⟨rfl, rfl⟩
      go_wp2_with fail
      refine H3.out.mono ?_
      rintro e w1 ⟨rfl, rfl⟩
      go_wp2_with fail
      all_goals
        refine (errorf_any _ (by decide +kernel) _).mono ?_
        rintro e w1 ⟨a, rfl, hb1⟩
        go_wp2
        refine bodyPost_ret (results_tmp4 rfl _ _ _) rfl ?_
        exact ⟨UbRes.bad hu.out, hb1⟩
    · rw [show hexV b2 = d2 by unfold hexV; rw [hd2]; rfl, hd2] at H2
      rcases hd3 : hexD b3 with _ | d3
      · rw [show hexV b3 = 0 by unfold hexV; rw [hd3]; rfl, hd3] at H3
        have hu := hide (show unescB s = none by rw [hun'.out, hH'.out, if_neg hsz, hd2, hd3])
        clear hd2 hd3
        go_enter Tryf.func34, Tryf.ntmps34
        go_wp2_with fail
        refine H2.out.mono ?_
        rintro e w1 ⟨rfl, rfl⟩
        go_wp2_with fail
        refine H3.out.mono ?_
        rintro e w1 ⟨rfl, rfl⟩
        go_wp2_with fail
        all_goals
          refine (errorf_any _ (by decide +kernel) _).mono ?_
          rintro e w1 ⟨a, rfl, hb1⟩
          go_wp2
          refine bodyPost_ret (results_tmp4 rfl _ _ _) rfl ?_
          exact ⟨UbRes.bad hu.out, hb1⟩
      · rw [show hexV b3 = d3 by unfold hexV; rw [hd3]; rfl, hd3] at H3
        have hu := hide (show unescB s = some (((d2 * 16 + d3 : Nat) : Int), false, 4) by rw [hun'.out, hH'.out, if_neg hsz, hd2, hd3])
        have e2 := hexD_lt hd2
        have e3 := hexD_lt hd3
        have hor := or_w32 d2 d3 (by omega) e3
        rw [w32_small (show d2 * 16 < 2147483648 by omega), w32_small (show d2 * 16 + d3 < 2147483648 by omega), show ((d2 * 16 : Nat) : Int) = (d2 : Int) * 16 by omega] at hor
        have horh := hide hor
        have i0 : (0 : Int) ≤ (d2 : Int) := by omega
        have i1 : (d2 : Int) ≤ 15 := by omega
        clear hd2 hd3 hor e2 e3
        go_enter Tryf.func34, Tryf.ntmps34
        go_wp2_with fail
        refine H2.out.mono ?_
        rintro e w1 ⟨rfl, rfl⟩
        go_wp2_with fail
        refine H3.out.mono ?_
        rintro e w1 ⟨rfl, rfl⟩
        go_wp2_with fail
        go_quiet (fail)
        go_wp2
        refine bodyPost_ret (results_tmp4 rfl _ _ _) rfl ?_
        exact ⟨UbRes.ok hu.out htail.out (by first | rfl | exact horh.out), below_drewN' (Below.refl _ _) _⟩

set_option maxRecDepth 20000 in
set_option maxHeartbeats 4000000 in
theorem ub_hex88 (s : ByteArray) (w : World) (hs : s.size ≤ 9223372036854775807) (hs0 : 2 ≤ s.size) (h0 : byteAt s 0 = 92) (h1 : byteAt s 1 = 88) (hun : unescB s = hexB s) :
    Calls Tryf.prog 34 #[.string s] w fun e w' => UbRes s (unescB s) e ∧ Below w.heap.size w w' := by
  obtain ⟨t, ht⟩ : ∃ t, s.extract 2 s.size = t := ⟨_, rfl⟩
  have hts := cut_size s 2 hs0
  rw [ht] at hts
  have g0 : ∀ h : 0 < s.size, ((s[0]'h).toNat : Int) = (byteAt s 0 : Int) := fun h => byteAt_get s 0 h
  have g1 : ∀ h : 1 < s.size, ((s[1]'h).toNat : Int) = (byteAt s 1 : Int) := fun h => byteAt_get s 1 h
  have h0' : (byteAt s 0 : Int) = 92 := by omega
  have h1' : (byteAt s 1 : Int) = 88 := by omega
  have hs0' : (2 : Int) ≤ (s.size : Int) := by omega
  have hun' := hide hun
  have ht0 : (0 : Int) ≤ (t.size : Int) := by omega
  have htail := hide (cut_tail s t 2 2 ht)
  have p0 : ∀ h : 0 < t.size, ((t[0]'h).toNat : Int) = (byteAt s 2 : Int) := cut_get s t 2 0 ht
  have p1 : ∀ h : 1 < t.size, ((t[1]'h).toNat : Int) = (byteAt s 3 : Int) := cut_get s t 2 1 ht
  have l2 := byteAt_le s 2
  have l3 := byteAt_le s 3
  have hH : hexB s = if s.size < 4 then none else match hexN s 2 2 with | none => none | some v => some ((v : Int), false, 4) := rfl
  have hN : hexN s 2 2 = match hexD (byteAt s 2), hexD (byteAt s 3) with | some a, some b => some (a * 16 + b) | _, _ => none := by
    simp only [hexN]
    cases hexD (byteAt s 2) <;> cases hexD (byteAt s 3) <;> simp
  rw [hN] at hH
  have hH' := hide hH
  generalize byteAt s 0 = b0 at *
  generalize byteAt s 1 = b1 at *
  generalize byteAt s 2 = b2 at *
  generalize byteAt s 3 = b3 at *
  clear h0 h1 hun hH hN
  by_cases hsz : s.size < 4
  · have hsz' : (t.size : Int) < 2 := by omega
    have hu := hide (show unescB s = none by rw [hun'.out, hH'.out, if_pos hsz])
    clear hts
    go_enter Tryf.func34, Tryf.ntmps34
    go_wp2_with fail
    all_goals
      refine (errorf_any _ (by decide +kernel) _).mono ?_
      rintro e w1 ⟨a, rfl, hb1⟩
      go_wp2
      refine bodyPost_ret (results_tmp4 rfl _ _ _) rfl ?_
      exact ⟨UbRes.bad hu.out, hb1⟩
  · have hsz' : (2 : Int) ≤ (t.size : Int) := by omega
    clear hts
    have H2 := hide (unhex_any b2 w l2)
    have H3 := hide (unhex_any b3 w l3)
    rcases hd2 : hexD b2 with _ | d2
    · rw [show hexV b2 = 0 by unfold hexV; rw [hd2]; rfl, hd2] at H2
      have hu := hide (show unescB s = none by rw [hun'.out, hH'.out, if_neg hsz, hd2])
      clear hd2
      go_enter Tryf.func34, Tryf.ntmps34
      go_wp2_with fail
      refine H2.out.mono ?_
      rintro e w1 ⟨rfl, rfl⟩
      go_wp2_with fail
      refine H3.out.mono ?_
      rintro e w1 ⟨rfl, rfl⟩
      go_wp2_with fail
      all_goals
        refine (errorf_any _ (by decide +kernel) _).mono ?_
        rintro e w1 ⟨a, rfl, hb1⟩
        go_wp2
        refine bodyPost_ret (results_tmp4 rfl _ _ _) rfl ?_
        exact ⟨UbRes.bad hu.out, hb1⟩
    · rw [show hexV b2 = d2 by unfold hexV; rw [hd2]; rfl, hd2] at H2
      rcases hd3 : hexD b3 with _ | d3
      · rw [show hexV b3 = 0 by unfold hexV; rw [hd3]; rfl, hd3] at H3
        have hu := hide (show unescB s = none by rw [hun'.out, hH'.out, if_neg hsz, hd2, hd3])
        clear hd2 hd3
        go_enter Tryf.func34, Tryf.ntmps34
        go_wp2_with fail
        refine H2.out.mono ?_
        rintro e w1 ⟨rfl, rfl⟩
        go_wp2_with fail
        refine H3.out.mono ?_
        rintro e w1 ⟨rfl, rfl⟩
        go_wp2_with fail
        all_goals
          refine (errorf_any _ (by decide +kernel) _).mono ?_
          rintro e w1 ⟨a, rfl, hb1⟩
          go_wp2
          refine bodyPost_ret (results_tmp4 rfl _ _ _) rfl ?_
          exact ⟨UbRes.bad hu.out, hb1⟩
      · rw [show hexV b3 = d3 by unfold hexV; rw [hd3]; rfl, hd3] at H3
        have hu := hide (show unescB s = some (((d2 * 16 + d3 : Nat) : Int), false, 4) by rw [hun'.out, hH'.out, if_neg hsz, hd2, hd3])
        have e2 := hexD_lt hd2
        have e3 := hexD_lt hd3
        have hor := or_w32 d2 d3 (by omega) e3
        rw [w32_small (show d2 * 16 < 2147483648 by omega), w32_small (show d2 * 16 + d3 < 2147483648 by omega), show ((d2 * 16 : Nat) : Int) = (d2 : Int) * 16 by omega] at hor
        have horh := hide hor
        have i0 : (0 : Int) ≤ (d2 : Int) := by omega
        have i1 : (d2 : Int) ≤ 15 := by omega
        clear hd2 hd3 hor e2 e3
        go_enter Tryf.func34, Tryf.ntmps34
        go_wp2_with fail
        refine H2.out.mono ?_
        rintro e w1 ⟨rfl, rfl⟩
        go_wp2_with fail
        refine H3.out.mono ?_
        rintro e w1 ⟨rfl, rfl⟩
        go_wp2_with fail
        go_quiet (fail)
        go_wp2
        refine bodyPost_ret (results_tmp4 rfl _ _ _) rfl ?_
        exact ⟨UbRes.ok hu.out htail.out (by first | rfl | exact horh.out), below_drewN' (Below.refl _ _) _⟩

set_option maxRecDepth 20000 in
set_option maxHeartbeats 4000000 in
theorem ub_oct48 (s : ByteArray) (w : World) (hs : s.size ≤ 9223372036854775807) (hs0 : 2 ≤ s.size) (h0 : byteAt s 0 = 92) (h1 : byteAt s 1 = 48) (hun : unescB s = octB s) :
    Calls Tryf.prog 34 #[.string s] w fun e w' => UbRes s (unescB s) e ∧ Below w.heap.size w w' := by
  obtain ⟨t, ht⟩ : ∃ t, s.extract 2 s.size = t := ⟨_, rfl⟩
  have hts := cut_size s 2 hs0
  rw [ht] at hts
  have g0 : ∀ h : 0 < s.size, ((s[0]'h).toNat : Int) = (byteAt s 0 : Int) := fun h => byteAt_get s 0 h
  have g1 : ∀ h : 1 < s.size, ((s[1]'h).toNat : Int) = (byteAt s 1 : Int) := fun h => byteAt_get s 1 h
  have h0' : (byteAt s 0 : Int) = 92 := by omega
  have h1' : (byteAt s 1 : Int) = 48 := by omega
  have hs0' : (2 : Int) ≤ (s.size : Int) := by omega
  have hun' := hide hun
  have ht0 : (0 : Int) ≤ (t.size : Int) := by omega
  have htail := hide (cut_tail s t 2 2 ht)
  have p0 : ∀ h : 0 < t.size, ((t[0]'h).toNat : Int) = (byteAt s 2 : Int) := cut_get s t 2 0 ht
  have p1 : ∀ h : 1 < t.size, ((t[1]'h).toNat : Int) = (byteAt s 3 : Int) := cut_get s t 2 1 ht
  have l2 := byteAt_le s 2
  have l3 := byteAt_le s 3
  have hO : octB s = if s.size < 4 then none else if isOct (byteAt s 2) && isOct (byteAt s 3) then some ((((48 - 48) * 64 + (byteAt s 2 - 48) * 8 + (byteAt s 3 - 48) : Nat) : Int), false, 4) else none := by unfold octB; rw [h1]
  have hO' := hide hO
  generalize byteAt s 0 = b0 at *
  generalize byteAt s 1 = b1 at *
  generalize byteAt s 2 = b2 at *
  generalize byteAt s 3 = b3 at *
  clear h0 h1 hun hO
  by_cases hsz : s.size < 4
  · have hsz' : (t.size : Int) < 2 := by omega
    have hu := hide (show unescB s = none by rw [hun'.out, hO'.out, if_pos hsz])
    clear hts
    go_enter Tryf.func34, Tryf.ntmps34
    go_wp2_with fail
    all_goals
      refine (errorf_any _ (by decide +kernel) _).mono ?_
      rintro e w1 ⟨a, rfl, hb1⟩
      go_wp2
      refine bodyPost_ret (results_tmp4 rfl _ _ _) rfl ?_
      exact ⟨UbRes.bad hu.out, hb1⟩
  · have hsz' : (2 : Int) ≤ (t.size : Int) := by omega
    clear hts
    have l2' : (b2 : Int) ≤ 255 := by omega
    have l3' : (b3 : Int) ≤ 255 := by omega
    by_cases o2 : 48 ≤ b2 ∧ b2 ≤ 55
    · have o2a : (48 : Int) ≤ (b2 : Int) := by omega
      have o2b : (b2 : Int) ≤ 55 := by omega
      by_cases o3 : 48 ≤ b3 ∧ b3 ≤ 55
      · have o3a : (48 : Int) ≤ (b3 : Int) := by omega
        have o3b : (b3 : Int) ≤ 55 := by omega
        have hu := hide (show unescB s = some ((((48 - 48) * 64 + (b2 - 48) * 8 + (b3 - 48) : Nat) : Int), false, 4) by rw [hun'.out, hO'.out, if_neg hsz]; simp [isOct, o2, o3])
        go_enter Tryf.func34, Tryf.ntmps34
        go_wp2_with fail
        go_quiet (fail)
        go_wp2_with fail
        go_quiet (fail)
        go_wp2
        refine bodyPost_ret (results_tmp4 rfl _ _ _) rfl ?_
        exact ⟨UbRes.ok hu.out htail.out (by omega), by first | exact below_drewN' (below_drewN' (Below.refl _ _) _) _ | exact below_drewN' (Below.refl _ _) _⟩
      · have hu := hide (show unescB s = none by rw [hun'.out, hO'.out, if_neg hsz, if_neg (by simp [isOct]; omega)])
        rcases (show (b3 : Int) < 48 ∨ 55 < (b3 : Int) by omega) with n3 | n3
        · go_enter Tryf.func34, Tryf.ntmps34
          go_wp2_with fail
          all_goals
            refine (errorf_any _ (by decide +kernel) _).mono ?_
            rintro e w1 ⟨a, rfl, hb1⟩
            go_wp2
            refine bodyPost_ret (results_tmp4 rfl _ _ _) rfl ?_
            exact ⟨UbRes.bad hu.out, hb1⟩
        · go_enter Tryf.func34, Tryf.ntmps34
          go_wp2_with fail
          all_goals
            refine (errorf_any _ (by decide +kernel) _).mono ?_
            rintro e w1 ⟨a, rfl, hb1⟩
            go_wp2
            refine bodyPost_ret (results_tmp4 rfl _ _ _) rfl ?_
            exact ⟨UbRes.bad hu.out, hb1⟩
    · have hu := hide (show unescB s = none by rw [hun'.out, hO'.out, if_neg hsz, if_neg (by simp [isOct]; omega)])
      rcases (show (b2 : Int) < 48 ∨ 55 < (b2 : Int) by omega) with n2 | n2
      · go_enter Tryf.func34, Tryf.ntmps34
        go_wp2_with fail
        all_goals
          refine (errorf_any _ (by decide +kernel) _).mono ?_
          rintro e w1 ⟨a, rfl, hb1⟩
          go_wp2
          refine bodyPost_ret (results_tmp4 rfl _ _ _) rfl ?_
          exact ⟨UbRes.bad hu.out, hb1⟩
      · go_enter Tryf.func34, Tryf.ntmps34
        go_wp2_with fail
        all_goals
          refine (errorf_any _ (by decide +kernel) _).mono ?_
          rintro e w1 ⟨a, rfl, hb1⟩
          go_wp2
          refine bodyPost_ret (results_tmp4 rfl _ _ _) rfl ?_
          exact ⟨UbRes.bad hu.out, hb1⟩

set_option maxRecDepth 20000 in
set_option maxHeartbeats 4000000 in
theorem ub_oct49 (s : ByteArray) (w : World) (hs : s.size ≤ 9223372036854775807) (hs0 : 2 ≤ s.size) (h0 : byteAt s 0 = 92) (h1 : byteAt s 1 = 49) (hun : unescB s = octB s) :
    Calls Tryf.prog 34 #[.string s] w fun e w' => UbRes s (unescB s) e ∧ Below w.heap.size w w' := by
  obtain ⟨t, ht⟩ : ∃ t, s.extract 2 s.size = t := ⟨_, rfl⟩
  have hts := cut_size s 2 hs0
  rw [ht] at hts
  have g0 : ∀ h : 0 < s.size, ((s[0]'h).toNat : Int) = (byteAt s 0 : Int) := fun h => byteAt_get s 0 h
  have g1 : ∀ h : 1 < s.size, ((s[1]'h).toNat : Int) = (byteAt s 1 : Int) := fun h => byteAt_get s 1 h
  have h0' : (byteAt s 0 : Int) = 92 := by omega
  have h1' : (byteAt s 1 : Int) = 49 := by omega
  have hs0' : (2 : Int) ≤ (s.size : Int) := by omega
  have hun' := hide hun
  have ht0 : (0 : Int) ≤ (t.size : Int) := by omega
  have htail := hide (cut_tail s t 2 2 ht)
  have p0 : ∀ h : 0 < t.size, ((t[0]'h).toNat : Int) = (byteAt s 2 : Int) := cut_get s t 2 0 ht
  have p1 : ∀ h : 1 < t.size, ((t[1]'h).toNat : Int) = (byteAt s 3 : Int) := cut_get s t 2 1 ht
  have l2 := byteAt_le s 2
  have l3 := byteAt_le s 3
  have hO : octB s = if s.size < 4 then none else if isOct (byteAt s 2) && isOct (byteAt s 3) then some ((((49 - 48) * 64 + (byteAt s 2 - 48) * 8 + (byteAt s 3 - 48) : Nat) : Int), false, 4) else none := by unfold octB; rw [h1]
  have hO' := hide hO
  generalize byteAt s 0 = b0 at *
  generalize byteAt s 1 = b1 at *
  generalize byteAt s 2 = b2 at *
  generalize byteAt s 3 = b3 at *
  clear h0 h1 hun hO
  by_cases hsz : s.size < 4
  · have hsz' : (t.size : Int) < 2 := by omega
    have hu := hide (show unescB s = none by rw [hun'.out, hO'.out, if_pos hsz])
    clear hts
    go_enter Tryf.func34, Tryf.ntmps34
    go_wp2_with fail
    all_goals
      refine (errorf_any _ (by decide +kernel) _).mono ?_
      rintro e w1 ⟨a, rfl, hb1⟩
      go_wp2
      refine bodyPost_ret (results_tmp4 rfl _ _ _) rfl ?_
      exact ⟨UbRes.bad hu.out, hb1⟩
  · have hsz' : (2 : Int) ≤ (t.size : Int) := by omega
    clear hts
    have l2' : (b2 : Int) ≤ 255 := by omega
    have l3' : (b3 : Int) ≤ 255 := by omega
    by_cases o2 : 48 ≤ b2 ∧ b2 ≤ 55
    · have o2a : (48 : Int) ≤ (b2 : Int) := by omega
      have o2b : (b2 : Int) ≤ 55 := by omega
      by_cases o3 : 48 ≤ b3 ∧ b3 ≤ 55
      · have o3a : (48 : Int) ≤ (b3 : Int) := by omega
        have o3b : (b3 : Int) ≤ 55 := by omega
        have hu := hide (show unescB s = some ((((49 - 48) * 64 + (b2 - 48) * 8 + (b3 - 48) : Nat) : Int), false, 4) by rw [hun'.out, hO'.out, if_neg hsz]; simp [isOct, o2, o3])
        go_enter Tryf.func34, Tryf.ntmps34
        go_wp2_with fail
        go_quiet (fail)
        go_wp2_with fail
        go_quiet (fail)
        go_wp2
        refine bodyPost_ret (results_tmp4 rfl _ _ _) rfl ?_
        exact ⟨UbRes.ok hu.out htail.out (by omega), by first | exact below_drewN' (below_drewN' (Below.refl _ _) _) _ | exact below_drewN' (Below.refl _ _) _⟩
      · have hu := hide (show unescB s = none by rw [hun'.out, hO'.out, if_neg hsz, if_neg (by simp [isOct]; omega)])
        rcases (show (b3 : Int) < 48 ∨ 55 < (b3 : Int) by omega) with n3 | n3
        · go_enter Tryf.func34, Tryf.ntmps34
          go_wp2_with fail
          all_goals
            refine (errorf_any _ (by decide +kernel) _).mono ?_
            rintro e w1 ⟨a, rfl, hb1⟩
            go_wp2
            refine bodyPost_ret (results_tmp4 rfl _ _ _) rfl ?_
            exact ⟨UbRes.bad hu.out, hb1⟩
        · go_enter Tryf.func34, Tryf.ntmps34
          go_wp2_with fail
          all_goals
            refine (errorf_any _ (by decide +kernel) _).mono ?_
            rintro e w1 ⟨a, rfl, hb1⟩
            go_wp2
            refine bodyPost_ret (results_tmp4 rfl _ _ _) rfl ?_
            exact ⟨UbRes.bad hu.out, hb1⟩
    · have hu := hide (show unescB s = none by rw [hun'.out, hO'.out, if_neg hsz, if_neg (by simp [isOct]; omega)])
      rcases (show (b2 : Int) < 48 ∨ 55 < (b2 : Int) by omega) with n2 | n2
      · go_enter Tryf.func34, Tryf.ntmps34
        go_wp2_with fail
        all_goals
          refine (errorf_any _ (by decide +kernel) _).mono ?_
          rintro e w1 ⟨a, rfl, hb1⟩
          go_wp2
          refine bodyPost_ret (results_tmp4 rfl _ _ _) rfl ?_
          exact ⟨UbRes.bad hu.out, hb1⟩
      · go_enter Tryf.func34, Tryf.ntmps34
        go_wp2_with fail
        all_goals
          refine (errorf_any _ (by decide +kernel) _).mono ?_
          rintro e w1 ⟨a, rfl, hb1⟩
          go_wp2
          refine bodyPost_ret (results_tmp4 rfl _ _ _) rfl ?_
          exact ⟨UbRes.bad hu.out, hb1⟩

set_option maxRecDepth 20000 in
set_option maxHeartbeats 4000000 in
theorem ub_oct50 (s : ByteArray) (w : World) (hs : s.size ≤ 9223372036854775807) (hs0 : 2 ≤ s.size) (h0 : byteAt s 0 = 92) (h1 : byteAt s 1 = 50) (hun : unescB s = octB s) :
    Calls Tryf.prog 34 #[.string s] w fun e w' => UbRes s (unescB s) e ∧ Below w.heap.size w w' := by
  obtain ⟨t, ht⟩ : ∃ t, s.extract 2 s.size = t := ⟨_, rfl⟩
  have hts := cut_size s 2 hs0
  rw [ht] at hts
  have g0 : ∀ h : 0 < s.size, ((s[0]'h).toNat : Int) = (byteAt s 0 : Int) := fun h => byteAt_get s 0 h
  have g1 : ∀ h : 1 < s.size, ((s[1]'h).toNat : Int) = (byteAt s 1 : Int) := fun h => byteAt_get s 1 h
  have h0' : (byteAt s 0 : Int) = 92 := by omega
  have h1' : (byteAt s 1 : Int) = 50 := by omega
  have hs0' : (2 : Int) ≤ (s.size : Int) := by omega
  have hun' := hide hun
  have ht0 : (0 : Int) ≤ (t.size : Int) := by omega
  have htail := hide (cut_tail s t 2 2 ht)
  have p0 : ∀ h : 0 < t.size, ((t[0]'h).toNat : Int) = (byteAt s 2 : Int) := cut_get s t 2 0 ht
  have p1 : ∀ h : 1 < t.size, ((t[1]'h).toNat : Int) = (byteAt s 3 : Int) := cut_get s t 2 1 ht
  have l2 := byteAt_le s 2
  have l3 := byteAt_le s 3
  have hO : octB s = if s.size < 4 then none else if isOct (byteAt s 2) && isOct (byteAt s 3) then some ((((50 - 48) * 64 + (byteAt s 2 - 48) * 8 + (byteAt s 3 - 48) : Nat) : Int), false, 4) else none := by unfold octB; rw [h1]
  have hO' := hide hO
  generalize byteAt s 0 = b0 at *
  generalize byteAt s 1 = b1 at *
  generalize byteAt s 2 = b2 at *
  generalize byteAt s 3 = b3 at *
  clear h0 h1 hun hO
  by_cases hsz : s.size < 4
  · have hsz' : (t.size : Int) < 2 := by omega
    have hu := hide (show unescB s = none by rw [hun'.out, hO'.out, if_pos hsz])
    clear hts
    go_enter Tryf.func34, Tryf.ntmps34
    go_wp2_with fail
    all_goals
      refine (errorf_any _ (by decide +kernel) _).mono ?_
      rintro e w1 ⟨a, rfl, hb1⟩
      go_wp2
      refine bodyPost_ret (results_tmp4 rfl _ _ _) rfl ?_
      exact ⟨UbRes.bad hu.out, hb1⟩
  · have hsz' : (2 : Int) ≤ (t.size : Int) := by omega
    clear hts
    have l2' : (b2 : Int) ≤ 255 := by omega
    have l3' : (b3 : Int) ≤ 255 := by omega
    by_cases o2 : 48 ≤ b2 ∧ b2 ≤ 55
    · have o2a : (48 : Int) ≤ (b2 : Int) := by omega
      have o2b : (b2 : Int) ≤ 55 := by omega
      by_cases o3 : 48 ≤ b3 ∧ b3 ≤ 55
      · have o3a : (48 : Int) ≤ (b3 : Int) := by omega
        have o3b : (b3 : Int) ≤ 55 := by omega
        have hu := hide (show unescB s = some ((((50 - 48) * 64 + (b2 - 48) * 8 + (b3 - 48) : Nat) : Int), false, 4) by rw [hun'.out, hO'.out, if_neg hsz]; simp [isOct, o2, o3])
        go_enter Tryf.func34, Tryf.ntmps34
        go_wp2_with fail
        go_quiet (fail)
        go_wp2_with fail
        go_quiet (fail)
        go_wp2
        refine bodyPost_ret (results_tmp4 rfl _ _ _) rfl ?_
        exact ⟨UbRes.ok hu.out htail.out (by omega), by first | exact below_drewN' (below_drewN' (Below.refl _ _) _) _ | exact below_drewN' (Below.refl _ _) _⟩
      · have hu := hide (show unescB s = none by rw [hun'.out, hO'.out, if_neg hsz, if_neg (by simp [isOct]; omega)])
        rcases (show (b3 : Int) < 48 ∨ 55 < (b3 : Int) by omega) with n3 | n3
        · go_enter Tryf.func34, Tryf.ntmps34
          go_wp2_with fail
          all_goals
            refine (errorf_any _ (by decide +kernel) _).mono ?_
            rintro e w1 ⟨a, rfl, hb1⟩
            go_wp2
            refine bodyPost_ret (results_tmp4 rfl _ _ _) rfl ?_
            exact ⟨UbRes.bad hu.out, hb1⟩
        · go_enter Tryf.func34, Tryf.ntmps34
          go_wp2_with fail
          all_goals
            refine (errorf_any _ (by decide +kernel) _).mono ?_
            rintro e w1 ⟨a, rfl, hb1⟩
            go_wp2
            refine bodyPost_ret (results_tmp4 rfl _ _ _) rfl ?_
            exact ⟨UbRes.bad hu.out, hb1⟩
    · have hu := hide (show unescB s = none by rw [hun'.out, hO'.out, if_neg hsz, if_neg (by simp [isOct]; omega)])
      rcases (show (b2 : Int) < 48 ∨ 55 < (b2 : Int) by omega) with n2 | n2
      · go_enter Tryf.func34, Tryf.ntmps34
        go_wp2_with fail
        all_goals
          refine (errorf_any _ (by decide +kernel) _).mono ?_
          rintro e w1 ⟨a, rfl, hb1⟩
          go_wp2
          refine bodyPost_ret (results_tmp4 rfl _ _ _) rfl ?_
          exact ⟨UbRes.bad hu.out, hb1⟩
      · go_enter Tryf.func34, Tryf.ntmps34
        go_wp2_with fail
        all_goals
          refine (errorf_any _ (by decide +kernel) _).mono ?_
          rintro e w1 ⟨a, rfl, hb1⟩
          go_wp2
          refine bodyPost_ret (results_tmp4 rfl _ _ _) rfl ?_
          exact ⟨UbRes.bad hu.out, hb1⟩

set_option maxRecDepth 20000 in
set_option maxHeartbeats 4000000 in
theorem ub_oct51 (s : ByteArray) (w : World) (hs : s.size ≤ 9223372036854775807) (hs0 : 2 ≤ s.size) (h0 : byteAt s 0 = 92) (h1 : byteAt s 1 = 51) (hun : unescB s = octB s) :
    Calls Tryf.prog 34 #[.string s] w fun e w' => UbRes s (unescB s) e ∧ Below w.heap.size w w' := by
  obtain ⟨t, ht⟩ : ∃ t, s.extract 2 s.size = t := ⟨_, rfl⟩
  have hts := cut_size s 2 hs0
  rw [ht] at hts
  have g0 : ∀ h : 0 < s.size, ((s[0]'h).toNat : Int) = (byteAt s 0 : Int) := fun h => byteAt_get s 0 h
  have g1 : ∀ h : 1 < s.size, ((s[1]'h).toNat : Int) = (byteAt s 1 : Int) := fun h => byteAt_get s 1 h
  have h0' : (byteAt s 0 : Int) = 92 := by omega
  have h1' : (byteAt s 1 : Int) = 51 := by omega
  have hs0' : (2 : Int) ≤ (s.size : Int) := by omega
  have hun' := hide hun
  have ht0 : (0 : Int) ≤ (t.size : Int) := by omega
  have htail := hide (cut_tail s t 2 2 ht)
  have p0 : ∀ h : 0 < t.size, ((t[0]'h).toNat : Int) = (byteAt s 2 : Int) := cut_get s t 2 0 ht
  have p1 : ∀ h : 1 < t.size, ((t[1]'h).toNat : Int) = (byteAt s 3 : Int) := cut_get s t 2 1 ht
  have l2 := byteAt_le s 2
  have l3 := byteAt_le s 3
  have hO : octB s = if s.size < 4 then none else if isOct (byteAt s 2) && isOct (byteAt s 3) then some ((((51 - 48) * 64 + (byteAt s 2 - 48) * 8 + (byteAt s 3 - 48) : Nat) : Int), false, 4) else none := by unfold octB; rw [h1]
  have hO' := hide hO
  generalize byteAt s 0 = b0 at *
  generalize byteAt s 1 = b1 at *
  generalize byteAt s 2 = b2 at *
  generalize byteAt s 3 = b3 at *
  clear h0 h1 hun hO
  by_cases hsz : s.size < 4
  · have hsz' : (t.size : Int) < 2 := by omega
    have hu := hide (show unescB s = none by rw [hun'.out, hO'.out, if_pos hsz])
    clear hts
    go_enter Tryf.func34, Tryf.ntmps34
    go_wp2_with fail
    all_goals
      refine (errorf_any _ (by decide +kernel) _).mono ?_
      rintro e w1 ⟨a, rfl, hb1⟩
      go_wp2
      refine bodyPost_ret (results_tmp4 rfl _ _ _) rfl ?_
      exact ⟨UbRes.bad hu.out, hb1⟩
  · have hsz' : (2 : Int) ≤ (t.size : Int) := by omega
    clear hts
    have l2' : (b2 : Int) ≤ 255 := by omega
    have l3' : (b3 : Int) ≤ 255 := by omega
    by_cases o2 : 48 ≤ b2 ∧ b2 ≤ 55
    · have o2a : (48 : Int) ≤ (b2 : Int) := by omega
      have o2b : (b2 : Int) ≤ 55 := by omega
      by_cases o3 : 48 ≤ b3 ∧ b3 ≤ 55
      · have o3a : (48 : Int) ≤ (b3 : Int) := by omega
        have o3b : (b3 : Int) ≤ 55 := by omega
        have hu := hide (show unescB s = some ((((51 - 48) * 64 + (b2 - 48) * 8 + (b3 - 48) : Nat) : Int), false, 4) by rw [hun'.out, hO'.out, if_neg hsz]; simp [isOct, o2, o3])
        go_enter Tryf.func34, Tryf.ntmps34
        go_wp2_with fail
        go_quiet (fail)
        go_wp2_with fail
        go_quiet (fail)
        go_wp2
        refine bodyPost_ret (results_tmp4 rfl _ _ _) rfl ?_
        exact ⟨UbRes.ok hu.out htail.out (by omega), by first | exact below_drewN' (below_drewN' (Below.refl _ _) _) _ | exact below_drewN' (Below.refl _ _) _⟩
      · have hu := hide (show unescB s = none by rw [hun'.out, hO'.out, if_neg hsz, if_neg (by simp [isOct]; omega)])
        rcases (show (b3 : Int) < 48 ∨ 55 < (b3 : Int) by omega) with n3 | n3
        · go_enter Tryf.func34, Tryf.ntmps34
          go_wp2_with fail
          all_goals
            refine (errorf_any _ (by decide +kernel) _).mono ?_
            rintro e w1 ⟨a, rfl, hb1⟩
            go_wp2
            refine bodyPost_ret (results_tmp4 rfl _ _ _) rfl ?_
            exact ⟨UbRes.bad hu.out, hb1⟩
        · go_enter Tryf.func34, Tryf.ntmps34
          go_wp2_with fail
          all_goals
            refine (errorf_any _ (by decide +kernel) _).mono ?_
            rintro e w1 ⟨a, rfl, hb1⟩
            go_wp2
            refine bodyPost_ret (results_tmp4 rfl _ _ _) rfl ?_
            exact ⟨UbRes.bad hu.out, hb1⟩
    · have hu := hide (show unescB s = none by rw [hun'.out, hO'.out, if_neg hsz, if_neg (by simp [isOct]; omega)])
      rcases (show (b2 : Int) < 48 ∨ 55 < (b2 : Int) by omega) with n2 | n2
      · go_enter Tryf.func34, Tryf.ntmps34
        go_wp2_with fail
        all_goals
          refine (errorf_any _ (by decide +kernel) _).mono ?_
          rintro e w1 ⟨a, rfl, hb1⟩
          go_wp2
          refine bodyPost_ret (results_tmp4 rfl _ _ _) rfl ?_
          exact ⟨UbRes.bad hu.out, hb1⟩
      · go_enter Tryf.func34, Tryf.ntmps34
        go_wp2_with fail
        all_goals
          refine (errorf_any _ (by decide +kernel) _).mono ?_
          rintro e w1 ⟨a, rfl, hb1⟩
          go_wp2
          refine bodyPost_ret (results_tmp4 rfl _ _ _) rfl ?_
          exact ⟨UbRes.bad hu.out, hb1⟩

/-- unescapeByteChar, of every text that is not empty. -/
theorem ub_any (s : ByteArray) (w : World) (hs0 : 0 < s.size) (hs : s.size ≤ 9223372036854775807) (hT : TU w) :
    Calls Tryf.prog 34 #[.string s] w fun e w' => UbRes s (unescB s) e ∧ Below w.heap.size w w' := by
  by_cases a1 : 128 ≤ byteAt s 0
  · exact ub_high s w hs0 hs hT a1
  by_cases a2 : byteAt s 0 ≠ 92
  · exact ub_plain s w hs hs0 (by omega) a2
  by_cases a3 : s.size ≤ 1
  · exact ub_end s w hs (by omega) (by omega)
  have h0 : byteAt s 0 = 92 := by omega
  have h2 : 2 ≤ s.size := by omega
  rcases hc : simpleV (byteAt s 1) with _ | v
  · have hu : unescB s = if byteAt s 1 = 120 ∨ byteAt s 1 = 88 then hexB s
      else if 48 ≤ byteAt s 1 ∧ byteAt s 1 ≤ 51 then octB s
      else none := by
        unfold unescB
        rw [if_neg a1, if_neg a2, if_neg a3, hc]
    by_cases b1 : byteAt s 1 = 120 ∨ byteAt s 1 = 88
    · rw [if_pos b1] at hu
      rcases b1 with b1 | b1
      · exact ub_hex120 s w hs h2 h0 b1 hu
      · exact ub_hex88 s w hs h2 h0 b1 hu
    · rw [if_neg b1] at hu
      by_cases b5 : 48 ≤ byteAt s 1 ∧ byteAt s 1 ≤ 51
      · rw [if_pos b5] at hu
        rcases (show byteAt s 1 = 48 ∨ byteAt s 1 = 49 ∨ byteAt s 1 = 50 ∨ byteAt s 1 = 51 by omega) with h | h | h | h
        · exact ub_oct48 s w hs h2 h0 h hu
        · exact ub_oct49 s w hs h2 h0 h hu
        · exact ub_oct50 s w hs h2 h0 h hu
        · exact ub_oct51 s w hs h2 h0 h hu
      · exact ub_other s w hs h2 h0 hc b1 b5
  · exact ub_simple s w hs h2 h0 (by rw [hc]; rfl)
end Go.Proofs.YtncoodplmpgnbaaFmt
