/-
  unescapeChar by contract: the octal form, the braced form, and all ways together. Condition: utf8's two tables hold what their initialisers lay, where the text says so.
-/
import Derived.Test.YtncoodplmpgnbaaFmtUcC
namespace Go.Proofs.YtncoodplmpgnbaaFmt
open Go.RowKit Go.Lib Go.Shelf Go.Proofs
set_option linter.unusedVariables false
set_option linter.unusedSimpArgs false

set_option maxRecDepth 20000 in
set_option maxHeartbeats 4000000 in
theorem uc_oct48 (s : ByteArray) (w : World) (hs : s.size ≤ 9223372036854775807) (hs0 : 2 ≤ s.size) (h0 : byteAt s 0 = 92) (h1 : byteAt s 1 = 48) (hun : unesc s = octItem s) :
    Calls Tryf.prog 29 #[.string s] w fun e w' => UcRes s (unesc s) e ∧ Below w.heap.size w w' := by
  obtain ⟨t, ht⟩ : ∃ t, s.extract 2 s.size = t := ⟨_, rfl⟩
  have hts := cut_size s 2 hs0
  rw [ht] at hts
  have g0 : ∀ h : 0 < s.size, ((s[0]'h).toNat : Int) = (byteAt s 0 : Int) := fun h => byteAt_get s 0 h
  have g1 : ∀ h : 1 < s.size, ((s[1]'h).toNat : Int) = (byteAt s 1 : Int) := fun h => byteAt_get s 1 h
  have h0' : (byteAt s 0 : Int) = 92 := by omega
  have h1' : (byteAt s 1 : Int) = 48 := by omega
  have hs0' : (2 : Int) ≤ (s.size : Int) := by omega
  have hun' := hide hun
  have ht0 : (0 : Int) ≤ (t.size : Int) := by omega
  have htail := hide (cut_tail s t 2 2 ht)
  have p0 : ∀ h : 0 < t.size, ((t[0]'h).toNat : Int) = (byteAt s 2 : Int) := cut_get s t 2 0 ht
  have p1 : ∀ h : 1 < t.size, ((t[1]'h).toNat : Int) = (byteAt s 3 : Int) := cut_get s t 2 1 ht
  have l2 := byteAt_le s 2
  have l3 := byteAt_le s 3
  have hO : octItem s = if s.size < 4 then none else if isOct (byteAt s 2) && isOct (byteAt s 3) then some ((((48 - 48) * 64 + (byteAt s 2 - 48) * 8 + (byteAt s 3 - 48) : Nat) : Int), true, 4) else none := by unfold octItem; rw [h1]
  have hO' := hide hO
  generalize byteAt s 0 = b0 at *
  generalize byteAt s 1 = b1 at *
  generalize byteAt s 2 = b2 at *
  generalize byteAt s 3 = b3 at *
  clear h0 h1 hun hO
  by_cases hsz : s.size < 4
  · have hsz' : (t.size : Int) < 2 := by omega
    have hu := hide (show unesc s = none by rw [hun'.out, hO'.out, if_pos hsz])
    clear hts
    go_enter Tryf.func29, Tryf.ntmps29
    go_wp2_with fail
    refine (errorf_any _ (by decide +kernel) _).mono ?_
    rintro e w1 ⟨a, rfl, hb1⟩
    go_wp2
    refine bodyPost_ret (results_tmp4 rfl _ _ _) rfl ?_
    exact ⟨UcRes.bad hu.out, hb1⟩
  · have hsz' : (2 : Int) ≤ (t.size : Int) := by omega
    clear hts
    have l2' : (b2 : Int) ≤ 255 := by omega
    have l3' : (b3 : Int) ≤ 255 := by omega
    by_cases o2 : 48 ≤ b2 ∧ b2 ≤ 55
    · have o2a : (48 : Int) ≤ (b2 : Int) := by omega
      have o2b : (b2 : Int) ≤ 55 := by omega
      by_cases o3 : 48 ≤ b3 ∧ b3 ≤ 55
      · have o3a : (48 : Int) ≤ (b3 : Int) := by omega
        have o3b : (b3 : Int) ≤ 55 := by omega
        have hu := hide (show unesc s = some ((((48 - 48) * 64 + (b2 - 48) * 8 + (b3 - 48) : Nat) : Int), true, 4) by rw [hun'.out, hO'.out, if_neg hsz]; simp [isOct, o2, o3])
        have hval := hide (show (((48 - 48) * 64 + (b2 - 48) * 8 + (b3 - 48) : Nat) : Int) = ((48 - 48) * 8 + ((b2 : Int) - 48)) * 8 + ((b3 : Int) - 48) by omega)
        go_enter Tryf.func29, Tryf.ntmps29
        go_wp2_with fail
        refine wp_loop_rounds 3 ?_
        repeat any_goals (rw [rounds_succ]; go_wp2_with fail)
        refine bodyPost_ret (results_tmp4 rfl _ _ _) rfl ?_
        refine ⟨?_, Below.refl _ _⟩
        refine UcRes.okt (v := _) ?_ htail.out
        rw [hu.out, hval.out]
        exact congrArg some (Prod.ext (by first | rfl | (simp only []; omega)) rfl)
      · have hu := hide (show unesc s = none by rw [hun'.out, hO'.out, if_neg hsz, if_neg (by simp [isOct]; omega)])
        have n3 : (b3 : Int) < 48 ∨ 55 < (b3 : Int) := by omega
        go_enter Tryf.func29, Tryf.ntmps29
        go_wp2_with fail
        refine wp_loop_rounds 3 ?_
        repeat any_goals (rw [rounds_succ]; go_wp2_with fail)
        all_goals
          refine (errorf_any _ (by decide +kernel) _).mono ?_
          rintro e w1 ⟨a, rfl, hb1⟩
          go_wp2
          refine bodyPost_ret (results_tmp4 rfl _ _ _) rfl ?_
          exact ⟨UcRes.bad hu.out, hb1⟩
    · have hu := hide (show unesc s = none by rw [hun'.out, hO'.out, if_neg hsz, if_neg (by simp [isOct]; omega)])
      have n2 : (b2 : Int) < 48 ∨ 55 < (b2 : Int) := by omega
      go_enter Tryf.func29, Tryf.ntmps29
      go_wp2_with fail
      refine wp_loop_rounds 3 ?_
      repeat any_goals (rw [rounds_succ]; go_wp2_with fail)
      all_goals
        refine (errorf_any _ (by decide +kernel) _).mono ?_
        rintro e w1 ⟨a, rfl, hb1⟩
        go_wp2
        refine bodyPost_ret (results_tmp4 rfl _ _ _) rfl ?_
        exact ⟨UcRes.bad hu.out, hb1⟩

set_option maxRecDepth 20000 in
set_option maxHeartbeats 4000000 in
theorem uc_oct49 (s : ByteArray) (w : World) (hs : s.size ≤ 9223372036854775807) (hs0 : 2 ≤ s.size) (h0 : byteAt s 0 = 92) (h1 : byteAt s 1 = 49) (hun : unesc s = octItem s) :
    Calls Tryf.prog 29 #[.string s] w fun e w' => UcRes s (unesc s) e ∧ Below w.heap.size w w' := by
  obtain ⟨t, ht⟩ : ∃ t, s.extract 2 s.size = t := ⟨_, rfl⟩
  have hts := cut_size s 2 hs0
  rw [ht] at hts
  have g0 : ∀ h : 0 < s.size, ((s[0]'h).toNat : Int) = (byteAt s 0 : Int) := fun h => byteAt_get s 0 h
  have g1 : ∀ h : 1 < s.size, ((s[1]'h).toNat : Int) = (byteAt s 1 : Int) := fun h => byteAt_get s 1 h
  have h0' : (byteAt s 0 : Int) = 92 := by omega
  have h1' : (byteAt s 1 : Int) = 49 := by omega
  have hs0' : (2 : Int) ≤ (s.size : Int) := by omega
  have hun' := hide hun
  have ht0 : (0 : Int) ≤ (t.size : Int) := by omega
  have htail := hide (cut_tail s t 2 2 ht)
  have p0 : ∀ h : 0 < t.size, ((t[0]'h).toNat : Int) = (byteAt s 2 : Int) := cut_get s t 2 0 ht
  have p1 : ∀ h : 1 < t.size, ((t[1]'h).toNat : Int) = (byteAt s 3 : Int) := cut_get s t 2 1 ht
  have l2 := byteAt_le s 2
  have l3 := byteAt_le s 3
  have hO : octItem s = if s.size < 4 then none else if isOct (byteAt s 2) && isOct (byteAt s 3) then some ((((49 - 48) * 64 + (byteAt s 2 - 48) * 8 + (byteAt s 3 - 48) : Nat) : Int), true, 4) else none := by unfold octItem; rw [h1]
  have hO' := hide hO
  generalize byteAt s 0 = b0 at *
  generalize byteAt s 1 = b1 at *
  generalize byteAt s 2 = b2 at *
  generalize byteAt s 3 = b3 at *
  clear h0 h1 hun hO
  by_cases hsz : s.size < 4
  · have hsz' : (t.size : Int) < 2 := by omega
    have hu := hide (show unesc s = none by rw [hun'.out, hO'.out, if_pos hsz])
    clear hts
    go_enter Tryf.func29, Tryf.ntmps29
    go_wp2_with fail
    refine (errorf_any _ (by decide +kernel) _).mono ?_
    rintro e w1 ⟨a, rfl, hb1⟩
    go_wp2
    refine bodyPost_ret (results_tmp4 rfl _ _ _) rfl ?_
    exact ⟨UcRes.bad hu.out, hb1⟩
  · have hsz' : (2 : Int) ≤ (t.size : Int) := by omega
    clear hts
    have l2' : (b2 : Int) ≤ 255 := by omega
    have l3' : (b3 : Int) ≤ 255 := by omega
    by_cases o2 : 48 ≤ b2 ∧ b2 ≤ 55
    · have o2a : (48 : Int) ≤ (b2 : Int) := by omega
      have o2b : (b2 : Int) ≤ 55 := by omega
      by_cases o3 : 48 ≤ b3 ∧ b3 ≤ 55
      · have o3a : (48 : Int) ≤ (b3 : Int) := by omega
        have o3b : (b3 : Int) ≤ 55 := by omega
        have hu := hide (show unesc s = some ((((49 - 48) * 64 + (b2 - 48) * 8 + (b3 - 48) : Nat) : Int), true, 4) by rw [hun'.out, hO'.out, if_neg hsz]; simp [isOct, o2, o3])
        have hval := hide (show (((49 - 48) * 64 + (b2 - 48) * 8 + (b3 - 48) : Nat) : Int) = ((49 - 48) * 8 + ((b2 : Int) - 48)) * 8 + ((b3 : Int) - 48) by omega)
        go_enter Tryf.func29, Tryf.ntmps29
        go_wp2_with fail
        refine wp_loop_rounds 3 ?_
        repeat any_goals (rw [rounds_succ]; go_wp2_with fail)
        refine bodyPost_ret (results_tmp4 rfl _ _ _) rfl ?_
        refine ⟨?_, Below.refl _ _⟩
        refine UcRes.okt (v := _) ?_ htail.out
        rw [hu.out, hval.out]
        exact congrArg some (Prod.ext (by first | rfl | (simp only []; omega)) rfl)
      · have hu := hide (show unesc s = none by rw [hun'.out, hO'.out, if_neg hsz, if_neg (by simp [isOct]; omega)])
        have n3 : (b3 : Int) < 48 ∨ 55 < (b3 : Int) := by omega
        go_enter Tryf.func29, Tryf.ntmps29
        go_wp2_with fail
        refine wp_loop_rounds 3 ?_
        repeat any_goals (rw [rounds_succ]; go_wp2_with fail)
        all_goals
          refine (errorf_any _ (by decide +kernel) _).mono ?_
          rintro e w1 ⟨a, rfl, hb1⟩
          go_wp2
          refine bodyPost_ret (results_tmp4 rfl _ _ _) rfl ?_
          exact ⟨UcRes.bad hu.out, hb1⟩
    · have hu := hide (show unesc s = none by rw [hun'.out, hO'.out, if_neg hsz, if_neg (by simp [isOct]; omega)])
      have n2 : (b2 : Int) < 48 ∨ 55 < (b2 : Int) := by omega
      go_enter Tryf.func29, Tryf.ntmps29
      go_wp2_with fail
      refine wp_loop_rounds 3 ?_
      repeat any_goals (rw [rounds_succ]; go_wp2_with fail)
      all_goals
        refine (errorf_any _ (by decide +kernel) _).mono ?_
        rintro e w1 ⟨a, rfl, hb1⟩
        go_wp2
        refine bodyPost_ret (results_tmp4 rfl _ _ _) rfl ?_
        exact ⟨UcRes.bad hu.out, hb1⟩

set_option maxRecDepth 20000 in
set_option maxHeartbeats 4000000 in
theorem uc_oct50 (s : ByteArray) (w : World) (hs : s.size ≤ 9223372036854775807) (hs0 : 2 ≤ s.size) (h0 : byteAt s 0 = 92) (h1 : byteAt s 1 = 50) (hun : unesc s = octItem s) :
    Calls Tryf.prog 29 #[.string s] w fun e w' => UcRes s (unesc s) e ∧ Below w.heap.size w w' := by
  obtain ⟨t, ht⟩ : ∃ t, s.extract 2 s.size = t := ⟨_, rfl⟩
  have hts := cut_size s 2 hs0
  rw [ht] at hts
  have g0 : ∀ h : 0 < s.size, ((s[0]'h).toNat : Int) = (byteAt s 0 : Int) := fun h => byteAt_get s 0 h
  have g1 : ∀ h : 1 < s.size, ((s[1]'h).toNat : Int) = (byteAt s 1 : Int) := fun h => byteAt_get s 1 h
  have h0' : (byteAt s 0 : Int) = 92 := by omega
  have h1' : (byteAt s 1 : Int) = 50 := by omega
  have hs0' : (2 : Int) ≤ (s.size : Int) := by omega
  have hun' := hide hun
  have ht0 : (0 : Int) ≤ (t.size : Int) := by omega
  have htail := hide (cut_tail s t 2 2 ht)
  have p0 : ∀ h : 0 < t.size, ((t[0]'h).toNat : Int) = (byteAt s 2 : Int) := cut_get s t 2 0 ht
  have p1 : ∀ h : 1 < t.size, ((t[1]'h).toNat : Int) = (byteAt s 3 : Int) := cut_get s t 2 1 ht
  have l2 := byteAt_le s 2
  have l3 := byteAt_le s 3
  have hO : octItem s = if s.size < 4 then none else if isOct (byteAt s 2) && isOct (byteAt s 3) then some ((((50 - 48) * 64 + (byteAt s 2 - 48) * 8 + (byteAt s 3 - 48) : Nat) : Int), true, 4) else none := by unfold octItem; rw [h1]
  have hO' := hide hO
  generalize byteAt s 0 = b0 at *
  generalize byteAt s 1 = b1 at *
  generalize byteAt s 2 = b2 at *
  generalize byteAt s 3 = b3 at *
  clear h0 h1 hun hO
  by_cases hsz : s.size < 4
  · have hsz' : (t.size : Int) < 2 := by omega
    have hu := hide (show unesc s = none by rw [hun'.out, hO'.out, if_pos hsz])
    clear hts
    go_enter Tryf.func29, Tryf.ntmps29
    go_wp2_with fail
    refine (errorf_any _ (by decide +kernel) _).mono ?_
    rintro e w1 ⟨a, rfl, hb1⟩
    go_wp2
    refine bodyPost_ret (results_tmp4 rfl _ _ _) rfl ?_
    exact ⟨UcRes.bad hu.out, hb1⟩
  · have hsz' : (2 : Int) ≤ (t.size : Int) := by omega
    clear hts
    have l2' : (b2 : Int) ≤ 255 := by omega
    have l3' : (b3 : Int) ≤ 255 := by omega
    by_cases o2 : 48 ≤ b2 ∧ b2 ≤ 55
    · have o2a : (48 : Int) ≤ (b2 : Int) := by omega
      have o2b : (b2 : Int) ≤ 55 := by omega
      by_cases o3 : 48 ≤ b3 ∧ b3 ≤ 55
      · have o3a : (48 : Int) ≤ (b3 : Int) := by omega
        have o3b : (b3 : Int) ≤ 55 := by omega
        have hu := hide (show unesc s = some ((((50 - 48) * 64 + (b2 - 48) * 8 + (b3 - 48) : Nat) : Int), true, 4) by rw [hun'.out, hO'.out, if_neg hsz]; simp [isOct, o2, o3])
        have hval := hide (show (((50 - 48) * 64 + (b2 - 48) * 8 + (b3 - 48) : Nat) : Int) = ((50 - 48) * 8 + ((b2 : Int) - 48)) * 8 + ((b3 : Int) - 48) by omega)
        go_enter Tryf.func29, Tryf.ntmps29
        go_wp2_with fail
        refine wp_loop_rounds 3 ?_
        repeat any_goals (rw [rounds_succ]; go_wp2_with fail)
        refine bodyPost_ret (results_tmp4 rfl _ _ _) rfl ?_
        refine ⟨?_, Below.refl _ _⟩
        refine UcRes.okt (v := _) ?_ htail.out
        rw [hu.out, hval.out]
        exact congrArg some (Prod.ext (by first | rfl | (simp only []; omega)) rfl)
      · have hu := hide (show unesc s = none by rw [hun'.out, hO'.out, if_neg hsz, if_neg (by simp [isOct]; omega)])
        have n3 : (b3 : Int) < 48 ∨ 55 < (b3 : Int) := by omega
        go_enter Tryf.func29, Tryf.ntmps29
        go_wp2_with fail
        refine wp_loop_rounds 3 ?_
        repeat any_goals (rw [rounds_succ]; go_wp2_with fail)
        all_goals
          refine (errorf_any _ (by decide +kernel) _).mono ?_
          rintro e w1 ⟨a, rfl, hb1⟩
          go_wp2
          refine bodyPost_ret (results_tmp4 rfl _ _ _) rfl ?_
          exact ⟨UcRes.bad hu.out, hb1⟩
    · have hu := hide (show unesc s = none by rw [hun'.out, hO'.out, if_neg hsz, if_neg (by simp [isOct]; omega)])
      have n2 : (b2 : Int) < 48 ∨ 55 < (b2 : Int) := by omega
      go_enter Tryf.func29, Tryf.ntmps29
      go_wp2_with fail
      refine wp_loop_rounds 3 ?_
      repeat any_goals (rw [rounds_succ]; go_wp2_with fail)
      all_goals
        refine (errorf_any _ (by decide +kernel) _).mono ?_
        rintro e w1 ⟨a, rfl, hb1⟩
        go_wp2
        refine bodyPost_ret (results_tmp4 rfl _ _ _) rfl ?_
        exact ⟨UcRes.bad hu.out, hb1⟩

set_option maxRecDepth 20000 in
set_option maxHeartbeats 4000000 in
theorem uc_oct51 (s : ByteArray) (w : World) (hs : s.size ≤ 9223372036854775807) (hs0 : 2 ≤ s.size) (h0 : byteAt s 0 = 92) (h1 : byteAt s 1 = 51) (hun : unesc s = octItem s) :
    Calls Tryf.prog 29 #[.string s] w fun e w' => UcRes s (unesc s) e ∧ Below w.heap.size w w' := by
  obtain ⟨t, ht⟩ : ∃ t, s.extract 2 s.size = t := ⟨_, rfl⟩
  have hts := cut_size s 2 hs0
  rw [ht] at hts
  have g0 : ∀ h : 0 < s.size, ((s[0]'h).toNat : Int) = (byteAt s 0 : Int) := fun h => byteAt_get s 0 h
  have g1 : ∀ h : 1 < s.size, ((s[1]'h).toNat : Int) = (byteAt s 1 : Int) := fun h => byteAt_get s 1 h
  have h0' : (byteAt s 0 : Int) = 92 := by omega
  have h1' : (byteAt s 1 : Int) = 51 := by omega
  have hs0' : (2 : Int) ≤ (s.size : Int) := by omega
  have hun' := hide hun
  have ht0 : (0 : Int) ≤ (t.size : Int) := by omega
  have htail := hide (cut_tail s t 2 2 ht)
  have p0 : ∀ h : 0 < t.size, ((t[0]'h).toNat : Int) = (byteAt s 2 : Int) := cut_get s t 2 0 ht
  have p1 : ∀ h : 1 < t.size, ((t[1]'h).toNat : Int) = (byteAt s 3 : Int) := cut_get s t 2 1 ht
  have l2 := byteAt_le s 2
  have l3 := byteAt_le s 3
  have hO : octItem s = if s.size < 4 then none else if isOct (byteAt s 2) && isOct (byteAt s 3) then some ((((51 - 48) * 64 + (byteAt s 2 - 48) * 8 + (byteAt s 3 - 48) : Nat) : Int), true, 4) else none := by unfold octItem; rw [h1]
  have hO' := hide hO
  generalize byteAt s 0 = b0 at *
  generalize byteAt s 1 = b1 at *
  generalize byteAt s 2 = b2 at *
  generalize byteAt s 3 = b3 at *
  clear h0 h1 hun hO
  by_cases hsz : s.size < 4
  · have hsz' : (t.size : Int) < 2 := by omega
    have hu := hide (show unesc s = none by rw [hun'.out, hO'.out, if_pos hsz])
    clear hts
    go_enter Tryf.func29, Tryf.ntmps29
    go_wp2_with fail
    refine (errorf_any _ (by decide +kernel) _).mono ?_
    rintro e w1 ⟨a, rfl, hb1⟩
    go_wp2
    refine bodyPost_ret (results_tmp4 rfl _ _ _) rfl ?_
    exact ⟨UcRes.bad hu.out, hb1⟩
  · have hsz' : (2 : Int) ≤ (t.size : Int) := by omega
    clear hts
    have l2' : (b2 : Int) ≤ 255 := by omega
    have l3' : (b3 : Int) ≤ 255 := by omega
    by_cases o2 : 48 ≤ b2 ∧ b2 ≤ 55
    · have o2a : (48 : Int) ≤ (b2 : Int) := by omega
      have o2b : (b2 : Int) ≤ 55 := by omega
      by_cases o3 : 48 ≤ b3 ∧ b3 ≤ 55
      · have o3a : (48 : Int) ≤ (b3 : Int) := by omega
        have o3b : (b3 : Int) ≤ 55 := by omega
        have hu := hide (show unesc s = some ((((51 - 48) * 64 + (b2 - 48) * 8 + (b3 - 48) : Nat) : Int), true, 4) by rw [hun'.out, hO'.out, if_neg hsz]; simp [isOct, o2, o3])
        have hval := hide (show (((51 - 48) * 64 + (b2 - 48) * 8 + (b3 - 48) : Nat) : Int) = ((51 - 48) * 8 + ((b2 : Int) - 48)) * 8 + ((b3 : Int) - 48) by omega)
        go_enter Tryf.func29, Tryf.ntmps29
        go_wp2_with fail
        refine wp_loop_rounds 3 ?_
        repeat any_goals (rw [rounds_succ]; go_wp2_with fail)
        refine bodyPost_ret (results_tmp4 rfl _ _ _) rfl ?_
        refine ⟨?_, Below.refl _ _⟩
        refine UcRes.okt (v := _) ?_ htail.out
        rw [hu.out, hval.out]
        exact congrArg some (Prod.ext (by first | rfl | (simp only []; omega)) rfl)
      · have hu := hide (show unesc s = none by rw [hun'.out, hO'.out, if_neg hsz, if_neg (by simp [isOct]; omega)])
        have n3 : (b3 : Int) < 48 ∨ 55 < (b3 : Int) := by omega
        go_enter Tryf.func29, Tryf.ntmps29
        go_wp2_with fail
        refine wp_loop_rounds 3 ?_
        repeat any_goals (rw [rounds_succ]; go_wp2_with fail)
        all_goals
          refine (errorf_any _ (by decide +kernel) _).mono ?_
          rintro e w1 ⟨a, rfl, hb1⟩
          go_wp2
          refine bodyPost_ret (results_tmp4 rfl _ _ _) rfl ?_
          exact ⟨UcRes.bad hu.out, hb1⟩
    · have hu := hide (show unesc s = none by rw [hun'.out, hO'.out, if_neg hsz, if_neg (by simp [isOct]; omega)])
      have n2 : (b2 : Int) < 48 ∨ 55 < (b2 : Int) := by omega
      go_enter Tryf.func29, Tryf.ntmps29
      go_wp2_with fail
      refine wp_loop_rounds 3 ?_
      repeat any_goals (rw [rounds_succ]; go_wp2_with fail)
      all_goals
        refine (errorf_any _ (by decide +kernel) _).mono ?_
        rintro e w1 ⟨a, rfl, hb1⟩
        go_wp2
        refine bodyPost_ret (results_tmp4 rfl _ _ _) rfl ?_
        exact ⟨UcRes.bad hu.out, hb1⟩

end Go.Proofs.YtncoodplmpgnbaaFmt
