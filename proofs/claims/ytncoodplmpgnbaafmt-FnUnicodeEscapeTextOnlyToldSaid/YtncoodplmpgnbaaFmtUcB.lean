/-
  unescapeChar by contract, further ways without loops. Condition: utf8's two tables hold what their initialisers lay, where the text says so.
-/
import Derived.Test.YtncoodplmpgnbaaFmtUc
namespace Go.Proofs.YtncoodplmpgnbaaFmt
open Go.RowKit Go.Lib Go.Shelf Go.Proofs
set_option linter.unusedVariables false
set_option linter.unusedSimpArgs false

set_option maxRecDepth 20000 in
set_option maxHeartbeats 2000000 in
theorem uc_plain (s : ByteArray) (w : World) (hs : s.size ≤ 9223372036854775807) (hs0 : 0 < s.size) (h0 : byteAt s 0 < 128) (h1 : byteAt s 0 ≠ 92) :
    Calls Tryf.prog 29 #[.string s] w fun e w' => UcRes s (unesc s) e ∧ Below w.heap.size w w' := by
  have hu := hide (show unesc s = some ((byteAt s 0 : Int), false, 1) by unfold unesc; rw [if_neg (by omega), if_pos h1])
  have g0 : ∀ h : 0 < s.size, ((s[0]'h).toNat : Int) = (byteAt s 0 : Int) := fun h => byteAt_get s 0 h
  have g1 : ∀ h : 1 < s.size, ((s[1]'h).toNat : Int) = (byteAt s 1 : Int) := fun h => byteAt_get s 1 h
  have h0' : (byteAt s 0 : Int) < 128 := by omega
  have h1' : (byteAt s 0 : Int) ≠ 92 := by omega
  have hs0' : (0 : Int) < (s.size : Int) := by omega
  have hs1' : (1 : Int) ≤ (s.size : Int) := by omega
  generalize byteAt s 0 = b0 at *
  clear h0 h1
  go_enter Tryf.func29, Tryf.ntmps29
  go_wp2_with fail
  go_region
  all_goals (try go_wp2)
  all_goals
    refine bodyPost_ret (results_tmp4 rfl _ _ _) rfl ?_
    exact ⟨UcRes.ok hu.out, by first | exact Below.refl _ _ | exact (Below.refl _ _).drew | exact ((Below.refl _ _).drew).drew⟩

set_option maxRecDepth 20000 in
set_option maxHeartbeats 2000000 in
theorem uc_end (s : ByteArray) (w : World) (hs : s.size ≤ 9223372036854775807) (hs0 : s.size = 1) (h0 : byteAt s 0 = 92) :
    Calls Tryf.prog 29 #[.string s] w fun e w' => UcRes s (unesc s) e ∧ Below w.heap.size w w' := by
  have hu := hide (show unesc s = none by unfold unesc; rw [if_neg (by omega), if_neg (by omega), if_pos (by omega)])
  have g0 : ∀ h : 0 < s.size, ((s[0]'h).toNat : Int) = (byteAt s 0 : Int) := fun h => byteAt_get s 0 h
  have g1 : ∀ h : 1 < s.size, ((s[1]'h).toNat : Int) = (byteAt s 1 : Int) := fun h => byteAt_get s 1 h
  have h0' : (byteAt s 0 : Int) = 92 := by omega
  have hs0' : (s.size : Int) = 1 := by omega
  generalize byteAt s 0 = b0 at *
  clear h0
  go_enter Tryf.func29, Tryf.ntmps29
  go_wp2_with fail
  refine (errorf_any _ (by decide +kernel) _).mono ?_
  rintro e w1 ⟨a, rfl, hb1⟩
  go_wp2
  refine bodyPost_ret (results_tmp4 rfl _ _ _) rfl ?_
  exact ⟨UcRes.bad hu.out, hb1⟩

set_option maxRecDepth 20000 in
set_option maxHeartbeats 2000000 in
theorem uc_simple97 (s : ByteArray) (w : World) (hs : s.size ≤ 9223372036854775807) (hs0 : 2 ≤ s.size) (h0 : byteAt s 0 = 92) (h1 : byteAt s 1 = 97) :
    Calls Tryf.prog 29 #[.string s] w fun e w' => UcRes s (unesc s) e ∧ Below w.heap.size w w' := by
  have hu := hide (show unesc s = some ((7 : Int), false, 2) by unfold unesc; rw [if_neg (by omega), if_neg (by omega), if_neg (by omega), h1]; rfl)
  have g0 : ∀ h : 0 < s.size, ((s[0]'h).toNat : Int) = (byteAt s 0 : Int) := fun h => byteAt_get s 0 h
  have g1 : ∀ h : 1 < s.size, ((s[1]'h).toNat : Int) = (byteAt s 1 : Int) := fun h => byteAt_get s 1 h
  have h0' : (byteAt s 0 : Int) = 92 := by omega
  have hs0' : (2 : Int) ≤ (s.size : Int) := by omega
  have h1' : (byteAt s 1 : Int) = 97 := by omega
  generalize byteAt s 0 = b0 at *
  generalize byteAt s 1 = b1 at *
  clear h0 h1
  go_enter Tryf.func29, Tryf.ntmps29
  go_wp2
  refine bodyPost_ret (results_tmp4 rfl _ _ _) rfl ?_
  exact ⟨UcRes.ok hu.out, Below.refl _ _⟩

set_option maxRecDepth 20000 in
set_option maxHeartbeats 2000000 in
theorem uc_simple98 (s : ByteArray) (w : World) (hs : s.size ≤ 9223372036854775807) (hs0 : 2 ≤ s.size) (h0 : byteAt s 0 = 92) (h1 : byteAt s 1 = 98) :
    Calls Tryf.prog 29 #[.string s] w fun e w' => UcRes s (unesc s) e ∧ Below w.heap.size w w' := by
  have hu := hide (show unesc s = some ((8 : Int), false, 2) by unfold unesc; rw [if_neg (by omega), if_neg (by omega), if_neg (by omega), h1]; rfl)
  have g0 : ∀ h : 0 < s.size, ((s[0]'h).toNat : Int) = (byteAt s 0 : Int) := fun h => byteAt_get s 0 h
  have g1 : ∀ h : 1 < s.size, ((s[1]'h).toNat : Int) = (byteAt s 1 : Int) := fun h => byteAt_get s 1 h
  have h0' : (byteAt s 0 : Int) = 92 := by omega
  have hs0' : (2 : Int) ≤ (s.size : Int) := by omega
  have h1' : (byteAt s 1 : Int) = 98 := by omega
  generalize byteAt s 0 = b0 at *
  generalize byteAt s 1 = b1 at *
  clear h0 h1
  go_enter Tryf.func29, Tryf.ntmps29
  go_wp2
  refine bodyPost_ret (results_tmp4 rfl _ _ _) rfl ?_
  exact ⟨UcRes.ok hu.out, Below.refl _ _⟩

set_option maxRecDepth 20000 in
set_option maxHeartbeats 2000000 in
theorem uc_simple102 (s : ByteArray) (w : World) (hs : s.size ≤ 9223372036854775807) (hs0 : 2 ≤ s.size) (h0 : byteAt s 0 = 92) (h1 : byteAt s 1 = 102) :
    Calls Tryf.prog 29 #[.string s] w fun e w' => UcRes s (unesc s) e ∧ Below w.heap.size w w' := by
  have hu := hide (show unesc s = some ((12 : Int), false, 2) by unfold unesc; rw [if_neg (by omega), if_neg (by omega), if_neg (by omega), h1]; rfl)
  have g0 : ∀ h : 0 < s.size, ((s[0]'h).toNat : Int) = (byteAt s 0 : Int) := fun h => byteAt_get s 0 h
  have g1 : ∀ h : 1 < s.size, ((s[1]'h).toNat : Int) = (byteAt s 1 : Int) := fun h => byteAt_get s 1 h
  have h0' : (byteAt s 0 : Int) = 92 := by omega
  have hs0' : (2 : Int) ≤ (s.size : Int) := by omega
  have h1' : (byteAt s 1 : Int) = 102 := by omega
  generalize byteAt s 0 = b0 at *
  generalize byteAt s 1 = b1 at *
  clear h0 h1
  go_enter Tryf.func29, Tryf.ntmps29
  go_wp2
  refine bodyPost_ret (results_tmp4 rfl _ _ _) rfl ?_
  exact ⟨UcRes.ok hu.out, Below.refl _ _⟩

set_option maxRecDepth 20000 in
set_option maxHeartbeats 2000000 in
theorem uc_simple110 (s : ByteArray) (w : World) (hs : s.size ≤ 9223372036854775807) (hs0 : 2 ≤ s.size) (h0 : byteAt s 0 = 92) (h1 : byteAt s 1 = 110) :
    Calls Tryf.prog 29 #[.string s] w fun e w' => UcRes s (unesc s) e ∧ Below w.heap.size w w' := by
  have hu := hide (show unesc s = some ((10 : Int), false, 2) by unfold unesc; rw [if_neg (by omega), if_neg (by omega), if_neg (by omega), h1]; rfl)
  have g0 : ∀ h : 0 < s.size, ((s[0]'h).toNat : Int) = (byteAt s 0 : Int) := fun h => byteAt_get s 0 h
  have g1 : ∀ h : 1 < s.size, ((s[1]'h).toNat : Int) = (byteAt s 1 : Int) := fun h => byteAt_get s 1 h
  have h0' : (byteAt s 0 : Int) = 92 := by omega
  have hs0' : (2 : Int) ≤ (s.size : Int) := by omega
  have h1' : (byteAt s 1 : Int) = 110 := by omega
  generalize byteAt s 0 = b0 at *
  generalize byteAt s 1 = b1 at *
  clear h0 h1
  go_enter Tryf.func29, Tryf.ntmps29
  go_wp2
  refine bodyPost_ret (results_tmp4 rfl _ _ _) rfl ?_
  exact ⟨UcRes.ok hu.out, Below.refl _ _⟩

set_option maxRecDepth 20000 in
set_option maxHeartbeats 2000000 in
theorem uc_simple114 (s : ByteArray) (w : World) (hs : s.size ≤ 9223372036854775807) (hs0 : 2 ≤ s.size) (h0 : byteAt s 0 = 92) (h1 : byteAt s 1 = 114) :
    Calls Tryf.prog 29 #[.string s] w fun e w' => UcRes s (unesc s) e ∧ Below w.heap.size w w' := by
  have hu := hide (show unesc s = some ((13 : Int), false, 2) by unfold unesc; rw [if_neg (by omega), if_neg (by omega), if_neg (by omega), h1]; rfl)
  have g0 : ∀ h : 0 < s.size, ((s[0]'h).toNat : Int) = (byteAt s 0 : Int) := fun h => byteAt_get s 0 h
  have g1 : ∀ h : 1 < s.size, ((s[1]'h).toNat : Int) = (byteAt s 1 : Int) := fun h => byteAt_get s 1 h
  have h0' : (byteAt s 0 : Int) = 92 := by omega
  have hs0' : (2 : Int) ≤ (s.size : Int) := by omega
  have h1' : (byteAt s 1 : Int) = 114 := by omega
  generalize byteAt s 0 = b0 at *
  generalize byteAt s 1 = b1 at *
  clear h0 h1
  go_enter Tryf.func29, Tryf.ntmps29
  go_wp2
  refine bodyPost_ret (results_tmp4 rfl _ _ _) rfl ?_
  exact ⟨UcRes.ok hu.out, Below.refl _ _⟩

set_option maxRecDepth 20000 in
set_option maxHeartbeats 2000000 in
theorem uc_simple116 (s : ByteArray) (w : World) (hs : s.size ≤ 9223372036854775807) (hs0 : 2 ≤ s.size) (h0 : byteAt s 0 = 92) (h1 : byteAt s 1 = 116) :
    Calls Tryf.prog 29 #[.string s] w fun e w' => UcRes s (unesc s) e ∧ Below w.heap.size w w' := by
  have hu := hide (show unesc s = some ((9 : Int), false, 2) by unfold unesc; rw [if_neg (by omega), if_neg (by omega), if_neg (by omega), h1]; rfl)
  have g0 : ∀ h : 0 < s.size, ((s[0]'h).toNat : Int) = (byteAt s 0 : Int) := fun h => byteAt_get s 0 h
  have g1 : ∀ h : 1 < s.size, ((s[1]'h).toNat : Int) = (byteAt s 1 : Int) := fun h => byteAt_get s 1 h
  have h0' : (byteAt s 0 : Int) = 92 := by omega
  have hs0' : (2 : Int) ≤ (s.size : Int) := by omega
  have h1' : (byteAt s 1 : Int) = 116 := by omega
  generalize byteAt s 0 = b0 at *
  generalize byteAt s 1 = b1 at *
  clear h0 h1
  go_enter Tryf.func29, Tryf.ntmps29
  go_wp2
  refine bodyPost_ret (results_tmp4 rfl _ _ _) rfl ?_
  exact ⟨UcRes.ok hu.out, Below.refl _ _⟩

set_option maxRecDepth 20000 in
set_option maxHeartbeats 2000000 in
theorem uc_simple118 (s : ByteArray) (w : World) (hs : s.size ≤ 9223372036854775807) (hs0 : 2 ≤ s.size) (h0 : byteAt s 0 = 92) (h1 : byteAt s 1 = 118) :
    Calls Tryf.prog 29 #[.string s] w fun e w' => UcRes s (unesc s) e ∧ Below w.heap.size w w' := by
  have hu := hide (show unesc s = some ((11 : Int), false, 2) by unfold unesc; rw [if_neg (by omega), if_neg (by omega), if_neg (by omega), h1]; rfl)
  have g0 : ∀ h : 0 < s.size, ((s[0]'h).toNat : Int) = (byteAt s 0 : Int) := fun h => byteAt_get s 0 h
  have g1 : ∀ h : 1 < s.size, ((s[1]'h).toNat : Int) = (byteAt s 1 : Int) := fun h => byteAt_get s 1 h
  have h0' : (byteAt s 0 : Int) = 92 := by omega
  have hs0' : (2 : Int) ≤ (s.size : Int) := by omega
  have h1' : (byteAt s 1 : Int) = 118 := by omega
  generalize byteAt s 0 = b0 at *
  generalize byteAt s 1 = b1 at *
  clear h0 h1
  go_enter Tryf.func29, Tryf.ntmps29
  go_wp2
  refine bodyPost_ret (results_tmp4 rfl _ _ _) rfl ?_
  exact ⟨UcRes.ok hu.out, Below.refl _ _⟩

set_option maxRecDepth 20000 in
set_option maxHeartbeats 2000000 in
theorem uc_simple92 (s : ByteArray) (w : World) (hs : s.size ≤ 9223372036854775807) (hs0 : 2 ≤ s.size) (h0 : byteAt s 0 = 92) (h1 : byteAt s 1 = 92) :
    Calls Tryf.prog 29 #[.string s] w fun e w' => UcRes s (unesc s) e ∧ Below w.heap.size w w' := by
  have hu := hide (show unesc s = some ((92 : Int), false, 2) by unfold unesc; rw [if_neg (by omega), if_neg (by omega), if_neg (by omega), h1]; rfl)
  have g0 : ∀ h : 0 < s.size, ((s[0]'h).toNat : Int) = (byteAt s 0 : Int) := fun h => byteAt_get s 0 h
  have g1 : ∀ h : 1 < s.size, ((s[1]'h).toNat : Int) = (byteAt s 1 : Int) := fun h => byteAt_get s 1 h
  have h0' : (byteAt s 0 : Int) = 92 := by omega
  have hs0' : (2 : Int) ≤ (s.size : Int) := by omega
  have h1' : (byteAt s 1 : Int) = 92 := by omega
  generalize byteAt s 0 = b0 at *
  generalize byteAt s 1 = b1 at *
  clear h0 h1
  go_enter Tryf.func29, Tryf.ntmps29
  go_wp2
  refine bodyPost_ret (results_tmp4 rfl _ _ _) rfl ?_
  exact ⟨UcRes.ok hu.out, Below.refl _ _⟩

set_option maxRecDepth 20000 in
set_option maxHeartbeats 2000000 in
theorem uc_simple39 (s : ByteArray) (w : World) (hs : s.size ≤ 9223372036854775807) (hs0 : 2 ≤ s.size) (h0 : byteAt s 0 = 92) (h1 : byteAt s 1 = 39) :
    Calls Tryf.prog 29 #[.string s] w fun e w' => UcRes s (unesc s) e ∧ Below w.heap.size w w' := by
  have hu := hide (show unesc s = some ((39 : Int), false, 2) by unfold unesc; rw [if_neg (by omega), if_neg (by omega), if_neg (by omega), h1]; rfl)
  have g0 : ∀ h : 0 < s.size, ((s[0]'h).toNat : Int) = (byteAt s 0 : Int) := fun h => byteAt_get s 0 h
  have g1 : ∀ h : 1 < s.size, ((s[1]'h).toNat : Int) = (byteAt s 1 : Int) := fun h => byteAt_get s 1 h
  have h0' : (byteAt s 0 : Int) = 92 := by omega
  have hs0' : (2 : Int) ≤ (s.size : Int) := by omega
  have h1' : (byteAt s 1 : Int) = 39 := by omega
  generalize byteAt s 0 = b0 at *
  generalize byteAt s 1 = b1 at *
  clear h0 h1
  go_enter Tryf.func29, Tryf.ntmps29
  go_wp2
  refine bodyPost_ret (results_tmp4 rfl _ _ _) rfl ?_
  exact ⟨UcRes.ok hu.out, Below.refl _ _⟩

set_option maxRecDepth 20000 in
set_option maxHeartbeats 2000000 in
theorem uc_simple34 (s : ByteArray) (w : World) (hs : s.size ≤ 9223372036854775807) (hs0 : 2 ≤ s.size) (h0 : byteAt s 0 = 92) (h1 : byteAt s 1 = 34) :
    Calls Tryf.prog 29 #[.string s] w fun e w' => UcRes s (unesc s) e ∧ Below w.heap.size w w' := by
  have hu := hide (show unesc s = some ((34 : Int), false, 2) by unfold unesc; rw [if_neg (by omega), if_neg (by omega), if_neg (by omega), h1]; rfl)
  have g0 : ∀ h : 0 < s.size, ((s[0]'h).toNat : Int) = (byteAt s 0 : Int) := fun h => byteAt_get s 0 h
  have g1 : ∀ h : 1 < s.size, ((s[1]'h).toNat : Int) = (byteAt s 1 : Int) := fun h => byteAt_get s 1 h
  have h0' : (byteAt s 0 : Int) = 92 := by omega
  have hs0' : (2 : Int) ≤ (s.size : Int) := by omega
  have h1' : (byteAt s 1 : Int) = 34 := by omega
  generalize byteAt s 0 = b0 at *
  generalize byteAt s 1 = b1 at *
  clear h0 h1
  go_enter Tryf.func29, Tryf.ntmps29
  go_wp2
  refine bodyPost_ret (results_tmp4 rfl _ _ _) rfl ?_
  exact ⟨UcRes.ok hu.out, Below.refl _ _⟩

set_option maxRecDepth 20000 in
set_option maxHeartbeats 2000000 in
theorem uc_simple96 (s : ByteArray) (w : World) (hs : s.size ≤ 9223372036854775807) (hs0 : 2 ≤ s.size) (h0 : byteAt s 0 = 92) (h1 : byteAt s 1 = 96) :
    Calls Tryf.prog 29 #[.string s] w fun e w' => UcRes s (unesc s) e ∧ Below w.heap.size w w' := by
  have hu := hide (show unesc s = some ((96 : Int), false, 2) by unfold unesc; rw [if_neg (by omega), if_neg (by omega), if_neg (by omega), h1]; rfl)
  have g0 : ∀ h : 0 < s.size, ((s[0]'h).toNat : Int) = (byteAt s 0 : Int) := fun h => byteAt_get s 0 h
  have g1 : ∀ h : 1 < s.size, ((s[1]'h).toNat : Int) = (byteAt s 1 : Int) := fun h => byteAt_get s 1 h
  have h0' : (byteAt s 0 : Int) = 92 := by omega
  have hs0' : (2 : Int) ≤ (s.size : Int) := by omega
  have h1' : (byteAt s 1 : Int) = 96 := by omega
  generalize byteAt s 0 = b0 at *
  generalize byteAt s 1 = b1 at *
  clear h0 h1
  go_enter Tryf.func29, Tryf.ntmps29
  go_wp2
  refine bodyPost_ret (results_tmp4 rfl _ _ _) rfl ?_
  exact ⟨UcRes.ok hu.out, Below.refl _ _⟩

set_option maxRecDepth 20000 in
set_option maxHeartbeats 2000000 in
theorem uc_simple63 (s : ByteArray) (w : World) (hs : s.size ≤ 9223372036854775807) (hs0 : 2 ≤ s.size) (h0 : byteAt s 0 = 92) (h1 : byteAt s 1 = 63) :
    Calls Tryf.prog 29 #[.string s] w fun e w' => UcRes s (unesc s) e ∧ Below w.heap.size w w' := by
  have hu := hide (show unesc s = some ((63 : Int), false, 2) by unfold unesc; rw [if_neg (by omega), if_neg (by omega), if_neg (by omega), h1]; rfl)
  have g0 : ∀ h : 0 < s.size, ((s[0]'h).toNat : Int) = (byteAt s 0 : Int) := fun h => byteAt_get s 0 h
  have g1 : ∀ h : 1 < s.size, ((s[1]'h).toNat : Int) = (byteAt s 1 : Int) := fun h => byteAt_get s 1 h
  have h0' : (byteAt s 0 : Int) = 92 := by omega
  have hs0' : (2 : Int) ≤ (s.size : Int) := by omega
  have h1' : (byteAt s 1 : Int) = 63 := by omega
  generalize byteAt s 0 = b0 at *
  generalize byteAt s 1 = b1 at *
  clear h0 h1
  go_enter Tryf.func29, Tryf.ntmps29
  go_wp2
  refine bodyPost_ret (results_tmp4 rfl _ _ _) rfl ?_
  exact ⟨UcRes.ok hu.out, Below.refl _ _⟩

theorem uc_simple (s : ByteArray) (w : World) (hs : s.size ≤ 9223372036854775807) (hs0 : 2 ≤ s.size) (h0 : byteAt s 0 = 92) (h1 : (simpleV (byteAt s 1)).isSome = true) :
    Calls Tryf.prog 29 #[.string s] w fun e w' => UcRes s (unesc s) e ∧ Below w.heap.size w w' := by
  by_cases c97 : byteAt s 1 = 97
  · exact uc_simple97 s w hs hs0 h0 c97
  by_cases c98 : byteAt s 1 = 98
  · exact uc_simple98 s w hs hs0 h0 c98
  by_cases c102 : byteAt s 1 = 102
  · exact uc_simple102 s w hs hs0 h0 c102
  by_cases c110 : byteAt s 1 = 110
  · exact uc_simple110 s w hs hs0 h0 c110
  by_cases c114 : byteAt s 1 = 114
  · exact uc_simple114 s w hs hs0 h0 c114
  by_cases c116 : byteAt s 1 = 116
  · exact uc_simple116 s w hs hs0 h0 c116
  by_cases c118 : byteAt s 1 = 118
  · exact uc_simple118 s w hs hs0 h0 c118
  by_cases c92 : byteAt s 1 = 92
  · exact uc_simple92 s w hs hs0 h0 c92
  by_cases c39 : byteAt s 1 = 39
  · exact uc_simple39 s w hs hs0 h0 c39
  by_cases c34 : byteAt s 1 = 34
  · exact uc_simple34 s w hs hs0 h0 c34
  by_cases c96 : byteAt s 1 = 96
  · exact uc_simple96 s w hs hs0 h0 c96
  by_cases c63 : byteAt s 1 = 63
  · exact uc_simple63 s w hs hs0 h0 c63
  unfold simpleV at h1
  simp [c97, c98, c102, c110, c114, c116, c118, c92, c39, c34, c96, c63] at h1

theorem notSimple {c : Nat} (h : simpleV c = none) : c ≠ 97 ∧ c ≠ 98 ∧ c ≠ 102 ∧ c ≠ 110 ∧ c ≠ 114 ∧ c ≠ 116 ∧ c ≠ 118 ∧ c ≠ 92 ∧ c ≠ 39 ∧ c ≠ 34 ∧ c ≠ 96 ∧ c ≠ 63 := by
  refine ⟨?_, ?_, ?_, ?_, ?_, ?_, ?_, ?_, ?_, ?_, ?_, ?_⟩ <;> (rintro rfl; simp [simpleV] at h)
set_option maxRecDepth 20000 in
set_option maxHeartbeats 2000000 in
theorem uc_other (s : ByteArray) (w : World) (hs : s.size ≤ 9223372036854775807) (hs0 : 2 ≤ s.size) (h0 : byteAt s 0 = 92) (h1 : simpleV (byteAt s 1) = none) (h2 : ¬ (byteAt s 1 = 120 ∨ byteAt s 1 = 88)) (h3 : byteAt s 1 ≠ 117) (h4 : byteAt s 1 ≠ 85) (h5 : ¬ (48 ≤ byteAt s 1 ∧ byteAt s 1 ≤ 51)) :
    Calls Tryf.prog 29 #[.string s] w fun e w' => UcRes s (unesc s) e ∧ Below w.heap.size w w' := by
  have hu := hide (show unesc s = none by unfold unesc; rw [if_neg (by omega), if_neg (by omega), if_neg (by omega), h1]; simp only []; rw [if_neg h2, if_neg h3, if_neg h4, if_neg h5])
  have g0 : ∀ h : 0 < s.size, ((s[0]'h).toNat : Int) = (byteAt s 0 : Int) := fun h => byteAt_get s 0 h
  have g1 : ∀ h : 1 < s.size, ((s[1]'h).toNat : Int) = (byteAt s 1 : Int) := fun h => byteAt_get s 1 h
  have h0' : (byteAt s 0 : Int) = 92 := by omega
  have hs0' : (2 : Int) ≤ (s.size : Int) := by omega
  have hn := notSimple h1
  generalize byteAt s 0 = b0 at *
  generalize byteAt s 1 = b1 at *
  have n97 : ((b1 : Int) == 97) = false := by rw [beq_eq_false_iff_ne]; omega
  have n98 : ((b1 : Int) == 98) = false := by rw [beq_eq_false_iff_ne]; omega
  have n102 : ((b1 : Int) == 102) = false := by rw [beq_eq_false_iff_ne]; omega
  have n110 : ((b1 : Int) == 110) = false := by rw [beq_eq_false_iff_ne]; omega
  have n114 : ((b1 : Int) == 114) = false := by rw [beq_eq_false_iff_ne]; omega
  have n116 : ((b1 : Int) == 116) = false := by rw [beq_eq_false_iff_ne]; omega
  have n118 : ((b1 : Int) == 118) = false := by rw [beq_eq_false_iff_ne]; omega
  have n92 : ((b1 : Int) == 92) = false := by rw [beq_eq_false_iff_ne]; omega
  have n39 : ((b1 : Int) == 39) = false := by rw [beq_eq_false_iff_ne]; omega
  have n34 : ((b1 : Int) == 34) = false := by rw [beq_eq_false_iff_ne]; omega
  have n96 : ((b1 : Int) == 96) = false := by rw [beq_eq_false_iff_ne]; omega
  have n63 : ((b1 : Int) == 63) = false := by rw [beq_eq_false_iff_ne]; omega
  have n120 : ((b1 : Int) == 120) = false := by rw [beq_eq_false_iff_ne]; omega
  have n88 : ((b1 : Int) == 88) = false := by rw [beq_eq_false_iff_ne]; omega
  have n117 : ((b1 : Int) == 117) = false := by rw [beq_eq_false_iff_ne]; omega
  have n85 : ((b1 : Int) == 85) = false := by rw [beq_eq_false_iff_ne]; omega
  have n48 : ((b1 : Int) == 48) = false := by rw [beq_eq_false_iff_ne]; omega
  have n49 : ((b1 : Int) == 49) = false := by rw [beq_eq_false_iff_ne]; omega
  have n50 : ((b1 : Int) == 50) = false := by rw [beq_eq_false_iff_ne]; omega
  have n51 : ((b1 : Int) == 51) = false := by rw [beq_eq_false_iff_ne]; omega
  clear h0 h1 h2 h3 h4 h5 hn
  go_enter Tryf.func29, Tryf.ntmps29
  go_wp2_with fail
  refine (errorf_any _ (by decide +kernel) _).mono ?_
  rintro e w1 ⟨a, rfl, hb1⟩
  go_wp2
  refine bodyPost_ret (results_tmp4 rfl _ _ _) rfl ?_
  exact ⟨UcRes.bad hu.out, hb1⟩

end Go.Proofs.YtncoodplmpgnbaaFmt
