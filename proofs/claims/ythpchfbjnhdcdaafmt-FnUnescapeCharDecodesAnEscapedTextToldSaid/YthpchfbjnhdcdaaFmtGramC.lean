/-
  The law's own width of a UTF-8 sequence at a text's front: the width that the library's decoder takes. No condition beyond the size.
-/
import Derived.Test.YthpchfbjnhdcdaaFmtAgree
import Derived.WalkLawsBesides
namespace Go.Proofs.YthpchfbjnhdcdaaFmt
open Go.RowKit Go.Lib Go.Shelf Go.Proofs
set_option linter.unusedVariables false
set_option linter.unusedSimpArgs false

theorem decode_bytes (s : ByteArray) (i : Nat) : Utf8.decode s i = decodeN (s.size - i) (byteAt s i) (byteAt s (i + 1)) (byteAt s (i + 2)) (byteAt s (i + 3)) := by
  rw [decode_N, ← Lib.size_eq]
  rfl
theorem ret_w {k : IntKind} {a a' : Int} (h1 : a = a') : Ending.returned (.int k a) = .returned (.int k a') := by rw [h1]
set_option maxRecDepth 20000 in
set_option maxHeartbeats 1000000 in
theorem wid_bad (s : ByteArray) (w : World) (hi : 0 < s.size) (hs : s.size ≤ 1048576) (hc : (128 ≤ byteAt s 0 ∧ byteAt s 0 ≤ 193) ∨ 245 ≤ byteAt s 0) :
    Calls Tryf.prog 26 #[.string s] w fun e w' => e = .returned (.int .i64 (Utf8.decode s 0).2) ∧ w = w' := by
  have hdec := decode_bytes s 0
  have g0 : ∀ h : 0 < s.size, ((s[0]'h).toNat : Int) = (byteAt s 0 : Int) := fun h => byteAt_get s 0 h
  have g1 : ∀ h : 1 < s.size, ((s[1]'h).toNat : Int) = (byteAt s 1 : Int) := fun h => byteAt_get s 1 h
  have g2 : ∀ h : 2 < s.size, ((s[2]'h).toNat : Int) = (byteAt s 2 : Int) := fun h => byteAt_get s 2 h
  have g3 : ∀ h : 3 < s.size, ((s[3]'h).toNat : Int) = (byteAt s 3 : Int) := fun h => byteAt_get s 3 h
  have l0 := byteAt_le s 0
  have l1 := byteAt_le s 1
  have l2 := byteAt_le s 2
  have l3 := byteAt_le s 3
  simp only [Nat.zero_add, Nat.sub_zero] at hdec
  generalize byteAt s 0 = N0 at *
  generalize byteAt s 1 = N1 at *
  generalize byteAt s 2 = N2 at *
  generalize byteAt s 3 = N3 at *
  obtain ⟨W, hW⟩ : ∃ W, (Utf8.decode s 0).2 = W := ⟨_, rfl⟩
  have HR := hide (show (decodeN s.size N0 N1 N2 N3).2 = W by rw [← hdec, hW])
  rw [hW]
  clear hdec hW
  have hc1 : (128 ≤ (N0 : Int) ∧ (N0 : Int) ≤ 193) ∨ 245 ≤ (N0 : Int) := by omega
  have hi1 : (0 : Int) < (s.size : Int) := by omega
  clear hc
  go_enter Tryf.func26, Tryf.ntmps26
  go_wp2
  all_goals
    go_ret
    have h := HR.out
    clear HR g0 g1 g2 g3
    unfold decodeN at h
    refine ⟨ret_w ?_, rfl⟩
    (try simp only [beq_iff_eq, beq_eq_false_iff_ne] at *)
    repeat' split at h
    all_goals (simp only [] at h; omega)

set_option maxRecDepth 20000 in
set_option maxHeartbeats 1000000 in
theorem wid_two (s : ByteArray) (w : World) (hi : 0 < s.size) (hs : s.size ≤ 1048576) (hc : 194 ≤ byteAt s 0 ∧ byteAt s 0 ≤ 223) :
    Calls Tryf.prog 26 #[.string s] w fun e w' => e = .returned (.int .i64 (Utf8.decode s 0).2) ∧ w = w' := by
  have hdec := decode_bytes s 0
  have g0 : ∀ h : 0 < s.size, ((s[0]'h).toNat : Int) = (byteAt s 0 : Int) := fun h => byteAt_get s 0 h
  have g1 : ∀ h : 1 < s.size, ((s[1]'h).toNat : Int) = (byteAt s 1 : Int) := fun h => byteAt_get s 1 h
  have g2 : ∀ h : 2 < s.size, ((s[2]'h).toNat : Int) = (byteAt s 2 : Int) := fun h => byteAt_get s 2 h
  have g3 : ∀ h : 3 < s.size, ((s[3]'h).toNat : Int) = (byteAt s 3 : Int) := fun h => byteAt_get s 3 h
  have l0 := byteAt_le s 0
  have l1 := byteAt_le s 1
  have l2 := byteAt_le s 2
  have l3 := byteAt_le s 3
  simp only [Nat.zero_add, Nat.sub_zero] at hdec
  generalize byteAt s 0 = N0 at *
  generalize byteAt s 1 = N1 at *
  generalize byteAt s 2 = N2 at *
  generalize byteAt s 3 = N3 at *
  obtain ⟨W, hW⟩ : ∃ W, (Utf8.decode s 0).2 = W := ⟨_, rfl⟩
  have HR := hide (show (decodeN s.size N0 N1 N2 N3).2 = W by rw [← hdec, hW])
  rw [hW]
  clear hdec hW
  have hc1 : 194 ≤ (N0 : Int) ∧ (N0 : Int) ≤ 223 := by omega
  have hi1 : (0 : Int) < (s.size : Int) := by omega
  clear hc
  go_enter Tryf.func26, Tryf.ntmps26
  go_wp2
  any_goals (go_rounds 1)
  all_goals
    go_ret
    have h := HR.out
    clear HR g0 g1 g2 g3
    unfold decodeN at h
    refine ⟨ret_w ?_, rfl⟩
    (try simp only [beq_iff_eq, beq_eq_false_iff_ne] at *)
    repeat' split at h
    all_goals (simp only [] at h; omega)

set_option maxRecDepth 20000 in
set_option maxHeartbeats 1000000 in
theorem wid_three (s : ByteArray) (w : World) (hi : 0 < s.size) (hs : s.size ≤ 1048576) (hc : 224 ≤ byteAt s 0 ∧ byteAt s 0 ≤ 239) :
    Calls Tryf.prog 26 #[.string s] w fun e w' => e = .returned (.int .i64 (Utf8.decode s 0).2) ∧ w = w' := by
  have hdec := decode_bytes s 0
  have g0 : ∀ h : 0 < s.size, ((s[0]'h).toNat : Int) = (byteAt s 0 : Int) := fun h => byteAt_get s 0 h
  have g1 : ∀ h : 1 < s.size, ((s[1]'h).toNat : Int) = (byteAt s 1 : Int) := fun h => byteAt_get s 1 h
  have g2 : ∀ h : 2 < s.size, ((s[2]'h).toNat : Int) = (byteAt s 2 : Int) := fun h => byteAt_get s 2 h
  have g3 : ∀ h : 3 < s.size, ((s[3]'h).toNat : Int) = (byteAt s 3 : Int) := fun h => byteAt_get s 3 h
  have l0 := byteAt_le s 0
  have l1 := byteAt_le s 1
  have l2 := byteAt_le s 2
  have l3 := byteAt_le s 3
  simp only [Nat.zero_add, Nat.sub_zero] at hdec
  generalize byteAt s 0 = N0 at *
  generalize byteAt s 1 = N1 at *
  generalize byteAt s 2 = N2 at *
  generalize byteAt s 3 = N3 at *
  obtain ⟨W, hW⟩ : ∃ W, (Utf8.decode s 0).2 = W := ⟨_, rfl⟩
  have HR := hide (show (decodeN s.size N0 N1 N2 N3).2 = W by rw [← hdec, hW])
  rw [hW]
  clear hdec hW
  have hc1 : 224 ≤ (N0 : Int) ∧ (N0 : Int) ≤ 239 := by omega
  have hi1 : (0 : Int) < (s.size : Int) := by omega
  clear hc
  go_enter Tryf.func26, Tryf.ntmps26
  go_wp2
  any_goals (go_rounds 2)
  all_goals
    go_ret
    have h := HR.out
    clear HR g0 g1 g2 g3
    unfold decodeN at h
    refine ⟨ret_w ?_, rfl⟩
    (try simp only [beq_iff_eq, beq_eq_false_iff_ne] at *)
    repeat' split at h
    all_goals (simp only [] at h; omega)

set_option maxRecDepth 20000 in
set_option maxHeartbeats 1000000 in
theorem wid_four (s : ByteArray) (w : World) (hi : 0 < s.size) (hs : s.size ≤ 1048576) (hc : 240 ≤ byteAt s 0 ∧ byteAt s 0 ≤ 244) :
    Calls Tryf.prog 26 #[.string s] w fun e w' => e = .returned (.int .i64 (Utf8.decode s 0).2) ∧ w = w' := by
  have hdec := decode_bytes s 0
  have g0 : ∀ h : 0 < s.size, ((s[0]'h).toNat : Int) = (byteAt s 0 : Int) := fun h => byteAt_get s 0 h
  have g1 : ∀ h : 1 < s.size, ((s[1]'h).toNat : Int) = (byteAt s 1 : Int) := fun h => byteAt_get s 1 h
  have g2 : ∀ h : 2 < s.size, ((s[2]'h).toNat : Int) = (byteAt s 2 : Int) := fun h => byteAt_get s 2 h
  have g3 : ∀ h : 3 < s.size, ((s[3]'h).toNat : Int) = (byteAt s 3 : Int) := fun h => byteAt_get s 3 h
  have l0 := byteAt_le s 0
  have l1 := byteAt_le s 1
  have l2 := byteAt_le s 2
  have l3 := byteAt_le s 3
  simp only [Nat.zero_add, Nat.sub_zero] at hdec
  generalize byteAt s 0 = N0 at *
  generalize byteAt s 1 = N1 at *
  generalize byteAt s 2 = N2 at *
  generalize byteAt s 3 = N3 at *
  obtain ⟨W, hW⟩ : ∃ W, (Utf8.decode s 0).2 = W := ⟨_, rfl⟩
  have HR := hide (show (decodeN s.size N0 N1 N2 N3).2 = W by rw [← hdec, hW])
  rw [hW]
  clear hdec hW
  have hc1 : 240 ≤ (N0 : Int) ∧ (N0 : Int) ≤ 244 := by omega
  have hi1 : (0 : Int) < (s.size : Int) := by omega
  clear hc
  go_enter Tryf.func26, Tryf.ntmps26
  go_wp2
  any_goals (go_rounds 3)
  all_goals
    go_ret
    have h := HR.out
    clear HR g0 g1 g2 g3
    unfold decodeN at h
    refine ⟨ret_w ?_, rfl⟩
    (try simp only [beq_iff_eq, beq_eq_false_iff_ne] at *)
    repeat' split at h
    all_goals (simp only [] at h; omega)

theorem wid_any (s : ByteArray) (w : World) (hi : 0 < s.size) (hs : s.size ≤ 1048576) (hc : 128 ≤ byteAt s 0) :
    Calls Tryf.prog 26 #[.string s] w fun e w' => e = .returned (.int .i64 (Utf8.decode s 0).2) ∧ w = w' := by
  have := byteAt_le s 0
  by_cases h1 : byteAt s 0 ≤ 193 ∨ 245 ≤ byteAt s 0
  · exact wid_bad s w hi hs (by omega)
  · by_cases h2 : byteAt s 0 ≤ 223
    · exact wid_two s w hi hs (by omega)
    · by_cases h3 : byteAt s 0 ≤ 239
      · exact wid_three s w hi hs (by omega)
      · exact wid_four s w hi hs (by omega)
end Go.Proofs.YthpchfbjnhdcdaaFmt
