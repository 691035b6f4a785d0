/-
  The law's own width of a rune, lead byte by lead byte. No condition beyond the size.
-/
import Derived.Test.YtlfgaikcdelknaaWidO
namespace Go.Proofs.Ytlfgaikcdelknaa
open Go.RowKit Go.Lib Go.Shelf Go.Proofs
set_option linter.unusedVariables false
set_option linter.unusedSimpArgs false

set_option maxRecDepth 20000 in
set_option maxHeartbeats 1000000 in
theorem wid_ef (s : ByteArray) (i : Nat) (w : World) (hi : i < s.size) (hs : s.size ≤ 1048576) (hc : byteAt s i = 239) :
    Calls Try.prog 26 #[.string s, .int .i64 (i : Int)] w fun e w' => e = .returned (.int .i64 (Utf8.decode s i).2) ∧ w = w' := by
  have hdec := decode_bytes s i
  have g0 : ∀ h : i < s.size, ((s[i]'h).toNat : Int) = (byteAt s i : Int) := fun h => byteAt_get s i h
  have g1 : ∀ h : i + 1 < s.size, ((s[i + 1]'h).toNat : Int) = (byteAt s (i + 1) : Int) := fun h => byteAt_get s (i + 1) h
  have g2 : ∀ h : i + 2 < s.size, ((s[i + 2]'h).toNat : Int) = (byteAt s (i + 2) : Int) := fun h => byteAt_get s (i + 2) h
  have g3 : ∀ h : i + 3 < s.size, ((s[i + 3]'h).toNat : Int) = (byteAt s (i + 3) : Int) := fun h => byteAt_get s (i + 3) h
  have l0 := byteAt_le s i
  have l1 := byteAt_le s (i + 1)
  have l2 := byteAt_le s (i + 2)
  have l3 := byteAt_le s (i + 3)
  generalize byteAt s i = N0 at *
  generalize byteAt s (i + 1) = N1 at *
  generalize byteAt s (i + 2) = N2 at *
  generalize byteAt s (i + 3) = N3 at *
  obtain ⟨n, hn⟩ : ∃ n, s.size - i = n := ⟨_, rfl⟩
  rw [hn] at hdec
  have hn1 : (s.size : Int) - (i : Int) = (n : Int) := by omega
  have hN1 := hide hn1
  clear hn hn1
  obtain ⟨W, hW⟩ : ∃ W, (Utf8.decode s i).2 = W := ⟨_, rfl⟩
  have HR := hide (show (decodeN n N0 N1 N2 N3).2 = W by rw [← hdec, hW])
  rw [hW]
  clear hdec hW
  have hc1 : (N0 : Int) = 239 := by omega
  have hi0 : (0 : Int) ≤ (i : Int) := by omega
  have hi1 : (i : Int) < (s.size : Int) := by omega
  clear hc
  go_enter Try.func26, Try.ntmps26
  go_wp2
  any_goals (go_rounds 2)
  all_goals
    go_ret
    have h := HR.out
    have hn1 := hN1.out
    clear HR hN1 g0 g1 g2 g3
    unfold decodeN at h
    refine ⟨ret_w ?_, rfl⟩
    (try simp only [beq_iff_eq, beq_eq_false_iff_ne] at *)
    repeat' split at h
    all_goals (simp only [] at h; omega)

set_option maxRecDepth 20000 in
set_option maxHeartbeats 1000000 in
theorem wid_f0 (s : ByteArray) (i : Nat) (w : World) (hi : i < s.size) (hs : s.size ≤ 1048576) (hc : byteAt s i = 240) :
    Calls Try.prog 26 #[.string s, .int .i64 (i : Int)] w fun e w' => e = .returned (.int .i64 (Utf8.decode s i).2) ∧ w = w' := by
  have hdec := decode_bytes s i
  have g0 : ∀ h : i < s.size, ((s[i]'h).toNat : Int) = (byteAt s i : Int) := fun h => byteAt_get s i h
  have g1 : ∀ h : i + 1 < s.size, ((s[i + 1]'h).toNat : Int) = (byteAt s (i + 1) : Int) := fun h => byteAt_get s (i + 1) h
  have g2 : ∀ h : i + 2 < s.size, ((s[i + 2]'h).toNat : Int) = (byteAt s (i + 2) : Int) := fun h => byteAt_get s (i + 2) h
  have g3 : ∀ h : i + 3 < s.size, ((s[i + 3]'h).toNat : Int) = (byteAt s (i + 3) : Int) := fun h => byteAt_get s (i + 3) h
  have l0 := byteAt_le s i
  have l1 := byteAt_le s (i + 1)
  have l2 := byteAt_le s (i + 2)
  have l3 := byteAt_le s (i + 3)
  generalize byteAt s i = N0 at *
  generalize byteAt s (i + 1) = N1 at *
  generalize byteAt s (i + 2) = N2 at *
  generalize byteAt s (i + 3) = N3 at *
  obtain ⟨n, hn⟩ : ∃ n, s.size - i = n := ⟨_, rfl⟩
  rw [hn] at hdec
  have hn1 : (s.size : Int) - (i : Int) = (n : Int) := by omega
  have hN1 := hide hn1
  clear hn hn1
  obtain ⟨W, hW⟩ : ∃ W, (Utf8.decode s i).2 = W := ⟨_, rfl⟩
  have HR := hide (show (decodeN n N0 N1 N2 N3).2 = W by rw [← hdec, hW])
  rw [hW]
  clear hdec hW
  have hc1 : (N0 : Int) = 240 := by omega
  have hi0 : (0 : Int) ≤ (i : Int) := by omega
  have hi1 : (i : Int) < (s.size : Int) := by omega
  clear hc
  go_enter Try.func26, Try.ntmps26
  go_wp2
  any_goals (go_rounds 3)
  all_goals
    go_ret
    have h := HR.out
    have hn1 := hN1.out
    clear HR hN1 g0 g1 g2 g3
    unfold decodeN at h
    refine ⟨ret_w ?_, rfl⟩
    (try simp only [beq_iff_eq, beq_eq_false_iff_ne] at *)
    repeat' split at h
    all_goals (simp only [] at h; omega)

end Go.Proofs.Ytlfgaikcdelknaa
