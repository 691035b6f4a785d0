/-
  The law's own decoder at lead bytes of three-byte runes. No condition beyond the size.
-/
import Derived.Test.YtklkbalbmeefjaaDoorDec
namespace Go.Proofs.YtklkbalbmeefjaaDoor
open Go.RowKit Go.Lib Go.Shelf Go.Proofs
set_option linter.unusedVariables false

set_option maxRecDepth 20000 in
set_option maxHeartbeats 1000000 in
theorem dec_three (s : ByteArray) (i : Nat) (w : World) (hi : i < s.size) (hs : s.size ≤ 1048576) (hc : 224 ≤ byteAt s i ∧ byteAt s i ≤ 239) :
    Calls Tryd.prog 21 #[.string s, .int .i64 (i : Int)] w fun e w' => e = .returned (.tuple #[.int .i32 (Utf8.decode s i).1, .int .i64 (Utf8.decode s i).2]) ∧ w = w' := by
  have hdec := decode_bytes s i
  have g0 : ∀ h : i < s.size, ((s[i]'h).toNat : Int) = (byteAt s i : Int) := fun h => byteAt_get s i h
  have g1 : ∀ h : i + 1 < s.size, ((s[i + 1]'h).toNat : Int) = (byteAt s (i + 1) : Int) := fun h => byteAt_get s (i + 1) h
  have g2 : ∀ h : i + 2 < s.size, ((s[i + 2]'h).toNat : Int) = (byteAt s (i + 2) : Int) := fun h => byteAt_get s (i + 2) h
  have g3 : ∀ h : i + 3 < s.size, ((s[i + 3]'h).toNat : Int) = (byteAt s (i + 3) : Int) := fun h => byteAt_get s (i + 3) h
  have l0 := byteAt_le s i
  have l1 := byteAt_le s (i + 1)
  have l2 := byteAt_le s (i + 2)
  have l3 := byteAt_le s (i + 3)
  generalize byteAt s i = N0 at *
  generalize byteAt s (i + 1) = N1 at *
  generalize byteAt s (i + 2) = N2 at *
  generalize byteAt s (i + 3) = N3 at *
  obtain ⟨n, hn⟩ : ∃ n, s.size - i = n := ⟨_, rfl⟩
  rw [hn] at hdec
  have hn1 : (s.size : Int) - (i : Int) = (n : Int) := by omega
  have hN1 := hide hn1
  clear hn hn1
  obtain ⟨R, hR⟩ : ∃ R, (Utf8.decode s i).1 = R := ⟨_, rfl⟩
  obtain ⟨W, hW⟩ : ∃ W, (Utf8.decode s i).2 = W := ⟨_, rfl⟩
  have HR := hide (show decodeN n N0 N1 N2 N3 = (R, W) by rw [← hdec, ← hR, ← hW])
  rw [hR, hW]
  clear hdec hR hW
  have hc1 : 224 ≤ (N0 : Int) ∧ (N0 : Int) ≤ 239 := by omega
  have hi0 : (0 : Int) ≤ (i : Int) := by omega
  have hi1 : (i : Int) < (s.size : Int) := by omega
  clear hc
  go_enter Tryd.func21, Tryd.ntmps21
  go_wp2
  any_goals (go_rounds 3)
  all_goals
    go_ret2
    have h := HR.out
    have hn1 := hN1.out
    clear HR hN1 g0 g1 g2 g3
    unfold decodeN at h
    refine ⟨ret_t ?_ ?_, rfl⟩ <;> ((try simp only [beq_iff_eq, beq_eq_false_iff_ne] at *) ; (repeat' split at h) <;> (simp only [Prod.mk.injEq] at h; omega))

end Go.Proofs.YtklkbalbmeefjaaDoor
