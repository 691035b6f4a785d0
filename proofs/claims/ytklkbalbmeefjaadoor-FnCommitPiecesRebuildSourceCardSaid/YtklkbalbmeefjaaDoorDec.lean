/-
  The law's own decoder at every string and place: the rune and the width that the library's decoder gives there. No condition beyond the size.
-/
import Derived.Test.YtklkbalbmeefjaaDoorLex
import Derived.Laws.BitsAllLaws
import Derived.WalkLawsBesides
namespace Go.Proofs.YtklkbalbmeefjaaDoor
open Go.RowKit Go.Lib Go.Shelf Go.Proofs
set_option linter.unusedVariables false

def byteAt (s : ByteArray) (k : Nat) : Nat := (s.data.toList.getD k 0).toNat
theorem byteAt_get (s : ByteArray) (k : Nat) (h : k < s.size) : ((s[k]'h).toNat : Int) = (byteAt s k : Int) := by
  unfold byteAt
  have : s.data.toList.getD k 0 = s[k]'h := by
    have h' : k < s.data.size := h
    simp [List.getD]
    rw [Array.getElem?_eq_getElem h']
    rfl
  rw [this]

theorem ret_t {k k' : IntKind} {a a' b b' : Int} (h1 : a = a') (h2 : b = b') : Ending.returned (.tuple #[.int k a, .int k' b]) = .returned (.tuple #[.int k a', .int k' b']) := by rw [h1, h2]
theorem decode_bytes (s : ByteArray) (i : Nat) : Utf8.decode s i = decodeN (s.size - i) (byteAt s i) (byteAt s (i + 1)) (byteAt s (i + 2)) (byteAt s (i + 3)) := by
  rw [decode_N, ← Lib.size_eq]
  rfl
theorem byteAt_le (s : ByteArray) (k : Nat) : byteAt s k ≤ 255 := by
  unfold byteAt
  have := (s.data.toList.getD k 0).toNat_lt
  omega

theorem dec_end (s : ByteArray) (i : Nat) (w : World) (hi : s.size ≤ i) :
    Calls Tryd.prog 21 #[.string s, .int .i64 (i : Int)] w fun e w' => e = .returned (.tuple #[.int .i32 (-1), .int .i64 0]) ∧ w = w' := by
  have hi0 : (0 : Int) ≤ (i : Int) := by omega
  have hi1 : (s.size : Int) ≤ (i : Int) := by omega
  clear hi
  go_enter Tryd.func21, Tryd.ntmps21
  go_wp2
  go_ret2
  exact ⟨rfl, rfl⟩
set_option maxRecDepth 20000 in
set_option maxHeartbeats 1000000 in
theorem dec_ascii (s : ByteArray) (i : Nat) (w : World) (hi : i < s.size) (hs : s.size ≤ 1048576) (hc : byteAt s i ≤ 127) :
    Calls Tryd.prog 21 #[.string s, .int .i64 (i : Int)] w fun e w' => e = .returned (.tuple #[.int .i32 (Utf8.decode s i).1, .int .i64 (Utf8.decode s i).2]) ∧ w = w' := by
  have hdec := decode_bytes s i
  have g0 : ∀ h : i < s.size, ((s[i]'h).toNat : Int) = (byteAt s i : Int) := fun h => byteAt_get s i h
  have g1 : ∀ h : i + 1 < s.size, ((s[i + 1]'h).toNat : Int) = (byteAt s (i + 1) : Int) := fun h => byteAt_get s (i + 1) h
  have g2 : ∀ h : i + 2 < s.size, ((s[i + 2]'h).toNat : Int) = (byteAt s (i + 2) : Int) := fun h => byteAt_get s (i + 2) h
  have g3 : ∀ h : i + 3 < s.size, ((s[i + 3]'h).toNat : Int) = (byteAt s (i + 3) : Int) := fun h => byteAt_get s (i + 3) h
  have l0 := byteAt_le s i
  have l1 := byteAt_le s (i + 1)
  have l2 := byteAt_le s (i + 2)
  have l3 := byteAt_le s (i + 3)
  generalize byteAt s i = N0 at *
  generalize byteAt s (i + 1) = N1 at *
  generalize byteAt s (i + 2) = N2 at *
  generalize byteAt s (i + 3) = N3 at *
  obtain ⟨n, hn⟩ : ∃ n, s.size - i = n := ⟨_, rfl⟩
  rw [hn] at hdec
  have hn1 : (s.size : Int) - (i : Int) = (n : Int) := by omega
  have hN1 := hide hn1
  clear hn hn1
  obtain ⟨R, hR⟩ : ∃ R, (Utf8.decode s i).1 = R := ⟨_, rfl⟩
  obtain ⟨W, hW⟩ : ∃ W, (Utf8.decode s i).2 = W := ⟨_, rfl⟩
  have HR := hide (show decodeN n N0 N1 N2 N3 = (R, W) by rw [← hdec, ← hR, ← hW])
  rw [hR, hW]
  clear hdec hR hW
  have hc1 : (N0 : Int) ≤ 127 := by omega
  have hi0 : (0 : Int) ≤ (i : Int) := by omega
  have hi1 : (i : Int) < (s.size : Int) := by omega
  clear hc
  go_enter Tryd.func21, Tryd.ntmps21
  go_wp2
  all_goals
    go_ret2
    have h := HR.out
    have hn1 := hN1.out
    clear HR hN1 g0 g1 g2 g3
    unfold decodeN at h
    refine ⟨ret_t ?_ ?_, rfl⟩ <;> ((repeat' split at h) <;> (simp only [Prod.mk.injEq] at h; omega))

set_option maxRecDepth 20000 in
set_option maxHeartbeats 1000000 in
theorem dec_bad (s : ByteArray) (i : Nat) (w : World) (hi : i < s.size) (hs : s.size ≤ 1048576) (hc : (128 ≤ byteAt s i ∧ byteAt s i ≤ 193) ∨ 245 ≤ byteAt s i) :
    Calls Tryd.prog 21 #[.string s, .int .i64 (i : Int)] w fun e w' => e = .returned (.tuple #[.int .i32 (Utf8.decode s i).1, .int .i64 (Utf8.decode s i).2]) ∧ w = w' := by
  have hdec := decode_bytes s i
  have g0 : ∀ h : i < s.size, ((s[i]'h).toNat : Int) = (byteAt s i : Int) := fun h => byteAt_get s i h
  have g1 : ∀ h : i + 1 < s.size, ((s[i + 1]'h).toNat : Int) = (byteAt s (i + 1) : Int) := fun h => byteAt_get s (i + 1) h
  have g2 : ∀ h : i + 2 < s.size, ((s[i + 2]'h).toNat : Int) = (byteAt s (i + 2) : Int) := fun h => byteAt_get s (i + 2) h
  have g3 : ∀ h : i + 3 < s.size, ((s[i + 3]'h).toNat : Int) = (byteAt s (i + 3) : Int) := fun h => byteAt_get s (i + 3) h
  have l0 := byteAt_le s i
  have l1 := byteAt_le s (i + 1)
  have l2 := byteAt_le s (i + 2)
  have l3 := byteAt_le s (i + 3)
  generalize byteAt s i = N0 at *
  generalize byteAt s (i + 1) = N1 at *
  generalize byteAt s (i + 2) = N2 at *
  generalize byteAt s (i + 3) = N3 at *
  obtain ⟨n, hn⟩ : ∃ n, s.size - i = n := ⟨_, rfl⟩
  rw [hn] at hdec
  have hn1 : (s.size : Int) - (i : Int) = (n : Int) := by omega
  have hN1 := hide hn1
  clear hn hn1
  obtain ⟨R, hR⟩ : ∃ R, (Utf8.decode s i).1 = R := ⟨_, rfl⟩
  obtain ⟨W, hW⟩ : ∃ W, (Utf8.decode s i).2 = W := ⟨_, rfl⟩
  have HR := hide (show decodeN n N0 N1 N2 N3 = (R, W) by rw [← hdec, ← hR, ← hW])
  rw [hR, hW]
  clear hdec hR hW
  have hc1 : (128 ≤ (N0 : Int) ∧ (N0 : Int) ≤ 193) ∨ 245 ≤ (N0 : Int) := by omega
  have hi0 : (0 : Int) ≤ (i : Int) := by omega
  have hi1 : (i : Int) < (s.size : Int) := by omega
  clear hc
  go_enter Tryd.func21, Tryd.ntmps21
  go_wp2
  all_goals
    go_ret2
    have h := HR.out
    have hn1 := hN1.out
    clear HR hN1 g0 g1 g2 g3
    unfold decodeN at h
    refine ⟨ret_t ?_ ?_, rfl⟩ <;> ((repeat' split at h) <;> (simp only [Prod.mk.injEq] at h; omega))

set_option maxRecDepth 20000 in
set_option maxHeartbeats 1000000 in
theorem dec_two (s : ByteArray) (i : Nat) (w : World) (hi : i < s.size) (hs : s.size ≤ 1048576) (hc : 194 ≤ byteAt s i ∧ byteAt s i ≤ 223) :
    Calls Tryd.prog 21 #[.string s, .int .i64 (i : Int)] w fun e w' => e = .returned (.tuple #[.int .i32 (Utf8.decode s i).1, .int .i64 (Utf8.decode s i).2]) ∧ w = w' := by
  have hdec := decode_bytes s i
  have g0 : ∀ h : i < s.size, ((s[i]'h).toNat : Int) = (byteAt s i : Int) := fun h => byteAt_get s i h
  have g1 : ∀ h : i + 1 < s.size, ((s[i + 1]'h).toNat : Int) = (byteAt s (i + 1) : Int) := fun h => byteAt_get s (i + 1) h
  have g2 : ∀ h : i + 2 < s.size, ((s[i + 2]'h).toNat : Int) = (byteAt s (i + 2) : Int) := fun h => byteAt_get s (i + 2) h
  have g3 : ∀ h : i + 3 < s.size, ((s[i + 3]'h).toNat : Int) = (byteAt s (i + 3) : Int) := fun h => byteAt_get s (i + 3) h
  have l0 := byteAt_le s i
  have l1 := byteAt_le s (i + 1)
  have l2 := byteAt_le s (i + 2)
  have l3 := byteAt_le s (i + 3)
  generalize byteAt s i = N0 at *
  generalize byteAt s (i + 1) = N1 at *
  generalize byteAt s (i + 2) = N2 at *
  generalize byteAt s (i + 3) = N3 at *
  obtain ⟨n, hn⟩ : ∃ n, s.size - i = n := ⟨_, rfl⟩
  rw [hn] at hdec
  have hn1 : (s.size : Int) - (i : Int) = (n : Int) := by omega
  have hN1 := hide hn1
  clear hn hn1
  obtain ⟨R, hR⟩ : ∃ R, (Utf8.decode s i).1 = R := ⟨_, rfl⟩
  obtain ⟨W, hW⟩ : ∃ W, (Utf8.decode s i).2 = W := ⟨_, rfl⟩
  have HR := hide (show decodeN n N0 N1 N2 N3 = (R, W) by rw [← hdec, ← hR, ← hW])
  rw [hR, hW]
  clear hdec hR hW
  have hc1 : 194 ≤ (N0 : Int) ∧ (N0 : Int) ≤ 223 := by omega
  have hi0 : (0 : Int) ≤ (i : Int) := by omega
  have hi1 : (i : Int) < (s.size : Int) := by omega
  clear hc
  go_enter Tryd.func21, Tryd.ntmps21
  go_wp2
  any_goals (go_rounds 2)
  all_goals
    go_ret2
    have h := HR.out
    have hn1 := hN1.out
    clear HR hN1 g0 g1 g2 g3
    unfold decodeN at h
    refine ⟨ret_t ?_ ?_, rfl⟩ <;> ((repeat' split at h) <;> (simp only [Prod.mk.injEq] at h; omega))

end Go.Proofs.YtklkbalbmeefjaaDoor
