/-
  The lexer's steps in the forms that the laws' loops use. Conditions: utf8's two tables hold what their initialisers lay.
-/
import Derived.Test.YtklkbalbmeefjaaDoorLexB
import Derived.Test.YtklkbalbmeefjaaDoorPlainD
import Derived.Test.YtklkbalbmeefjaaDoorDecThree
import Derived.Test.YtklkbalbmeefjaaDoorDecFour
namespace Go.Proofs.YtklkbalbmeefjaaDoor
open Go.RowKit Go.Lib Go.Shelf Go.Proofs
set_option linter.unusedVariables false

theorem below_one {w0 w w' : World} {b : Nat} (h : Below w0.heap.size w0 w) (hg : w.grownBy w' (some b)) (hb : w0.heap.size ≤ b) : Below w0.heap.size w0 w' :=
  h.grown hg h.size (fun k hk => by cases hk; exact hb)
theorem Lx.nat {w : World} {b : Nat} {s : ByteArray} {sb sr : Int} {p K c : Nat} {ef : Bool} (h : Lx w b s sb sr ((p : Int) + (K : Int)) ((c : Int) + 1) ef) : Lx w b s sb sr ((p + K : Nat) : Int) ((c + 1 : Nat) : Int) ef := by
  have e1 : ((p + K : Nat) : Int) = (p : Int) + (K : Int) := by omega
  have e2 : ((c + 1 : Nat) : Int) = (c : Int) + 1 := by omega
  rw [e1, e2]; exact h

theorem znx (w : World) (b : Nat) (s : ByteArray) (sb sr : Int) (p c : Nat) (ef : Bool) (h : Lx w b s sb sr p c ef) (hlt : p < s.size) (hs : s.size ≤ 1048576) (hc : c ≤ 1048576) (hU : TU w) (R K : Nat) (hR : (Utf8.decode s p).1 = R) (hK : (Utf8.decode s p).2 = K) :
    Calls Tryd.prog 14 #[.pointer (some ⟨b, 0, none⟩)] w fun e w' => e = .returned (.int .i32 R) ∧ Hid (Lx w' b s sb sr ((p : Int) + (K : Int)) ((c : Int) + 1) ef) ∧ w.grownBy w' (some b) := by
  refine (znext_in w b s sb sr p c ef h hlt hs hc hU).mono ?_
  rintro e w' ⟨rfl, hx, hg⟩
  rw [hK] at hx
  refine ⟨by rw [hR], ?_, hg⟩
  have e1 : ((p + K : Nat) : Int) = (p : Int) + (K : Int) := by omega
  have e2 : ((c + 1 : Nat) : Int) = (c : Int) + 1 := by omega
  rw [e1, e2] at hx
  exact hide hx
theorem zne (w : World) (b : Nat) (s : ByteArray) (sb sr er : Int) (ef : Bool) (h : Lx w b s sb sr s.size er ef) (hs : s.size ≤ 1048576) :
    Calls Tryd.prog 14 #[.pointer (some ⟨b, 0, none⟩)] w fun e w' => e = .returned (.int .i32 (-1)) ∧ Hid (Lx w' b s sb sr s.size er true) ∧ w.grownBy w' (some b) :=
  (znext_end w b s sb sr er s.size ef h (Nat.le_refl _) hs).mono fun e w' ⟨he, hx, hg⟩ => ⟨he, hide hx, hg⟩
theorem zpx (w : World) (b : Nat) (s : ByteArray) (sb sr er : Int) (p : Nat) (ef : Bool) (h : Lx w b s sb sr p er ef) (hlt : p < s.size) (hs : s.size ≤ 1048576) (hU : TU w) (R : Nat) (hR : (Utf8.decode s p).1 = R) :
    Calls Tryd.prog 13 #[.pointer (some ⟨b, 0, none⟩)] w fun e w' => e = .returned (.int .i32 R) ∧ Below w.heap.size w w' := by
  rw [← hR]; exact zpeek_in w b s sb sr er p ef h hlt hs hU
theorem zpe (w : World) (b : Nat) (s : ByteArray) (sb sr er : Int) (ef : Bool) (h : Lx w b s sb sr s.size er ef) (hs : s.size ≤ 1048576) :
    Calls Tryd.prog 13 #[.pointer (some ⟨b, 0, none⟩)] w fun e w' => e = .returned (.int .i32 (-1)) ∧ Below w.heap.size w w' := zpeek_end w b s sb sr er s.size ef h (Nat.le_refl _) hs

/-- The law's decoder, before the end. -/
theorem dec_in (s : ByteArray) (i : Nat) (w : World) (hi : i < s.size) (hs : s.size ≤ 1048576) (R K : Nat) (hR : (Utf8.decode s i).1 = R) (hK : (Utf8.decode s i).2 = K) :
    Calls Tryd.prog 21 #[.string s, .int .i64 (i : Int)] w fun e w' => e = .returned (.tuple #[.int .i32 R, .int .i64 K]) ∧ w = w' := by
  rw [← hR, ← hK]
  have hb := byteAt_le s i
  rcases (show byteAt s i ≤ 127 ∨ ((128 ≤ byteAt s i ∧ byteAt s i ≤ 193) ∨ 245 ≤ byteAt s i) ∨ (194 ≤ byteAt s i ∧ byteAt s i ≤ 223) ∨ (224 ≤ byteAt s i ∧ byteAt s i ≤ 239) ∨ (240 ≤ byteAt s i ∧ byteAt s i ≤ 244) by omega) with h | h | h | h | h
  · exact dec_ascii s i w hi hs h
  · exact dec_bad s i w hi hs h
  · exact dec_two s i w hi hs h
  · exact dec_three s i w hi hs h
  · exact dec_four s i w hi hs h

/-- backup behind a read. -/
theorem zback (w : World) (b : Nat) (s : ByteArray) (sb sr : Int) (p c K : Nat) (h : Lx w b s sb sr ((p : Int) + (K : Int)) ((c : Int) + 1) false) (hc : c ≤ 1048575) (hp : p + K ≤ s.size) (hs : s.size ≤ 1048576) (hU : TU w) (hw : (decodeLastL (s.data.toList.take (p + K))).2 = K) :
    Calls Tryd.prog 18 #[.pointer (some ⟨b, 0, none⟩)] w fun e w' => e = .returned (.tuple #[]) ∧ Hid (Lx w' b s sb sr p c false) ∧ w.grownBy w' (some b) := by
  have h1 := zbackup_of (backup_back w b s sb sr (p + K) (c + 1) h.nat (by omega) (by omega) hp hs hU (by rw [hw]; omega))
  refine h1.mono ?_
  rintro e w' ⟨rfl, hx, hg⟩
  rw [hw] at hx
  have e1 : p + K - K = p := by omega
  have e2 : c + 1 - 1 = c := by omega
  rw [e1, e2] at hx
  exact ⟨rfl, hide hx, hg⟩
theorem zbeof (w : World) (b : Nat) (s : ByteArray) (sb sr eb er : Int) (h : Lx w b s sb sr eb er true) :
    Calls Tryd.prog 18 #[.pointer (some ⟨b, 0, none⟩)] w fun e w' => e = .returned (.tuple #[]) ∧ Hid (Lx w' b s sb sr eb er false) ∧ w.grownBy w' (some b) :=
  (zbackup_of (backup_eof w b s sb sr eb er h)).mono fun e w' ⟨he, hx, hg⟩ => ⟨he, hide hx, hg⟩
theorem zbzero (w : World) (b : Nat) (s : ByteArray) (sb sr eb : Int) (h : Lx w b s sb sr eb 0 false) :
    Calls Tryd.prog 18 #[.pointer (some ⟨b, 0, none⟩)] w fun e w' => e = .returned (.tuple #[]) ∧ Hid (Lx w' b s sb sr eb 0 false) ∧ w.grownBy w' (some b) :=
  (zbackup_of (backup_zero w b s sb sr eb h)).mono fun e w' ⟨he, hx, hg⟩ => ⟨he, hide hx, hg⟩

/-- Places that forward decoding reaches. -/
def BdS (s : ByteArray) (p : Nat) : Prop := Bd s.data.toList p
theorem BdS.zero (s : ByteArray) : BdS s 0 := Bd.zero _
theorem BdS.step {s : ByteArray} {p : Nat} (h : BdS s p) : BdS s (p + (Utf8.decode s p).2) := by
  have := Bd.step h
  rw [decodeL_drop] at this
  exact this
theorem BdS.last {s : ByteArray} {p : Nat} (h : BdS s p) (hp : p < s.size) : (decodeLastL (s.data.toList.take (p + (Utf8.decode s p).2))).2 = (Utf8.decode s p).2 := by
  have := last_width h (by rw [← Lib.size_eq]; exact hp)
  rw [decodeL_drop] at this
  exact this

/-- What one step can be: ASCII; a lone bad byte; a longer rune; the replacement character itself. -/
theorem step_cases (s : ByteArray) (p : Nat) :
    (byteAt s p < 128 ∧ (Utf8.decode s p).2 = 1 ∧ (Utf8.decode s p).1 = byteAt s p) ∨ (128 ≤ byteAt s p ∧ (Utf8.decode s p).2 = 1) ∨ (128 ≤ byteAt s p ∧ 2 ≤ (Utf8.decode s p).2 ∧ (Utf8.decode s p).1 ≠ 65533) ∨
    ((Utf8.decode s p).2 = 3 ∧ (Utf8.decode s p).1 = 65533 ∧ byteAt s p = 239 ∧ byteAt s (p + 1) = 191 ∧ byteAt s (p + 2) = 189) := by
  rw [decode_bytes]
  have l0 := byteAt_le s p
  have l1 := byteAt_le s (p + 1)
  have l2 := byteAt_le s (p + 2)
  have l3 := byteAt_le s (p + 3)
  generalize byteAt s p = b0 at *
  generalize byteAt s (p + 1) = b1 at *
  generalize byteAt s (p + 2) = b2 at *
  generalize byteAt s (p + 3) = b3 at *
  by_cases h0 : b0 < 128
  · left
    unfold decodeN
    rw [if_pos h0]
    exact ⟨h0, rfl, rfl⟩
  · rcases decodeN_shape (s.size - p) b0 b1 b2 b3 with ⟨c, e⟩ | ⟨c1, c2, c3, cv, e⟩ | ⟨c1, c2, c3, c4, cv, cs, e⟩ | ⟨c1, c2, c3, c4, c5, cv, cw, e⟩ | e
    · omega
    · rw [e]
      refine .inr (.inr (.inl ⟨by omega, by simp, ?_⟩))
      show b0 % 32 * 64 + b1 % 64 ≠ 65533
      omega
    · rw [e]
      by_cases hr : b0 % 16 * 4096 + b1 % 64 * 64 + b2 % 64 = 65533
      · exact .inr (.inr (.inr ⟨rfl, hr, by omega, by omega, by omega⟩))
      · exact .inr (.inr (.inl ⟨by omega, by simp, hr⟩))
    · rw [e]
      refine .inr (.inr (.inl ⟨by omega, by simp, ?_⟩))
      show b0 % 8 * 262144 + b1 % 64 * 4096 + b2 % 64 * 64 + b3 % 64 ≠ 65533
      omega
    · rw [e]
      exact .inr (.inl ⟨by omega, rfl⟩)
end Go.Proofs.YtklkbalbmeefjaaDoor
