/-
  The law's own width of a rune and its count of runes, by contract. No condition beyond the size.
-/
import Derived.Test.YtlfgaikcdelknaaWidA
import Derived.Test.YtlfgaikcdelknaaWidB
import Derived.Test.YtlfgaikcdelknaaWidC
import Derived.Test.YtlfgaikcdelknaaWidD
import Derived.Test.YtlfgaikcdelknaaWidE
namespace Go.Proofs.Ytlfgaikcdelknaa
open Go.RowKit Go.Lib Go.Shelf Go.Proofs
set_option linter.unusedVariables false
set_option linter.unusedSimpArgs false

theorem wid_any (s : ByteArray) (i : Nat) (w : World) (hi : i < s.size) (hs : s.size ≤ 1048576) :
    Calls Try.prog 26 #[.string s, .int .i64 (i : Int)] w fun e w' => e = .returned (.int .i64 (Utf8.decode s i).2) ∧ w = w' := by
  have := byteAt_le s i
  by_cases h_wid_ascii : 0 ≤ byteAt s i ∧ byteAt s i ≤ 127
  · exact wid_ascii s i w hi hs h_wid_ascii
  by_cases h_wid_b1 : 128 ≤ byteAt s i ∧ byteAt s i ≤ 193
  · exact wid_b1 s i w hi hs h_wid_b1
  by_cases h_wid_b2 : 245 ≤ byteAt s i ∧ byteAt s i ≤ 255
  · exact wid_b2 s i w hi hs h_wid_b2
  by_cases h_wid_two : 194 ≤ byteAt s i ∧ byteAt s i ≤ 223
  · exact wid_two s i w hi hs h_wid_two
  by_cases h_wid_e0 : byteAt s i = 224
  · exact wid_e0 s i w hi hs h_wid_e0
  by_cases h_wid_e1 : 225 ≤ byteAt s i ∧ byteAt s i ≤ 236
  · exact wid_e1 s i w hi hs h_wid_e1
  by_cases h_wid_ed : byteAt s i = 237
  · exact wid_ed s i w hi hs h_wid_ed
  by_cases h_wid_ee : byteAt s i = 238
  · exact wid_ee s i w hi hs h_wid_ee
  by_cases h_wid_ef : byteAt s i = 239
  · exact wid_ef s i w hi hs h_wid_ef
  by_cases h_wid_f0 : byteAt s i = 240
  · exact wid_f0 s i w hi hs h_wid_f0
  by_cases h_wid_f1 : 241 ≤ byteAt s i ∧ byteAt s i ≤ 243
  · exact wid_f1 s i w hi hs h_wid_f1
  by_cases h_wid_f4 : byteAt s i = 244
  · exact wid_f4 s i w hi hs h_wid_f4
  omega
set_option maxRecDepth 20000 in
set_option maxHeartbeats 1000000 in
theorem cnt_any (s : ByteArray) (w : World) (hs : s.size ≤ 1048576) :
    Calls Try.prog 16 #[.string s] w fun e w' => e = .returned (.int .i64 (cnt s.data.toList : Int)) ∧ w = w' := by
  have hs' : (s.size : Int) ≤ 1048576 := by omega
  have hsh := hide hs
  clear hs
  go_enter Try.func16, Try.ntmps16
  go_wp2_with fail
  go_loopw [3, 4] (fun nv iv wr => ∃ n i : Nat, nv = .int .i64 n ∧ iv = .int .i64 i ∧ i ≤ s.size ∧ n ≤ i ∧ Hid (n + cnt (s.data.toList.drop i) = cnt s.data.toList) ∧ w = wr) (fun _ iv _ => s.size - (RowKit.intOf iv).toNat)
  case atStart => exact ⟨0, 0, rfl, rfl, by omega, by omega, hide (by simp), rfl⟩
  case round =>
    obtain ⟨n, i, rfl, rfl, hi, hni, hc, rfl⟩ := hrel
    have hi0 : (0 : Int) ≤ (i : Int) := by omega
    have hn0 : (0 : Int) ≤ (n : Int) := by omega
    have hni' : (n : Int) ≤ (i : Int) := by omega
    have hii : (i : Int) ≤ (s.size : Int) := by omega
    by_cases h : i < s.size
    · have HW := wid_any s i w h hsh.out
      have hne : s.data.toList.drop i ≠ [] := by
        intro e
        have := congrArg List.length e
        rw [List.length_drop, len_data, List.length_nil] at this
        omega
      have hst := cnt_step _ hne
      have hwl := dl_pos _ hne
      rw [decodeL_drop, List.drop_drop] at hst
      rw [decodeL_drop, List.length_drop, len_data] at hwl
      obtain ⟨W, hW⟩ : ∃ W, (Utf8.decode s i).2 = W := ⟨_, rfl⟩
      rw [hW] at hst hwl HW
      have hc2 := hide (show n + 1 + cnt (s.data.toList.drop (i + W)) = cnt s.data.toList by have := hc.out; omega)
      have hWb : (W : Int) ≤ (s.size : Int) - (i : Int) := by omega
      have hW1 : (1 : Int) ≤ (W : Int) := by omega
      have hwl' := hide hwl
      have HWh := hide HW
      have h' : (i : Int) < (s.size : Int) := by omega
      clear hst hwl HW hne hW hc
      go_wp2_with fail
      refine HWh.out.mono ?_
      rintro e w' ⟨rfl, rfl⟩
      go_wp2
      go_roundw
      case rel => exact ⟨n + 1, i + W, by go_num, by go_num, by omega, by omega, hc2, by first | rfl | trivial⟩
      case measure => simp [RowKit.intOf]; omega
    · obtain rfl : i = s.size := by omega
      have e : cnt s.data.toList = n := by
        have := hc.out
        rw [List.drop_of_length_le (by rw [len_data]; exact Nat.le_refl _), cnt_nil] at this
        omega
      have e' := hide e
      clear e hc
      go_wp2
      go_ret
      exact ⟨by rw [e'.out]; rfl, rfl⟩
end Go.Proofs.Ytlfgaikcdelknaa
