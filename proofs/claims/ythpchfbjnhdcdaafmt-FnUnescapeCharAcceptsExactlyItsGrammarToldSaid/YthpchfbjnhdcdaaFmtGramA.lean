/-
  The law's own grammar by contract: what is a hex digit, an octal digit, a one-letter name. No condition beyond the bounds.
-/
import Derived.Test.YthpchfbjnhdcdaaFmtAgree
namespace Go.Proofs.YthpchfbjnhdcdaaFmt
open Go.RowKit Go.Lib Go.Shelf Go.Proofs
set_option linter.unusedVariables false
set_option linter.unusedSimpArgs false

theorem isHex_any (b : Nat) (w : World) (hb : b ≤ 255) :
    Calls Tryf.prog 27 #[.int .u8 (b : Int)] w fun e w' => e = .returned (.bool (hexD b).isSome) ∧ w = w' := by
  have hb' : (b : Int) ≤ 255 := by omega
  obtain ⟨B, hB⟩ : ∃ B, (hexD b).isSome = B := ⟨_, rfl⟩
  have hh := hide hB
  rw [hB]
  clear hB
  go_enter Tryf.func27, Tryf.ntmps27
  go_wp2
  all_goals
    go_ret
    have h1 := hh.out
    unfold hexD at h1
    refine ⟨ret_b ?_, rfl⟩
    repeat' split at h1
    all_goals (simp at h1; subst h1; first | (simp; done) | (simp; omega))
theorem isOct_any (b : Nat) (w : World) (hb : b ≤ 255) :
    Calls Tryf.prog 30 #[.int .u8 (b : Int)] w fun e w' => e = .returned (.bool (isOct b)) ∧ w = w' := by
  have hb' : (b : Int) ≤ 255 := by omega
  obtain ⟨B, hB⟩ : ∃ B, isOct b = B := ⟨_, rfl⟩
  have hh := hide hB
  rw [hB]
  clear hB
  go_enter Tryf.func30, Tryf.ntmps30
  go_wp2
  all_goals
    go_ret
    have h1 := hh.out
    unfold isOct at h1
    refine ⟨ret_b ?_, rfl⟩
    first | (rw [← h1]; simp; done) | (rw [← h1]; simp; omega) | (rw [← h1, Bool.eq_iff_iff]; simp; omega) | (rw [← h1, Bool.eq_iff_iff]; simp only [Bool.and_eq_true, decide_eq_true_eq]; omega)
theorem ret_u {k : IntKind} {a a' : Int} (h1 : a = a') : Ending.returned (.int k a) = .returned (.int k a') := by rw [h1]
theorem hexOf_any (b : Nat) (w : World) (hb : b ≤ 255) :
    Calls Tryf.prog 35 #[.int .u8 (b : Int)] w fun e w' => e = .returned (.int .u32 (hexV b : Int)) ∧ w = w' := by
  have hb' : (b : Int) ≤ 255 := by omega
  obtain ⟨H, hH⟩ : ∃ H, hexV b = H := ⟨_, rfl⟩
  have hh := hide hH
  rw [hH]
  clear hH
  go_enter Tryf.func35, Tryf.ntmps35
  go_wp2
  all_goals
    go_ret
    have h1 := hh.out
    unfold hexV at h1
    unfold hexD at h1
    refine ⟨ret_u ?_, rfl⟩
    repeat' split at h1
    all_goals (simp at h1; omega)
theorem sv97 (w : World) : Calls Tryf.prog 21 #[.int .u8 97] w fun e w' => e = .returned (.tuple #[.int .i32 7, .bool true]) ∧ w = w' := by
  go_enter Tryf.func21, Tryf.ntmps21
  go_wp2
  go_ret2
  exact ⟨rfl, rfl⟩
theorem sv98 (w : World) : Calls Tryf.prog 21 #[.int .u8 98] w fun e w' => e = .returned (.tuple #[.int .i32 8, .bool true]) ∧ w = w' := by
  go_enter Tryf.func21, Tryf.ntmps21
  go_wp2
  go_ret2
  exact ⟨rfl, rfl⟩
theorem sv102 (w : World) : Calls Tryf.prog 21 #[.int .u8 102] w fun e w' => e = .returned (.tuple #[.int .i32 12, .bool true]) ∧ w = w' := by
  go_enter Tryf.func21, Tryf.ntmps21
  go_wp2
  go_ret2
  exact ⟨rfl, rfl⟩
theorem sv110 (w : World) : Calls Tryf.prog 21 #[.int .u8 110] w fun e w' => e = .returned (.tuple #[.int .i32 10, .bool true]) ∧ w = w' := by
  go_enter Tryf.func21, Tryf.ntmps21
  go_wp2
  go_ret2
  exact ⟨rfl, rfl⟩
theorem sv114 (w : World) : Calls Tryf.prog 21 #[.int .u8 114] w fun e w' => e = .returned (.tuple #[.int .i32 13, .bool true]) ∧ w = w' := by
  go_enter Tryf.func21, Tryf.ntmps21
  go_wp2
  go_ret2
  exact ⟨rfl, rfl⟩
theorem sv116 (w : World) : Calls Tryf.prog 21 #[.int .u8 116] w fun e w' => e = .returned (.tuple #[.int .i32 9, .bool true]) ∧ w = w' := by
  go_enter Tryf.func21, Tryf.ntmps21
  go_wp2
  go_ret2
  exact ⟨rfl, rfl⟩
theorem sv118 (w : World) : Calls Tryf.prog 21 #[.int .u8 118] w fun e w' => e = .returned (.tuple #[.int .i32 11, .bool true]) ∧ w = w' := by
  go_enter Tryf.func21, Tryf.ntmps21
  go_wp2
  go_ret2
  exact ⟨rfl, rfl⟩
theorem sv92 (w : World) : Calls Tryf.prog 21 #[.int .u8 92] w fun e w' => e = .returned (.tuple #[.int .i32 92, .bool true]) ∧ w = w' := by
  go_enter Tryf.func21, Tryf.ntmps21
  go_wp2
  go_ret2
  exact ⟨rfl, rfl⟩
theorem sv39 (w : World) : Calls Tryf.prog 21 #[.int .u8 39] w fun e w' => e = .returned (.tuple #[.int .i32 39, .bool true]) ∧ w = w' := by
  go_enter Tryf.func21, Tryf.ntmps21
  go_wp2
  go_ret2
  exact ⟨rfl, rfl⟩
theorem sv34 (w : World) : Calls Tryf.prog 21 #[.int .u8 34] w fun e w' => e = .returned (.tuple #[.int .i32 34, .bool true]) ∧ w = w' := by
  go_enter Tryf.func21, Tryf.ntmps21
  go_wp2
  go_ret2
  exact ⟨rfl, rfl⟩
theorem sv96 (w : World) : Calls Tryf.prog 21 #[.int .u8 96] w fun e w' => e = .returned (.tuple #[.int .i32 96, .bool true]) ∧ w = w' := by
  go_enter Tryf.func21, Tryf.ntmps21
  go_wp2
  go_ret2
  exact ⟨rfl, rfl⟩
theorem sv63 (w : World) : Calls Tryf.prog 21 #[.int .u8 63] w fun e w' => e = .returned (.tuple #[.int .i32 63, .bool true]) ∧ w = w' := by
  go_enter Tryf.func21, Tryf.ntmps21
  go_wp2
  go_ret2
  exact ⟨rfl, rfl⟩
theorem svone (b : Nat) (w : World) (hb : b ≤ 255) (n97 : b ≠ 97) (n98 : b ≠ 98) (n102 : b ≠ 102) (n110 : b ≠ 110) (n114 : b ≠ 114) (n116 : b ≠ 116) (n118 : b ≠ 118) (n92 : b ≠ 92) (n39 : b ≠ 39) (n34 : b ≠ 34) (n96 : b ≠ 96) (n63 : b ≠ 63) :
    Calls Tryf.prog 21 #[.int .u8 (b : Int)] w fun e w' => e = .returned (.tuple #[.int .i32 0, .bool false]) ∧ w = w' := by
  have k97 : ((b : Int) == 97) = false := by rw [beq_eq_false_iff_ne]; omega
  have k98 : ((b : Int) == 98) = false := by rw [beq_eq_false_iff_ne]; omega
  have k102 : ((b : Int) == 102) = false := by rw [beq_eq_false_iff_ne]; omega
  have k110 : ((b : Int) == 110) = false := by rw [beq_eq_false_iff_ne]; omega
  have k114 : ((b : Int) == 114) = false := by rw [beq_eq_false_iff_ne]; omega
  have k116 : ((b : Int) == 116) = false := by rw [beq_eq_false_iff_ne]; omega
  have k118 : ((b : Int) == 118) = false := by rw [beq_eq_false_iff_ne]; omega
  have k92 : ((b : Int) == 92) = false := by rw [beq_eq_false_iff_ne]; omega
  have k39 : ((b : Int) == 39) = false := by rw [beq_eq_false_iff_ne]; omega
  have k34 : ((b : Int) == 34) = false := by rw [beq_eq_false_iff_ne]; omega
  have k96 : ((b : Int) == 96) = false := by rw [beq_eq_false_iff_ne]; omega
  have k63 : ((b : Int) == 63) = false := by rw [beq_eq_false_iff_ne]; omega
  clear n97 n98 n102 n110 n114 n116 n118 n92 n39 n34 n96 n63 hb
  go_enter Tryf.func21, Tryf.ntmps21
  go_wp2
  go_ret2
  exact ⟨rfl, rfl⟩
theorem simpleValue_any (b : Nat) (w : World) (hb : b ≤ 255) :
    Calls Tryf.prog 21 #[.int .u8 (b : Int)] w fun e w' => e = .returned (.tuple #[.int .i32 ((simpleV b).getD 0 : Nat), .bool (simpleV b).isSome]) ∧ w = w' := by
  by_cases n97 : b = 97
  · subst n97
    exact sv97 w
  by_cases n98 : b = 98
  · subst n98
    exact sv98 w
  by_cases n102 : b = 102
  · subst n102
    exact sv102 w
  by_cases n110 : b = 110
  · subst n110
    exact sv110 w
  by_cases n114 : b = 114
  · subst n114
    exact sv114 w
  by_cases n116 : b = 116
  · subst n116
    exact sv116 w
  by_cases n118 : b = 118
  · subst n118
    exact sv118 w
  by_cases n92 : b = 92
  · subst n92
    exact sv92 w
  by_cases n39 : b = 39
  · subst n39
    exact sv39 w
  by_cases n34 : b = 34
  · subst n34
    exact sv34 w
  by_cases n96 : b = 96
  · subst n96
    exact sv96 w
  by_cases n63 : b = 63
  · subst n63
    exact sv63 w
  have hn : simpleV b = none := by
    unfold simpleV
    rw [if_neg n97, if_neg n98, if_neg n102, if_neg n110, if_neg n114, if_neg n116, if_neg n118, if_neg n92, if_neg n39, if_neg n34, if_neg n96, if_neg n63]
  rw [hn]
  exact svone b w hb n97 n98 n102 n110 n114 n116 n118 n92 n39 n34 n96 n63

end Go.Proofs.YthpchfbjnhdcdaaFmt
