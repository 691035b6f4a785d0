/-
  The law's own names of escapes and runs of hex digits by contract. No condition beyond the bounds.
-/
import Derived.Test.YtncoodplmpgnbaaFmtGrA
namespace Go.Proofs.YtncoodplmpgnbaaFmt
open Go.RowKit Go.Lib Go.Shelf Go.Proofs
set_option linter.unusedVariables false
set_option linter.unusedSimpArgs false

def escN (v : Nat) : Nat :=
  if v = 7 then 97 else if v = 8 then 98 else if v = 9 then 116 else if v = 10 then 110 else if v = 11 then 118 else if v = 12 then 102 else if v = 13 then 114 else if v = 34 then 34 else if v = 39 then 39 else if v = 63 then 63 else if v = 92 then 92 else if v = 96 then 96 else 0
theorem escN_tab : ∀ b : Fin 256, (escN b.val = 0 ∨ (simpleV (escN b.val) = some b.val ∧ escN b.val < 128)) := by decide +kernel
theorem escN_big {v : Nat} (h : 128 ≤ v) : escN v = 0 := by
  unfold escN
  simp only [show ∀ c : Nat, c < 128 → (v = c) = False from fun c hc => by simp; omega, show (v = 7) = False by simp; omega, show (v = 8) = False by simp; omega, show (v = 9) = False by simp; omega, show (v = 10) = False by simp; omega, show (v = 11) = False by simp; omega, show (v = 12) = False by simp; omega, show (v = 13) = False by simp; omega, show (v = 34) = False by simp; omega, show (v = 39) = False by simp; omega, show (v = 63) = False by simp; omega, show (v = 92) = False by simp; omega, show (v = 96) = False by simp; omega, if_false]
theorem escN_ok {v : Nat} (h : escN v ≠ 0) : simpleV (escN v) = some v ∧ escN v < 128 ∧ v < 128 := by
  by_cases hv : v < 128
  · rcases escN_tab ⟨v, by omega⟩ with h1 | h1
    · exact absurd h1 h
    · exact ⟨h1.1, h1.2, hv⟩
  · exact absurd (escN_big (by omega)) h
theorem en7 (w : World) : Calls Tryf.prog 23 #[.int .u32 7] w fun e w' => e = .returned (.int .u8 97) ∧ w = w' := by
  go_enter Tryf.func23, Tryf.ntmps23
  go_wp2
  go_ret
  exact ⟨rfl, rfl⟩
theorem en8 (w : World) : Calls Tryf.prog 23 #[.int .u32 8] w fun e w' => e = .returned (.int .u8 98) ∧ w = w' := by
  go_enter Tryf.func23, Tryf.ntmps23
  go_wp2
  go_ret
  exact ⟨rfl, rfl⟩
theorem en9 (w : World) : Calls Tryf.prog 23 #[.int .u32 9] w fun e w' => e = .returned (.int .u8 116) ∧ w = w' := by
  go_enter Tryf.func23, Tryf.ntmps23
  go_wp2
  go_ret
  exact ⟨rfl, rfl⟩
theorem en10 (w : World) : Calls Tryf.prog 23 #[.int .u32 10] w fun e w' => e = .returned (.int .u8 110) ∧ w = w' := by
  go_enter Tryf.func23, Tryf.ntmps23
  go_wp2
  go_ret
  exact ⟨rfl, rfl⟩
theorem en11 (w : World) : Calls Tryf.prog 23 #[.int .u32 11] w fun e w' => e = .returned (.int .u8 118) ∧ w = w' := by
  go_enter Tryf.func23, Tryf.ntmps23
  go_wp2
  go_ret
  exact ⟨rfl, rfl⟩
theorem en12 (w : World) : Calls Tryf.prog 23 #[.int .u32 12] w fun e w' => e = .returned (.int .u8 102) ∧ w = w' := by
  go_enter Tryf.func23, Tryf.ntmps23
  go_wp2
  go_ret
  exact ⟨rfl, rfl⟩
theorem en13 (w : World) : Calls Tryf.prog 23 #[.int .u32 13] w fun e w' => e = .returned (.int .u8 114) ∧ w = w' := by
  go_enter Tryf.func23, Tryf.ntmps23
  go_wp2
  go_ret
  exact ⟨rfl, rfl⟩
theorem en34 (w : World) : Calls Tryf.prog 23 #[.int .u32 34] w fun e w' => e = .returned (.int .u8 34) ∧ w = w' := by
  go_enter Tryf.func23, Tryf.ntmps23
  go_wp2
  go_ret
  exact ⟨rfl, rfl⟩
theorem en39 (w : World) : Calls Tryf.prog 23 #[.int .u32 39] w fun e w' => e = .returned (.int .u8 39) ∧ w = w' := by
  go_enter Tryf.func23, Tryf.ntmps23
  go_wp2
  go_ret
  exact ⟨rfl, rfl⟩
theorem en63 (w : World) : Calls Tryf.prog 23 #[.int .u32 63] w fun e w' => e = .returned (.int .u8 63) ∧ w = w' := by
  go_enter Tryf.func23, Tryf.ntmps23
  go_wp2
  go_ret
  exact ⟨rfl, rfl⟩
theorem en92 (w : World) : Calls Tryf.prog 23 #[.int .u32 92] w fun e w' => e = .returned (.int .u8 92) ∧ w = w' := by
  go_enter Tryf.func23, Tryf.ntmps23
  go_wp2
  go_ret
  exact ⟨rfl, rfl⟩
theorem en96 (w : World) : Calls Tryf.prog 23 #[.int .u32 96] w fun e w' => e = .returned (.int .u8 96) ∧ w = w' := by
  go_enter Tryf.func23, Tryf.ntmps23
  go_wp2
  go_ret
  exact ⟨rfl, rfl⟩
theorem en_none (b : Nat) (w : World) (hb : b < 4294967296) (n7 : b ≠ 7) (n8 : b ≠ 8) (n9 : b ≠ 9) (n10 : b ≠ 10) (n11 : b ≠ 11) (n12 : b ≠ 12) (n13 : b ≠ 13) (n34 : b ≠ 34) (n39 : b ≠ 39) (n63 : b ≠ 63) (n92 : b ≠ 92) (n96 : b ≠ 96) :
    Calls Tryf.prog 23 #[.int .u32 (b : Int)] w fun e w' => e = .returned (.int .u8 0) ∧ w = w' := by
  have k7 : ((b : Int) == 7) = false := by rw [beq_eq_false_iff_ne]; omega
  have k8 : ((b : Int) == 8) = false := by rw [beq_eq_false_iff_ne]; omega
  have k9 : ((b : Int) == 9) = false := by rw [beq_eq_false_iff_ne]; omega
  have k10 : ((b : Int) == 10) = false := by rw [beq_eq_false_iff_ne]; omega
  have k11 : ((b : Int) == 11) = false := by rw [beq_eq_false_iff_ne]; omega
  have k12 : ((b : Int) == 12) = false := by rw [beq_eq_false_iff_ne]; omega
  have k13 : ((b : Int) == 13) = false := by rw [beq_eq_false_iff_ne]; omega
  have k34 : ((b : Int) == 34) = false := by rw [beq_eq_false_iff_ne]; omega
  have k39 : ((b : Int) == 39) = false := by rw [beq_eq_false_iff_ne]; omega
  have k63 : ((b : Int) == 63) = false := by rw [beq_eq_false_iff_ne]; omega
  have k92 : ((b : Int) == 92) = false := by rw [beq_eq_false_iff_ne]; omega
  have k96 : ((b : Int) == 96) = false := by rw [beq_eq_false_iff_ne]; omega
  clear n7 n8 n9 n10 n11 n12 n13 n34 n39 n63 n92 n96 hb
  go_enter Tryf.func23, Tryf.ntmps23
  go_wp2
  go_ret
  exact ⟨rfl, rfl⟩
theorem escName_any (b : Nat) (w : World) (hb : b < 4294967296) : Calls Tryf.prog 23 #[.int .u32 (b : Int)] w fun e w' => e = .returned (.int .u8 (escN b : Int)) ∧ w = w' := by
  by_cases n7 : b = 7
  · subst n7
    exact en7 w
  by_cases n8 : b = 8
  · subst n8
    exact en8 w
  by_cases n9 : b = 9
  · subst n9
    exact en9 w
  by_cases n10 : b = 10
  · subst n10
    exact en10 w
  by_cases n11 : b = 11
  · subst n11
    exact en11 w
  by_cases n12 : b = 12
  · subst n12
    exact en12 w
  by_cases n13 : b = 13
  · subst n13
    exact en13 w
  by_cases n34 : b = 34
  · subst n34
    exact en34 w
  by_cases n39 : b = 39
  · subst n39
    exact en39 w
  by_cases n63 : b = 63
  · subst n63
    exact en63 w
  by_cases n92 : b = 92
  · subst n92
    exact en92 w
  by_cases n96 : b = 96
  · subst n96
    exact en96 w
  have hn : escN b = 0 := by
    unfold escN
    rw [if_neg n7, if_neg n8, if_neg n9, if_neg n10, if_neg n11, if_neg n12, if_neg n13, if_neg n34, if_neg n39, if_neg n63, if_neg n92, if_neg n96]
  rw [hn]
  exact en_none b w hb n7 n8 n9 n10 n11 n12 n13 n34 n39 n63 n92 n96
set_option maxRecDepth 20000 in
set_option maxHeartbeats 4000000 in
theorem hexRun_any (v n : Nat) (up : Bool) (w : World) (base : Nat) (d : Value) (l : List UInt8) (hn : n ≤ 8) (hv : v < 4294967296) (hb : base ≤ w.heap.size) (hl : l.length ≤ 2000000) (own0 : Own base d l w) :
    Calls Tryf.prog 19 #[d, .int .u32 (v : Int), .int .i64 (n : Int), .bool up] w (App base d (l ++ u8L (hexL v up n)) w) := by
  have hn' : (n : Int) ≤ 8 := by omega
  have hn0 : (0 : Int) ≤ (n : Int) := by omega
  have hv0 : (v : Int) ≤ 4294967295 := by omega
  obtain ⟨i0, hi, hz0, hz1, hz2⟩ := info_parts info5
  have own0h := hide own0
  clear own0
  go_enter Tryf.func19, Tryf.ntmps19
  go_wp2_with fail
  go_loopw [0, 9] (fun vv iv wr => ∃ (k : Nat) (D : List Nat), iv = .int .i64 ((k : Int) - 1) ∧ k ≤ n ∧ D ++ hexL v up k = hexL v up n ∧ Hid (Own base vv (l ++ u8L D) wr) ∧ Grow base d vv w wr) (fun _ iv _ => (RowKit.intOf iv + 1).toNat)
  case atStart => exact ⟨n, [], rfl, Nat.le_refl _, rfl, hide (by simpa [u8L] using own0h.out), Grow.refl _ _ _⟩
  case round =>
    clear own0h
    obtain ⟨k, D, rfl, hk, hD, own, hbw⟩ := hrel
    have hbs := hbw.size
    have hDl : D.length + k = n := by
      have := congrArg List.length hD
      rw [List.length_append, hexL_length, hexL_length] at this
      exact this
    have hll : (l ++ u8L D).length ≤ 2000008 := by rw [List.length_append, u8L_length]; omega
    by_cases hk0 : k = 0
    · subst hk0
      have hDD : D = hexL v up n := by rw [← hD]; simp [hexL]
      subst hDD
      go_wp2
      go_ret
      exact ⟨_, rfl, own.out, hbw⟩
    generalize hLL : l ++ u8L D = L at *
    rcases (show k = 1 ∨ k = 2 ∨ k = 3 ∨ k = 4 ∨ k = 5 ∨ k = 6 ∨ k = 7 ∨ k = 8 by omega) with rfl | rfl | rfl | rfl | rfl | rfl | rfl | rfl
    · have hA := u32_and15 v (by omega)
      have lA := Nat.mod_lt v (show 0 < 16 by decide)
      have hh : hexL v up (0 + 1) = hexC (v % 16) up :: hexL v up 0 := by
        simp [hexL]
      generalize v % 16 = A at *
      have hput := fun v' w1 o ho hg ha => hide (put_own (v' := v') (w1 := w1) (o := o) [hexC A up] (by simp; have := hexC_lt lA up; omega) (show base ≤ wr.heap.size by omega) own.out (m := 1) rfl (news := [.int .u8 (hexC A up : Int)]) (by simp [cells8]) ho hg ha)
      go_wp2_with (first | (go_at_call 25; refine (hexDigit_any _ A up _ (by omega) lA).mono ?_; rintro e w' ⟨rfl, rfl⟩) | (at_builtin; refine wpList_append_own_at _ rfl _ _ 27 rfl base 5 i0 (.int .u8 0) 1 1 Tryf.underlying27 hi hz0 hz1 hz2 rfl (by decide) _ _ _ rfl (World.ownsRow.alloc own.out _) ⟨wr.heap.size, 0, none⟩ 1 1 [.int .u8 (hexC A up : Int)] rfl rfl (by intro j u hj; match j, hj with | 0, hj => simp at hj; subst hj; simp [Addr.add]) (by intro u hu; simp at hu; subst hu; rfl) (by unfold maxLen; omega) (by omega) (by simp; omega) ?_; intro v' w1 hown' hg' _ hat'; have hR := hput v' w1 _ hown' hg' hat'; clear hown' hg' hat'))
      go_roundw
      case rel =>
        refine ⟨0, D ++ [hexC A up], by first | rfl | go_num, by omega, ?_, hide ?_, ?_⟩
        · rw [← hD, hh]
          simp
        · have := hR.out.1
          rw [u8L_app, ← List.append_assoc, hLL]
          exact this
        · exact hbw.trans hR.out.2
      case measure => simp [RowKit.intOf]
    · have hA := u32_and15 (v / 16) (by omega)
      rw [show ((v / 16 : Nat) : Int) = (v : Int) / 16 by omega] at hA
      have lA := Nat.mod_lt (v / 16) (show 0 < 16 by decide)
      have hh : hexL v up (1 + 1) = hexC (v / 16 % 16) up :: hexL v up 1 := by
        rw [hexL]
      generalize v / 16 % 16 = A at *
      have hput := fun v' w1 o ho hg ha => hide (put_own (v' := v') (w1 := w1) (o := o) [hexC A up] (by simp; have := hexC_lt lA up; omega) (show base ≤ wr.heap.size by omega) own.out (m := 1) rfl (news := [.int .u8 (hexC A up : Int)]) (by simp [cells8]) ho hg ha)
      go_wp2_with (first | (go_at_call 25; refine (hexDigit_any _ A up _ (by omega) lA).mono ?_; rintro e w' ⟨rfl, rfl⟩) | (at_builtin; refine wpList_append_own_at _ rfl _ _ 27 rfl base 5 i0 (.int .u8 0) 1 1 Tryf.underlying27 hi hz0 hz1 hz2 rfl (by decide) _ _ _ rfl (World.ownsRow.alloc own.out _) ⟨wr.heap.size, 0, none⟩ 1 1 [.int .u8 (hexC A up : Int)] rfl rfl (by intro j u hj; match j, hj with | 0, hj => simp at hj; subst hj; simp [Addr.add]) (by intro u hu; simp at hu; subst hu; rfl) (by unfold maxLen; omega) (by omega) (by simp; omega) ?_; intro v' w1 hown' hg' _ hat'; have hR := hput v' w1 _ hown' hg' hat'; clear hown' hg' hat'))
      go_roundw
      case rel =>
        refine ⟨1, D ++ [hexC A up], by first | rfl | go_num, by omega, ?_, hide ?_, ?_⟩
        · rw [← hD, hh]
          simp
        · have := hR.out.1
          rw [u8L_app, ← List.append_assoc, hLL]
          exact this
        · exact hbw.trans hR.out.2
      case measure => simp [RowKit.intOf]
    · have hA := u32_and15 (v / 256) (by omega)
      rw [show ((v / 256 : Nat) : Int) = (v : Int) / 256 by omega] at hA
      have lA := Nat.mod_lt (v / 256) (show 0 < 16 by decide)
      have hh : hexL v up (2 + 1) = hexC (v / 256 % 16) up :: hexL v up 2 := by
        rw [hexL]
      generalize v / 256 % 16 = A at *
      have hput := fun v' w1 o ho hg ha => hide (put_own (v' := v') (w1 := w1) (o := o) [hexC A up] (by simp; have := hexC_lt lA up; omega) (show base ≤ wr.heap.size by omega) own.out (m := 1) rfl (news := [.int .u8 (hexC A up : Int)]) (by simp [cells8]) ho hg ha)
      go_wp2_with (first | (go_at_call 25; refine (hexDigit_any _ A up _ (by omega) lA).mono ?_; rintro e w' ⟨rfl, rfl⟩) | (at_builtin; refine wpList_append_own_at _ rfl _ _ 27 rfl base 5 i0 (.int .u8 0) 1 1 Tryf.underlying27 hi hz0 hz1 hz2 rfl (by decide) _ _ _ rfl (World.ownsRow.alloc own.out _) ⟨wr.heap.size, 0, none⟩ 1 1 [.int .u8 (hexC A up : Int)] rfl rfl (by intro j u hj; match j, hj with | 0, hj => simp at hj; subst hj; simp [Addr.add]) (by intro u hu; simp at hu; subst hu; rfl) (by unfold maxLen; omega) (by omega) (by simp; omega) ?_; intro v' w1 hown' hg' _ hat'; have hR := hput v' w1 _ hown' hg' hat'; clear hown' hg' hat'))
      go_roundw
      case rel =>
        refine ⟨2, D ++ [hexC A up], by first | rfl | go_num, by omega, ?_, hide ?_, ?_⟩
        · rw [← hD, hh]
          simp
        · have := hR.out.1
          rw [u8L_app, ← List.append_assoc, hLL]
          exact this
        · exact hbw.trans hR.out.2
      case measure => simp [RowKit.intOf]
    · have hA := u32_and15 (v / 4096) (by omega)
      rw [show ((v / 4096 : Nat) : Int) = (v : Int) / 4096 by omega] at hA
      have lA := Nat.mod_lt (v / 4096) (show 0 < 16 by decide)
      have hh : hexL v up (3 + 1) = hexC (v / 4096 % 16) up :: hexL v up 3 := by
        rw [hexL]
      generalize v / 4096 % 16 = A at *
      have hput := fun v' w1 o ho hg ha => hide (put_own (v' := v') (w1 := w1) (o := o) [hexC A up] (by simp; have := hexC_lt lA up; omega) (show base ≤ wr.heap.size by omega) own.out (m := 1) rfl (news := [.int .u8 (hexC A up : Int)]) (by simp [cells8]) ho hg ha)
      go_wp2_with (first | (go_at_call 25; refine (hexDigit_any _ A up _ (by omega) lA).mono ?_; rintro e w' ⟨rfl, rfl⟩) | (at_builtin; refine wpList_append_own_at _ rfl _ _ 27 rfl base 5 i0 (.int .u8 0) 1 1 Tryf.underlying27 hi hz0 hz1 hz2 rfl (by decide) _ _ _ rfl (World.ownsRow.alloc own.out _) ⟨wr.heap.size, 0, none⟩ 1 1 [.int .u8 (hexC A up : Int)] rfl rfl (by intro j u hj; match j, hj with | 0, hj => simp at hj; subst hj; simp [Addr.add]) (by intro u hu; simp at hu; subst hu; rfl) (by unfold maxLen; omega) (by omega) (by simp; omega) ?_; intro v' w1 hown' hg' _ hat'; have hR := hput v' w1 _ hown' hg' hat'; clear hown' hg' hat'))
      go_roundw
      case rel =>
        refine ⟨3, D ++ [hexC A up], by first | rfl | go_num, by omega, ?_, hide ?_, ?_⟩
        · rw [← hD, hh]
          simp
        · have := hR.out.1
          rw [u8L_app, ← List.append_assoc, hLL]
          exact this
        · exact hbw.trans hR.out.2
      case measure => simp [RowKit.intOf]
    · have hA := u32_and15 (v / 65536) (by omega)
      rw [show ((v / 65536 : Nat) : Int) = (v : Int) / 65536 by omega] at hA
      have lA := Nat.mod_lt (v / 65536) (show 0 < 16 by decide)
      have hh : hexL v up (4 + 1) = hexC (v / 65536 % 16) up :: hexL v up 4 := by
        rw [hexL]
      generalize v / 65536 % 16 = A at *
      have hput := fun v' w1 o ho hg ha => hide (put_own (v' := v') (w1 := w1) (o := o) [hexC A up] (by simp; have := hexC_lt lA up; omega) (show base ≤ wr.heap.size by omega) own.out (m := 1) rfl (news := [.int .u8 (hexC A up : Int)]) (by simp [cells8]) ho hg ha)
      go_wp2_with (first | (go_at_call 25; refine (hexDigit_any _ A up _ (by omega) lA).mono ?_; rintro e w' ⟨rfl, rfl⟩) | (at_builtin; refine wpList_append_own_at _ rfl _ _ 27 rfl base 5 i0 (.int .u8 0) 1 1 Tryf.underlying27 hi hz0 hz1 hz2 rfl (by decide) _ _ _ rfl (World.ownsRow.alloc own.out _) ⟨wr.heap.size, 0, none⟩ 1 1 [.int .u8 (hexC A up : Int)] rfl rfl (by intro j u hj; match j, hj with | 0, hj => simp at hj; subst hj; simp [Addr.add]) (by intro u hu; simp at hu; subst hu; rfl) (by unfold maxLen; omega) (by omega) (by simp; omega) ?_; intro v' w1 hown' hg' _ hat'; have hR := hput v' w1 _ hown' hg' hat'; clear hown' hg' hat'))
      go_roundw
      case rel =>
        refine ⟨4, D ++ [hexC A up], by first | rfl | go_num, by omega, ?_, hide ?_, ?_⟩
        · rw [← hD, hh]
          simp
        · have := hR.out.1
          rw [u8L_app, ← List.append_assoc, hLL]
          exact this
        · exact hbw.trans hR.out.2
      case measure => simp [RowKit.intOf]
    · have hA := u32_and15 (v / 1048576) (by omega)
      rw [show ((v / 1048576 : Nat) : Int) = (v : Int) / 1048576 by omega] at hA
      have lA := Nat.mod_lt (v / 1048576) (show 0 < 16 by decide)
      have hh : hexL v up (5 + 1) = hexC (v / 1048576 % 16) up :: hexL v up 5 := by
        rw [hexL]
      generalize v / 1048576 % 16 = A at *
      have hput := fun v' w1 o ho hg ha => hide (put_own (v' := v') (w1 := w1) (o := o) [hexC A up] (by simp; have := hexC_lt lA up; omega) (show base ≤ wr.heap.size by omega) own.out (m := 1) rfl (news := [.int .u8 (hexC A up : Int)]) (by simp [cells8]) ho hg ha)
      go_wp2_with (first | (go_at_call 25; refine (hexDigit_any _ A up _ (by omega) lA).mono ?_; rintro e w' ⟨rfl, rfl⟩) | (at_builtin; refine wpList_append_own_at _ rfl _ _ 27 rfl base 5 i0 (.int .u8 0) 1 1 Tryf.underlying27 hi hz0 hz1 hz2 rfl (by decide) _ _ _ rfl (World.ownsRow.alloc own.out _) ⟨wr.heap.size, 0, none⟩ 1 1 [.int .u8 (hexC A up : Int)] rfl rfl (by intro j u hj; match j, hj with | 0, hj => simp at hj; subst hj; simp [Addr.add]) (by intro u hu; simp at hu; subst hu; rfl) (by unfold maxLen; omega) (by omega) (by simp; omega) ?_; intro v' w1 hown' hg' _ hat'; have hR := hput v' w1 _ hown' hg' hat'; clear hown' hg' hat'))
      go_roundw
      case rel =>
        refine ⟨5, D ++ [hexC A up], by first | rfl | go_num, by omega, ?_, hide ?_, ?_⟩
        · rw [← hD, hh]
          simp
        · have := hR.out.1
          rw [u8L_app, ← List.append_assoc, hLL]
          exact this
        · exact hbw.trans hR.out.2
      case measure => simp [RowKit.intOf]
    · have hA := u32_and15 (v / 16777216) (by omega)
      rw [show ((v / 16777216 : Nat) : Int) = (v : Int) / 16777216 by omega] at hA
      have lA := Nat.mod_lt (v / 16777216) (show 0 < 16 by decide)
      have hh : hexL v up (6 + 1) = hexC (v / 16777216 % 16) up :: hexL v up 6 := by
        rw [hexL]
      generalize v / 16777216 % 16 = A at *
      have hput := fun v' w1 o ho hg ha => hide (put_own (v' := v') (w1 := w1) (o := o) [hexC A up] (by simp; have := hexC_lt lA up; omega) (show base ≤ wr.heap.size by omega) own.out (m := 1) rfl (news := [.int .u8 (hexC A up : Int)]) (by simp [cells8]) ho hg ha)
      go_wp2_with (first | (go_at_call 25; refine (hexDigit_any _ A up _ (by omega) lA).mono ?_; rintro e w' ⟨rfl, rfl⟩) | (at_builtin; refine wpList_append_own_at _ rfl _ _ 27 rfl base 5 i0 (.int .u8 0) 1 1 Tryf.underlying27 hi hz0 hz1 hz2 rfl (by decide) _ _ _ rfl (World.ownsRow.alloc own.out _) ⟨wr.heap.size, 0, none⟩ 1 1 [.int .u8 (hexC A up : Int)] rfl rfl (by intro j u hj; match j, hj with | 0, hj => simp at hj; subst hj; simp [Addr.add]) (by intro u hu; simp at hu; subst hu; rfl) (by unfold maxLen; omega) (by omega) (by simp; omega) ?_; intro v' w1 hown' hg' _ hat'; have hR := hput v' w1 _ hown' hg' hat'; clear hown' hg' hat'))
      go_roundw
      case rel =>
        refine ⟨6, D ++ [hexC A up], by first | rfl | go_num, by omega, ?_, hide ?_, ?_⟩
        · rw [← hD, hh]
          simp
        · have := hR.out.1
          rw [u8L_app, ← List.append_assoc, hLL]
          exact this
        · exact hbw.trans hR.out.2
      case measure => simp [RowKit.intOf]
    · have hA := u32_and15 (v / 268435456) (by omega)
      rw [show ((v / 268435456 : Nat) : Int) = (v : Int) / 268435456 by omega] at hA
      have lA := Nat.mod_lt (v / 268435456) (show 0 < 16 by decide)
      have hh : hexL v up (7 + 1) = hexC (v / 268435456 % 16) up :: hexL v up 7 := by
        rw [hexL]
      generalize v / 268435456 % 16 = A at *
      have hput := fun v' w1 o ho hg ha => hide (put_own (v' := v') (w1 := w1) (o := o) [hexC A up] (by simp; have := hexC_lt lA up; omega) (show base ≤ wr.heap.size by omega) own.out (m := 1) rfl (news := [.int .u8 (hexC A up : Int)]) (by simp [cells8]) ho hg ha)
      go_wp2_with (first | (go_at_call 25; refine (hexDigit_any _ A up _ (by omega) lA).mono ?_; rintro e w' ⟨rfl, rfl⟩) | (at_builtin; refine wpList_append_own_at _ rfl _ _ 27 rfl base 5 i0 (.int .u8 0) 1 1 Tryf.underlying27 hi hz0 hz1 hz2 rfl (by decide) _ _ _ rfl (World.ownsRow.alloc own.out _) ⟨wr.heap.size, 0, none⟩ 1 1 [.int .u8 (hexC A up : Int)] rfl rfl (by intro j u hj; match j, hj with | 0, hj => simp at hj; subst hj; simp [Addr.add]) (by intro u hu; simp at hu; subst hu; rfl) (by unfold maxLen; omega) (by omega) (by simp; omega) ?_; intro v' w1 hown' hg' _ hat'; have hR := hput v' w1 _ hown' hg' hat'; clear hown' hg' hat'))
      go_roundw
      case rel =>
        refine ⟨7, D ++ [hexC A up], by first | rfl | go_num, by omega, ?_, hide ?_, ?_⟩
        · rw [← hD, hh]
          simp
        · have := hR.out.1
          rw [u8L_app, ← List.append_assoc, hLL]
          exact this
        · exact hbw.trans hR.out.2
      case measure => simp [RowKit.intOf]
end Go.Proofs.YtncoodplmpgnbaaFmt
