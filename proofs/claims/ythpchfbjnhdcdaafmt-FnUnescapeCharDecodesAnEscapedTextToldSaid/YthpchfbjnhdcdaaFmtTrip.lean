/-
  The statement that a byte written in any of its forms is read back as that byte: the plain law and the walk. Condition: utf8's two tables hold what their initialisers lay.
-/
import Derived.Test.YthpchfbjnhdcdaaFmtEncB
import Derived.Test.YthpchfbjnhdcdaaFmtAgree
namespace Go.Proofs.YthpchfbjnhdcdaaFmt
open Go.RowKit Go.Lib Go.Shelf Go.Proofs
set_option linter.unusedVariables false
set_option linter.unusedSimpArgs false

def nameV (b : Nat) : Option Nat :=
  if b = 7 then some 97 else if b = 8 then some 98 else if b = 12 then some 102 else if b = 10 then some 110 else if b = 13 then some 114 else if b = 9 then some 116 else if b = 11 then some 118
  else if b = 92 then some 92 else if b = 39 then some 39 else if b = 34 then some 34 else if b = 96 then some 96 else if b = 63 then some 63 else none
theorem nameV_tab : ∀ b : Fin 256, (match nameV b.val with | some c => decide (simpleV c = some b.val ∧ c < 128) | none => true) = true := by decide +kernel
theorem nameV_ok {b c : Nat} (hb : b ≤ 255) (h : nameV b = some c) : simpleV c = some b ∧ c < 128 := by
  have := nameV_tab ⟨b, by omega⟩
  simp only [h] at this
  simpa using this
theorem sn7 (w : World) : Calls Tryf.prog 18 #[.int .u8 7] w fun e w' => e = .returned (.tuple #[.int .u8 97, .bool true]) ∧ w = w' := by
  go_enter Tryf.func18, Tryf.ntmps18
  go_wp2
  go_ret2
  exact ⟨rfl, rfl⟩
theorem sn8 (w : World) : Calls Tryf.prog 18 #[.int .u8 8] w fun e w' => e = .returned (.tuple #[.int .u8 98, .bool true]) ∧ w = w' := by
  go_enter Tryf.func18, Tryf.ntmps18
  go_wp2
  go_ret2
  exact ⟨rfl, rfl⟩
theorem sn12 (w : World) : Calls Tryf.prog 18 #[.int .u8 12] w fun e w' => e = .returned (.tuple #[.int .u8 102, .bool true]) ∧ w = w' := by
  go_enter Tryf.func18, Tryf.ntmps18
  go_wp2
  go_ret2
  exact ⟨rfl, rfl⟩
theorem sn10 (w : World) : Calls Tryf.prog 18 #[.int .u8 10] w fun e w' => e = .returned (.tuple #[.int .u8 110, .bool true]) ∧ w = w' := by
  go_enter Tryf.func18, Tryf.ntmps18
  go_wp2
  go_ret2
  exact ⟨rfl, rfl⟩
theorem sn13 (w : World) : Calls Tryf.prog 18 #[.int .u8 13] w fun e w' => e = .returned (.tuple #[.int .u8 114, .bool true]) ∧ w = w' := by
  go_enter Tryf.func18, Tryf.ntmps18
  go_wp2
  go_ret2
  exact ⟨rfl, rfl⟩
theorem sn9 (w : World) : Calls Tryf.prog 18 #[.int .u8 9] w fun e w' => e = .returned (.tuple #[.int .u8 116, .bool true]) ∧ w = w' := by
  go_enter Tryf.func18, Tryf.ntmps18
  go_wp2
  go_ret2
  exact ⟨rfl, rfl⟩
theorem sn11 (w : World) : Calls Tryf.prog 18 #[.int .u8 11] w fun e w' => e = .returned (.tuple #[.int .u8 118, .bool true]) ∧ w = w' := by
  go_enter Tryf.func18, Tryf.ntmps18
  go_wp2
  go_ret2
  exact ⟨rfl, rfl⟩
theorem sn92 (w : World) : Calls Tryf.prog 18 #[.int .u8 92] w fun e w' => e = .returned (.tuple #[.int .u8 92, .bool true]) ∧ w = w' := by
  go_enter Tryf.func18, Tryf.ntmps18
  go_wp2
  go_ret2
  exact ⟨rfl, rfl⟩
theorem sn39 (w : World) : Calls Tryf.prog 18 #[.int .u8 39] w fun e w' => e = .returned (.tuple #[.int .u8 39, .bool true]) ∧ w = w' := by
  go_enter Tryf.func18, Tryf.ntmps18
  go_wp2
  go_ret2
  exact ⟨rfl, rfl⟩
theorem sn34 (w : World) : Calls Tryf.prog 18 #[.int .u8 34] w fun e w' => e = .returned (.tuple #[.int .u8 34, .bool true]) ∧ w = w' := by
  go_enter Tryf.func18, Tryf.ntmps18
  go_wp2
  go_ret2
  exact ⟨rfl, rfl⟩
theorem sn96 (w : World) : Calls Tryf.prog 18 #[.int .u8 96] w fun e w' => e = .returned (.tuple #[.int .u8 96, .bool true]) ∧ w = w' := by
  go_enter Tryf.func18, Tryf.ntmps18
  go_wp2
  go_ret2
  exact ⟨rfl, rfl⟩
theorem sn63 (w : World) : Calls Tryf.prog 18 #[.int .u8 63] w fun e w' => e = .returned (.tuple #[.int .u8 63, .bool true]) ∧ w = w' := by
  go_enter Tryf.func18, Tryf.ntmps18
  go_wp2
  go_ret2
  exact ⟨rfl, rfl⟩
theorem snone (b : Nat) (w : World) (hb : b ≤ 255) (n7 : b ≠ 7) (n8 : b ≠ 8) (n12 : b ≠ 12) (n10 : b ≠ 10) (n13 : b ≠ 13) (n9 : b ≠ 9) (n11 : b ≠ 11) (n92 : b ≠ 92) (n39 : b ≠ 39) (n34 : b ≠ 34) (n96 : b ≠ 96) (n63 : b ≠ 63) :
    Calls Tryf.prog 18 #[.int .u8 (b : Int)] w fun e w' => e = .returned (.tuple #[.int .u8 0, .bool false]) ∧ w = w' := by
  have k7 : ((b : Int) == 7) = false := by rw [beq_eq_false_iff_ne]; omega
  have k8 : ((b : Int) == 8) = false := by rw [beq_eq_false_iff_ne]; omega
  have k12 : ((b : Int) == 12) = false := by rw [beq_eq_false_iff_ne]; omega
  have k10 : ((b : Int) == 10) = false := by rw [beq_eq_false_iff_ne]; omega
  have k13 : ((b : Int) == 13) = false := by rw [beq_eq_false_iff_ne]; omega
  have k9 : ((b : Int) == 9) = false := by rw [beq_eq_false_iff_ne]; omega
  have k11 : ((b : Int) == 11) = false := by rw [beq_eq_false_iff_ne]; omega
  have k92 : ((b : Int) == 92) = false := by rw [beq_eq_false_iff_ne]; omega
  have k39 : ((b : Int) == 39) = false := by rw [beq_eq_false_iff_ne]; omega
  have k34 : ((b : Int) == 34) = false := by rw [beq_eq_false_iff_ne]; omega
  have k96 : ((b : Int) == 96) = false := by rw [beq_eq_false_iff_ne]; omega
  have k63 : ((b : Int) == 63) = false := by rw [beq_eq_false_iff_ne]; omega
  clear n7 n8 n12 n10 n13 n9 n11 n92 n39 n34 n96 n63 hb
  go_enter Tryf.func18, Tryf.ntmps18
  go_wp2
  go_ret2
  exact ⟨rfl, rfl⟩
theorem simpleName_any (b : Nat) (w : World) (hb : b ≤ 255) :
    Calls Tryf.prog 18 #[.int .u8 (b : Int)] w fun e w' => e = .returned (.tuple #[.int .u8 ((nameV b).getD 0 : Nat), .bool (nameV b).isSome]) ∧ w = w' := by
  by_cases n7 : b = 7
  · subst n7
    exact sn7 w
  by_cases n8 : b = 8
  · subst n8
    exact sn8 w
  by_cases n12 : b = 12
  · subst n12
    exact sn12 w
  by_cases n10 : b = 10
  · subst n10
    exact sn10 w
  by_cases n13 : b = 13
  · subst n13
    exact sn13 w
  by_cases n9 : b = 9
  · subst n9
    exact sn9 w
  by_cases n11 : b = 11
  · subst n11
    exact sn11 w
  by_cases n92 : b = 92
  · subst n92
    exact sn92 w
  by_cases n39 : b = 39
  · subst n39
    exact sn39 w
  by_cases n34 : b = 34
  · subst n34
    exact sn34 w
  by_cases n96 : b = 96
  · subst n96
    exact sn96 w
  by_cases n63 : b = 63
  · subst n63
    exact sn63 w
  have hn : nameV b = none := by
    unfold nameV
    rw [if_neg n7, if_neg n8, if_neg n12, if_neg n10, if_neg n13, if_neg n9, if_neg n11, if_neg n92, if_neg n39, if_neg n34, if_neg n96, if_neg n63]
  rw [hn]
  exact snone b w hb n7 n8 n12 n10 n13 n9 n11 n92 n39 n34 n96 n63

/-! ### how the byte reader reads what the law writes -/
theorem app_get (a : List Nat) (ha : ∀ x ∈ a, x < 256) (t : ByteArray) (k : Nat) (h : k < a.length) : byteAt (bytes8 a ++ t) k = a.getD k 0 := by
  rw [byteAt_app_left _ _ _ (by rw [bytes8_size]; exact h), bytes8_at a ha k h]
theorem read_hex (x b : Nat) (up : Bool) (t : ByteArray) (hx : x = 88 ∨ x = 120) (hb : b ≤ 255) :
    unescB (bytes8 (92 :: x :: hexL b up 2) ++ t) = some ((b : Int), false, 4) := by
  have hl : ∀ y ∈ 92 :: x :: hexL b up 2, y < 256 := by
    intro y hy
    rcases List.mem_cons.1 hy with rfl | hy
    · omega
    rcases List.mem_cons.1 hy with rfl | hy
    · omega
    · exact hexL_lt b up 2 y hy
  have hlen : (92 :: x :: hexL b up 2).length = 4 := by simp [hexL_length]
  have h0 := app_get _ hl t 0 (by omega)
  have h1 := app_get _ hl t 1 (by omega)
  have hN : hexN (bytes8 (92 :: x :: hexL b up 2) ++ t) 2 2 = some b := hexN_whole _ 2 b up 2 (by omega) (fun k hk => by
    rw [app_get _ hl t (2 + k) (by omega)]
    have : k = 0 ∨ k = 1 := by omega
    rcases this with rfl | rfl <;> rfl)
  have hs : 4 ≤ (bytes8 (92 :: x :: hexL b up 2) ++ t).size := by rw [size_app, bytes8_size, hlen]; omega
  generalize bytes8 (92 :: x :: hexL b up 2) ++ t = s at *
  simp at h0 h1
  unfold unescB
  rw [if_neg (by omega), if_neg (by omega), if_neg (by omega), h1]
  have hsv : simpleV x = none := by rcases hx with rfl | rfl <;> rfl
  rw [hsv]
  simp only []
  rw [if_pos (by omega)]
  unfold hexB
  rw [if_neg (by omega), hN]
theorem read_oct (b : Nat) (t : ByteArray) (hb : b ≤ 255) : unescB (bytes8 (92 :: octL b) ++ t) = some ((b : Int), false, 4) := by
  have hl : ∀ y ∈ 92 :: octL b, y < 256 := by
    intro y hy
    simp [octL] at hy
    omega
  have hlen : (92 :: octL b).length = 4 := rfl
  have h0 := app_get _ hl t 0 (by omega)
  have h1 := app_get _ hl t 1 (by omega)
  have h2 := app_get _ hl t 2 (by omega)
  have h3 := app_get _ hl t 3 (by omega)
  have hs : 4 ≤ (bytes8 (92 :: octL b) ++ t).size := by rw [size_app, bytes8_size, hlen]; omega
  generalize bytes8 (92 :: octL b) ++ t = s at *
  simp [octL] at h0 h1 h2 h3
  unfold unescB
  rw [if_neg (by omega), if_neg (by omega), if_neg (by omega)]
  have hsv : simpleV (byteAt s 1) = none := by
    rw [h1]
    rcases (show b / 64 % 8 = 0 ∨ b / 64 % 8 = 1 ∨ b / 64 % 8 = 2 ∨ b / 64 % 8 = 3 by omega) with e | e | e | e <;> rw [e] <;> rfl
  rw [hsv]
  simp only []
  rw [if_neg (by omega), if_pos (by omega)]
  unfold octB
  rw [if_neg (by omega), if_pos (by simp [isOct]; omega)]
  congr 2
  omega
theorem read_name (c b : Nat) (t : ByteArray) (h : simpleV c = some b) (hc : c < 128) : unescB (bytes8 [92, c] ++ t) = some ((b : Int), false, 2) := by
  have hl : ∀ y ∈ [92, c], y < 256 := by
    intro y hy
    simp at hy
    omega
  have h0 := app_get _ hl t 0 (by simp)
  have h1 := app_get _ hl t 1 (by simp)
  have hs : 2 ≤ (bytes8 [92, c] ++ t).size := by rw [size_app, bytes8_size]; simp
  generalize bytes8 [92, c] ++ t = s at *
  simp at h0 h1
  unfold unescB
  rw [if_neg (by omega), if_neg (by omega), if_neg (by omega), h1, h]
theorem read_plain (b : Nat) (t : ByteArray) (hb : b < 128) (h92 : b ≠ 92) : unescB (bytes8 [b] ++ t) = some ((b : Int), false, 1) := by
  have hl : ∀ y ∈ [b], y < 256 := by
    intro y hy
    simp at hy
    omega
  have h0 := app_get _ hl t 0 (by simp)
  generalize bytes8 [b] ++ t = s at *
  simp at h0
  unfold unescB
  rw [if_neg (by omega), if_pos (by omega), h0]
end Go.Proofs.YthpchfbjnhdcdaaFmt
