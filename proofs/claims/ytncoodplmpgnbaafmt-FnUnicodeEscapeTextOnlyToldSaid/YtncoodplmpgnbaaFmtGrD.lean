/-
  The law's own spelling of a byte by contract. No condition beyond the bounds.
-/
import Derived.Test.YtncoodplmpgnbaaFmtGrR
namespace Go.Proofs.YtncoodplmpgnbaaFmt
open Go.RowKit Go.Lib Go.Shelf Go.Proofs
set_option linter.unusedVariables false
set_option linter.unusedSimpArgs false

theorem u8_low (k : Nat) (b : Nat) (m : Int) (hm : m = ((2 ^ k - 1 : Nat) : Int)) (hk : k ≤ 8) (hb : b ≤ 255) : bits .and .u8 (b : Int) m = ((b % 2 ^ k : Nat) : Int) := by
  subst hm
  show IntKind.u8.wrap ((BitVec.ofInt 8 (b : Int) &&& BitVec.ofInt 8 ((2 ^ k - 1 : Nat) : Int)).toNat : Int) = _
  have hp : 2 ^ k ≤ 2 ^ 8 := Nat.pow_le_pow_right (by decide) hk
  have hp0 : 0 < 2 ^ k := Nat.two_pow_pos k
  have e : (BitVec.ofInt 8 (b : Int)).toNat = b := by rw [BitVec.toNat_ofInt]; omega
  have e2 : (BitVec.ofInt 8 ((2 ^ k - 1 : Nat) : Int)).toNat = 2 ^ k - 1 := by rw [BitVec.toNat_ofInt]; omega
  rw [BitVec.toNat_and, e, e2, Nat.and_two_pow_sub_one_eq_mod, IntKind.wrap_u8]
  have := Nat.mod_lt b hp0
  omega
/-- A spelling that the byte reader reads back whole. -/
structure Spell (x : Nat) (E : List Nat) : Prop where
  lt : ∀ y ∈ E, y < 256 ∧ y ≠ 13
  pos : 0 < E.length
  le : E.length ≤ 4
  reads : ∀ t : ByteArray, unescB (bytes8 E ++ t) = some ((x : Int), false, E.length)
theorem hexL2_ok (x : Nat) (up : Bool) : ∀ k, ∀ y ∈ hexL x up k, y < 256 ∧ y ≠ 13
  | 0, y, h => by cases h
  | k + 1, y, h => by
    rcases List.mem_cons.1 h with rfl | h
    · have h1 := Nat.mod_lt (x / 16 ^ k) (show 0 < 16 by decide)
      generalize x / 16 ^ k % 16 = d at *
      unfold hexC
      split <;> (try split) <;> omega
    · exact hexL2_ok x up k y h
theorem spell_hex (c x : Nat) (up : Bool) (hc : c = 88 ∨ c = 120) (hx : x ≤ 255) : Spell x (92 :: c :: hexL x up 2) :=
  ⟨fun y hy => by
    rcases List.mem_cons.1 hy with rfl | hy
    · omega
    rcases List.mem_cons.1 hy with rfl | hy
    · omega
    · exact hexL2_ok x up 2 y hy, by simp, by simp [hexL_length], fun t => by rw [read_hex c x up t hc hx]; simp [hexL_length]⟩
theorem spell_oct (x : Nat) (hx : x ≤ 255) : Spell x (92 :: octL x) :=
  ⟨fun y hy => by simp [octL] at hy; omega, by simp, by simp [octL], fun t => by rw [read_oct x t hx]; simp [octL]⟩
theorem spell_name (x : Nat) (h : escN x ≠ 0) : Spell x [92, escN x] := by
  have hk := escN_ok h
  refine ⟨fun y hy => ?_, by simp, by simp, fun t => by rw [read_name (escN x) x t hk.1 hk.2.1]; rfl⟩
  simp at hy
  rcases hy with rfl | rfl
  · omega
  · refine ⟨by omega, fun e => ?_⟩
    have := hk.1
    rw [e, show simpleV 13 = none from rfl] at this
    cases this
theorem spell_plain (x : Nat) (h : x < 128) (h1 : x ≠ 92) (h2 : x ≠ 13) : Spell x [x] :=
  ⟨fun y hy => by simp at hy; omega, by simp, by simp, fun t => by rw [read_plain x t h h1]; rfl⟩
end Go.Proofs.YtncoodplmpgnbaaFmt
