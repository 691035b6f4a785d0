/-
  A code point's raw UTF-8 form is read back whole. Plain.
-/
import Derived.Test.YtncoodplmpgnbaaFmtGrJ
namespace Go.Proofs.YtncoodplmpgnbaaFmt
open Go.RowKit Go.Lib Go.Shelf Go.Proofs
set_option linter.unusedVariables false
set_option linter.unusedSimpArgs false

theorem spellU_raw2 (z : Nat) (h : 128 ≤ z) (h2 : z < 2048) : SpellU z [192 + z / 64, 128 + z % 64] := by
  have hl : ∀ y ∈ [192 + z / 64, 128 + z % 64], y < 256 := by intro y hy; simp at hy; omega
  refine ⟨fun y hy => ?_, by simp, by simp, true, fun t => ?_, rfl⟩
  · have := hl y hy
    simp at hy
    omega
  have h0 := app_get _ hl t 0 (by simp)
  have h1 := app_get _ hl t 1 (by simp)
  have hs : 2 ≤ (bytes8 [192 + z / 64, 128 + z % 64] ++ t).size := by rw [size_app, bytes8_size]; simp
  generalize bytes8 [192 + z / 64, 128 + z % 64] ++ t = s at *
  simp at h0 h1
  have hd : Utf8.decode s 0 = (z, 2) := by
    rw [decode_bytes]
    simp only [Nat.zero_add, h0, h1]
    unfold decodeN
    rw [if_neg (by omega), if_pos (by omega), if_pos (by omega)]
    simp
    omega
  unfold unesc
  rw [if_pos (by omega), hd]
  rfl
theorem spellU_raw3 (z : Nat) (h : 2048 ≤ z) (h2 : z < 65536) (hsur : ¬ (55296 ≤ z ∧ z ≤ 57343)) : SpellU z [224 + z / 4096, 128 + z / 64 % 64, 128 + z % 64] := by
  have hl : ∀ y ∈ [224 + z / 4096, 128 + z / 64 % 64, 128 + z % 64], y < 256 := by intro y hy; simp at hy; omega
  refine ⟨fun y hy => ?_, by simp, by simp, true, fun t => ?_, rfl⟩
  · have := hl y hy
    simp at hy
    omega
  have h0 := app_get _ hl t 0 (by simp)
  have h1 := app_get _ hl t 1 (by simp)
  have h2 := app_get _ hl t 2 (by simp)
  have hs : 3 ≤ (bytes8 [224 + z / 4096, 128 + z / 64 % 64, 128 + z % 64] ++ t).size := by rw [size_app, bytes8_size]; simp
  generalize bytes8 [224 + z / 4096, 128 + z / 64 % 64, 128 + z % 64] ++ t = s at *
  simp at h0 h1 h2
  have hd : Utf8.decode s 0 = (z, 3) := by
    rw [decode_bytes]
    simp only [Nat.zero_add, h0, h1, h2]
    unfold decodeN
    rw [if_neg (by omega), if_neg (by omega), if_pos (by omega), if_pos (by omega)]
    simp
    omega
  unfold unesc
  rw [if_pos (by omega), hd]
  rfl
theorem spellU_raw4 (z : Nat) (h : 65536 ≤ z) (h2 : z ≤ 1114111) : SpellU z [240 + z / 262144, 128 + z / 4096 % 64, 128 + z / 64 % 64, 128 + z % 64] := by
  have hl : ∀ y ∈ [240 + z / 262144, 128 + z / 4096 % 64, 128 + z / 64 % 64, 128 + z % 64], y < 256 := by intro y hy; simp at hy; omega
  refine ⟨fun y hy => ?_, by simp, by simp, true, fun t => ?_, rfl⟩
  · have := hl y hy
    simp at hy
    omega
  have h0 := app_get _ hl t 0 (by simp)
  have h1 := app_get _ hl t 1 (by simp)
  have h2 := app_get _ hl t 2 (by simp)
  have h3 := app_get _ hl t 3 (by simp)
  have hs : 4 ≤ (bytes8 [240 + z / 262144, 128 + z / 4096 % 64, 128 + z / 64 % 64, 128 + z % 64] ++ t).size := by rw [size_app, bytes8_size]; simp
  generalize bytes8 [240 + z / 262144, 128 + z / 4096 % 64, 128 + z / 64 % 64, 128 + z % 64] ++ t = s at *
  simp at h0 h1 h2 h3
  have hd : Utf8.decode s 0 = (z, 4) := by
    rw [decode_bytes]
    simp only [Nat.zero_add, h0, h1, h2, h3]
    unfold decodeN
    rw [if_neg (by omega), if_neg (by omega), if_neg (by omega), if_pos (by omega), if_pos (by omega)]
    simp
    omega
  unfold unesc
  rw [if_pos (by omega), hd]
  rfl
end Go.Proofs.YtncoodplmpgnbaaFmt
