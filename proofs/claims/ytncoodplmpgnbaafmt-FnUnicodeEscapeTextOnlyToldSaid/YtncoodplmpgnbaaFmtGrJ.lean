/-
  Spellings of a code point that the reader reads back whole: escapes, names, plain text. Plain.
-/
import Derived.Test.YtncoodplmpgnbaaFmtGrH
import Derived.Test.YtncoodplmpgnbaaFmtGrD
namespace Go.Proofs.YtncoodplmpgnbaaFmt
open Go.RowKit Go.Lib Go.Shelf Go.Proofs
set_option linter.unusedVariables false
set_option linter.unusedSimpArgs false

/-- A spelling that the reader reads back whole. -/
structure SpellU (z : Nat) (E : List Nat) : Prop where
  lt : ∀ y ∈ E, y < 256 ∧ y ≠ 13
  pos : 0 < E.length
  le : E.length ≤ 12
  reads : ∃ mb, (∀ t : ByteArray, unesc (bytes8 E ++ t) = some ((z : Int), mb, E.length)) ∧ piece (z : Int) mb = piece (z : Int) true
theorem spellU_item (c n z : Nat) (up : Bool) (hc : (c = 120 ∨ c = 88) ∧ n = 2 ∨ c = 117 ∧ n = 4 ∨ c = 85 ∧ n = 8) (hr : z < 16 ^ n) (hm : z ≤ 1114111) : SpellU z (92 :: c :: hexL z up n) :=
  ⟨fun y hy => by
    rcases List.mem_cons.1 hy with rfl | hy
    · omega
    rcases List.mem_cons.1 hy with rfl | hy
    · omega
    · exact hexL2_ok z up n y hy, by simp, by simp [hexL_length]; omega, true, fun t => by rw [read_item c n z up t hc hr hm]; simp [hexL_length]; omega, rfl⟩
theorem spellU_oct (z : Nat) (h : z ≤ 255) : SpellU z (92 :: octL z) :=
  ⟨fun y hy => by simp [octL] at hy; omega, by simp, by simp [octL], true, fun t => by rw [read_octU z t h]; simp [octL], rfl⟩
theorem spellU_brace (z n : Nat) (up : Bool) (hn1 : 1 ≤ n) (hn : n ≤ 6) (hr : z < 16 ^ n) (hm : z ≤ 1114111) : SpellU z (92 :: 117 :: 123 :: (hexL z up n ++ [125])) :=
  ⟨fun y hy => by
    simp only [List.mem_cons, List.mem_append, List.mem_nil_iff, or_false] at hy
    rcases hy with rfl | rfl | rfl | hy | rfl
    · omega
    · omega
    · omega
    · exact hexL2_ok z up n y hy
    · omega, by simp, by simp [hexL_length]; omega, true, fun t => by rw [read_brace z n up t hn1 hn hr hm]; simp [hexL_length]; omega, rfl⟩
theorem piece_small (z : Nat) (mb : Bool) (h : z < 128) : piece (z : Int) mb = piece (z : Int) true := by
  unfold piece
  rw [if_pos (.inl (by omega)), if_pos (.inl (by omega))]
theorem spellU_name (z : Nat) (h : escN z ≠ 0) : SpellU z [92, escN z] := by
  have hk := escN_ok h
  refine ⟨(spell_name z h).lt, by simp, by simp, false, fun t => ?_, piece_small z false hk.2.2⟩
  have hl : ∀ y ∈ [92, escN z], y < 256 := fun y hy => ((spell_name z h).lt y hy).1
  have h0 := app_get _ hl t 0 (by simp)
  have h1 := app_get _ hl t 1 (by simp)
  have hs : 2 ≤ (bytes8 [92, escN z] ++ t).size := by rw [size_app, bytes8_size]; simp
  generalize bytes8 [92, escN z] ++ t = s at *
  simp at h0 h1
  unfold unesc
  rw [if_neg (by omega), if_neg (by omega), if_neg (by omega), h1, hk.1]
  rfl
theorem spellU_plain (z : Nat) (h : z < 128) (h1 : z ≠ 92) (h2 : z ≠ 13) : SpellU z [z] := by
  refine ⟨(spell_plain z h h1 h2).lt, by simp, by simp, false, fun t => ?_, piece_small z false h⟩
  have hl : ∀ y ∈ [z], y < 256 := fun y hy => ((spell_plain z h h1 h2).lt y hy).1
  have h0 := app_get _ hl t 0 (by simp)
  generalize bytes8 [z] ++ t = s at *
  simp at h0
  unfold unesc
  rw [if_neg (by omega), if_pos (by omega), h0]
  rfl
end Go.Proofs.YtncoodplmpgnbaaFmt
