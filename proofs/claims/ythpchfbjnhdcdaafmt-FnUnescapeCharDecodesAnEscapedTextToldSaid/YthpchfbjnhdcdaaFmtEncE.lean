/-
  The law's own UTF-8 encoder at every code point: the bytes of the rune's UTF-8 form. No condition beyond the bounds.
-/
import Derived.Test.YthpchfbjnhdcdaaFmtWalkTripC
import Derived.Lib.RuneBytes
import Derived.Lib.MapLaws
namespace Go.Proofs.YthpchfbjnhdcdaaFmt
open Go.RowKit Go.Lib Go.Shelf Go.Proofs
set_option linter.unusedVariables false
set_option linter.unusedSimpArgs false

theorem u32_and63 (u : Nat) (h : u < 4294967296) : bits .and .u32 (u : Int) 63 = (u : Int) % 64 := by
  show IntKind.u32.wrap ((BitVec.ofInt 32 (u : Int) &&& BitVec.ofInt 32 63).toNat : Int) = _
  have e : (BitVec.ofInt 32 (u : Int)).toNat = u := by rw [BitVec.toNat_ofInt]; omega
  have e2 : (BitVec.ofInt 32 63).toNat = 63 := by decide
  rw [BitVec.toNat_and, e, e2, show (63 : Nat) = 2 ^ 6 - 1 from rfl, Nat.and_two_pow_sub_one_eq_mod, IntKind.wrap_u32]
  omega
theorem u32_join (k a x : Nat) (ha : a % 2 ^ k = 0) (hx : x < 2 ^ k) (hab : a + x < 4294967296) : bits .or .u32 (a : Int) (x : Int) = (a : Int) + (x : Int) := by
  show IntKind.u32.wrap ((BitVec.ofInt 32 (a : Int) ||| BitVec.ofInt 32 (x : Int)).toNat : Int) = _
  have e : (BitVec.ofInt 32 (a : Int)).toNat = a := by rw [BitVec.toNat_ofInt]; omega
  have e2 : (BitVec.ofInt 32 (x : Int)).toNat = x := by rw [BitVec.toNat_ofInt]; omega
  rw [BitVec.toNat_or, e, e2, nat_join k a x ha hx, IntKind.wrap_u32]
  omega
theorem or128 (z : Nat) : bits .or .u32 128 ((z : Int) % 64) = 128 + (z : Int) % 64 := by
  have h := u32_join 7 128 (z % 64) (by decide) (by omega) (by omega)
  rw [show ((z % 64 : Nat) : Int) = (z : Int) % 64 by omega] at h
  exact h
theorem or192 (x : Nat) (h : x < 32) : bits .or .u32 192 (x : Int) = 192 + (x : Int) := u32_join 5 192 x (by decide) (by omega) (by omega)
theorem or224 (x : Nat) (h : x < 16) : bits .or .u32 224 (x : Int) = 224 + (x : Int) := u32_join 4 224 x (by decide) (by omega) (by omega)
theorem or240 (x : Nat) (h : x < 8) : bits .or .u32 240 (x : Int) = 240 + (x : Int) := u32_join 3 240 x (by decide) (by omega) (by omega)
theorem conv_bytes (w : World) (zs : List Int) (hz : ∀ x ∈ zs, 0 ≤ x ∧ x < 256) :
    (convert 29 9 (.slice (some ⟨w.heap.size, 0, none⟩) zs.length zs.length)).run Tryf.prog (w.alloc (.cells (zs.map (Value.int .u8)).toArray 5)) = .ok (.string ⟨(zs.map fun x => x.toNat.toUInt8).toArray⟩) (w.alloc (.cells (zs.map (Value.int .u8)).toArray 5)) := by
  have h := run_convert_bytes_back (P := Tryf.prog) (w.alloc (.cells (zs.map (Value.int .u8)).toArray 5)) 29 9 5 ⟨w.heap.size, 0, none⟩ zs.length (zs.map fun x => x.toNat.toUInt8) Tryf.underlying29 Tryf.underlying5 Tryf.underlying9 (fun j hj => by
    have hj' : j < zs.length := by simpa using hj
    have hb := hz zs[j] (List.getElem_mem hj')
    have ha : (⟨w.heap.size, 0, none⟩ : Addr).add j = ⟨w.heap.size, j, none⟩ := by unfold Addr.add; split <;> simp_all
    rw [ha, cell_of_row _ w.heap.size j _ 5 (0, 0) (heap_alloc_new w _)]
    simp [hj']
    omega)
  simpa using h

set_option maxRecDepth 100000 in
theorem enc1 (z : Nat) (w : World) (h : z < 128) :
    Calls Tryf.prog 12 #[.int .i32 (z : Int)] w fun e w' => e = .returned (.string ⟨(encodeRune z).toArray⟩) ∧ Below w.heap.size w w' := by
  have hc := conv_bytes w [(z : Int)] (by simp; omega)
  have he := hide (show encodeRune (z : Int) = [((z : Int)).toNat.toUInt8] by unfold encodeRune; rw [encodeRuneZ_one (by omega) (by omega)]; rfl)
  simp only [List.map_cons, List.map_nil, List.length_cons, List.length_nil, Nat.zero_add, Nat.reduceAdd] at hc
  rw [← he.out] at hc
  have h' : (z : Int) < 128 := by omega
  have hz0 : (0 : Int) ≤ (z : Int) := by omega
  clear h
  go_enter Tryf.func12, Tryf.ntmps12
  go_wp2
  go_ret
  exact ⟨rfl, (Below.refl _ _).alloc (Nat.le_refl _) _⟩
set_option maxRecDepth 100000 in
theorem enc2 (z : Nat) (w : World) (h : 128 ≤ z) (h2 : z < 2048) :
    Calls Tryf.prog 12 #[.int .i32 (z : Int)] w fun e w' => e = .returned (.string ⟨(encodeRune z).toArray⟩) ∧ Below w.heap.size w w' := by
  have hc := conv_bytes w [192 + (z : Int) / 64, 128 + (z : Int) % 64] (by simp; omega)
  have he := hide (show encodeRune (z : Int) = [(192 + (z : Int) / 64).toNat.toUInt8, (128 + (z : Int) % 64).toNat.toUInt8] by unfold encodeRune; rw [encodeRuneZ_two (by omega) (by omega)]; rfl)
  simp only [List.map_cons, List.map_nil, List.length_cons, List.length_nil, Nat.zero_add, Nat.reduceAdd] at hc
  rw [← he.out] at hc
  have a0 := u32_and63 z (by omega)
  have o0 := or128 z
  have o3 := or192 (z / 64) (by omega)
  simp only [Int.natCast_ediv, Int.cast_ofNat_Int] at o3
  have h' : ¬ (z : Int) < 128 := by omega
  have h2' : (z : Int) < 2048 := by omega
  clear h h2
  go_enter Tryf.func12, Tryf.ntmps12
  go_wp2
  go_ret
  exact ⟨rfl, (Below.refl _ _).alloc (Nat.le_refl _) _⟩
set_option maxRecDepth 100000 in
theorem enc3 (z : Nat) (w : World) (h : 2048 ≤ z) (h2 : z < 65536) (hs : ¬ (55296 ≤ z ∧ z ≤ 57343)) :
    Calls Tryf.prog 12 #[.int .i32 (z : Int)] w fun e w' => e = .returned (.string ⟨(encodeRune z).toArray⟩) ∧ Below w.heap.size w w' := by
  have hc := conv_bytes w [224 + (z : Int) / 4096, 128 + (z : Int) / 64 % 64, 128 + (z : Int) % 64] (by simp; omega)
  have he := hide (show encodeRune (z : Int) = [(224 + (z : Int) / 4096).toNat.toUInt8, (128 + (z : Int) / 64 % 64).toNat.toUInt8, (128 + (z : Int) % 64).toNat.toUInt8] by unfold encodeRune; rw [encodeRuneZ_three (by omega)]; rfl)
  simp only [List.map_cons, List.map_nil, List.length_cons, List.length_nil, Nat.zero_add, Nat.reduceAdd] at hc
  rw [← he.out] at hc
  have a0 := u32_and63 z (by omega)
  have o0 := or128 z
  have a1 := u32_and63 (z / 64) (by omega)
  have o1 := or128 (z / 64)
  simp only [Int.natCast_ediv, Int.cast_ofNat_Int] at a1 o1
  have o3 := or224 (z / 4096) (by omega)
  simp only [Int.natCast_ediv, Int.cast_ofNat_Int] at o3
  have h'' : ¬ (z : Int) < 128 := by omega
  have h' : ¬ (z : Int) < 2048 := by omega
  have h2' : (z : Int) < 65536 := by omega
  clear h h2 hs
  go_enter Tryf.func12, Tryf.ntmps12
  go_wp2
  go_ret
  exact ⟨rfl, (Below.refl _ _).alloc (Nat.le_refl _) _⟩
set_option maxRecDepth 100000 in
theorem enc4 (z : Nat) (w : World) (h : 65536 ≤ z) (h2 : z ≤ 1114111) :
    Calls Tryf.prog 12 #[.int .i32 (z : Int)] w fun e w' => e = .returned (.string ⟨(encodeRune z).toArray⟩) ∧ Below w.heap.size w w' := by
  have hc := conv_bytes w [240 + (z : Int) / 262144, 128 + (z : Int) / 4096 % 64, 128 + (z : Int) / 64 % 64, 128 + (z : Int) % 64] (by simp; omega)
  have he := hide (show encodeRune (z : Int) = [(240 + (z : Int) / 262144).toNat.toUInt8, (128 + (z : Int) / 4096 % 64).toNat.toUInt8, (128 + (z : Int) / 64 % 64).toNat.toUInt8, (128 + (z : Int) % 64).toNat.toUInt8] by unfold encodeRune; rw [encodeRuneZ_four (by omega) (by omega)]; rfl)
  simp only [List.map_cons, List.map_nil, List.length_cons, List.length_nil, Nat.zero_add, Nat.reduceAdd] at hc
  rw [← he.out] at hc
  have a0 := u32_and63 z (by omega)
  have o0 := or128 z
  have a1 := u32_and63 (z / 64) (by omega)
  have o1 := or128 (z / 64)
  simp only [Int.natCast_ediv, Int.cast_ofNat_Int] at a1 o1
  have a2 := u32_and63 (z / 4096) (by omega)
  have o2 := or128 (z / 4096)
  simp only [Int.natCast_ediv, Int.cast_ofNat_Int] at a2 o2
  have o3 := or240 (z / 262144) (by omega)
  simp only [Int.natCast_ediv, Int.cast_ofNat_Int] at o3
  have h'' : ¬ (z : Int) < 128 := by omega
  have h''' : ¬ (z : Int) < 2048 := by omega
  have h' : ¬ (z : Int) < 65536 := by omega
  have h2' : (z : Int) ≤ 1114111 := by omega
  clear h h2
  go_enter Tryf.func12, Tryf.ntmps12
  go_wp2
  go_ret
  exact ⟨rfl, (Below.refl _ _).alloc (Nat.le_refl _) _⟩
theorem enc_any (z : Nat) (w : World) (h1 : z ≤ 1114111) (h2 : ¬ (55296 ≤ z ∧ z ≤ 57343)) :
    Calls Tryf.prog 12 #[.int .i32 (z : Int)] w fun e w' => e = .returned (.string ⟨(encodeRune z).toArray⟩) ∧ Below w.heap.size w w' := by
  by_cases c1 : z < 128
  · exact enc1 z w c1
  · by_cases c2 : z < 2048
    · exact enc2 z w (by omega) c2
    · by_cases c3 : z < 65536
      · exact enc3 z w (by omega) c3 h2
      · exact enc4 z w (by omega) h1
end Go.Proofs.YthpchfbjnhdcdaaFmt
