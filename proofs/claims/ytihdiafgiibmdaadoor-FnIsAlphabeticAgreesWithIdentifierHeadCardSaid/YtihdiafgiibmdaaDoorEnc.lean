/-
  The law's own UTF-8 encoder at every scalar value: the bytes of the rune's UTF-8 form. No condition beyond the bounds.
-/
import Derived.Test.YtihdiafgiibmdaaDoorFns
import Derived.Laws.BitsAllLaws
import Derived.Laws.IdiomStrings
import Derived.WalkSpells
namespace Go.Proofs.YtihdiafgiibmdaaDoor
open Go.RowKit Go.Lib Go.Shelf Go.Proofs
set_option linter.unusedSimpArgs false

theorem ofInt_i32 (a : Nat) (ha : a < 2147483648) : (BitVec.ofInt 32 (a : Int)).toNat = a := by
  rw [BitVec.ofInt_natCast, BitVec.toNat_ofNat]; exact Nat.mod_eq_of_lt (by omega)
theorem i32_and_nat (a b : Nat) (ha : a < 2147483648) (hb : b < 2147483648) : bits .and .i32 (a : Int) (b : Int) = ((a &&& b : Nat) : Int) := by
  have hx : a &&& b < 2 ^ 31 := Nat.and_lt_two_pow _ (by omega)
  show IntKind.i32.wrap ((BitVec.ofInt 32 (a : Int) &&& BitVec.ofInt 32 (b : Int)).toNat : Int) = _
  rw [BitVec.toNat_and, ofInt_i32 a ha, ofInt_i32 b hb, IntKind.wrap_i32]
  omega
theorem i32_or_nat (a b : Nat) (ha : a < 2147483648) (hb : b < 2147483648) : bits .or .i32 (a : Int) (b : Int) = ((a ||| b : Nat) : Int) := by
  have hx : a ||| b < 2 ^ 31 := Nat.or_lt_two_pow (by omega) (by omega)
  show IntKind.i32.wrap ((BitVec.ofInt 32 (a : Int) ||| BitVec.ofInt 32 (b : Int)).toNat : Int) = _
  rw [BitVec.toNat_or, ofInt_i32 a ha, ofInt_i32 b hb, IntKind.wrap_i32]
  omega
theorem and63 (z : Nat) (hz : z < 2147483648) : bits .and .i32 (z : Int) 63 = (z : Int) % 64 := by
  rw [show (63 : Int) = ((63 : Nat) : Int) from rfl, i32_and_nat z 63 hz (by omega), nat_mask6]
  omega
theorem or128 (z : Nat) : bits .or .i32 128 ((z : Int) % 64) = 128 + (z : Int) % 64 := by
  have h := i32_or_nat 128 (z % 64) (by omega) (by omega)
  rw [nat_join 7 128 (z % 64) (by decide) (by omega)] at h
  rw [show ((128 : Nat) : Int) = 128 from rfl] at h
  have e : ((z % 64 : Nat) : Int) = (z : Int) % 64 := by omega
  rw [e] at h
  rw [h]
  omega

theorem or224 (x : Nat) (h : x < 16) : bits .or .i32 224 (x : Int) = 224 + (x : Int) := by
  have h := i32_or_nat 224 x (by omega) (by omega)
  rw [nat_join 4 224 x (by decide) (by omega), show ((224 : Nat) : Int) = 224 from rfl] at h
  rw [h]
  omega
theorem or240 (x : Nat) (h : x < 8) : bits .or .i32 240 (x : Int) = 240 + (x : Int) := by
  have h := i32_or_nat 240 x (by omega) (by omega)
  rw [nat_join 3 240 x (by decide) (by omega), show ((240 : Nat) : Int) = 240 from rfl] at h
  rw [h]
  omega

theorem conv_bytes (w : World) (zs : List Int) (hz : ∀ x ∈ zs, 0 ≤ x ∧ x < 256) :
    (convert 25 9 (.slice (some ⟨w.heap.size, 0, none⟩) zs.length zs.length)).run Tryd.prog (w.alloc (.cells (zs.map (Value.int .u8)).toArray 5)) = .ok (.string ⟨(zs.map fun x => x.toNat.toUInt8).toArray⟩) (w.alloc (.cells (zs.map (Value.int .u8)).toArray 5)) := by
  have h := run_convert_bytes_back (P := Tryd.prog) (w.alloc (.cells (zs.map (Value.int .u8)).toArray 5)) 25 9 5 ⟨w.heap.size, 0, none⟩ zs.length (zs.map fun x => x.toNat.toUInt8) Tryd.underlying25 Tryd.underlying5 Tryd.underlying9 (fun j hj => by
    have hj' : j < zs.length := by simpa using hj
    have hb := hz zs[j] (List.getElem_mem hj')
    have ha : (⟨w.heap.size, 0, none⟩ : Addr).add j = ⟨w.heap.size, j, none⟩ := by unfold Addr.add; split <;> simp_all
    rw [ha, cell_of_row _ w.heap.size j _ 5 (0, 0) (heap_alloc_new w _)]
    simp [hj']
    omega)
  simpa using h

set_option maxRecDepth 100000 in
theorem enc_any (z : Nat) (w : World) (h1 : z ≤ 1114111) (h2 : ¬ (55296 ≤ z ∧ z ≤ 57343)) :
    Calls Tryd.prog 12 #[.int .i32 (z : Int)] w fun e w' => e = .returned (.string ⟨(encodeRune z).toArray⟩) ∧ Below w.heap.size w w' := by
  by_cases c1 : (z : Int) < 128
  · have hc := conv_bytes w [(z : Int)] (by simp; omega)
    have he := hide (show encodeRune (z : Int) = [(z : Int).toNat.toUInt8] by unfold encodeRune; rw [encodeRuneZ_one (by omega) (by omega)]; rfl)
    simp only [List.map_cons, List.map_nil, List.length_cons, List.length_nil, Nat.zero_add, Nat.reduceAdd] at hc
    rw [← he.out] at hc
    go_enter Tryd.func12, Tryd.ntmps12
    go_wp2
    go_ret
    exact ⟨rfl, (Below.refl _ _).alloc (Nat.le_refl _) _⟩
  · by_cases c2 : (z : Int) < 2048
    · have hc := conv_bytes w [192 + (z : Int) / 64, 128 + (z : Int) % 64] (by simp; omega)
      have he := hide (show encodeRune (z : Int) = [(192 + (z : Int) / 64).toNat.toUInt8, (128 + (z : Int) % 64).toNat.toUInt8] by unfold encodeRune; rw [encodeRuneZ_two (by omega) (by omega)]; rfl)
      simp only [List.map_cons, List.map_nil, List.length_cons, List.length_nil, Nat.zero_add, Nat.reduceAdd] at hc
      rw [← he.out] at hc
      have ha := and63 z (by omega)
      have ho := or128 z
      go_enter Tryd.func12, Tryd.ntmps12
      go_wp2
      go_ret
      exact ⟨rfl, (Below.refl _ _).alloc (Nat.le_refl _) _⟩
    · have a0 := and63 z (by omega)
      have o0 := or128 z
      have a1 := and63 (z / 64) (by omega)
      have o1 := or128 (z / 64)
      have a2 := and63 (z / 4096) (by omega)
      have o2 := or128 (z / 4096)
      simp only [Int.natCast_ediv, Int.cast_ofNat_Int] at a1 o1 a2 o2
      have h1i : (z : Int) ≤ 1114111 := by omega
      have h2i : ¬ (55296 ≤ (z : Int) ∧ (z : Int) ≤ 57343) := by omega
      clear h2
      by_cases c3 : (z : Int) < 65536
      · have hc := conv_bytes w [224 + (z : Int) / 4096, 128 + (z : Int) / 64 % 64, 128 + (z : Int) % 64] (by simp; omega)
        have he := hide (show encodeRune (z : Int) = [(224 + (z : Int) / 4096).toNat.toUInt8, (128 + (z : Int) / 64 % 64).toNat.toUInt8, (128 + (z : Int) % 64).toNat.toUInt8] by unfold encodeRune; rw [encodeRuneZ_three (by omega)]; rfl)
        simp only [List.map_cons, List.map_nil, List.length_cons, List.length_nil, Nat.zero_add, Nat.reduceAdd] at hc
        rw [← he.out] at hc
        clear a2 o2
        have o3 := or224 (z / 4096) (by omega)
        simp only [Int.natCast_ediv, Int.cast_ofNat_Int] at o3
        go_enter Tryd.func12, Tryd.ntmps12
        go_wp2
        go_ret
        exact ⟨rfl, (Below.refl _ _).alloc (Nat.le_refl _) _⟩
      · have hc := conv_bytes w [240 + (z : Int) / 262144, 128 + (z : Int) / 4096 % 64, 128 + (z : Int) / 64 % 64, 128 + (z : Int) % 64] (by simp; omega)
        have he := hide (show encodeRune (z : Int) = [(240 + (z : Int) / 262144).toNat.toUInt8, (128 + (z : Int) / 4096 % 64).toNat.toUInt8, (128 + (z : Int) / 64 % 64).toNat.toUInt8, (128 + (z : Int) % 64).toNat.toUInt8] by unfold encodeRune; rw [encodeRuneZ_four (by omega) (by omega)]; rfl)
        simp only [List.map_cons, List.map_nil, List.length_cons, List.length_nil, Nat.zero_add, Nat.reduceAdd] at hc
        rw [← he.out] at hc
        
        have o3 := or240 (z / 262144) (by omega)
        simp only [Int.natCast_ediv, Int.cast_ofNat_Int] at o3
        go_enter Tryd.func12, Tryd.ntmps12
        go_wp2
        go_ret
        exact ⟨rfl, (Below.refl _ _).alloc (Nat.le_refl _) _⟩
end Go.Proofs.YtihdiafgiibmdaaDoor
