/-
  The law's own UTF-8 appender and its width of a hex number by contract. No condition beyond the bounds.
-/
import Derived.Test.YtncoodplmpgnbaaFmtGrF
import Derived.Lib.RuneBytes
import Derived.Lib.MapLaws
namespace Go.Proofs.YtncoodplmpgnbaaFmt
open Go.RowKit Go.Lib Go.Shelf Go.Proofs
set_option linter.unusedVariables false
set_option linter.unusedSimpArgs false

theorem u32_and63 (u : Nat) (h : u < 4294967296) : bits .and .u32 (u : Int) 63 = (u : Int) % 64 := by
  show IntKind.u32.wrap ((BitVec.ofInt 32 (u : Int) &&& BitVec.ofInt 32 63).toNat : Int) = _
  have e : (BitVec.ofInt 32 (u : Int)).toNat = u := by rw [BitVec.toNat_ofInt]; omega
  have e2 : (BitVec.ofInt 32 63).toNat = 63 := by decide
  rw [BitVec.toNat_and, e, e2, show (63 : Nat) = 2 ^ 6 - 1 from rfl, Nat.and_two_pow_sub_one_eq_mod, IntKind.wrap_u32]
  omega
theorem u32_join (k a x : Nat) (ha : a % 2 ^ k = 0) (hx : x < 2 ^ k) (hab : a + x < 4294967296) : bits .or .u32 (a : Int) (x : Int) = (a : Int) + (x : Int) := by
  show IntKind.u32.wrap ((BitVec.ofInt 32 (a : Int) ||| BitVec.ofInt 32 (x : Int)).toNat : Int) = _
  have e : (BitVec.ofInt 32 (a : Int)).toNat = a := by rw [BitVec.toNat_ofInt]; omega
  have e2 : (BitVec.ofInt 32 (x : Int)).toNat = x := by rw [BitVec.toNat_ofInt]; omega
  rw [BitVec.toNat_or, e, e2, nat_join k a x ha hx, IntKind.wrap_u32]
  omega
theorem or128 (z : Nat) : bits .or .u32 128 ((z : Int) % 64) = 128 + (z : Int) % 64 := by
  have h := u32_join 7 128 (z % 64) (by decide) (by omega) (by omega)
  rw [show ((z % 64 : Nat) : Int) = (z : Int) % 64 by omega] at h
  exact h
theorem or192 (x : Nat) (h : x < 32) : bits .or .u32 192 (x : Int) = 192 + (x : Int) := u32_join 5 192 x (by decide) (by omega) (by omega)
theorem or224 (x : Nat) (h : x < 16) : bits .or .u32 224 (x : Int) = 224 + (x : Int) := u32_join 4 224 x (by decide) (by omega) (by omega)
theorem or240 (x : Nat) (h : x < 8) : bits .or .u32 240 (x : Int) = 240 + (x : Int) := u32_join 3 240 x (by decide) (by omega) (by omega)
theorem pc1 (z : Nat) (h : z < 128) : piece (z : Int) true = u8L [z] := by
  unfold piece
  rw [if_pos (.inl (by omega))]
  have := IntKind.wrap_u8 (z : Int)
  rw [this, show (z : Int) % 256 = (z : Int) by omega]
  rfl
theorem pc2 (z : Nat) (h : 128 ≤ z) (h2 : z < 2048) : piece (z : Int) true = u8L [192 + z / 64, 128 + z % 64] := by
  unfold piece
  rw [if_neg (by simp; omega), show encodeRune (z : Int) = (encodeRuneZ (z : Int)).map (fun x => x.toNat.toUInt8) from rfl, encodeRuneZ_two (by omega) (by omega)]
  show [(192 + (z : Int) / 64).toNat.toUInt8, (128 + (z : Int) % 64).toNat.toUInt8] = _
  rw [show (192 + (z : Int) / 64).toNat = 192 + z / 64 by omega, show (128 + (z : Int) % 64).toNat = 128 + z % 64 by omega]
  rfl
theorem pc3 (z : Nat) (h : 2048 ≤ z) (h2 : z < 65536) (hs : ¬ (55296 ≤ z ∧ z ≤ 57343)) : piece (z : Int) true = u8L [224 + z / 4096, 128 + z / 64 % 64, 128 + z % 64] := by
  unfold piece
  rw [if_neg (by simp; omega), show encodeRune (z : Int) = (encodeRuneZ (z : Int)).map (fun x => x.toNat.toUInt8) from rfl, encodeRuneZ_three (by omega)]
  show [(224 + (z : Int) / 4096).toNat.toUInt8, (128 + (z : Int) / 64 % 64).toNat.toUInt8, (128 + (z : Int) % 64).toNat.toUInt8] = _
  rw [show (224 + (z : Int) / 4096).toNat = 224 + z / 4096 by omega, show (128 + (z : Int) / 64 % 64).toNat = 128 + z / 64 % 64 by omega, show (128 + (z : Int) % 64).toNat = 128 + z % 64 by omega]
  rfl
theorem pc4 (z : Nat) (h : 65536 ≤ z) (h2 : z ≤ 1114111) : piece (z : Int) true = u8L [240 + z / 262144, 128 + z / 4096 % 64, 128 + z / 64 % 64, 128 + z % 64] := by
  unfold piece
  rw [if_neg (by simp; omega), show encodeRune (z : Int) = (encodeRuneZ (z : Int)).map (fun x => x.toNat.toUInt8) from rfl, encodeRuneZ_four (by omega) (by omega)]
  show [(240 + (z : Int) / 262144).toNat.toUInt8, (128 + (z : Int) / 4096 % 64).toNat.toUInt8, (128 + (z : Int) / 64 % 64).toNat.toUInt8, (128 + (z : Int) % 64).toNat.toUInt8] = _
  rw [show (240 + (z : Int) / 262144).toNat = 240 + z / 262144 by omega, show (128 + (z : Int) / 4096 % 64).toNat = 128 + z / 4096 % 64 by omega, show (128 + (z : Int) / 64 % 64).toNat = 128 + z / 64 % 64 by omega, show (128 + (z : Int) % 64).toNat = 128 + z % 64 by omega]
  rfl
theorem pcS (z : Nat) (hs : 55296 ≤ z ∧ z ≤ 57343) : piece (z : Int) true = u8L [239, 191, 189] := by
  unfold piece
  rw [if_neg (by simp; omega)]
  unfold encodeRune encodeRuneZ
  rw [if_neg (by omega), if_neg (by omega), if_neg (by omega), if_neg (by omega)]
  rfl
set_option maxRecDepth 100000 in
set_option maxHeartbeats 2000000 in
theorem uni1 (z : Nat) (w : World) (base : Nat) (d : Value) (l : List UInt8) (hb : base ≤ w.heap.size) (hl : l.length ≤ 2000000) (own : Own base d l w) (h : z < 128) :
    Calls Tryf.prog 17 #[d, .int .i32 (z : Int)] w (App base d (l ++ piece (z : Int) true) w) := by
  rw [pc1 z h]
  obtain ⟨i0, hi, hz0, hz1, hz2⟩ := info_parts info5
  have ownh := hide own
  clear own
  have h' : (z : Int) < 128 := by omega
  have h0 : (0 : Int) ≤ (z : Int) := by omega
  have hput := fun v' w1 o ho hg ha => hide (put_own (v' := v') (w1 := w1) (o := o) [z] (by simp <;> omega) hb ownh.out (m := 1) rfl (news := [.int .u8 ((z : Int))]) (by simp [cells8]) ho hg ha)
  clear h
  go_enter Tryf.func17, Tryf.ntmps17
  go_wp2_with (at_builtin; refine wpList_append_own_at _ rfl _ _ 27 rfl base 5 i0 (.int .u8 0) 1 1 Tryf.underlying27 hi hz0 hz1 hz2 rfl (by decide) _ _ _ rfl (World.ownsRow.alloc ownh.out _) ⟨w.heap.size, 0, none⟩ 1 1 [.int .u8 ((z : Int))] rfl rfl (by intro j u hj; match j, hj with | 0, hj => simp at hj; subst hj; simp [Addr.add]) (by intro u hu; simp at hu; subst hu; rfl) (by unfold maxLen; omega) (by omega) (by simp; omega) ?_; intro v' w1 hown' hg' _ hat'; have hR := hput v' w1 _ hown' hg' hat'; clear hown' hg' hat')
  go_ret
  exact ⟨_, rfl, hR.out.1, hR.out.2⟩
set_option maxRecDepth 100000 in
set_option maxHeartbeats 2000000 in
theorem uni2 (z : Nat) (w : World) (base : Nat) (d : Value) (l : List UInt8) (hb : base ≤ w.heap.size) (hl : l.length ≤ 2000000) (own : Own base d l w) (h : 128 ≤ z) (h2 : z < 2048) :
    Calls Tryf.prog 17 #[d, .int .i32 (z : Int)] w (App base d (l ++ piece (z : Int) true) w) := by
  rw [pc2 z h h2]
  obtain ⟨i0, hi, hz0, hz1, hz2⟩ := info_parts info5
  have ownh := hide own
  clear own
  have a0 := u32_and63 z (by omega)
  have o0 := or128 z
  have o3 := or192 (z / 64) (by omega)
  simp only [Int.natCast_ediv, Int.cast_ofNat_Int] at o3
  have h' : ¬ (z : Int) < 128 := by omega
  have h2' : (z : Int) < 2048 := by omega
  have hput := fun v' w1 o ho hg ha => hide (put_own (v' := v') (w1 := w1) (o := o) [192 + z / 64, 128 + z % 64] (by simp <;> omega) hb ownh.out (m := 2) rfl (news := [.int .u8 (192 + (z : Int) / 64), .int .u8 (128 + (z : Int) % 64)]) (by simp [cells8]) ho hg ha)
  clear h h2
  go_enter Tryf.func17, Tryf.ntmps17
  go_wp2_with (at_builtin; refine wpList_append_own_at _ rfl _ _ 27 rfl base 5 i0 (.int .u8 0) 1 1 Tryf.underlying27 hi hz0 hz1 hz2 rfl (by decide) _ _ _ rfl (World.ownsRow.alloc ownh.out _) ⟨w.heap.size, 0, none⟩ 2 2 [.int .u8 (192 + (z : Int) / 64), .int .u8 (128 + (z : Int) % 64)] rfl rfl (by intro j u hj; match j, hj with | 0, hj => simp at hj; subst hj; simp [Addr.add] | 1, hj => simp at hj; subst hj; simp [Addr.add]) (by intro u hu; simp at hu; rcases hu with rfl | rfl <;> rfl) (by unfold maxLen; omega) (by omega) (by simp; omega) ?_; intro v' w1 hown' hg' _ hat'; have hR := hput v' w1 _ hown' hg' hat'; clear hown' hg' hat')
  go_ret
  exact ⟨_, rfl, hR.out.1, hR.out.2⟩
set_option maxRecDepth 100000 in
set_option maxHeartbeats 2000000 in
theorem uni3a (z : Nat) (w : World) (base : Nat) (d : Value) (l : List UInt8) (hb : base ≤ w.heap.size) (hl : l.length ≤ 2000000) (own : Own base d l w) (h : 2048 ≤ z) (h2 : z < 55296) :
    Calls Tryf.prog 17 #[d, .int .i32 (z : Int)] w (App base d (l ++ piece (z : Int) true) w) := by
  rw [pc3 z h (by omega) (by omega)]
  obtain ⟨i0, hi, hz0, hz1, hz2⟩ := info_parts info5
  have ownh := hide own
  clear own
  have a0 := u32_and63 z (by omega)
  have o0 := or128 z
  have a1 := u32_and63 (z / 64) (by omega)
  have o1 := or128 (z / 64)
  simp only [Int.natCast_ediv, Int.cast_ofNat_Int] at a1 o1
  have o3 := or224 (z / 4096) (by omega)
  simp only [Int.natCast_ediv, Int.cast_ofNat_Int] at o3
  have h1l : ¬ (z : Int) < 128 := by omega
  have h2l : ¬ (z : Int) < 2048 := by omega
  have h2' : (z : Int) < 65536 := by omega
  have h3' : ¬ (55296 : Int) ≤ (z : Int) := by omega
  have hput := fun v' w1 o ho hg ha => hide (put_own (v' := v') (w1 := w1) (o := o) [224 + z / 4096, 128 + z / 64 % 64, 128 + z % 64] (by simp <;> omega) hb ownh.out (m := 3) rfl (news := [.int .u8 (224 + (z : Int) / 4096), .int .u8 (128 + (z : Int) / 64 % 64), .int .u8 (128 + (z : Int) % 64)]) (by simp [cells8]) ho hg ha)
  clear h h2
  go_enter Tryf.func17, Tryf.ntmps17
  go_wp2_with (at_builtin; refine wpList_append_own_at _ rfl _ _ 27 rfl base 5 i0 (.int .u8 0) 1 1 Tryf.underlying27 hi hz0 hz1 hz2 rfl (by decide) _ _ _ rfl (World.ownsRow.alloc ownh.out _) ⟨w.heap.size, 0, none⟩ 3 3 [.int .u8 (224 + (z : Int) / 4096), .int .u8 (128 + (z : Int) / 64 % 64), .int .u8 (128 + (z : Int) % 64)] rfl rfl (by intro j u hj; match j, hj with | 0, hj => simp at hj; subst hj; simp [Addr.add] | 1, hj => simp at hj; subst hj; simp [Addr.add] | 2, hj => simp at hj; subst hj; simp [Addr.add]) (by intro u hu; simp at hu; rcases hu with rfl | rfl | rfl <;> rfl) (by unfold maxLen; omega) (by omega) (by simp; omega) ?_; intro v' w1 hown' hg' _ hat'; have hR := hput v' w1 _ hown' hg' hat'; clear hown' hg' hat')
  go_ret
  exact ⟨_, rfl, hR.out.1, hR.out.2⟩
set_option maxRecDepth 100000 in
set_option maxHeartbeats 2000000 in
theorem uni3b (z : Nat) (w : World) (base : Nat) (d : Value) (l : List UInt8) (hb : base ≤ w.heap.size) (hl : l.length ≤ 2000000) (own : Own base d l w) (h : 57343 < z) (h2 : z < 65536) :
    Calls Tryf.prog 17 #[d, .int .i32 (z : Int)] w (App base d (l ++ piece (z : Int) true) w) := by
  rw [pc3 z (by omega) h2 (by omega)]
  obtain ⟨i0, hi, hz0, hz1, hz2⟩ := info_parts info5
  have ownh := hide own
  clear own
  have a0 := u32_and63 z (by omega)
  have o0 := or128 z
  have a1 := u32_and63 (z / 64) (by omega)
  have o1 := or128 (z / 64)
  simp only [Int.natCast_ediv, Int.cast_ofNat_Int] at a1 o1
  have o3 := or224 (z / 4096) (by omega)
  simp only [Int.natCast_ediv, Int.cast_ofNat_Int] at o3
  have h1l : ¬ (z : Int) < 128 := by omega
  have h2l : ¬ (z : Int) < 2048 := by omega
  have h2' : (z : Int) < 65536 := by omega
  have h3' : ¬ (z : Int) ≤ 57343 := by omega
  have h4' : (55296 : Int) ≤ (z : Int) := by omega
  have hput := fun v' w1 o ho hg ha => hide (put_own (v' := v') (w1 := w1) (o := o) [224 + z / 4096, 128 + z / 64 % 64, 128 + z % 64] (by simp <;> omega) hb ownh.out (m := 3) rfl (news := [.int .u8 (224 + (z : Int) / 4096), .int .u8 (128 + (z : Int) / 64 % 64), .int .u8 (128 + (z : Int) % 64)]) (by simp [cells8]) ho hg ha)
  clear h h2
  go_enter Tryf.func17, Tryf.ntmps17
  go_wp2_with (at_builtin; refine wpList_append_own_at _ rfl _ _ 27 rfl base 5 i0 (.int .u8 0) 1 1 Tryf.underlying27 hi hz0 hz1 hz2 rfl (by decide) _ _ _ rfl (World.ownsRow.alloc ownh.out _) ⟨w.heap.size, 0, none⟩ 3 3 [.int .u8 (224 + (z : Int) / 4096), .int .u8 (128 + (z : Int) / 64 % 64), .int .u8 (128 + (z : Int) % 64)] rfl rfl (by intro j u hj; match j, hj with | 0, hj => simp at hj; subst hj; simp [Addr.add] | 1, hj => simp at hj; subst hj; simp [Addr.add] | 2, hj => simp at hj; subst hj; simp [Addr.add]) (by intro u hu; simp at hu; rcases hu with rfl | rfl | rfl <;> rfl) (by unfold maxLen; omega) (by omega) (by simp; omega) ?_; intro v' w1 hown' hg' _ hat'; have hR := hput v' w1 _ hown' hg' hat'; clear hown' hg' hat')
  go_ret
  exact ⟨_, rfl, hR.out.1, hR.out.2⟩
set_option maxRecDepth 100000 in
set_option maxHeartbeats 2000000 in
theorem uni4 (z : Nat) (w : World) (base : Nat) (d : Value) (l : List UInt8) (hb : base ≤ w.heap.size) (hl : l.length ≤ 2000000) (own : Own base d l w) (h : 65536 ≤ z) (h2 : z ≤ 1114111) :
    Calls Tryf.prog 17 #[d, .int .i32 (z : Int)] w (App base d (l ++ piece (z : Int) true) w) := by
  rw [pc4 z h h2]
  obtain ⟨i0, hi, hz0, hz1, hz2⟩ := info_parts info5
  have ownh := hide own
  clear own
  have a0 := u32_and63 z (by omega)
  have o0 := or128 z
  have a1 := u32_and63 (z / 64) (by omega)
  have o1 := or128 (z / 64)
  simp only [Int.natCast_ediv, Int.cast_ofNat_Int] at a1 o1
  have a2 := u32_and63 (z / 4096) (by omega)
  have o2 := or128 (z / 4096)
  simp only [Int.natCast_ediv, Int.cast_ofNat_Int] at a2 o2
  have o3 := or240 (z / 262144) (by omega)
  simp only [Int.natCast_ediv, Int.cast_ofNat_Int] at o3
  have h' : ¬ (z : Int) < 65536 := by omega
  have h3' : ¬ (z : Int) ≤ 57343 := by omega
  have h4' : (55296 : Int) ≤ (z : Int) := by omega
  have h5' : ¬ (z : Int) < 128 := by omega
  have h6' : ¬ (z : Int) < 2048 := by omega
  have h2' : (z : Int) ≤ 1114111 := by omega
  have hput := fun v' w1 o ho hg ha => hide (put_own (v' := v') (w1 := w1) (o := o) [240 + z / 262144, 128 + z / 4096 % 64, 128 + z / 64 % 64, 128 + z % 64] (by simp <;> omega) hb ownh.out (m := 4) rfl (news := [.int .u8 (240 + (z : Int) / 262144), .int .u8 (128 + (z : Int) / 4096 % 64), .int .u8 (128 + (z : Int) / 64 % 64), .int .u8 (128 + (z : Int) % 64)]) (by simp [cells8]) ho hg ha)
  clear h h2
  go_enter Tryf.func17, Tryf.ntmps17
  go_wp2_with (at_builtin; refine wpList_append_own_at _ rfl _ _ 27 rfl base 5 i0 (.int .u8 0) 1 1 Tryf.underlying27 hi hz0 hz1 hz2 rfl (by decide) _ _ _ rfl (World.ownsRow.alloc ownh.out _) ⟨w.heap.size, 0, none⟩ 4 4 [.int .u8 (240 + (z : Int) / 262144), .int .u8 (128 + (z : Int) / 4096 % 64), .int .u8 (128 + (z : Int) / 64 % 64), .int .u8 (128 + (z : Int) % 64)] rfl rfl (by intro j u hj; match j, hj with | 0, hj => simp at hj; subst hj; simp [Addr.add] | 1, hj => simp at hj; subst hj; simp [Addr.add] | 2, hj => simp at hj; subst hj; simp [Addr.add] | 3, hj => simp at hj; subst hj; simp [Addr.add]) (by intro u hu; simp at hu; rcases hu with rfl | rfl | rfl | rfl <;> rfl) (by unfold maxLen; omega) (by omega) (by simp; omega) ?_; intro v' w1 hown' hg' _ hat'; have hR := hput v' w1 _ hown' hg' hat'; clear hown' hg' hat')
  go_ret
  exact ⟨_, rfl, hR.out.1, hR.out.2⟩
set_option maxRecDepth 100000 in
set_option maxHeartbeats 2000000 in
theorem uniS (z : Nat) (w : World) (base : Nat) (d : Value) (l : List UInt8) (hb : base ≤ w.heap.size) (hl : l.length ≤ 2000000) (own : Own base d l w) (hs : 55296 ≤ z ∧ z ≤ 57343) :
    Calls Tryf.prog 17 #[d, .int .i32 (z : Int)] w (App base d (l ++ piece (z : Int) true) w) := by
  rw [pcS z hs]
  obtain ⟨i0, hi, hz0, hz1, hz2⟩ := info_parts info5
  have ownh := hide own
  clear own
  have a0 : bits .and .u32 65533 63 = 61 := by decide
  have o0 : bits .or .u32 128 61 = 189 := by decide
  have a1 : bits .and .u32 1023 63 = 63 := by decide
  have o1 : bits .or .u32 128 63 = 191 := by decide
  have o3 : bits .or .u32 224 15 = 239 := by decide
  have h1' : (55296 : Int) ≤ (z : Int) := by omega
  have h2' : (z : Int) ≤ 57343 := by omega
  have hput := fun v' w1 o ho hg ha => hide (put_own (v' := v') (w1 := w1) (o := o) [239, 191, 189] (by simp <;> omega) hb ownh.out (m := 3) rfl (news := [.int .u8 (239), .int .u8 (191), .int .u8 (189)]) (by simp [cells8]) ho hg ha)
  clear hs
  go_enter Tryf.func17, Tryf.ntmps17
  go_wp2_with (at_builtin; refine wpList_append_own_at _ rfl _ _ 27 rfl base 5 i0 (.int .u8 0) 1 1 Tryf.underlying27 hi hz0 hz1 hz2 rfl (by decide) _ _ _ rfl (World.ownsRow.alloc ownh.out _) ⟨w.heap.size, 0, none⟩ 3 3 [.int .u8 (239), .int .u8 (191), .int .u8 (189)] rfl rfl (by intro j u hj; match j, hj with | 0, hj => simp at hj; subst hj; simp [Addr.add] | 1, hj => simp at hj; subst hj; simp [Addr.add] | 2, hj => simp at hj; subst hj; simp [Addr.add]) (by intro u hu; simp at hu; rcases hu with rfl | rfl | rfl <;> rfl) (by unfold maxLen; omega) (by omega) (by simp; omega) ?_; intro v' w1 hown' hg' _ hat'; have hR := hput v' w1 _ hown' hg' hat'; clear hown' hg' hat')
  go_ret
  exact ⟨_, rfl, hR.out.1, hR.out.2⟩
theorem uni_any (z : Nat) (w : World) (base : Nat) (d : Value) (l : List UInt8) (hb : base ≤ w.heap.size) (hl : l.length ≤ 2000000) (own : Own base d l w) (hz : z ≤ 1114111) :
    Calls Tryf.prog 17 #[d, .int .i32 (z : Int)] w (App base d (l ++ piece (z : Int) true) w) := by
  by_cases c1 : z < 128
  · exact uni1 z w base d l hb hl own c1
  by_cases c2 : z < 2048
  · exact uni2 z w base d l hb hl own (by omega) c2
  by_cases c3 : z < 55296
  · exact uni3a z w base d l hb hl own (by omega) c3
  by_cases c4 : z ≤ 57343
  · exact uniS z w base d l hb hl own ⟨by omega, c4⟩
  by_cases c5 : z < 65536
  · exact uni3b z w base d l hb hl own (by omega) c5
  · exact uni4 z w base d l hb hl own (by omega) hz
end Go.Proofs.YtncoodplmpgnbaaFmt
