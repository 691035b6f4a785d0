/-
  The law's own spelling of a byte by contract. No condition beyond the bounds.
-/
import Derived.Test.YtncoodplmpgnbaaFmtAppR
namespace Go.Proofs.YtncoodplmpgnbaaFmt
open Go.RowKit Go.Lib Go.Shelf Go.Proofs
set_option linter.unusedVariables false
set_option linter.unusedSimpArgs false

theorem u8_low (k : Nat) (b : Nat) (m : Int) (hm : m = ((2 ^ k - 1 : Nat) : Int)) (hk : k ≤ 8) (hb : b ≤ 255) : bits .and .u8 (b : Int) m = ((b % 2 ^ k : Nat) : Int) := by
  subst hm
  show IntKind.u8.wrap ((BitVec.ofInt 8 (b : Int) &&& BitVec.ofInt 8 ((2 ^ k - 1 : Nat) : Int)).toNat : Int) = _
  have hp : 2 ^ k ≤ 2 ^ 8 := Nat.pow_le_pow_right (by decide) hk
  have hp0 : 0 < 2 ^ k := Nat.two_pow_pos k
  have e : (BitVec.ofInt 8 (b : Int)).toNat = b := by rw [BitVec.toNat_ofInt]; omega
  have e2 : (BitVec.ofInt 8 ((2 ^ k - 1 : Nat) : Int)).toNat = 2 ^ k - 1 := by rw [BitVec.toNat_ofInt]; omega
  rw [BitVec.toNat_and, e, e2, Nat.and_two_pow_sub_one_eq_mod, IntKind.wrap_u8]
  have := Nat.mod_lt b hp0
  omega
/-- A spelling that the byte reader reads back whole. -/
structure Spell (x : Nat) (E : List Nat) : Prop where
  lt : ∀ y ∈ E, y < 256 ∧ y ≠ 13
  pos : 0 < E.length
  le : E.length ≤ 4
  reads : ∀ t : ByteArray, unescB (bytes8 E ++ t) = some ((x : Int), false, E.length)
theorem hexL2_ok (x : Nat) (up : Bool) : ∀ k, ∀ y ∈ hexL x up k, y < 256 ∧ y ≠ 13
  | 0, y, h => by cases h
  | k + 1, y, h => by
    rcases List.mem_cons.1 h with rfl | h
    · have h1 := Nat.mod_lt (x / 16 ^ k) (show 0 < 16 by decide)
      generalize x / 16 ^ k % 16 = d at *
      unfold hexC
      split <;> (try split) <;> omega
    · exact hexL2_ok x up k y h
theorem spell_hex (c x : Nat) (up : Bool) (hc : c = 88 ∨ c = 120) (hx : x ≤ 255) : Spell x (92 :: c :: hexL x up 2) :=
  ⟨fun y hy => by
    rcases List.mem_cons.1 hy with rfl | hy
    · omega
    rcases List.mem_cons.1 hy with rfl | hy
    · omega
    · exact hexL2_ok x up 2 y hy, by simp, by simp [hexL_length], fun t => by rw [read_hex c x up t hc hx]; simp [hexL_length]⟩
theorem spell_oct (x : Nat) (hx : x ≤ 255) : Spell x (92 :: octL x) :=
  ⟨fun y hy => by simp [octL] at hy; omega, by simp, by simp [octL], fun t => by rw [read_oct x t hx]; simp [octL]⟩
theorem spell_name (x : Nat) (h : escN x ≠ 0) : Spell x [92, escN x] := by
  have hk := escN_ok h
  refine ⟨fun y hy => ?_, by simp, by simp, fun t => by rw [read_name (escN x) x t hk.1 hk.2.1]; rfl⟩
  simp at hy
  rcases hy with rfl | rfl
  · omega
  · refine ⟨by omega, fun e => ?_⟩
    have := hk.1
    rw [e, show simpleV 13 = none from rfl] at this
    cases this
theorem spell_plain (x : Nat) (h : x < 128) (h1 : x ≠ 92) (h2 : x ≠ 13) : Spell x [x] :=
  ⟨fun y hy => by simp at hy; omega, by simp, by simp, fun t => by rw [read_plain x t h h1]; rfl⟩
set_option maxRecDepth 20000 in
set_option maxHeartbeats 4000000 in
theorem eb_name (x b : Nat) (w : World) (base : Nat) (d : Value) (l : List UInt8) (hx : x ≤ 255) (hb8 : b ≤ 255) (hb : base ≤ w.heap.size) (hl : l.length ≤ 1500000) (own : Own base d l w) (hm : b % 4 % 3 = 0) (hn : escN x ≠ 0) :
    Calls Tryf.prog 12 #[d, .int .u8 (x : Int), .int .u8 (b : Int)] w (App base (l ++ u8L [92, escN x]) w) := by
  have hx' : (x : Int) ≤ 255 := by omega
  have hx0 : (0 : Int) ≤ (x : Int) := by omega
  have hbb : (b : Int) ≤ 255 := by omega
  have hb0 : (0 : Int) ≤ (b : Int) := by omega
  obtain ⟨i0, hi, hz0, hz1, hz2⟩ := info_parts info5
  have hA := u8_low 2 b 3 rfl (by decide) hb8
  simp only [show (2 : Nat) ^ 2 = 4 from rfl] at hA
  have ownh := hide own
  clear own
  have hM : ((b % 4 : Nat) : Int).tmod 3 = 0 := by rw [Int.tmod_eq_emod_of_nonneg (by omega)]; omega
  have hE := fun w => hide (escName_any x w (by omega))
  have hlt := (escN_ok hn).2.1
  have hn' : ((escN x : Int) != 0) = true := by rw [bne_iff_ne]; omega
  have hlt' : (escN x : Int) ≤ 255 := by omega
  generalize escN x = nm at *
  generalize b % 4 = q4 at *
  have hput := fun v' w1 o ho hg => hide (put_own (v' := v') (w1 := w1) (o := o) [92, nm] (by simp; omega) hb ownh.out (m := 2) rfl (news := [.int .u8 92, .int .u8 (nm : Int)]) (by simp [cells8]) ho hg)
  clear hn hm hlt
  go_enter Tryf.func12, Tryf.ntmps12
  go_wp2_with (first | (go_at_call 23; refine (hE _).out.mono ?_; rintro e w' ⟨rfl, rfl⟩) | (at_builtin; refine wpList_append_own _ rfl _ _ 27 rfl base 5 i0 (.int .u8 0) 1 1 Tryf.underlying27 hi hz0 hz1 hz2 rfl (by decide) _ _ _ rfl (World.ownsRow.alloc ownh.out _) ⟨w.heap.size, 0, none⟩ 2 2 [.int .u8 92, .int .u8 (nm : Int)] rfl rfl (by intro j u hj; match j, hj with | 0, hj => simp at hj; subst hj; simp [Addr.add] | 1, hj => simp at hj; subst hj; simp [Addr.add]) (by intro u hu; simp at hu; rcases hu with rfl | rfl <;> rfl) (by unfold maxLen; omega) (by omega) (by simp; omega) ?_; intro v' w1 hown' hg' _; have hR := hput v' w1 _ hown' hg'; clear hown' hg'))
  go_ret
  exact ⟨_, rfl, hR.out.1, hR.out.2⟩
set_option maxRecDepth 20000 in
set_option maxHeartbeats 4000000 in
theorem eb_plain (x b : Nat) (w : World) (base : Nat) (d : Value) (l : List UInt8) (hx : x ≤ 255) (hb8 : b ≤ 255) (hb : base ≤ w.heap.size) (hl : l.length ≤ 1500000) (own : Own base d l w) (hm : b % 4 % 3 = 0) (hn : escN x = 0) (hlt : x < 128) :
    Calls Tryf.prog 12 #[d, .int .u8 (x : Int), .int .u8 (b : Int)] w (App base (l ++ u8L [x]) w) := by
  have hx' : (x : Int) ≤ 255 := by omega
  have hx0 : (0 : Int) ≤ (x : Int) := by omega
  have hbb : (b : Int) ≤ 255 := by omega
  have hb0 : (0 : Int) ≤ (b : Int) := by omega
  obtain ⟨i0, hi, hz0, hz1, hz2⟩ := info_parts info5
  have hA := u8_low 2 b 3 rfl (by decide) hb8
  simp only [show (2 : Nat) ^ 2 = 4 from rfl] at hA
  have ownh := hide own
  clear own
  have hM : ((b % 4 : Nat) : Int).tmod 3 = 0 := by rw [Int.tmod_eq_emod_of_nonneg (by omega)]; omega
  have hE := fun w => hide (escName_any x w (by omega))
  simp only [hn] at hE
  have hlt' : (x : Int) < 128 := by omega
  have n13 : ((x : Int) != 13) = true := by
    rw [bne_iff_ne]
    intro e
    have e2 : x = 13 := by omega
    subst e2
    exact absurd hn (by decide)
  have n34 : ((x : Int) != 34) = true := by
    rw [bne_iff_ne]
    intro e
    have e2 : x = 34 := by omega
    subst e2
    exact absurd hn (by decide)
  have n39 : ((x : Int) != 39) = true := by
    rw [bne_iff_ne]
    intro e
    have e2 : x = 39 := by omega
    subst e2
    exact absurd hn (by decide)
  have n92 : ((x : Int) != 92) = true := by
    rw [bne_iff_ne]
    intro e
    have e2 : x = 92 := by omega
    subst e2
    exact absurd hn (by decide)
  generalize b % 4 = q4 at *
  have hput := fun v' w1 o ho hg => hide (put_own (v' := v') (w1 := w1) (o := o) [x] (by simp; omega) hb ownh.out (m := 1) rfl (news := [.int .u8 (x : Int)]) (by simp [cells8]) ho hg)
  clear hn hm hlt
  go_enter Tryf.func12, Tryf.ntmps12
  go_wp2_with (first | (go_at_call 23; refine (hE _).out.mono ?_; rintro e w' ⟨rfl, rfl⟩) | (at_builtin; refine wpList_append_own _ rfl _ _ 27 rfl base 5 i0 (.int .u8 0) 1 1 Tryf.underlying27 hi hz0 hz1 hz2 rfl (by decide) _ _ _ rfl (World.ownsRow.alloc ownh.out _) ⟨w.heap.size, 0, none⟩ 1 1 [.int .u8 (x : Int)] rfl rfl (by intro j u hj; match j, hj with | 0, hj => simp at hj; subst hj; simp [Addr.add]) (by intro u hu; simp at hu; subst hu; rfl) (by unfold maxLen; omega) (by omega) (by simp; omega) ?_; intro v' w1 hown' hg' _; have hR := hput v' w1 _ hown' hg'; clear hown' hg'))
  go_ret
  exact ⟨_, rfl, hR.out.1, hR.out.2⟩
set_option maxRecDepth 20000 in
set_option maxHeartbeats 4000000 in
theorem eb_oct (x b : Nat) (w : World) (base : Nat) (d : Value) (l : List UInt8) (hx : x ≤ 255) (hb8 : b ≤ 255) (hb : base ≤ w.heap.size) (hl : l.length ≤ 1500000) (own : Own base d l w) (hm : b % 4 % 3 = 1) :
    Calls Tryf.prog 12 #[d, .int .u8 (x : Int), .int .u8 (b : Int)] w (App base (l ++ u8L (92 :: octL x)) w) := by
  have hx' : (x : Int) ≤ 255 := by omega
  have hx0 : (0 : Int) ≤ (x : Int) := by omega
  have hbb : (b : Int) ≤ 255 := by omega
  have hb0 : (0 : Int) ≤ (b : Int) := by omega
  obtain ⟨i0, hi, hz0, hz1, hz2⟩ := info_parts info5
  have hA := u8_low 2 b 3 rfl (by decide) hb8
  simp only [show (2 : Nat) ^ 2 = 4 from rfl] at hA
  have ownh := hide own
  clear own
  have hM : ((b % 4 : Nat) : Int).tmod 3 = 1 := by rw [Int.tmod_eq_emod_of_nonneg (by omega)]; omega
  have hO := hide (oct3_any x w base d l hx hb (by omega) ownh.out)
  generalize b % 4 = q4 at *
  clear hm
  go_enter Tryf.func12, Tryf.ntmps12
  go_wp2_with (go_at_call 24; refine hO.out.mono ?_; rintro e w' ⟨v', rfl, ho', hb'⟩)
  go_ret
  exact ⟨_, rfl, ho', hb'⟩
set_option maxRecDepth 20000 in
set_option maxHeartbeats 4000000 in
theorem eb_hex00a (x b : Nat) (w : World) (base : Nat) (d : Value) (l : List UInt8) (hx : x ≤ 255) (hb8 : b ≤ 255) (hb : base ≤ w.heap.size) (hl : l.length ≤ 1500000) (own : Own base d l w) (hm : b % 4 % 3 = 0) (hn : escN x = 0) (hge : 128 ≤ x) (hp : b / 4 % 2 = 0) (hu : b / 8 % 2 = 0) :
    Calls Tryf.prog 12 #[d, .int .u8 (x : Int), .int .u8 (b : Int)] w (App base (l ++ u8L (92 :: 120 :: hexL x false 2)) w) := by
  have hx' : (x : Int) ≤ 255 := by omega
  have hx0 : (0 : Int) ≤ (x : Int) := by omega
  have hbb : (b : Int) ≤ 255 := by omega
  have hb0 : (0 : Int) ≤ (b : Int) := by omega
  obtain ⟨i0, hi, hz0, hz1, hz2⟩ := info_parts info5
  have hA := u8_low 2 b 3 rfl (by decide) hb8
  simp only [show (2 : Nat) ^ 2 = 4 from rfl] at hA
  have ownh := hide own
  clear own
  have hM : ((b % 4 : Nat) : Int).tmod 3 = 0 := by rw [Int.tmod_eq_emod_of_nonneg (by omega)]; omega
  have hE := fun w => hide (escName_any x w (by omega))
  simp only [hn] at hE
  have hge' : (128 : Int) ≤ (x : Int) := by omega
  have hP := u8_low 1 (b / 4) 1 rfl (by decide) (by omega)
  rw [show (b / 4 % 2 ^ 1 : Nat) = 0 from hp, show ((b / 4 : Nat) : Int) = (b : Int) / 4 by omega] at hP
  have hU := u8_low 1 (b / 8) 1 rfl (by decide) (by omega)
  rw [show (b / 8 % 2 ^ 1 : Nat) = 0 from hu, show ((b / 8 : Nat) : Int) = (b : Int) / 8 by omega] at hU
  generalize b % 4 = q4 at *
  have hput := fun v' w1 o ho hg => hide (put_own (v' := v') (w1 := w1) (o := o) [92, 120] (by simp) hb ownh.out (m := 2) rfl (news := [.int .u8 92, .int .u8 120]) (by simp [cells8]) ho hg)
  have hH := fun v' w1 (h1 : base ≤ w1.heap.size) ho => hide (hexRun_any x 2 false w1 base v' (l ++ u8L [92, 120]) (by decide) (by omega) h1 (by rw [List.length_append, u8L_length]; simp; omega) ho)
  have hbh := hide hb
  clear hn hge hp hu hm
  go_enter Tryf.func12, Tryf.ntmps12
  go_wp2_with (first | (go_at_call 23; refine (hE _).out.mono ?_; rintro e w' ⟨rfl, rfl⟩) | (go_at_call 19; refine (hH v' w1 (Nat.le_trans hbh.out hR.out.2.size) hR.out.1).out.mono ?_; rintro e w' ⟨v2, rfl, ho2, hb2⟩) | (at_builtin; refine wpList_append_own _ rfl _ _ 27 rfl base 5 i0 (.int .u8 0) 1 1 Tryf.underlying27 hi hz0 hz1 hz2 rfl (by decide) _ _ _ rfl (World.ownsRow.alloc ownh.out _) ⟨w.heap.size, 0, none⟩ 2 2 [.int .u8 92, .int .u8 120] rfl rfl (by intro j u hj; match j, hj with | 0, hj => simp at hj; subst hj; simp [Addr.add] | 1, hj => simp at hj; subst hj; simp [Addr.add]) (by intro u hu; simp at hu; rcases hu with rfl | rfl <;> rfl) (by unfold maxLen; omega) (by omega) (by simp; omega) ?_; intro v' w1 hown' hg' _; have hR := hput v' w1 _ hown' hg'; clear hown' hg'))
  go_ret
  refine ⟨_, rfl, ?_, hR.out.2.trans hb2⟩
  have e : l ++ u8L (92 :: 120 :: hexL x false 2) = l ++ u8L [92, 120] ++ u8L (hexL x false 2) := by rw [List.append_assoc, ← u8L_app]; rfl
  rw [e]
  exact ho2
set_option maxRecDepth 20000 in
set_option maxHeartbeats 4000000 in
theorem eb_hex00b (x b : Nat) (w : World) (base : Nat) (d : Value) (l : List UInt8) (hx : x ≤ 255) (hb8 : b ≤ 255) (hb : base ≤ w.heap.size) (hl : l.length ≤ 1500000) (own : Own base d l w) (hm : b % 4 % 3 = 2) (hp : b / 4 % 2 = 0) (hu : b / 8 % 2 = 0) :
    Calls Tryf.prog 12 #[d, .int .u8 (x : Int), .int .u8 (b : Int)] w (App base (l ++ u8L (92 :: 120 :: hexL x false 2)) w) := by
  have hx' : (x : Int) ≤ 255 := by omega
  have hx0 : (0 : Int) ≤ (x : Int) := by omega
  have hbb : (b : Int) ≤ 255 := by omega
  have hb0 : (0 : Int) ≤ (b : Int) := by omega
  obtain ⟨i0, hi, hz0, hz1, hz2⟩ := info_parts info5
  have hA := u8_low 2 b 3 rfl (by decide) hb8
  simp only [show (2 : Nat) ^ 2 = 4 from rfl] at hA
  have ownh := hide own
  clear own
  have hM : ((b % 4 : Nat) : Int).tmod 3 = 2 := by rw [Int.tmod_eq_emod_of_nonneg (by omega)]; omega
  have hP := u8_low 1 (b / 4) 1 rfl (by decide) (by omega)
  rw [show (b / 4 % 2 ^ 1 : Nat) = 0 from hp, show ((b / 4 : Nat) : Int) = (b : Int) / 4 by omega] at hP
  have hU := u8_low 1 (b / 8) 1 rfl (by decide) (by omega)
  rw [show (b / 8 % 2 ^ 1 : Nat) = 0 from hu, show ((b / 8 : Nat) : Int) = (b : Int) / 8 by omega] at hU
  generalize b % 4 = q4 at *
  have hput := fun v' w1 o ho hg => hide (put_own (v' := v') (w1 := w1) (o := o) [92, 120] (by simp) hb ownh.out (m := 2) rfl (news := [.int .u8 92, .int .u8 120]) (by simp [cells8]) ho hg)
  have hH := fun v' w1 (h1 : base ≤ w1.heap.size) ho => hide (hexRun_any x 2 false w1 base v' (l ++ u8L [92, 120]) (by decide) (by omega) h1 (by rw [List.length_append, u8L_length]; simp; omega) ho)
  have hbh := hide hb
  clear hp hu hm
  go_enter Tryf.func12, Tryf.ntmps12
  go_wp2_with (first | (go_at_call 19; refine (hH v' w1 (Nat.le_trans hbh.out hR.out.2.size) hR.out.1).out.mono ?_; rintro e w' ⟨v2, rfl, ho2, hb2⟩) | (at_builtin; refine wpList_append_own _ rfl _ _ 27 rfl base 5 i0 (.int .u8 0) 1 1 Tryf.underlying27 hi hz0 hz1 hz2 rfl (by decide) _ _ _ rfl (World.ownsRow.alloc ownh.out _) ⟨w.heap.size, 0, none⟩ 2 2 [.int .u8 92, .int .u8 120] rfl rfl (by intro j u hj; match j, hj with | 0, hj => simp at hj; subst hj; simp [Addr.add] | 1, hj => simp at hj; subst hj; simp [Addr.add]) (by intro u hu; simp at hu; rcases hu with rfl | rfl <;> rfl) (by unfold maxLen; omega) (by omega) (by simp; omega) ?_; intro v' w1 hown' hg' _; have hR := hput v' w1 _ hown' hg'; clear hown' hg'))
  go_ret
  refine ⟨_, rfl, ?_, hR.out.2.trans hb2⟩
  have e : l ++ u8L (92 :: 120 :: hexL x false 2) = l ++ u8L [92, 120] ++ u8L (hexL x false 2) := by rw [List.append_assoc, ← u8L_app]; rfl
  rw [e]
  exact ho2
set_option maxRecDepth 20000 in
set_option maxHeartbeats 4000000 in
theorem eb_hex01a (x b : Nat) (w : World) (base : Nat) (d : Value) (l : List UInt8) (hx : x ≤ 255) (hb8 : b ≤ 255) (hb : base ≤ w.heap.size) (hl : l.length ≤ 1500000) (own : Own base d l w) (hm : b % 4 % 3 = 0) (hn : escN x = 0) (hge : 128 ≤ x) (hp : b / 4 % 2 = 0) (hu : b / 8 % 2 = 1) :
    Calls Tryf.prog 12 #[d, .int .u8 (x : Int), .int .u8 (b : Int)] w (App base (l ++ u8L (92 :: 120 :: hexL x true 2)) w) := by
  have hx' : (x : Int) ≤ 255 := by omega
  have hx0 : (0 : Int) ≤ (x : Int) := by omega
  have hbb : (b : Int) ≤ 255 := by omega
  have hb0 : (0 : Int) ≤ (b : Int) := by omega
  obtain ⟨i0, hi, hz0, hz1, hz2⟩ := info_parts info5
  have hA := u8_low 2 b 3 rfl (by decide) hb8
  simp only [show (2 : Nat) ^ 2 = 4 from rfl] at hA
  have ownh := hide own
  clear own
  have hM : ((b % 4 : Nat) : Int).tmod 3 = 0 := by rw [Int.tmod_eq_emod_of_nonneg (by omega)]; omega
  have hE := fun w => hide (escName_any x w (by omega))
  simp only [hn] at hE
  have hge' : (128 : Int) ≤ (x : Int) := by omega
  have hP := u8_low 1 (b / 4) 1 rfl (by decide) (by omega)
  rw [show (b / 4 % 2 ^ 1 : Nat) = 0 from hp, show ((b / 4 : Nat) : Int) = (b : Int) / 4 by omega] at hP
  have hU := u8_low 1 (b / 8) 1 rfl (by decide) (by omega)
  rw [show (b / 8 % 2 ^ 1 : Nat) = 1 from hu, show ((b / 8 : Nat) : Int) = (b : Int) / 8 by omega] at hU
  generalize b % 4 = q4 at *
  have hput := fun v' w1 o ho hg => hide (put_own (v' := v') (w1 := w1) (o := o) [92, 120] (by simp) hb ownh.out (m := 2) rfl (news := [.int .u8 92, .int .u8 120]) (by simp [cells8]) ho hg)
  have hH := fun v' w1 (h1 : base ≤ w1.heap.size) ho => hide (hexRun_any x 2 true w1 base v' (l ++ u8L [92, 120]) (by decide) (by omega) h1 (by rw [List.length_append, u8L_length]; simp; omega) ho)
  have hbh := hide hb
  clear hn hge hp hu hm
  go_enter Tryf.func12, Tryf.ntmps12
  go_wp2_with (first | (go_at_call 23; refine (hE _).out.mono ?_; rintro e w' ⟨rfl, rfl⟩) | (go_at_call 19; refine (hH v' w1 (Nat.le_trans hbh.out hR.out.2.size) hR.out.1).out.mono ?_; rintro e w' ⟨v2, rfl, ho2, hb2⟩) | (at_builtin; refine wpList_append_own _ rfl _ _ 27 rfl base 5 i0 (.int .u8 0) 1 1 Tryf.underlying27 hi hz0 hz1 hz2 rfl (by decide) _ _ _ rfl (World.ownsRow.alloc ownh.out _) ⟨w.heap.size, 0, none⟩ 2 2 [.int .u8 92, .int .u8 120] rfl rfl (by intro j u hj; match j, hj with | 0, hj => simp at hj; subst hj; simp [Addr.add] | 1, hj => simp at hj; subst hj; simp [Addr.add]) (by intro u hu; simp at hu; rcases hu with rfl | rfl <;> rfl) (by unfold maxLen; omega) (by omega) (by simp; omega) ?_; intro v' w1 hown' hg' _; have hR := hput v' w1 _ hown' hg'; clear hown' hg'))
  go_ret
  refine ⟨_, rfl, ?_, hR.out.2.trans hb2⟩
  have e : l ++ u8L (92 :: 120 :: hexL x true 2) = l ++ u8L [92, 120] ++ u8L (hexL x true 2) := by rw [List.append_assoc, ← u8L_app]; rfl
  rw [e]
  exact ho2
set_option maxRecDepth 20000 in
set_option maxHeartbeats 4000000 in
theorem eb_hex01b (x b : Nat) (w : World) (base : Nat) (d : Value) (l : List UInt8) (hx : x ≤ 255) (hb8 : b ≤ 255) (hb : base ≤ w.heap.size) (hl : l.length ≤ 1500000) (own : Own base d l w) (hm : b % 4 % 3 = 2) (hp : b / 4 % 2 = 0) (hu : b / 8 % 2 = 1) :
    Calls Tryf.prog 12 #[d, .int .u8 (x : Int), .int .u8 (b : Int)] w (App base (l ++ u8L (92 :: 120 :: hexL x true 2)) w) := by
  have hx' : (x : Int) ≤ 255 := by omega
  have hx0 : (0 : Int) ≤ (x : Int) := by omega
  have hbb : (b : Int) ≤ 255 := by omega
  have hb0 : (0 : Int) ≤ (b : Int) := by omega
  obtain ⟨i0, hi, hz0, hz1, hz2⟩ := info_parts info5
  have hA := u8_low 2 b 3 rfl (by decide) hb8
  simp only [show (2 : Nat) ^ 2 = 4 from rfl] at hA
  have ownh := hide own
  clear own
  have hM : ((b % 4 : Nat) : Int).tmod 3 = 2 := by rw [Int.tmod_eq_emod_of_nonneg (by omega)]; omega
  have hP := u8_low 1 (b / 4) 1 rfl (by decide) (by omega)
  rw [show (b / 4 % 2 ^ 1 : Nat) = 0 from hp, show ((b / 4 : Nat) : Int) = (b : Int) / 4 by omega] at hP
  have hU := u8_low 1 (b / 8) 1 rfl (by decide) (by omega)
  rw [show (b / 8 % 2 ^ 1 : Nat) = 1 from hu, show ((b / 8 : Nat) : Int) = (b : Int) / 8 by omega] at hU
  generalize b % 4 = q4 at *
  have hput := fun v' w1 o ho hg => hide (put_own (v' := v') (w1 := w1) (o := o) [92, 120] (by simp) hb ownh.out (m := 2) rfl (news := [.int .u8 92, .int .u8 120]) (by simp [cells8]) ho hg)
  have hH := fun v' w1 (h1 : base ≤ w1.heap.size) ho => hide (hexRun_any x 2 true w1 base v' (l ++ u8L [92, 120]) (by decide) (by omega) h1 (by rw [List.length_append, u8L_length]; simp; omega) ho)
  have hbh := hide hb
  clear hp hu hm
  go_enter Tryf.func12, Tryf.ntmps12
  go_wp2_with (first | (go_at_call 19; refine (hH v' w1 (Nat.le_trans hbh.out hR.out.2.size) hR.out.1).out.mono ?_; rintro e w' ⟨v2, rfl, ho2, hb2⟩) | (at_builtin; refine wpList_append_own _ rfl _ _ 27 rfl base 5 i0 (.int .u8 0) 1 1 Tryf.underlying27 hi hz0 hz1 hz2 rfl (by decide) _ _ _ rfl (World.ownsRow.alloc ownh.out _) ⟨w.heap.size, 0, none⟩ 2 2 [.int .u8 92, .int .u8 120] rfl rfl (by intro j u hj; match j, hj with | 0, hj => simp at hj; subst hj; simp [Addr.add] | 1, hj => simp at hj; subst hj; simp [Addr.add]) (by intro u hu; simp at hu; rcases hu with rfl | rfl <;> rfl) (by unfold maxLen; omega) (by omega) (by simp; omega) ?_; intro v' w1 hown' hg' _; have hR := hput v' w1 _ hown' hg'; clear hown' hg'))
  go_ret
  refine ⟨_, rfl, ?_, hR.out.2.trans hb2⟩
  have e : l ++ u8L (92 :: 120 :: hexL x true 2) = l ++ u8L [92, 120] ++ u8L (hexL x true 2) := by rw [List.append_assoc, ← u8L_app]; rfl
  rw [e]
  exact ho2
set_option maxRecDepth 20000 in
set_option maxHeartbeats 4000000 in
theorem eb_hex10a (x b : Nat) (w : World) (base : Nat) (d : Value) (l : List UInt8) (hx : x ≤ 255) (hb8 : b ≤ 255) (hb : base ≤ w.heap.size) (hl : l.length ≤ 1500000) (own : Own base d l w) (hm : b % 4 % 3 = 0) (hn : escN x = 0) (hge : 128 ≤ x) (hp : b / 4 % 2 = 1) (hu : b / 8 % 2 = 0) :
    Calls Tryf.prog 12 #[d, .int .u8 (x : Int), .int .u8 (b : Int)] w (App base (l ++ u8L (92 :: 88 :: hexL x false 2)) w) := by
  have hx' : (x : Int) ≤ 255 := by omega
  have hx0 : (0 : Int) ≤ (x : Int) := by omega
  have hbb : (b : Int) ≤ 255 := by omega
  have hb0 : (0 : Int) ≤ (b : Int) := by omega
  obtain ⟨i0, hi, hz0, hz1, hz2⟩ := info_parts info5
  have hA := u8_low 2 b 3 rfl (by decide) hb8
  simp only [show (2 : Nat) ^ 2 = 4 from rfl] at hA
  have ownh := hide own
  clear own
  have hM : ((b % 4 : Nat) : Int).tmod 3 = 0 := by rw [Int.tmod_eq_emod_of_nonneg (by omega)]; omega
  have hE := fun w => hide (escName_any x w (by omega))
  simp only [hn] at hE
  have hge' : (128 : Int) ≤ (x : Int) := by omega
  have hP := u8_low 1 (b / 4) 1 rfl (by decide) (by omega)
  rw [show (b / 4 % 2 ^ 1 : Nat) = 1 from hp, show ((b / 4 : Nat) : Int) = (b : Int) / 4 by omega] at hP
  have hU := u8_low 1 (b / 8) 1 rfl (by decide) (by omega)
  rw [show (b / 8 % 2 ^ 1 : Nat) = 0 from hu, show ((b / 8 : Nat) : Int) = (b : Int) / 8 by omega] at hU
  generalize b % 4 = q4 at *
  have hput := fun v' w1 o ho hg => hide (put_own (v' := v') (w1 := w1) (o := o) [92, 88] (by simp) hb ownh.out (m := 2) rfl (news := [.int .u8 92, .int .u8 88]) (by simp [cells8]) ho hg)
  have hH := fun v' w1 (h1 : base ≤ w1.heap.size) ho => hide (hexRun_any x 2 false w1 base v' (l ++ u8L [92, 88]) (by decide) (by omega) h1 (by rw [List.length_append, u8L_length]; simp; omega) ho)
  have hbh := hide hb
  clear hn hge hp hu hm
  go_enter Tryf.func12, Tryf.ntmps12
  go_wp2_with (first | (go_at_call 23; refine (hE _).out.mono ?_; rintro e w' ⟨rfl, rfl⟩) | (go_at_call 19; refine (hH v' w1 (Nat.le_trans hbh.out hR.out.2.size) hR.out.1).out.mono ?_; rintro e w' ⟨v2, rfl, ho2, hb2⟩) | (at_builtin; refine wpList_append_own _ rfl _ _ 27 rfl base 5 i0 (.int .u8 0) 1 1 Tryf.underlying27 hi hz0 hz1 hz2 rfl (by decide) _ _ _ rfl (World.ownsRow.alloc ownh.out _) ⟨w.heap.size, 0, none⟩ 2 2 [.int .u8 92, .int .u8 88] rfl rfl (by intro j u hj; match j, hj with | 0, hj => simp at hj; subst hj; simp [Addr.add] | 1, hj => simp at hj; subst hj; simp [Addr.add]) (by intro u hu; simp at hu; rcases hu with rfl | rfl <;> rfl) (by unfold maxLen; omega) (by omega) (by simp; omega) ?_; intro v' w1 hown' hg' _; have hR := hput v' w1 _ hown' hg'; clear hown' hg'))
  go_ret
  refine ⟨_, rfl, ?_, hR.out.2.trans hb2⟩
  have e : l ++ u8L (92 :: 88 :: hexL x false 2) = l ++ u8L [92, 88] ++ u8L (hexL x false 2) := by rw [List.append_assoc, ← u8L_app]; rfl
  rw [e]
  exact ho2
set_option maxRecDepth 20000 in
set_option maxHeartbeats 4000000 in
theorem eb_hex10b (x b : Nat) (w : World) (base : Nat) (d : Value) (l : List UInt8) (hx : x ≤ 255) (hb8 : b ≤ 255) (hb : base ≤ w.heap.size) (hl : l.length ≤ 1500000) (own : Own base d l w) (hm : b % 4 % 3 = 2) (hp : b / 4 % 2 = 1) (hu : b / 8 % 2 = 0) :
    Calls Tryf.prog 12 #[d, .int .u8 (x : Int), .int .u8 (b : Int)] w (App base (l ++ u8L (92 :: 88 :: hexL x false 2)) w) := by
  have hx' : (x : Int) ≤ 255 := by omega
  have hx0 : (0 : Int) ≤ (x : Int) := by omega
  have hbb : (b : Int) ≤ 255 := by omega
  have hb0 : (0 : Int) ≤ (b : Int) := by omega
  obtain ⟨i0, hi, hz0, hz1, hz2⟩ := info_parts info5
  have hA := u8_low 2 b 3 rfl (by decide) hb8
  simp only [show (2 : Nat) ^ 2 = 4 from rfl] at hA
  have ownh := hide own
  clear own
  have hM : ((b % 4 : Nat) : Int).tmod 3 = 2 := by rw [Int.tmod_eq_emod_of_nonneg (by omega)]; omega
  have hP := u8_low 1 (b / 4) 1 rfl (by decide) (by omega)
  rw [show (b / 4 % 2 ^ 1 : Nat) = 1 from hp, show ((b / 4 : Nat) : Int) = (b : Int) / 4 by omega] at hP
  have hU := u8_low 1 (b / 8) 1 rfl (by decide) (by omega)
  rw [show (b / 8 % 2 ^ 1 : Nat) = 0 from hu, show ((b / 8 : Nat) : Int) = (b : Int) / 8 by omega] at hU
  generalize b % 4 = q4 at *
  have hput := fun v' w1 o ho hg => hide (put_own (v' := v') (w1 := w1) (o := o) [92, 88] (by simp) hb ownh.out (m := 2) rfl (news := [.int .u8 92, .int .u8 88]) (by simp [cells8]) ho hg)
  have hH := fun v' w1 (h1 : base ≤ w1.heap.size) ho => hide (hexRun_any x 2 false w1 base v' (l ++ u8L [92, 88]) (by decide) (by omega) h1 (by rw [List.length_append, u8L_length]; simp; omega) ho)
  have hbh := hide hb
  clear hp hu hm
  go_enter Tryf.func12, Tryf.ntmps12
  go_wp2_with (first | (go_at_call 19; refine (hH v' w1 (Nat.le_trans hbh.out hR.out.2.size) hR.out.1).out.mono ?_; rintro e w' ⟨v2, rfl, ho2, hb2⟩) | (at_builtin; refine wpList_append_own _ rfl _ _ 27 rfl base 5 i0 (.int .u8 0) 1 1 Tryf.underlying27 hi hz0 hz1 hz2 rfl (by decide) _ _ _ rfl (World.ownsRow.alloc ownh.out _) ⟨w.heap.size, 0, none⟩ 2 2 [.int .u8 92, .int .u8 88] rfl rfl (by intro j u hj; match j, hj with | 0, hj => simp at hj; subst hj; simp [Addr.add] | 1, hj => simp at hj; subst hj; simp [Addr.add]) (by intro u hu; simp at hu; rcases hu with rfl | rfl <;> rfl) (by unfold maxLen; omega) (by omega) (by simp; omega) ?_; intro v' w1 hown' hg' _; have hR := hput v' w1 _ hown' hg'; clear hown' hg'))
  go_ret
  refine ⟨_, rfl, ?_, hR.out.2.trans hb2⟩
  have e : l ++ u8L (92 :: 88 :: hexL x false 2) = l ++ u8L [92, 88] ++ u8L (hexL x false 2) := by rw [List.append_assoc, ← u8L_app]; rfl
  rw [e]
  exact ho2
set_option maxRecDepth 20000 in
set_option maxHeartbeats 4000000 in
theorem eb_hex11a (x b : Nat) (w : World) (base : Nat) (d : Value) (l : List UInt8) (hx : x ≤ 255) (hb8 : b ≤ 255) (hb : base ≤ w.heap.size) (hl : l.length ≤ 1500000) (own : Own base d l w) (hm : b % 4 % 3 = 0) (hn : escN x = 0) (hge : 128 ≤ x) (hp : b / 4 % 2 = 1) (hu : b / 8 % 2 = 1) :
    Calls Tryf.prog 12 #[d, .int .u8 (x : Int), .int .u8 (b : Int)] w (App base (l ++ u8L (92 :: 88 :: hexL x true 2)) w) := by
  have hx' : (x : Int) ≤ 255 := by omega
  have hx0 : (0 : Int) ≤ (x : Int) := by omega
  have hbb : (b : Int) ≤ 255 := by omega
  have hb0 : (0 : Int) ≤ (b : Int) := by omega
  obtain ⟨i0, hi, hz0, hz1, hz2⟩ := info_parts info5
  have hA := u8_low 2 b 3 rfl (by decide) hb8
  simp only [show (2 : Nat) ^ 2 = 4 from rfl] at hA
  have ownh := hide own
  clear own
  have hM : ((b % 4 : Nat) : Int).tmod 3 = 0 := by rw [Int.tmod_eq_emod_of_nonneg (by omega)]; omega
  have hE := fun w => hide (escName_any x w (by omega))
  simp only [hn] at hE
  have hge' : (128 : Int) ≤ (x : Int) := by omega
  have hP := u8_low 1 (b / 4) 1 rfl (by decide) (by omega)
  rw [show (b / 4 % 2 ^ 1 : Nat) = 1 from hp, show ((b / 4 : Nat) : Int) = (b : Int) / 4 by omega] at hP
  have hU := u8_low 1 (b / 8) 1 rfl (by decide) (by omega)
  rw [show (b / 8 % 2 ^ 1 : Nat) = 1 from hu, show ((b / 8 : Nat) : Int) = (b : Int) / 8 by omega] at hU
  generalize b % 4 = q4 at *
  have hput := fun v' w1 o ho hg => hide (put_own (v' := v') (w1 := w1) (o := o) [92, 88] (by simp) hb ownh.out (m := 2) rfl (news := [.int .u8 92, .int .u8 88]) (by simp [cells8]) ho hg)
  have hH := fun v' w1 (h1 : base ≤ w1.heap.size) ho => hide (hexRun_any x 2 true w1 base v' (l ++ u8L [92, 88]) (by decide) (by omega) h1 (by rw [List.length_append, u8L_length]; simp; omega) ho)
  have hbh := hide hb
  clear hn hge hp hu hm
  go_enter Tryf.func12, Tryf.ntmps12
  go_wp2_with (first | (go_at_call 23; refine (hE _).out.mono ?_; rintro e w' ⟨rfl, rfl⟩) | (go_at_call 19; refine (hH v' w1 (Nat.le_trans hbh.out hR.out.2.size) hR.out.1).out.mono ?_; rintro e w' ⟨v2, rfl, ho2, hb2⟩) | (at_builtin; refine wpList_append_own _ rfl _ _ 27 rfl base 5 i0 (.int .u8 0) 1 1 Tryf.underlying27 hi hz0 hz1 hz2 rfl (by decide) _ _ _ rfl (World.ownsRow.alloc ownh.out _) ⟨w.heap.size, 0, none⟩ 2 2 [.int .u8 92, .int .u8 88] rfl rfl (by intro j u hj; match j, hj with | 0, hj => simp at hj; subst hj; simp [Addr.add] | 1, hj => simp at hj; subst hj; simp [Addr.add]) (by intro u hu; simp at hu; rcases hu with rfl | rfl <;> rfl) (by unfold maxLen; omega) (by omega) (by simp; omega) ?_; intro v' w1 hown' hg' _; have hR := hput v' w1 _ hown' hg'; clear hown' hg'))
  go_ret
  refine ⟨_, rfl, ?_, hR.out.2.trans hb2⟩
  have e : l ++ u8L (92 :: 88 :: hexL x true 2) = l ++ u8L [92, 88] ++ u8L (hexL x true 2) := by rw [List.append_assoc, ← u8L_app]; rfl
  rw [e]
  exact ho2
set_option maxRecDepth 20000 in
set_option maxHeartbeats 4000000 in
theorem eb_hex11b (x b : Nat) (w : World) (base : Nat) (d : Value) (l : List UInt8) (hx : x ≤ 255) (hb8 : b ≤ 255) (hb : base ≤ w.heap.size) (hl : l.length ≤ 1500000) (own : Own base d l w) (hm : b % 4 % 3 = 2) (hp : b / 4 % 2 = 1) (hu : b / 8 % 2 = 1) :
    Calls Tryf.prog 12 #[d, .int .u8 (x : Int), .int .u8 (b : Int)] w (App base (l ++ u8L (92 :: 88 :: hexL x true 2)) w) := by
  have hx' : (x : Int) ≤ 255 := by omega
  have hx0 : (0 : Int) ≤ (x : Int) := by omega
  have hbb : (b : Int) ≤ 255 := by omega
  have hb0 : (0 : Int) ≤ (b : Int) := by omega
  obtain ⟨i0, hi, hz0, hz1, hz2⟩ := info_parts info5
  have hA := u8_low 2 b 3 rfl (by decide) hb8
  simp only [show (2 : Nat) ^ 2 = 4 from rfl] at hA
  have ownh := hide own
  clear own
  have hM : ((b % 4 : Nat) : Int).tmod 3 = 2 := by rw [Int.tmod_eq_emod_of_nonneg (by omega)]; omega
  have hP := u8_low 1 (b / 4) 1 rfl (by decide) (by omega)
  rw [show (b / 4 % 2 ^ 1 : Nat) = 1 from hp, show ((b / 4 : Nat) : Int) = (b : Int) / 4 by omega] at hP
  have hU := u8_low 1 (b / 8) 1 rfl (by decide) (by omega)
  rw [show (b / 8 % 2 ^ 1 : Nat) = 1 from hu, show ((b / 8 : Nat) : Int) = (b : Int) / 8 by omega] at hU
  generalize b % 4 = q4 at *
  have hput := fun v' w1 o ho hg => hide (put_own (v' := v') (w1 := w1) (o := o) [92, 88] (by simp) hb ownh.out (m := 2) rfl (news := [.int .u8 92, .int .u8 88]) (by simp [cells8]) ho hg)
  have hH := fun v' w1 (h1 : base ≤ w1.heap.size) ho => hide (hexRun_any x 2 true w1 base v' (l ++ u8L [92, 88]) (by decide) (by omega) h1 (by rw [List.length_append, u8L_length]; simp; omega) ho)
  have hbh := hide hb
  clear hp hu hm
  go_enter Tryf.func12, Tryf.ntmps12
  go_wp2_with (first | (go_at_call 19; refine (hH v' w1 (Nat.le_trans hbh.out hR.out.2.size) hR.out.1).out.mono ?_; rintro e w' ⟨v2, rfl, ho2, hb2⟩) | (at_builtin; refine wpList_append_own _ rfl _ _ 27 rfl base 5 i0 (.int .u8 0) 1 1 Tryf.underlying27 hi hz0 hz1 hz2 rfl (by decide) _ _ _ rfl (World.ownsRow.alloc ownh.out _) ⟨w.heap.size, 0, none⟩ 2 2 [.int .u8 92, .int .u8 88] rfl rfl (by intro j u hj; match j, hj with | 0, hj => simp at hj; subst hj; simp [Addr.add] | 1, hj => simp at hj; subst hj; simp [Addr.add]) (by intro u hu; simp at hu; rcases hu with rfl | rfl <;> rfl) (by unfold maxLen; omega) (by omega) (by simp; omega) ?_; intro v' w1 hown' hg' _; have hR := hput v' w1 _ hown' hg'; clear hown' hg'))
  go_ret
  refine ⟨_, rfl, ?_, hR.out.2.trans hb2⟩
  have e : l ++ u8L (92 :: 88 :: hexL x true 2) = l ++ u8L [92, 88] ++ u8L (hexL x true 2) := by rw [List.append_assoc, ← u8L_app]; rfl
  rw [e]
  exact ho2
theorem encByte_any (x b : Nat) (w : World) (base : Nat) (d : Value) (l : List UInt8) (hx : x ≤ 255) (hb8 : b ≤ 255) (hb : base ≤ w.heap.size) (hl : l.length ≤ 1500000) (own : Own base d l w) :
    ∃ E, Spell x E ∧ Calls Tryf.prog 12 #[d, .int .u8 (x : Int), .int .u8 (b : Int)] w (App base (l ++ u8L E) w) := by
  by_cases m1 : b % 4 % 3 = 1
  · exact ⟨_, spell_oct x hx, eb_oct x b w base d l hx hb8 hb hl own m1⟩
  by_cases m0 : b % 4 % 3 = 0
  · by_cases hn : escN x = 0
    · by_cases h128 : x < 128
      · refine ⟨_, spell_plain x h128 ?_ ?_, eb_plain x b w base d l hx hb8 hb hl own m0 hn h128⟩
        · rintro rfl; exact absurd hn (by decide)
        · rintro rfl; exact absurd hn (by decide)
      · rcases (show b / 4 % 2 = 0 ∨ b / 4 % 2 = 1 by omega) with hp | hp <;> rcases (show b / 8 % 2 = 0 ∨ b / 8 % 2 = 1 by omega) with hu | hu
        · exact ⟨_, spell_hex 120 x false (.inr rfl) hx, eb_hex00a x b w base d l hx hb8 hb hl own m0 hn (by omega) hp hu⟩
        · exact ⟨_, spell_hex 120 x true (.inr rfl) hx, eb_hex01a x b w base d l hx hb8 hb hl own m0 hn (by omega) hp hu⟩
        · exact ⟨_, spell_hex 88 x false (.inl rfl) hx, eb_hex10a x b w base d l hx hb8 hb hl own m0 hn (by omega) hp hu⟩
        · exact ⟨_, spell_hex 88 x true (.inl rfl) hx, eb_hex11a x b w base d l hx hb8 hb hl own m0 hn (by omega) hp hu⟩
    · exact ⟨_, spell_name x hn, eb_name x b w base d l hx hb8 hb hl own m0 hn⟩
  · have m2 : b % 4 % 3 = 2 := by omega
    rcases (show b / 4 % 2 = 0 ∨ b / 4 % 2 = 1 by omega) with hp | hp <;> rcases (show b / 8 % 2 = 0 ∨ b / 8 % 2 = 1 by omega) with hu | hu
    · exact ⟨_, spell_hex 120 x false (.inr rfl) hx, eb_hex00b x b w base d l hx hb8 hb hl own m2 hp hu⟩
    · exact ⟨_, spell_hex 120 x true (.inr rfl) hx, eb_hex01b x b w base d l hx hb8 hb hl own m2 hp hu⟩
    · exact ⟨_, spell_hex 88 x false (.inl rfl) hx, eb_hex10b x b w base d l hx hb8 hb hl own m2 hp hu⟩
    · exact ⟨_, spell_hex 88 x true (.inl rfl) hx, eb_hex11b x b w base d l hx hb8 hb hl own m2 hp hu⟩
end Go.Proofs.YtncoodplmpgnbaaFmt
