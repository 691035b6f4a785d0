/-
  The law's own spelling of a code point by contract: part 1. No condition beyond the bounds.
-/
import Derived.Test.YtncoodplmpgnbaaFmtGrS
namespace Go.Proofs.YtncoodplmpgnbaaFmt
open Go.RowKit Go.Lib Go.Shelf Go.Proofs
set_option linter.unusedVariables false
set_option linter.unusedSimpArgs false

set_option maxRecDepth 100000 in
set_option maxHeartbeats 4000000 in
theorem er_name0 (z b q : Nat) (w : World) (base : Nat) (d : Value) (l : List UInt8) (hz : z ≤ 1114111) (hb8 : b ≤ 255) (hq : q = 34 ∨ q = 39) (hb : base ≤ w.heap.size) (hl : l.length ≤ 1500000) (own : Own base d l w) (hu : b / 8 % 2 = 0) (hm : b % 8 % 6 = 0) (hn : escN z ≠ 0) :
    Calls Tryf.prog 16 #[d, .int .i32 (z : Int), .int .u8 (b : Int), .int .u8 (q : Int)] w (App base d (l ++ u8L [92, escN z]) w) := by
  have hz' : (z : Int) ≤ 1114111 := by omega
  have hz0 : (0 : Int) ≤ (z : Int) := by omega
  have hbb : (b : Int) ≤ 255 := by omega
  have hb0 : (0 : Int) ≤ (b : Int) := by omega
  have hq0 : (0 : Int) ≤ (q : Int) := by omega
  have hq1 : (q : Int) ≤ 39 := by omega
  obtain ⟨i0, hi, hiz0, hiz1, hiz2⟩ := info_parts info5
  have hA := u8_low 3 b 7 rfl (by decide) hb8
  simp only [show (2 : Nat) ^ 3 = 8 from rfl] at hA
  have ownh := hide own
  clear own hq
  have hM : ((b % 8 : Nat) : Int).tmod 6 = 0 := by rw [Int.tmod_eq_emod_of_nonneg (by omega)]; omega
  have hU := u8_low 1 (b / 8) 1 rfl (by decide) (by omega)
  rw [show (b / 8 % 2 ^ 1 : Nat) = 0 from hu, show ((b / 8 : Nat) : Int) = (b : Int) / 8 by omega] at hU
  have hE := fun w => hide (escName_any z w (by omega))
  have hlt := (escN_ok hn).2.1
  have ns : decide ((55296 : Int) ≤ (z : Int)) = false := by have := (escN_ok hn).2.2; rw [decide_eq_false_iff_not]; omega
  have hn' : ((escN z : Int) != 0) = true := by rw [bne_iff_ne]; omega
  have hlt' : (escN z : Int) ≤ 255 := by omega
  generalize escN z = nm at *
  generalize b % 8 = q8 at *
  have hput := fun v' w1 o ho hg ha => hide (put_own (v' := v') (w1 := w1) (o := o) [92, nm] (by simp; omega) hb ownh.out (m := 2) rfl (news := [.int .u8 92, .int .u8 (nm : Int)]) (by simp [cells8]) ho hg ha)
  clear hn hm hlt hu
  go_enter Tryf.func16, Tryf.ntmps16
  go_wp2_with (first | (go_at_call 23; refine (hE _).out.mono ?_; rintro e w' ⟨rfl, rfl⟩) | (at_builtin; refine wpList_append_own_at _ rfl _ _ 27 rfl base 5 i0 (.int .u8 0) 1 1 Tryf.underlying27 hi hiz0 hiz1 hiz2 rfl (by decide) _ _ _ rfl (World.ownsRow.alloc ownh.out _) ⟨w.heap.size, 0, none⟩ 2 2 [.int .u8 92, .int .u8 (nm : Int)] rfl rfl (by intro j u hj; match j, hj with | 0, hj => simp at hj; subst hj; simp [Addr.add] | 1, hj => simp at hj; subst hj; simp [Addr.add]) (by intro u hu; simp at hu; rcases hu with rfl | rfl <;> rfl) (by unfold maxLen; omega) (by omega) (by simp; omega) ?_; intro v' w1 hown' hg' _ hat'; have hR := hput v' w1 _ hown' hg' hat'; clear hown' hg' hat'))
  go_ret
  exact ⟨_, rfl, hR.out.1, hR.out.2⟩
set_option maxRecDepth 100000 in
set_option maxHeartbeats 4000000 in
theorem er_plain0 (z b q : Nat) (w : World) (base : Nat) (d : Value) (l : List UInt8) (hz : z ≤ 1114111) (hb8 : b ≤ 255) (hq : q = 34 ∨ q = 39) (hb : base ≤ w.heap.size) (hl : l.length ≤ 1500000) (own : Own base d l w) (hu : b / 8 % 2 = 0) (hm : b % 8 % 6 = 0) (hn : escN z = 0) (hlt : z < 128) (hzq : z ≠ q) :
    Calls Tryf.prog 16 #[d, .int .i32 (z : Int), .int .u8 (b : Int), .int .u8 (q : Int)] w (App base d (l ++ u8L [z]) w) := by
  have hz' : (z : Int) ≤ 1114111 := by omega
  have hz0 : (0 : Int) ≤ (z : Int) := by omega
  have hbb : (b : Int) ≤ 255 := by omega
  have hb0 : (0 : Int) ≤ (b : Int) := by omega
  have hq0 : (0 : Int) ≤ (q : Int) := by omega
  have hq1 : (q : Int) ≤ 39 := by omega
  obtain ⟨i0, hi, hiz0, hiz1, hiz2⟩ := info_parts info5
  have hA := u8_low 3 b 7 rfl (by decide) hb8
  simp only [show (2 : Nat) ^ 3 = 8 from rfl] at hA
  have ownh := hide own
  clear own hq
  have hM : ((b % 8 : Nat) : Int).tmod 6 = 0 := by rw [Int.tmod_eq_emod_of_nonneg (by omega)]; omega
  have hU := u8_low 1 (b / 8) 1 rfl (by decide) (by omega)
  rw [show (b / 8 % 2 ^ 1 : Nat) = 0 from hu, show ((b / 8 : Nat) : Int) = (b : Int) / 8 by omega] at hU
  have hE := fun w => hide (escName_any z w (by omega))
  simp only [hn] at hE
  have hlt' : (z : Int) < 128 := by omega
  have ns : decide ((55296 : Int) ≤ (z : Int)) = false := by rw [decide_eq_false_iff_not]; omega
  have n13 : ((z : Int) != 13) = true := by
    rw [bne_iff_ne]
    intro e
    have e2 : z = 13 := by omega
    subst e2
    exact absurd hn (by decide)
  have nq : ((z : Int) != (q : Int)) = true := by
    rw [bne_iff_ne]
    omega
  have n92 : ((z : Int) != 92) = true := by
    rw [bne_iff_ne]
    intro e
    have e2 : z = 92 := by omega
    subst e2
    exact absurd hn (by decide)
  generalize b % 8 = q8 at *
  have hput := fun v' w1 o ho hg ha => hide (put_own (v' := v') (w1 := w1) (o := o) [z] (by simp; omega) hb ownh.out (m := 1) rfl (news := [.int .u8 (z : Int)]) (by simp [cells8]) ho hg ha)
  clear hn hm hlt hzq hu
  go_enter Tryf.func16, Tryf.ntmps16
  go_wp2_with (first | (go_at_call 23; refine (hE _).out.mono ?_; rintro e w' ⟨rfl, rfl⟩) | (at_builtin; refine wpList_append_own_at _ rfl _ _ 27 rfl base 5 i0 (.int .u8 0) 1 1 Tryf.underlying27 hi hiz0 hiz1 hiz2 rfl (by decide) _ _ _ rfl (World.ownsRow.alloc ownh.out _) ⟨w.heap.size, 0, none⟩ 1 1 [.int .u8 (z : Int)] rfl rfl (by intro j u hj; match j, hj with | 0, hj => simp at hj; subst hj; simp [Addr.add]) (by intro u hu; simp at hu; subst hu; rfl) (by unfold maxLen; omega) (by omega) (by simp; omega) ?_; intro v' w1 hown' hg' _ hat'; have hR := hput v' w1 _ hown' hg' hat'; clear hown' hg' hat'))
  go_ret
  exact ⟨_, rfl, hR.out.1, hR.out.2⟩
set_option maxRecDepth 100000 in
set_option maxHeartbeats 4000000 in
theorem er_rawl0 (z b q : Nat) (w : World) (base : Nat) (d : Value) (l : List UInt8) (hz : z ≤ 1114111) (hb8 : b ≤ 255) (hq : q = 34 ∨ q = 39) (hb : base ≤ w.heap.size) (hl : l.length ≤ 1500000) (own : Own base d l w) (hu : b / 8 % 2 = 0) (hm : b % 8 % 6 = 0) (hn : escN z = 0) (h128 : 128 ≤ z) (hlo : z < 55296) :
    Calls Tryf.prog 16 #[d, .int .i32 (z : Int), .int .u8 (b : Int), .int .u8 (q : Int)] w (App base d (l ++ piece (z : Int) true) w) := by
  have hz' : (z : Int) ≤ 1114111 := by omega
  have hz0 : (0 : Int) ≤ (z : Int) := by omega
  have hbb : (b : Int) ≤ 255 := by omega
  have hb0 : (0 : Int) ≤ (b : Int) := by omega
  have hq0 : (0 : Int) ≤ (q : Int) := by omega
  have hq1 : (q : Int) ≤ 39 := by omega
  obtain ⟨i0, hi, hiz0, hiz1, hiz2⟩ := info_parts info5
  have hA := u8_low 3 b 7 rfl (by decide) hb8
  simp only [show (2 : Nat) ^ 3 = 8 from rfl] at hA
  have ownh := hide own
  clear own hq
  have hM : ((b % 8 : Nat) : Int).tmod 6 = 0 := by rw [Int.tmod_eq_emod_of_nonneg (by omega)]; omega
  have hU := u8_low 1 (b / 8) 1 rfl (by decide) (by omega)
  rw [show (b / 8 % 2 ^ 1 : Nat) = 0 from hu, show ((b / 8 : Nat) : Int) = (b : Int) / 8 by omega] at hU
  have hE := fun w => hide (escName_any z w (by omega))
  simp only [hn] at hE
  have n128 : ¬ (z : Int) < 128 := by omega
  have g128 : (128 : Int) ≤ (z : Int) := by omega
  have ns : decide ((55296 : Int) ≤ (z : Int)) = false := by rw [decide_eq_false_iff_not]; omega
  have hO := hide (uni_any z w base d l hb (by omega) ownh.out hz)
  generalize b % 8 = q8 at *
  clear hn hm h128 hlo hu hz
  go_enter Tryf.func16, Tryf.ntmps16
  go_wp2_with (first | (go_at_call 23; refine (hE _).out.mono ?_; rintro e w' ⟨rfl, rfl⟩) | (go_at_call 17; refine hO.out.mono ?_; rintro e w' ⟨v', rfl, ho', hb'⟩))
  go_ret
  exact ⟨_, rfl, ho', hb'⟩
set_option maxRecDepth 100000 in
set_option maxHeartbeats 4000000 in
theorem er_rawh0 (z b q : Nat) (w : World) (base : Nat) (d : Value) (l : List UInt8) (hz : z ≤ 1114111) (hb8 : b ≤ 255) (hq : q = 34 ∨ q = 39) (hb : base ≤ w.heap.size) (hl : l.length ≤ 1500000) (own : Own base d l w) (hu : b / 8 % 2 = 0) (hm : b % 8 % 6 = 0) (hn : escN z = 0) (h128 : 57343 < z) :
    Calls Tryf.prog 16 #[d, .int .i32 (z : Int), .int .u8 (b : Int), .int .u8 (q : Int)] w (App base d (l ++ piece (z : Int) true) w) := by
  have hz' : (z : Int) ≤ 1114111 := by omega
  have hz0 : (0 : Int) ≤ (z : Int) := by omega
  have hbb : (b : Int) ≤ 255 := by omega
  have hb0 : (0 : Int) ≤ (b : Int) := by omega
  have hq0 : (0 : Int) ≤ (q : Int) := by omega
  have hq1 : (q : Int) ≤ 39 := by omega
  obtain ⟨i0, hi, hiz0, hiz1, hiz2⟩ := info_parts info5
  have hA := u8_low 3 b 7 rfl (by decide) hb8
  simp only [show (2 : Nat) ^ 3 = 8 from rfl] at hA
  have ownh := hide own
  clear own hq
  have hM : ((b % 8 : Nat) : Int).tmod 6 = 0 := by rw [Int.tmod_eq_emod_of_nonneg (by omega)]; omega
  have hU := u8_low 1 (b / 8) 1 rfl (by decide) (by omega)
  rw [show (b / 8 % 2 ^ 1 : Nat) = 0 from hu, show ((b / 8 : Nat) : Int) = (b : Int) / 8 by omega] at hU
  have hE := fun w => hide (escName_any z w (by omega))
  simp only [hn] at hE
  have n128 : ¬ (z : Int) < 128 := by omega
  have g128 : (128 : Int) ≤ (z : Int) := by omega
  have s1 : (55296 : Int) ≤ (z : Int) := by omega
  have ns : ¬ (z : Int) ≤ 57343 := by omega
  have hO := hide (uni_any z w base d l hb (by omega) ownh.out hz)
  generalize b % 8 = q8 at *
  clear hn hm h128 hu hz
  go_enter Tryf.func16, Tryf.ntmps16
  go_wp2_with (first | (go_at_call 23; refine (hE _).out.mono ?_; rintro e w' ⟨rfl, rfl⟩) | (go_at_call 17; refine hO.out.mono ?_; rintro e w' ⟨v', rfl, ho', hb'⟩))
  go_ret
  exact ⟨_, rfl, ho', hb'⟩
set_option maxRecDepth 100000 in
set_option maxHeartbeats 4000000 in
theorem er_oct0 (z b q : Nat) (w : World) (base : Nat) (d : Value) (l : List UInt8) (hz : z ≤ 1114111) (hb8 : b ≤ 255) (hq : q = 34 ∨ q = 39) (hb : base ≤ w.heap.size) (hl : l.length ≤ 1500000) (own : Own base d l w) (hu : b / 8 % 2 = 0) (hm : b % 8 % 6 = 4) (h255 : z ≤ 255) :
    Calls Tryf.prog 16 #[d, .int .i32 (z : Int), .int .u8 (b : Int), .int .u8 (q : Int)] w (App base d (l ++ u8L (92 :: octL z)) w) := by
  have hz' : (z : Int) ≤ 1114111 := by omega
  have hz0 : (0 : Int) ≤ (z : Int) := by omega
  have hbb : (b : Int) ≤ 255 := by omega
  have hb0 : (0 : Int) ≤ (b : Int) := by omega
  have hq0 : (0 : Int) ≤ (q : Int) := by omega
  have hq1 : (q : Int) ≤ 39 := by omega
  obtain ⟨i0, hi, hiz0, hiz1, hiz2⟩ := info_parts info5
  have hA := u8_low 3 b 7 rfl (by decide) hb8
  simp only [show (2 : Nat) ^ 3 = 8 from rfl] at hA
  have ownh := hide own
  clear own hq
  have hM : ((b % 8 : Nat) : Int).tmod 6 = 4 := by rw [Int.tmod_eq_emod_of_nonneg (by omega)]; omega
  have hU := u8_low 1 (b / 8) 1 rfl (by decide) (by omega)
  rw [show (b / 8 % 2 ^ 1 : Nat) = 0 from hu, show ((b / 8 : Nat) : Int) = (b : Int) / 8 by omega] at hU
  have h255' : (z : Int) ≤ 255 := by omega
  have ns : decide ((55296 : Int) ≤ (z : Int)) = false := by rw [decide_eq_false_iff_not]; omega
  have hO := hide (oct3_any z w base d l h255 hb (by omega) ownh.out)
  generalize b % 8 = q8 at *
  clear hm hu h255
  go_enter Tryf.func16, Tryf.ntmps16
  go_wp2_with (go_at_call 24; refine hO.out.mono ?_; rintro e w' ⟨v', rfl, ho', hb'⟩)
  go_ret
  exact ⟨_, rfl, ho', hb'⟩
set_option maxRecDepth 100000 in
set_option maxHeartbeats 4000000 in
theorem er_u40 (z b q : Nat) (w : World) (base : Nat) (d : Value) (l : List UInt8) (hz : z ≤ 1114111) (hb8 : b ≤ 255) (hq : q = 34 ∨ q = 39) (hb : base ≤ w.heap.size) (hl : l.length ≤ 1500000) (own : Own base d l w) (hu : b / 8 % 2 = 0) (hm : b % 8 % 6 = 2) (hle : z ≤ 65535) :
    Calls Tryf.prog 16 #[d, .int .i32 (z : Int), .int .u8 (b : Int), .int .u8 (q : Int)] w (App base d (l ++ u8L (92 :: 117 :: hexL z false 4)) w) := by
  have hz' : (z : Int) ≤ 1114111 := by omega
  have hz0 : (0 : Int) ≤ (z : Int) := by omega
  have hbb : (b : Int) ≤ 255 := by omega
  have hb0 : (0 : Int) ≤ (b : Int) := by omega
  have hq0 : (0 : Int) ≤ (q : Int) := by omega
  have hq1 : (q : Int) ≤ 39 := by omega
  obtain ⟨i0, hi, hiz0, hiz1, hiz2⟩ := info_parts info5
  have hA := u8_low 3 b 7 rfl (by decide) hb8
  simp only [show (2 : Nat) ^ 3 = 8 from rfl] at hA
  have ownh := hide own
  clear own hq
  have hM : ((b % 8 : Nat) : Int).tmod 6 = 2 := by rw [Int.tmod_eq_emod_of_nonneg (by omega)]; omega
  have hU := u8_low 1 (b / 8) 1 rfl (by decide) (by omega)
  rw [show (b / 8 % 2 ^ 1 : Nat) = 0 from hu, show ((b / 8 : Nat) : Int) = (b : Int) / 8 by omega] at hU
  have hle' : (z : Int) ≤ 65535 := by omega
  generalize b % 8 = q8 at *
  have hput := fun v' w1 o ho hg ha => hide (put_own (v' := v') (w1 := w1) (o := o) [92, 117] (by simp) hb ownh.out (m := 2) rfl (news := [.int .u8 92, .int .u8 117]) (by simp [cells8]) ho hg ha)
  have hH := fun v' w1 (h1 : base ≤ w1.heap.size) ho => hide (hexRun_any z 4 false w1 base v' (l ++ u8L [92, 117]) (by decide) (by omega) h1 (by rw [List.length_append, u8L_length]; simp; omega) ho)
  have hbh := hide hb
  clear hle hm hu
  rcases sur3 z with hs | ⟨hs1, hs2⟩ | ⟨hs1, hs2⟩
  all_goals
    go_enter Tryf.func16, Tryf.ntmps16
    go_wp2_with (first | (go_at_call 19; refine (hH v' w1 (Nat.le_trans hbh.out hR.out.2.size) hR.out.1).out.mono ?_; rintro e w' ⟨v2, rfl, ho2, hb2⟩) | (at_builtin; refine wpList_append_own_at _ rfl _ _ 27 rfl base 5 i0 (.int .u8 0) 1 1 Tryf.underlying27 hi hiz0 hiz1 hiz2 rfl (by decide) _ _ _ rfl (World.ownsRow.alloc ownh.out _) ⟨w.heap.size, 0, none⟩ 2 2 [.int .u8 92, .int .u8 117] rfl rfl (by intro j u hj; match j, hj with | 0, hj => simp at hj; subst hj; simp [Addr.add] | 1, hj => simp at hj; subst hj; simp [Addr.add]) (by intro u hu; simp at hu; rcases hu with rfl | rfl <;> rfl) (by unfold maxLen; omega) (by omega) (by simp; omega) ?_; intro v' w1 hown' hg' _ hat'; have hR := hput v' w1 _ hown' hg' hat'; clear hown' hg' hat'))
    go_ret
    refine ⟨_, rfl, ?_, hR.out.2.trans hb2⟩
    have e : l ++ u8L (92 :: 117 :: hexL z false 4) = l ++ u8L [92, 117] ++ u8L (hexL z false 4) := by rw [List.append_assoc, ← u8L_app]; rfl
    rw [e]
    exact ho2
set_option maxRecDepth 100000 in
set_option maxHeartbeats 4000000 in
theorem er_x00 (z b q : Nat) (w : World) (base : Nat) (d : Value) (l : List UInt8) (hz : z ≤ 1114111) (hb8 : b ≤ 255) (hq : q = 34 ∨ q = 39) (hb : base ≤ w.heap.size) (hl : l.length ≤ 1500000) (own : Own base d l w) (hu : b / 8 % 2 = 0) (hm : b % 8 % 6 = 3) (hle : z ≤ 255) (hp : b / 16 % 2 = 0) :
    Calls Tryf.prog 16 #[d, .int .i32 (z : Int), .int .u8 (b : Int), .int .u8 (q : Int)] w (App base d (l ++ u8L (92 :: 120 :: hexL z false 2)) w) := by
  have hz' : (z : Int) ≤ 1114111 := by omega
  have hz0 : (0 : Int) ≤ (z : Int) := by omega
  have hbb : (b : Int) ≤ 255 := by omega
  have hb0 : (0 : Int) ≤ (b : Int) := by omega
  have hq0 : (0 : Int) ≤ (q : Int) := by omega
  have hq1 : (q : Int) ≤ 39 := by omega
  obtain ⟨i0, hi, hiz0, hiz1, hiz2⟩ := info_parts info5
  have hA := u8_low 3 b 7 rfl (by decide) hb8
  simp only [show (2 : Nat) ^ 3 = 8 from rfl] at hA
  have ownh := hide own
  clear own hq
  have hM : ((b % 8 : Nat) : Int).tmod 6 = 3 := by rw [Int.tmod_eq_emod_of_nonneg (by omega)]; omega
  have hU := u8_low 1 (b / 8) 1 rfl (by decide) (by omega)
  rw [show (b / 8 % 2 ^ 1 : Nat) = 0 from hu, show ((b / 8 : Nat) : Int) = (b : Int) / 8 by omega] at hU
  have hP := u8_low 1 (b / 16) 1 rfl (by decide) (by omega)
  rw [show (b / 16 % 2 ^ 1 : Nat) = 0 from hp, show ((b / 16 : Nat) : Int) = (b : Int) / 16 by omega] at hP
  have hle' : (z : Int) ≤ 255 := by omega
  have ns : decide ((55296 : Int) ≤ (z : Int)) = false := by rw [decide_eq_false_iff_not]; omega
  generalize b % 8 = q8 at *
  have hput := fun v' w1 o ho hg ha => hide (put_own (v' := v') (w1 := w1) (o := o) [92, 120] (by simp) hb ownh.out (m := 2) rfl (news := [.int .u8 92, .int .u8 120]) (by simp [cells8]) ho hg ha)
  have hH := fun v' w1 (h1 : base ≤ w1.heap.size) ho => hide (hexRun_any z 2 false w1 base v' (l ++ u8L [92, 120]) (by decide) (by omega) h1 (by rw [List.length_append, u8L_length]; simp; omega) ho)
  have hbh := hide hb
  clear hle hp hm hu
  go_enter Tryf.func16, Tryf.ntmps16
  go_wp2_with (first | (go_at_call 19; refine (hH v' w1 (Nat.le_trans hbh.out hR.out.2.size) hR.out.1).out.mono ?_; rintro e w' ⟨v2, rfl, ho2, hb2⟩) | (at_builtin; refine wpList_append_own_at _ rfl _ _ 27 rfl base 5 i0 (.int .u8 0) 1 1 Tryf.underlying27 hi hiz0 hiz1 hiz2 rfl (by decide) _ _ _ rfl (World.ownsRow.alloc ownh.out _) ⟨w.heap.size, 0, none⟩ 2 2 [.int .u8 92, .int .u8 120] rfl rfl (by intro j u hj; match j, hj with | 0, hj => simp at hj; subst hj; simp [Addr.add] | 1, hj => simp at hj; subst hj; simp [Addr.add]) (by intro u hu; simp at hu; rcases hu with rfl | rfl <;> rfl) (by unfold maxLen; omega) (by omega) (by simp; omega) ?_; intro v' w1 hown' hg' _ hat'; have hR := hput v' w1 _ hown' hg' hat'; clear hown' hg' hat'))
  go_ret
  refine ⟨_, rfl, ?_, hR.out.2.trans hb2⟩
  have e : l ++ u8L (92 :: 120 :: hexL z false 2) = l ++ u8L [92, 120] ++ u8L (hexL z false 2) := by rw [List.append_assoc, ← u8L_app]; rfl
  rw [e]
  exact ho2
end Go.Proofs.YtncoodplmpgnbaaFmt
