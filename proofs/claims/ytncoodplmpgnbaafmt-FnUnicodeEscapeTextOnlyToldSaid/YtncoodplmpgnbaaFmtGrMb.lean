/-
  The law's own spelling of a code point by contract: part 4. No condition beyond the bounds.
-/
import Derived.Test.YtncoodplmpgnbaaFmtGrS
namespace Go.Proofs.YtncoodplmpgnbaaFmt
open Go.RowKit Go.Lib Go.Shelf Go.Proofs
set_option linter.unusedVariables false
set_option linter.unusedSimpArgs false

set_option maxRecDepth 100000 in
set_option maxHeartbeats 4000000 in
theorem er_x11 (z b q : Nat) (w : World) (base : Nat) (d : Value) (l : List UInt8) (hz : z ≤ 1114111) (hb8 : b ≤ 255) (hq : q = 34 ∨ q = 39) (hb : base ≤ w.heap.size) (hl : l.length ≤ 1500000) (own : Own base d l w) (hu : b / 8 % 2 = 1) (hm : b % 8 % 6 = 3) (hle : z ≤ 255) (hp : b / 16 % 2 = 1) :
    Calls Tryf.prog 16 #[d, .int .i32 (z : Int), .int .u8 (b : Int), .int .u8 (q : Int)] w (App base d (l ++ u8L (92 :: 88 :: hexL z true 2)) w) := by
  have hz' : (z : Int) ≤ 1114111 := by omega
  have hz0 : (0 : Int) ≤ (z : Int) := by omega
  have hbb : (b : Int) ≤ 255 := by omega
  have hb0 : (0 : Int) ≤ (b : Int) := by omega
  have hq0 : (0 : Int) ≤ (q : Int) := by omega
  have hq1 : (q : Int) ≤ 39 := by omega
  obtain ⟨i0, hi, hiz0, hiz1, hiz2⟩ := info_parts info5
  have hA := u8_low 3 b 7 rfl (by decide) hb8
  simp only [show (2 : Nat) ^ 3 = 8 from rfl] at hA
  have ownh := hide own
  clear own hq
  have hM : ((b % 8 : Nat) : Int).tmod 6 = 3 := by rw [Int.tmod_eq_emod_of_nonneg (by omega)]; omega
  have hU := u8_low 1 (b / 8) 1 rfl (by decide) (by omega)
  rw [show (b / 8 % 2 ^ 1 : Nat) = 1 from hu, show ((b / 8 : Nat) : Int) = (b : Int) / 8 by omega] at hU
  have hP := u8_low 1 (b / 16) 1 rfl (by decide) (by omega)
  rw [show (b / 16 % 2 ^ 1 : Nat) = 1 from hp, show ((b / 16 : Nat) : Int) = (b : Int) / 16 by omega] at hP
  have hle' : (z : Int) ≤ 255 := by omega
  have ns : decide ((55296 : Int) ≤ (z : Int)) = false := by rw [decide_eq_false_iff_not]; omega
  generalize b % 8 = q8 at *
  have hput := fun v' w1 o ho hg ha => hide (put_own (v' := v') (w1 := w1) (o := o) [92, 88] (by simp) hb ownh.out (m := 2) rfl (news := [.int .u8 92, .int .u8 88]) (by simp [cells8]) ho hg ha)
  have hH := fun v' w1 (h1 : base ≤ w1.heap.size) ho => hide (hexRun_any z 2 true w1 base v' (l ++ u8L [92, 88]) (by decide) (by omega) h1 (by rw [List.length_append, u8L_length]; simp; omega) ho)
  have hbh := hide hb
  clear hle hp hm hu
  go_enter Tryf.func16, Tryf.ntmps16
  go_wp2_with (first | (go_at_call 19; refine (hH v' w1 (Nat.le_trans hbh.out hR.out.2.size) hR.out.1).out.mono ?_; rintro e w' ⟨v2, rfl, ho2, hb2⟩) | (at_builtin; refine wpList_append_own_at _ rfl _ _ 27 rfl base 5 i0 (.int .u8 0) 1 1 Tryf.underlying27 hi hiz0 hiz1 hiz2 rfl (by decide) _ _ _ rfl (World.ownsRow.alloc ownh.out _) ⟨w.heap.size, 0, none⟩ 2 2 [.int .u8 92, .int .u8 88] rfl rfl (by intro j u hj; match j, hj with | 0, hj => simp at hj; subst hj; simp [Addr.add] | 1, hj => simp at hj; subst hj; simp [Addr.add]) (by intro u hu; simp at hu; rcases hu with rfl | rfl <;> rfl) (by unfold maxLen; omega) (by omega) (by simp; omega) ?_; intro v' w1 hown' hg' _ hat'; have hR := hput v' w1 _ hown' hg' hat'; clear hown' hg' hat'))
  go_ret
  refine ⟨_, rfl, ?_, hR.out.2.trans hb2⟩
  have e : l ++ u8L (92 :: 88 :: hexL z true 2) = l ++ u8L [92, 88] ++ u8L (hexL z true 2) := by rw [List.append_assoc, ← u8L_app]; rfl
  rw [e]
  exact ho2
set_option maxRecDepth 100000 in
set_option maxHeartbeats 4000000 in
theorem er_Ua1 (z b q : Nat) (w : World) (base : Nat) (d : Value) (l : List UInt8) (hz : z ≤ 1114111) (hb8 : b ≤ 255) (hq : q = 34 ∨ q = 39) (hb : base ≤ w.heap.size) (hl : l.length ≤ 1500000) (own : Own base d l w) (hu : b / 8 % 2 = 1) (hm : b % 8 % 6 = 0) (hn : escN z = 0) (h1 : 55296 ≤ z) (h2 : z ≤ 57343) :
    Calls Tryf.prog 16 #[d, .int .i32 (z : Int), .int .u8 (b : Int), .int .u8 (q : Int)] w (App base d (l ++ u8L (92 :: 85 :: hexL z true 8)) w) := by
  have hz' : (z : Int) ≤ 1114111 := by omega
  have hz0 : (0 : Int) ≤ (z : Int) := by omega
  have hbb : (b : Int) ≤ 255 := by omega
  have hb0 : (0 : Int) ≤ (b : Int) := by omega
  have hq0 : (0 : Int) ≤ (q : Int) := by omega
  have hq1 : (q : Int) ≤ 39 := by omega
  obtain ⟨i0, hi, hiz0, hiz1, hiz2⟩ := info_parts info5
  have hA := u8_low 3 b 7 rfl (by decide) hb8
  simp only [show (2 : Nat) ^ 3 = 8 from rfl] at hA
  have ownh := hide own
  clear own hq
  have hM : ((b % 8 : Nat) : Int).tmod 6 = 0 := by rw [Int.tmod_eq_emod_of_nonneg (by omega)]; omega
  have hU := u8_low 1 (b / 8) 1 rfl (by decide) (by omega)
  rw [show (b / 8 % 2 ^ 1 : Nat) = 1 from hu, show ((b / 8 : Nat) : Int) = (b : Int) / 8 by omega] at hU
  have hE := fun w => hide (escName_any z w (by omega))
  simp only [hn] at hE
  have h1' : (55296 : Int) ≤ (z : Int) := by omega
  have h2' : (z : Int) ≤ 57343 := by omega
  have n128 : ¬ (z : Int) < 128 := by omega
  have g128 : (128 : Int) ≤ (z : Int) := by omega
  generalize b % 8 = q8 at *
  have hput := fun v' w1 o ho hg ha => hide (put_own (v' := v') (w1 := w1) (o := o) [92, 85] (by simp) hb ownh.out (m := 2) rfl (news := [.int .u8 92, .int .u8 85]) (by simp [cells8]) ho hg ha)
  have hH := fun v' w1 (h1 : base ≤ w1.heap.size) ho => hide (hexRun_any z 8 true w1 base v' (l ++ u8L [92, 85]) (by decide) (by omega) h1 (by rw [List.length_append, u8L_length]; simp; omega) ho)
  have hbh := hide hb
  clear hn h1 h2 hm hu
  go_enter Tryf.func16, Tryf.ntmps16
  go_wp2_with (first | (go_at_call 23; refine (hE _).out.mono ?_; rintro e w' ⟨rfl, rfl⟩) | (go_at_call 19; refine (hH v' w1 (Nat.le_trans hbh.out hR.out.2.size) hR.out.1).out.mono ?_; rintro e w' ⟨v2, rfl, ho2, hb2⟩) | (at_builtin; refine wpList_append_own_at _ rfl _ _ 27 rfl base 5 i0 (.int .u8 0) 1 1 Tryf.underlying27 hi hiz0 hiz1 hiz2 rfl (by decide) _ _ _ rfl (World.ownsRow.alloc ownh.out _) ⟨w.heap.size, 0, none⟩ 2 2 [.int .u8 92, .int .u8 85] rfl rfl (by intro j u hj; match j, hj with | 0, hj => simp at hj; subst hj; simp [Addr.add] | 1, hj => simp at hj; subst hj; simp [Addr.add]) (by intro u hu; simp at hu; rcases hu with rfl | rfl <;> rfl) (by unfold maxLen; omega) (by omega) (by simp; omega) ?_; intro v' w1 hown' hg' _ hat'; have hR := hput v' w1 _ hown' hg' hat'; clear hown' hg' hat'))
  go_ret
  refine ⟨_, rfl, ?_, hR.out.2.trans hb2⟩
  have e : l ++ u8L (92 :: 85 :: hexL z true 8) = l ++ u8L [92, 85] ++ u8L (hexL z true 8) := by rw [List.append_assoc, ← u8L_app]; rfl
  rw [e]
  exact ho2
set_option maxRecDepth 100000 in
set_option maxHeartbeats 4000000 in
theorem er_Ub1 (z b q : Nat) (w : World) (base : Nat) (d : Value) (l : List UInt8) (hz : z ≤ 1114111) (hb8 : b ≤ 255) (hq : q = 34 ∨ q = 39) (hb : base ≤ w.heap.size) (hl : l.length ≤ 1500000) (own : Own base d l w) (hu : b / 8 % 2 = 1) (hm : b % 8 % 6 = 2) (hgt : 65535 < z) :
    Calls Tryf.prog 16 #[d, .int .i32 (z : Int), .int .u8 (b : Int), .int .u8 (q : Int)] w (App base d (l ++ u8L (92 :: 85 :: hexL z true 8)) w) := by
  have hz' : (z : Int) ≤ 1114111 := by omega
  have hz0 : (0 : Int) ≤ (z : Int) := by omega
  have hbb : (b : Int) ≤ 255 := by omega
  have hb0 : (0 : Int) ≤ (b : Int) := by omega
  have hq0 : (0 : Int) ≤ (q : Int) := by omega
  have hq1 : (q : Int) ≤ 39 := by omega
  obtain ⟨i0, hi, hiz0, hiz1, hiz2⟩ := info_parts info5
  have hA := u8_low 3 b 7 rfl (by decide) hb8
  simp only [show (2 : Nat) ^ 3 = 8 from rfl] at hA
  have ownh := hide own
  clear own hq
  have hM : ((b % 8 : Nat) : Int).tmod 6 = 2 := by rw [Int.tmod_eq_emod_of_nonneg (by omega)]; omega
  have hU := u8_low 1 (b / 8) 1 rfl (by decide) (by omega)
  rw [show (b / 8 % 2 ^ 1 : Nat) = 1 from hu, show ((b / 8 : Nat) : Int) = (b : Int) / 8 by omega] at hU
  have hgt' : ¬ (z : Int) ≤ 65535 := by omega
  have hs1 : (55296 : Int) ≤ (z : Int) := by omega
  have hs2 : ¬ (z : Int) ≤ 57343 := by omega
  generalize b % 8 = q8 at *
  have hput := fun v' w1 o ho hg ha => hide (put_own (v' := v') (w1 := w1) (o := o) [92, 85] (by simp) hb ownh.out (m := 2) rfl (news := [.int .u8 92, .int .u8 85]) (by simp [cells8]) ho hg ha)
  have hH := fun v' w1 (h1 : base ≤ w1.heap.size) ho => hide (hexRun_any z 8 true w1 base v' (l ++ u8L [92, 85]) (by decide) (by omega) h1 (by rw [List.length_append, u8L_length]; simp; omega) ho)
  have hbh := hide hb
  clear hgt hm hu
  go_enter Tryf.func16, Tryf.ntmps16
  go_wp2_with (first | (go_at_call 19; refine (hH v' w1 (Nat.le_trans hbh.out hR.out.2.size) hR.out.1).out.mono ?_; rintro e w' ⟨v2, rfl, ho2, hb2⟩) | (at_builtin; refine wpList_append_own_at _ rfl _ _ 27 rfl base 5 i0 (.int .u8 0) 1 1 Tryf.underlying27 hi hiz0 hiz1 hiz2 rfl (by decide) _ _ _ rfl (World.ownsRow.alloc ownh.out _) ⟨w.heap.size, 0, none⟩ 2 2 [.int .u8 92, .int .u8 85] rfl rfl (by intro j u hj; match j, hj with | 0, hj => simp at hj; subst hj; simp [Addr.add] | 1, hj => simp at hj; subst hj; simp [Addr.add]) (by intro u hu; simp at hu; rcases hu with rfl | rfl <;> rfl) (by unfold maxLen; omega) (by omega) (by simp; omega) ?_; intro v' w1 hown' hg' _ hat'; have hR := hput v' w1 _ hown' hg' hat'; clear hown' hg' hat'))
  go_ret
  refine ⟨_, rfl, ?_, hR.out.2.trans hb2⟩
  have e : l ++ u8L (92 :: 85 :: hexL z true 8) = l ++ u8L [92, 85] ++ u8L (hexL z true 8) := by rw [List.append_assoc, ← u8L_app]; rfl
  rw [e]
  exact ho2
set_option maxRecDepth 100000 in
set_option maxHeartbeats 4000000 in
theorem er_Uc1 (z b q : Nat) (w : World) (base : Nat) (d : Value) (l : List UInt8) (hz : z ≤ 1114111) (hb8 : b ≤ 255) (hq : q = 34 ∨ q = 39) (hb : base ≤ w.heap.size) (hl : l.length ≤ 1500000) (own : Own base d l w) (hu : b / 8 % 2 = 1) (hm : b % 8 % 6 = 3) (hgt : 255 < z) :
    Calls Tryf.prog 16 #[d, .int .i32 (z : Int), .int .u8 (b : Int), .int .u8 (q : Int)] w (App base d (l ++ u8L (92 :: 85 :: hexL z true 8)) w) := by
  have hz' : (z : Int) ≤ 1114111 := by omega
  have hz0 : (0 : Int) ≤ (z : Int) := by omega
  have hbb : (b : Int) ≤ 255 := by omega
  have hb0 : (0 : Int) ≤ (b : Int) := by omega
  have hq0 : (0 : Int) ≤ (q : Int) := by omega
  have hq1 : (q : Int) ≤ 39 := by omega
  obtain ⟨i0, hi, hiz0, hiz1, hiz2⟩ := info_parts info5
  have hA := u8_low 3 b 7 rfl (by decide) hb8
  simp only [show (2 : Nat) ^ 3 = 8 from rfl] at hA
  have ownh := hide own
  clear own hq
  have hM : ((b % 8 : Nat) : Int).tmod 6 = 3 := by rw [Int.tmod_eq_emod_of_nonneg (by omega)]; omega
  have hU := u8_low 1 (b / 8) 1 rfl (by decide) (by omega)
  rw [show (b / 8 % 2 ^ 1 : Nat) = 1 from hu, show ((b / 8 : Nat) : Int) = (b : Int) / 8 by omega] at hU
  have hgt' : ¬ (z : Int) ≤ 255 := by omega
  generalize b % 8 = q8 at *
  have hput := fun v' w1 o ho hg ha => hide (put_own (v' := v') (w1 := w1) (o := o) [92, 85] (by simp) hb ownh.out (m := 2) rfl (news := [.int .u8 92, .int .u8 85]) (by simp [cells8]) ho hg ha)
  have hH := fun v' w1 (h1 : base ≤ w1.heap.size) ho => hide (hexRun_any z 8 true w1 base v' (l ++ u8L [92, 85]) (by decide) (by omega) h1 (by rw [List.length_append, u8L_length]; simp; omega) ho)
  have hbh := hide hb
  clear hgt hm hu
  rcases sur3 z with hs | ⟨hs1, hs2⟩ | ⟨hs1, hs2⟩
  all_goals
    go_enter Tryf.func16, Tryf.ntmps16
    go_wp2_with (first | (go_at_call 19; refine (hH v' w1 (Nat.le_trans hbh.out hR.out.2.size) hR.out.1).out.mono ?_; rintro e w' ⟨v2, rfl, ho2, hb2⟩) | (at_builtin; refine wpList_append_own_at _ rfl _ _ 27 rfl base 5 i0 (.int .u8 0) 1 1 Tryf.underlying27 hi hiz0 hiz1 hiz2 rfl (by decide) _ _ _ rfl (World.ownsRow.alloc ownh.out _) ⟨w.heap.size, 0, none⟩ 2 2 [.int .u8 92, .int .u8 85] rfl rfl (by intro j u hj; match j, hj with | 0, hj => simp at hj; subst hj; simp [Addr.add] | 1, hj => simp at hj; subst hj; simp [Addr.add]) (by intro u hu; simp at hu; rcases hu with rfl | rfl <;> rfl) (by unfold maxLen; omega) (by omega) (by simp; omega) ?_; intro v' w1 hown' hg' _ hat'; have hR := hput v' w1 _ hown' hg' hat'; clear hown' hg' hat'))
    go_ret
    refine ⟨_, rfl, ?_, hR.out.2.trans hb2⟩
    have e : l ++ u8L (92 :: 85 :: hexL z true 8) = l ++ u8L [92, 85] ++ u8L (hexL z true 8) := by rw [List.append_assoc, ← u8L_app]; rfl
    rw [e]
    exact ho2
set_option maxRecDepth 100000 in
set_option maxHeartbeats 4000000 in
theorem er_Ud1 (z b q : Nat) (w : World) (base : Nat) (d : Value) (l : List UInt8) (hz : z ≤ 1114111) (hb8 : b ≤ 255) (hq : q = 34 ∨ q = 39) (hb : base ≤ w.heap.size) (hl : l.length ≤ 1500000) (own : Own base d l w) (hu : b / 8 % 2 = 1) (hm : b % 8 % 6 = 4) (hgt : 255 < z) :
    Calls Tryf.prog 16 #[d, .int .i32 (z : Int), .int .u8 (b : Int), .int .u8 (q : Int)] w (App base d (l ++ u8L (92 :: 85 :: hexL z true 8)) w) := by
  have hz' : (z : Int) ≤ 1114111 := by omega
  have hz0 : (0 : Int) ≤ (z : Int) := by omega
  have hbb : (b : Int) ≤ 255 := by omega
  have hb0 : (0 : Int) ≤ (b : Int) := by omega
  have hq0 : (0 : Int) ≤ (q : Int) := by omega
  have hq1 : (q : Int) ≤ 39 := by omega
  obtain ⟨i0, hi, hiz0, hiz1, hiz2⟩ := info_parts info5
  have hA := u8_low 3 b 7 rfl (by decide) hb8
  simp only [show (2 : Nat) ^ 3 = 8 from rfl] at hA
  have ownh := hide own
  clear own hq
  have hM : ((b % 8 : Nat) : Int).tmod 6 = 4 := by rw [Int.tmod_eq_emod_of_nonneg (by omega)]; omega
  have hU := u8_low 1 (b / 8) 1 rfl (by decide) (by omega)
  rw [show (b / 8 % 2 ^ 1 : Nat) = 1 from hu, show ((b / 8 : Nat) : Int) = (b : Int) / 8 by omega] at hU
  have hgt' : ¬ (z : Int) ≤ 255 := by omega
  generalize b % 8 = q8 at *
  have hput := fun v' w1 o ho hg ha => hide (put_own (v' := v') (w1 := w1) (o := o) [92, 85] (by simp) hb ownh.out (m := 2) rfl (news := [.int .u8 92, .int .u8 85]) (by simp [cells8]) ho hg ha)
  have hH := fun v' w1 (h1 : base ≤ w1.heap.size) ho => hide (hexRun_any z 8 true w1 base v' (l ++ u8L [92, 85]) (by decide) (by omega) h1 (by rw [List.length_append, u8L_length]; simp; omega) ho)
  have hbh := hide hb
  clear hgt hm hu
  rcases sur3 z with hs | ⟨hs1, hs2⟩ | ⟨hs1, hs2⟩
  all_goals
    go_enter Tryf.func16, Tryf.ntmps16
    go_wp2_with (first | (go_at_call 19; refine (hH v' w1 (Nat.le_trans hbh.out hR.out.2.size) hR.out.1).out.mono ?_; rintro e w' ⟨v2, rfl, ho2, hb2⟩) | (at_builtin; refine wpList_append_own_at _ rfl _ _ 27 rfl base 5 i0 (.int .u8 0) 1 1 Tryf.underlying27 hi hiz0 hiz1 hiz2 rfl (by decide) _ _ _ rfl (World.ownsRow.alloc ownh.out _) ⟨w.heap.size, 0, none⟩ 2 2 [.int .u8 92, .int .u8 85] rfl rfl (by intro j u hj; match j, hj with | 0, hj => simp at hj; subst hj; simp [Addr.add] | 1, hj => simp at hj; subst hj; simp [Addr.add]) (by intro u hu; simp at hu; rcases hu with rfl | rfl <;> rfl) (by unfold maxLen; omega) (by omega) (by simp; omega) ?_; intro v' w1 hown' hg' _ hat'; have hR := hput v' w1 _ hown' hg' hat'; clear hown' hg' hat'))
    go_ret
    refine ⟨_, rfl, ?_, hR.out.2.trans hb2⟩
    have e : l ++ u8L (92 :: 85 :: hexL z true 8) = l ++ u8L [92, 85] ++ u8L (hexL z true 8) := by rw [List.append_assoc, ← u8L_app]; rfl
    rw [e]
    exact ho2
set_option maxRecDepth 100000 in
set_option maxHeartbeats 4000000 in
theorem er_Ue1 (z b q : Nat) (w : World) (base : Nat) (d : Value) (l : List UInt8) (hz : z ≤ 1114111) (hb8 : b ≤ 255) (hq : q = 34 ∨ q = 39) (hb : base ≤ w.heap.size) (hl : l.length ≤ 1500000) (own : Own base d l w) (hu : b / 8 % 2 = 1) (hm : b % 8 % 6 = 5)  :
    Calls Tryf.prog 16 #[d, .int .i32 (z : Int), .int .u8 (b : Int), .int .u8 (q : Int)] w (App base d (l ++ u8L (92 :: 85 :: hexL z true 8)) w) := by
  have hz' : (z : Int) ≤ 1114111 := by omega
  have hz0 : (0 : Int) ≤ (z : Int) := by omega
  have hbb : (b : Int) ≤ 255 := by omega
  have hb0 : (0 : Int) ≤ (b : Int) := by omega
  have hq0 : (0 : Int) ≤ (q : Int) := by omega
  have hq1 : (q : Int) ≤ 39 := by omega
  obtain ⟨i0, hi, hiz0, hiz1, hiz2⟩ := info_parts info5
  have hA := u8_low 3 b 7 rfl (by decide) hb8
  simp only [show (2 : Nat) ^ 3 = 8 from rfl] at hA
  have ownh := hide own
  clear own hq
  have hM : ((b % 8 : Nat) : Int).tmod 6 = 5 := by rw [Int.tmod_eq_emod_of_nonneg (by omega)]; omega
  have hU := u8_low 1 (b / 8) 1 rfl (by decide) (by omega)
  rw [show (b / 8 % 2 ^ 1 : Nat) = 1 from hu, show ((b / 8 : Nat) : Int) = (b : Int) / 8 by omega] at hU
  generalize b % 8 = q8 at *
  have hput := fun v' w1 o ho hg ha => hide (put_own (v' := v') (w1 := w1) (o := o) [92, 85] (by simp) hb ownh.out (m := 2) rfl (news := [.int .u8 92, .int .u8 85]) (by simp [cells8]) ho hg ha)
  have hH := fun v' w1 (h1 : base ≤ w1.heap.size) ho => hide (hexRun_any z 8 true w1 base v' (l ++ u8L [92, 85]) (by decide) (by omega) h1 (by rw [List.length_append, u8L_length]; simp; omega) ho)
  have hbh := hide hb
  clear  hm hu
  rcases sur3 z with hs | ⟨hs1, hs2⟩ | ⟨hs1, hs2⟩
  all_goals
    go_enter Tryf.func16, Tryf.ntmps16
    go_wp2_with (first | (go_at_call 19; refine (hH v' w1 (Nat.le_trans hbh.out hR.out.2.size) hR.out.1).out.mono ?_; rintro e w' ⟨v2, rfl, ho2, hb2⟩) | (at_builtin; refine wpList_append_own_at _ rfl _ _ 27 rfl base 5 i0 (.int .u8 0) 1 1 Tryf.underlying27 hi hiz0 hiz1 hiz2 rfl (by decide) _ _ _ rfl (World.ownsRow.alloc ownh.out _) ⟨w.heap.size, 0, none⟩ 2 2 [.int .u8 92, .int .u8 85] rfl rfl (by intro j u hj; match j, hj with | 0, hj => simp at hj; subst hj; simp [Addr.add] | 1, hj => simp at hj; subst hj; simp [Addr.add]) (by intro u hu; simp at hu; rcases hu with rfl | rfl <;> rfl) (by unfold maxLen; omega) (by omega) (by simp; omega) ?_; intro v' w1 hown' hg' _ hat'; have hR := hput v' w1 _ hown' hg' hat'; clear hown' hg' hat'))
    go_ret
    refine ⟨_, rfl, ?_, hR.out.2.trans hb2⟩
    have e : l ++ u8L (92 :: 85 :: hexL z true 8) = l ++ u8L [92, 85] ++ u8L (hexL z true 8) := by rw [List.append_assoc, ← u8L_app]; rfl
    rw [e]
    exact ho2
set_option maxRecDepth 100000 in
set_option maxHeartbeats 4000000 in
theorem er_brace1 (z b q : Nat) (w : World) (base : Nat) (d : Value) (l : List UInt8) (hz : z ≤ 1114111) (hb8 : b ≤ 255) (hq : q = 34 ∨ q = 39) (hb : base ≤ w.heap.size) (hl : l.length ≤ 1500000) (own : Own base d l w) (hu : b / 8 % 2 = 1) (hm : b % 8 % 6 = 1) :
    Calls Tryf.prog 16 #[d, .int .i32 (z : Int), .int .u8 (b : Int), .int .u8 (q : Int)] w (fun e w' => ∃ E, SpellU z E ∧ App base d (l ++ u8L E) w e w') := by
  have hz' : (z : Int) ≤ 1114111 := by omega
  have hz0 : (0 : Int) ≤ (z : Int) := by omega
  have hbb : (b : Int) ≤ 255 := by omega
  have hb0 : (0 : Int) ≤ (b : Int) := by omega
  have hq0 : (0 : Int) ≤ (q : Int) := by omega
  have hq1 : (q : Int) ≤ 39 := by omega
  obtain ⟨i0, hi, hiz0, hiz1, hiz2⟩ := info_parts info5
  have hA := u8_low 3 b 7 rfl (by decide) hb8
  simp only [show (2 : Nat) ^ 3 = 8 from rfl] at hA
  have ownh := hide own
  clear own hq
  have hM : ((b % 8 : Nat) : Int).tmod 6 = 1 := by rw [Int.tmod_eq_emod_of_nonneg (by omega)]; omega
  have hU := u8_low 1 (b / 8) 1 rfl (by decide) (by omega)
  rw [show (b / 8 % 2 ^ 1 : Nat) = 1 from hu, show ((b / 8 : Nat) : Int) = (b : Int) / 8 by omega] at hU
  have hP := u8_low 3 (b / 32) 7 rfl (by decide) (by omega)
  rw [show ((b / 32 : Nat) : Int) = (b : Int) / 32 by omega] at hP
  have hK7 : b / 32 % 2 ^ 3 ≤ 7 := by omega
  generalize b / 32 % 2 ^ 3 = K at *
  have hK7' : (K : Int) ≤ 7 := by omega
  have hK0 : (0 : Int) ≤ (K : Int) := by omega
  have hzz := hide hz
  have hW := fun w => hide (hexWidth_any z w (by omega))
  generalize b % 8 = q8 at *
  have hput := fun v' w1 o ho hg ha => hide (put_own (v' := v') (w1 := w1) (o := o) [92, 117, 123] (by simp) hb ownh.out (m := 3) rfl (news := [.int .u8 92, .int .u8 117, .int .u8 123]) (by simp [cells8]) ho hg ha)
  have hbh := hide hb
  clear hm hu hK7
  rcases sur3 z with hs | ⟨hs1, hs2⟩ | ⟨hs1, hs2⟩
  all_goals
    go_enter Tryf.func16, Tryf.ntmps16
    go_wp2_with fail
    refine (hW _).out.mono ?_
    rintro e w' ⟨⟨n, rfl, hn1, hn6, hnv⟩, rfl⟩
    have hn6' : (n : Int) ≤ 6 := by omega
    have hn0' : (0 : Int) ≤ (n : Int) := by omega
    by_cases c : n + K ≤ 6
    · have ht : (n : Int) + (K : Int) ≤ 6 := by omega
      have hzW := hide (show z < 16 ^ (n + K) by exact Nat.lt_of_lt_of_le hnv (Nat.pow_le_pow_right (by decide) (by omega)))
      have hW1 := hide (show 1 ≤ n + K by omega)
      have hW6 := hide (show n + K ≤ 6 by omega)
      obtain ⟨L2, hL2⟩ : ∃ L2, l ++ u8L [92, 117, 123] ++ u8L (hexL z true (n + K)) = L2 := ⟨_, rfl⟩
      have hl2 : L2.length ≤ 1500020 := by rw [← hL2, List.length_append, List.length_append, u8L_length, u8L_length, hexL_length]; simp; omega
      have hH : ∀ v' w1, base ≤ w1.heap.size → Own base v' (l ++ u8L [92, 117, 123]) w1 → Hid (Calls Tryf.prog 19 #[v', .int .u32 (z : Int), .int .i64 ((n : Int) + (K : Int)), .bool true] w1 (App base v' L2 w1)) := fun v' w1 h1 ho => hide (by
        have h := hexRun_any z (n + K) true w1 base v' (l ++ u8L [92, 117, 123]) (Nat.le_trans hW6.out (by decide)) (by omega) h1 (by rw [List.length_append, u8L_length]; simp; omega) ho
        rw [hL2] at h
        rw [show ((n + K : Nat) : Int) = (n : Int) + (K : Int) by omega] at h
        exact h)
      have hputC := fun v2 w2 (ho2 : Own base v2 L2 w2) (h2 : base ≤ w2.heap.size) v' w1 o ho hg ha => hide (put_own (v' := v') (w1 := w1) (o := o) [125] (by simp) h2 ho2 (m := 1) rfl (news := [.int .u8 125]) (by simp [cells8]) ho hg ha)
      have hE0 := hide (show L2 ++ u8L [125] = l ++ u8L (92 :: 117 :: 123 :: (hexL z true (n + K) ++ [125])) by rw [← hL2, List.append_assoc, List.append_assoc, ← u8L_app, ← u8L_app]; rfl)
      clear hnv hn1 hL2 hz c
      go_wp2_with (first | (at_builtin; refine wpList_append_own_at _ rfl _ _ 27 rfl base 5 i0 (.int .u8 0) 1 1 Tryf.underlying27 hi hiz0 hiz1 hiz2 rfl (by decide) _ _ _ rfl (World.ownsRow.alloc ownh.out _) ⟨w.heap.size, 0, none⟩ 3 3 [.int .u8 92, .int .u8 117, .int .u8 123] rfl rfl (by intro j u hj; match j, hj with | 0, hj => simp at hj; subst hj; simp [Addr.add] | 1, hj => simp at hj; subst hj; simp [Addr.add] | 2, hj => simp at hj; subst hj; simp [Addr.add]) (by intro u hu; simp at hu; rcases hu with rfl | rfl | rfl <;> rfl) (by unfold maxLen; omega) (by omega) (by simp; omega) ?_; intro v' w1 hown' hg' _ hat'; have hR := hput v' w1 _ hown' hg' hat'; clear hown' hg' hat') | (go_at_call 19; refine (hH v' w1 (Nat.le_trans hbh.out hR.out.2.size) hR.out.1).out.mono ?_; rintro e w2 ⟨v2, rfl, ho2, hb2⟩) | (at_builtin; refine wpList_append_own_at _ rfl _ _ 27 rfl base 5 i0 (.int .u8 0) 1 1 Tryf.underlying27 hi hiz0 hiz1 hiz2 rfl (by decide) _ _ _ rfl (World.ownsRow.alloc ho2 _) ⟨w2.heap.size, 0, none⟩ 1 1 [.int .u8 125] rfl rfl (by intro j u hj; match j, hj with | 0, hj => simp at hj; subst hj; simp [Addr.add]) (by intro u hu; simp at hu; subst hu; rfl) (by unfold maxLen; omega) (by omega) (by have := hR.out.2.size; have := hb2.size; have := hbh.out; simp; omega) ?_; intro v' w1 hown' hg' _ hat'; have hR3 := hputC v2 w2 ho2 (Nat.le_trans hbh.out (Nat.le_trans hR.out.2.size hb2.size)) v' w1 _ hown' hg' hat'; clear hown' hg' hat'))
      go_ret
      refine ⟨_, spellU_brace z (n + K) true hW1.out hW6.out hzW.out hzz.out, _, rfl, ?_, (hR.out.2.trans hb2).trans hR3.out.2⟩
      rw [← hE0.out]
      exact hR3.out.1
    · have ht : ¬ (n : Int) + (K : Int) ≤ 6 := by omega
      have hzW := hide (show z < 16 ^ (6) by exact Nat.lt_of_lt_of_le hnv (Nat.pow_le_pow_right (by decide) (by omega)))
      have hW1 := hide (show 1 ≤ 6 by omega)
      have hW6 := hide (show 6 ≤ 6 by omega)
      obtain ⟨L2, hL2⟩ : ∃ L2, l ++ u8L [92, 117, 123] ++ u8L (hexL z true (6)) = L2 := ⟨_, rfl⟩
      have hl2 : L2.length ≤ 1500020 := by rw [← hL2, List.length_append, List.length_append, u8L_length, u8L_length, hexL_length]; simp; omega
      have hH : ∀ v' w1, base ≤ w1.heap.size → Own base v' (l ++ u8L [92, 117, 123]) w1 → Hid (Calls Tryf.prog 19 #[v', .int .u32 (z : Int), .int .i64 (6), .bool true] w1 (App base v' L2 w1)) := fun v' w1 h1 ho => hide (by
        have h := hexRun_any z (6) true w1 base v' (l ++ u8L [92, 117, 123]) (Nat.le_trans hW6.out (by decide)) (by omega) h1 (by rw [List.length_append, u8L_length]; simp; omega) ho
        rw [hL2] at h
        exact h)
      have hputC := fun v2 w2 (ho2 : Own base v2 L2 w2) (h2 : base ≤ w2.heap.size) v' w1 o ho hg ha => hide (put_own (v' := v') (w1 := w1) (o := o) [125] (by simp) h2 ho2 (m := 1) rfl (news := [.int .u8 125]) (by simp [cells8]) ho hg ha)
      have hE0 := hide (show L2 ++ u8L [125] = l ++ u8L (92 :: 117 :: 123 :: (hexL z true (6) ++ [125])) by rw [← hL2, List.append_assoc, List.append_assoc, ← u8L_app, ← u8L_app]; rfl)
      clear hnv hn1 hL2 hz c
      go_wp2_with (first | (at_builtin; refine wpList_append_own_at _ rfl _ _ 27 rfl base 5 i0 (.int .u8 0) 1 1 Tryf.underlying27 hi hiz0 hiz1 hiz2 rfl (by decide) _ _ _ rfl (World.ownsRow.alloc ownh.out _) ⟨w.heap.size, 0, none⟩ 3 3 [.int .u8 92, .int .u8 117, .int .u8 123] rfl rfl (by intro j u hj; match j, hj with | 0, hj => simp at hj; subst hj; simp [Addr.add] | 1, hj => simp at hj; subst hj; simp [Addr.add] | 2, hj => simp at hj; subst hj; simp [Addr.add]) (by intro u hu; simp at hu; rcases hu with rfl | rfl | rfl <;> rfl) (by unfold maxLen; omega) (by omega) (by simp; omega) ?_; intro v' w1 hown' hg' _ hat'; have hR := hput v' w1 _ hown' hg' hat'; clear hown' hg' hat') | (go_at_call 19; refine (hH v' w1 (Nat.le_trans hbh.out hR.out.2.size) hR.out.1).out.mono ?_; rintro e w2 ⟨v2, rfl, ho2, hb2⟩) | (at_builtin; refine wpList_append_own_at _ rfl _ _ 27 rfl base 5 i0 (.int .u8 0) 1 1 Tryf.underlying27 hi hiz0 hiz1 hiz2 rfl (by decide) _ _ _ rfl (World.ownsRow.alloc ho2 _) ⟨w2.heap.size, 0, none⟩ 1 1 [.int .u8 125] rfl rfl (by intro j u hj; match j, hj with | 0, hj => simp at hj; subst hj; simp [Addr.add]) (by intro u hu; simp at hu; subst hu; rfl) (by unfold maxLen; omega) (by omega) (by have := hR.out.2.size; have := hb2.size; have := hbh.out; simp; omega) ?_; intro v' w1 hown' hg' _ hat'; have hR3 := hputC v2 w2 ho2 (Nat.le_trans hbh.out (Nat.le_trans hR.out.2.size hb2.size)) v' w1 _ hown' hg' hat'; clear hown' hg' hat'))
      go_ret
      refine ⟨_, spellU_brace z (6) true hW1.out hW6.out hzW.out hzz.out, _, rfl, ?_, (hR.out.2.trans hb2).trans hR3.out.2⟩
      rw [← hE0.out]
      exact hR3.out.1
end Go.Proofs.YtncoodplmpgnbaaFmt
