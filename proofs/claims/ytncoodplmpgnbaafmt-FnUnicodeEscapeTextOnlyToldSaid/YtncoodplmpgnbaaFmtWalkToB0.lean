/-
  The walk of the statement on unicode escapes: two styles. Condition: utf8's two tables hold what their initialisers lay.
-/
import Derived.Test.YtncoodplmpgnbaaFmtWalkToA
namespace Go.Proofs.YtncoodplmpgnbaaFmt
open Go.RowKit Go.Lib Go.Shelf Go.Proofs
set_option linter.unusedVariables false
set_option linter.unusedSimpArgs false

set_option maxRecDepth 20000 in
set_option maxHeartbeats 16000000 in
theorem to_a0 (s : ByteArray) (z st : Nat) (w : World) (hs : s.size ≤ 65536) (hz : z ≤ 1114111) (hst : st ≤ 255) (hT : TU w) (hm : st % 3 = 0) (hu : st / 4 % 2 = 0) :
    Calls Tryf.prog 6 #[.string s, .int .i32 (z : Int), .int .u8 (st : Int)] w fun e w' => e = .returned (.bool true) ∧ Below w.heap.size w w' := by
  have Z := hide (zz18_yes s (z : Int) (st : Int) w (by omega))
  have hs' : (s.size : Int) ≤ 65536 := by omega
  have hz0 : (0 : Int) ≤ (z : Int) := by omega
  have hz1 : (z : Int) ≤ 1114111 := by omega
  have hst' : (st : Int) ≤ 255 := by omega
  have hst0 : (0 : Int) ≤ (st : Int) := by omega
  have hM : (st : Int).tmod 3 = 0 := by rw [Int.tmod_eq_emod_of_nonneg (by omega)]; omega
  have hU := u8_low 1 (st / 4) 1 rfl (by decide) (by omega)
  rw [show (st / 4 % 2 ^ 1 : Nat) = 0 from hu, show ((st / 4 : Nat) : Int) = (st : Int) / 4 by omega] at hU
  have hTh := hide hT
  have hsh := hide hs
  have hzh := hide hz
  obtain ⟨i0, hi, hiz0, hiz1, hiz2⟩ := info_parts info5
  clear hm hu hT hs hst 
  go_enter Tryf.func6, Tryf.ntmps6
  go_wp2_with fail
  refine Z.out.mono ?_
  rintro e w' ⟨rfl, rfl⟩
  clear Z
  go_wp2_with (at_make; refine wpList_make_full _ rfl _ _ 27 rfl w.heap.size 5 i0 (.int .u8 0) 1 Tryf.underlying27 hi hiz0 hiz1 .i64 .i64 _ _ s.size rfl rfl rfl rfl (by rw [hiz2]; have := hsh.out; omega) (by have := hsh.out; unfold maxLen; omega) (Nat.le_refl _) ?_; intro w2 hown2 hg2)
  have hF := hide (show Fill (u8L []) s.size 0 w.heap.size w.heap.size w w2 from ⟨rfl, Nat.zero_le _, by rw [made1] at hown2; simpa [byteCells, u8L] using hown2, (Below.refl _ _).grown hg2 (Nat.le_refl _) (fun k hk => by cases hk)⟩)
  clear hown2 hg2
  go_loopw [8] (fun iv wr => ∃ (i : Nat) (L : List Nat), iv = .int .i64 i ∧ i ≤ s.size ∧ Hid (Fill (u8L L) s.size i w.heap.size w.heap.size w wr) ∧ Hid (Plain2 L)) (fun iv _ => s.size - (RowKit.intOf iv).toNat)
  case atStart => exact ⟨0, [], rfl, Nat.zero_le _, hF, hide Plain2.nil⟩
  case round =>
    clear hF
    obtain ⟨i, L, rfl, hi2, hF, hPP⟩ := hrel
    have hi0' : (0 : Int) ≤ (i : Int) := by omega
    have hii : (i : Int) ≤ (s.size : Int) := by omega
    have hbs := hF.out.bel.size
    by_cases h : i < s.size
    · have h' : (i : Int) < (s.size : Int) := by omega
      have gi : ∀ h : i < s.size, ((s[i]'h).toNat : Int) = (byteAt s i : Int) := fun h => byteAt_get s i h
      have hx := byteAt_le s i
      generalize byteAt s i = x at *
      obtain ⟨hc, hf⟩ := hF.out.facts h
      have hput := fun (y : Nat) (hy : y ≤ 255) => hide (hF.out.put h y.toUInt8 (Nat.le_refl _) (.int .u8 (y : Int)) (by simp; omega) hbs)
      have hpp := fun (y : Nat) h0 h1 h2 => hide (hPP.out.more y h0 h1 h2)
      have hx0 : (0 : Int) ≤ (x : Int) := by omega
      have hx1 : (x : Int) ≤ 255 := by omega
      clear hF hPP
      by_cases c1 : 128 ≤ x
      · have c1' : (128 : Int) ≤ (x : Int) := by omega
        have hp := hput 95 (by decide)
        have hq := hpp 95 (by decide) (by decide) (by decide)
        clear hput hpp c1
        go_wp2
        go_roundw
        case rel => exact ⟨i + 1, L ++ [95], by go_num, by omega, hide (by rw [u8L_app]; exact hp.out), hq⟩
        case measure => simp [RowKit.intOf]; omega
      by_cases c2 : x = 92 ∨ x = 13 ∨ x = 34
      · have hp := hput 95 (by decide)
        have hq := hpp 95 (by decide) (by decide) (by decide)
        clear hput hpp c1
        rcases c2 with rfl | rfl | rfl
        · go_wp2
          go_roundw
          case rel => exact ⟨i + 1, L ++ [95], by go_num, by omega, hide (by rw [u8L_app]; exact hp.out), hq⟩
          case measure => simp [RowKit.intOf]; omega
        · go_wp2
          go_roundw
          case rel => exact ⟨i + 1, L ++ [95], by go_num, by omega, hide (by rw [u8L_app]; exact hp.out), hq⟩
          case measure => simp [RowKit.intOf]; omega
        · go_wp2
          go_roundw
          case rel => exact ⟨i + 1, L ++ [95], by go_num, by omega, hide (by rw [u8L_app]; exact hp.out), hq⟩
          case measure => simp [RowKit.intOf]; omega
      · have hp := hput x hx
        have hq := hpp x (by omega) (by omega) (by omega)
        have c1' : ¬ (128 : Int) ≤ (x : Int) := by omega
        have n92 : ((x : Int) == 92) = false := by rw [beq_eq_false_iff_ne]; omega
        have n13 : ((x : Int) == 13) = false := by rw [beq_eq_false_iff_ne]; omega
        have n34 : ((x : Int) == 34) = false := by rw [beq_eq_false_iff_ne]; omega
        clear hput hpp c1 c2
        go_wp2
        go_roundw
        case rel => exact ⟨i + 1, L ++ [x], by go_num, by omega, hide (by rw [u8L_app]; exact hp.out), hq⟩
        case measure => simp [RowKit.intOf]; omega
    · obtain rfl : s.size = i := by omega
      have hsrc := hide hF.out.src
      have hLs := hF.out.len
      rw [u8L_length] at hLs
      have hbr := hide hF.out.bel
      have hPl := hide hPP.out.2.2
      have hLs := hide hLs
      clear hF hi2 h
      go_wp2_with (first | (at_make; refine wpList_make_own _ rfl _ _ 27 rfl wr.heap.size 5 i0 (.int .u8 0) 1 Tryf.underlying27 hi hiz0 hiz1 .i64 .i64 _ (s.size + 16) rfl rfl (by simp) (by rw [hiz2]; have := hsh.out; have := hLs.out; omega) (by have := hsh.out; have := hLs.out; unfold maxLen; omega) (Nat.le_refl _) ?_; intro wa howna hga; have hba := hide (show Below wr.heap.size wr wa from (Below.refl _ _).grown hga (Nat.le_refl _) (fun k hk => by cases hk)); have hoa := hide (show Own wr.heap.size _ [] wa from howna); clear howna hga) | (at_builtin; refine wpList_append_own_at _ rfl _ _ 27 rfl wr.heap.size 5 i0 (.int .u8 0) 1 1 Tryf.underlying27 hi hiz0 hiz1 hiz2 rfl (by decide) _ _ _ rfl (World.ownsRow.alloc (hoa.out) _) ⟨wa.heap.size, 0, none⟩ 1 1 [.int .u8 34] rfl rfl (by intro j u hj; match j, hj with | 0, hj => simp at hj; subst hj; simp [Addr.add]) (by intro u hu; simp at hu; subst hu; rfl) (by have := hba.out.size; unfold maxLen; try simp only [List.length_append, List.length_cons, List.length_nil, u8L_length, hexL_length]; omega) (by have := hba.out.size; try simp only [List.length_append, List.length_cons, List.length_nil, u8L_length, hexL_length]; omega) (by have := hba.out.size; simp; omega) ?_; intro v1 wb hown' hg' _ hat'; have hR1 := hide (put_own (v' := v1) (w1 := wb) [34] (by simp) hba.out.size hoa.out (m := 1) rfl rfl hown' hg' hat'); clear hown' hg' hat'; have hob := hide (show Own wr.heap.size v1 [34] wb from hR1.out.1); have hbb := hide (hba.out.trans hR1.out.2.bel); clear hR1 hba hoa) | (at_builtin; refine wpList_append_own_at _ rfl _ _ 27 rfl wr.heap.size 5 i0 (.int .u8 0) 1 1 Tryf.underlying27 hi hiz0 hiz1 hiz2 rfl (by decide) _ _ _ rfl (hob.out) ⟨w.heap.size, 0, none⟩ s.size s.size (cells8 L) rfl (by rw [Nat.mul_one]; simp [cells8]; exact hLs.out) (Src8.news (hsrc.out.below hbb.out) hPl.out) (cells8_one L) (by have := hsh.out; have := hLs.out; unfold maxLen; try simp only [List.length_append, List.length_cons, List.length_nil, u8L_length]; omega) (by have := hsh.out; have := hLs.out; try simp only [List.length_append, List.length_cons, List.length_nil, u8L_length]; omega) (hbb.out.size) ?_; intro v2 wc hown' hg' _ hat'; have hR2 := hide (put_row (v' := v2) (w1 := wc) L hPl.out hbb.out.size hob.out (m := s.size) hLs.out rfl hown' hg' hat'); clear hown' hg' hat'; have hoc := hide (show Own wr.heap.size v2 (34 :: u8L L) wc from hR2.out.1); have hbc := hide (hbb.out.trans hR2.out.2.bel); clear hR2 hob hbb) | (at_builtin; refine wpList_append_own_at _ rfl _ _ 27 rfl wr.heap.size 5 i0 (.int .u8 0) 1 1 Tryf.underlying27 hi hiz0 hiz1 hiz2 rfl (by decide) _ _ _ rfl (World.ownsRow.alloc (hoc.out) _) ⟨wc.heap.size, 0, none⟩ 2 2 [.int .u8 92, .int .u8 85] rfl rfl (by intro j u hj; match j, hj with | 0, hj => simp at hj; subst hj; simp [Addr.add] | 1, hj => simp at hj; subst hj; simp [Addr.add]) (by intro u hu; simp at hu; rcases hu with rfl | rfl <;> rfl) (by have := hbc.out.size; have := hsh.out; have := hLs.out; unfold maxLen; try simp only [List.length_append, List.length_cons, List.length_nil, u8L_length, hexL_length]; omega) (by have := hbc.out.size; have := hsh.out; have := hLs.out; try simp only [List.length_append, List.length_cons, List.length_nil, u8L_length, hexL_length]; omega) (by have := hbc.out.size; have := hsh.out; have := hLs.out; simp; omega) ?_; intro v3 wd hown' hg' _ hat'; have hR3 := hide (put_own (v' := v3) (w1 := wd) [92, 85] (by simp) hbc.out.size hoc.out (m := 2) rfl rfl hown' hg' hat'); clear hown' hg' hat'; have hod := hide hR3.out.1; have hbd := hide (hbc.out.trans hR3.out.2.bel); clear hR3 hoc hbc; have hC19 := fun n hn8 => hide (hexRun_any z n false wd wr.heap.size v3 (34 :: u8L L ++ u8L [92, 85]) hn8 (by omega) hbd.out.size (by have := hsh.out; have := hLs.out; simp only [List.length_append, List.length_cons, List.length_nil, u8L_length]; omega) hod.out)) | (go_at_call 19; refine (hC19 8 (by decide)).out.mono ?_; rintro e we ⟨v4, rfl, hoe0, hbe0⟩; have eqE := hide (show 34 :: u8L L ++ u8L [92, 85] ++ u8L (hexL z false 8) = 34 :: (u8L L ++ u8L (92 :: 85 :: (hexL z false 8))) by simp only [List.cons_append, List.append_assoc, ← u8L_app]; rfl); have hoe := hide (show Own wr.heap.size v4 (34 :: (u8L L ++ u8L (92 :: 85 :: (hexL z false 8)))) we by rw [← eqE.out]; exact hoe0); have hbe := hide (hbd.out.trans hbe0.bel); clear hoe0 hbe0 hC19 hod hbd eqE; have hEl := hide (show (92 :: 85 :: (hexL z false 8)).length ≤ 12 by simp [hexL_length]); have hSU : SpellU z (92 :: 85 :: (hexL z false 8)) := spellU_item 85 8 z false (.inr (.inr ⟨rfl, rfl⟩)) (by have : (16 : Nat) ^ 8 = 4294967296 := rfl; have := hzh.out; omega) hzh.out; have hwh0 := (hPP.out.1.more good_unesc hSU.pos hSU.lt (hSU.reads.choose_spec.1)); rw [hSU.reads.choose_spec.2] at hwh0; have hwh1 := hwh0.whole 34 (by decide); have hwn1 := hPP.out.2.1.refused hSU.pos hSU.lt (unescB_u 85 _ (by decide) (fun y hy => (hSU.lt y hy).1)) 34 (by decide); obtain ⟨X, hX⟩ : ∃ X, bytesB (34 :: (u8L L ++ u8L (92 :: 85 :: (hexL z false 8)) ++ [34])) = X := ⟨_, rfl⟩; rw [hX] at hwh1 hwn1; have hwh := hide hwh1; have hwn := hide hwn1; have hXs := hide (show X.size ≤ 1048600 by rw [← hX, bytesB_size]; have := hsh.out; have := hLs.out; have := hEl.out; simp [u8L_length] at *; omega); have own_X := fun w1 v (h : Own wr.heap.size v (34 :: (u8L L ++ u8L (92 :: 85 :: (hexL z false 8)) ++ [34])) w1) => (show (convert 27 9 v).run Tryf.prog w1 = .ok (.string X) w1 by rw [← hX]; exact own_text _ rfl h); obtain ⟨Y, hYY⟩ : ∃ Y, bytesB (u8L L ++ piece (z : Int) true) = Y := ⟨_, rfl⟩; clear hwh1 hwn1 hwh0 hSU) | (at_builtin; refine wpList_append_own_at _ rfl _ _ 27 rfl wr.heap.size 5 i0 (.int .u8 0) 1 1 Tryf.underlying27 hi hiz0 hiz1 hiz2 rfl (by decide) _ _ _ rfl (World.ownsRow.alloc (hoe.out) _) ⟨we.heap.size, 0, none⟩ 1 1 [.int .u8 34] rfl rfl (by intro j u hj; match j, hj with | 0, hj => simp at hj; subst hj; simp [Addr.add]) (by intro u hu; simp at hu; subst hu; rfl) (by have := hbe.out.size; have := hsh.out; have := hLs.out; have := hEl.out; unfold maxLen; try simp only [List.length_append, List.length_cons, List.length_nil, u8L_length, hexL_length]; omega) (by have := hbe.out.size; have := hsh.out; have := hLs.out; have := hEl.out; try simp only [List.length_append, List.length_cons, List.length_nil, u8L_length, hexL_length]; omega) (by have := hbe.out.size; have := hsh.out; have := hLs.out; have := hEl.out; simp; omega) ?_; intro v5 wf hown' hg' _ hat'; have hR5 := hide (put_own (v' := v5) (w1 := wf) [34] (by simp) hbe.out.size hoe.out (m := 1) rfl rfl hown' hg' hat'); clear hown' hg' hat'; have hof := hide (show Own wr.heap.size v5 (34 :: (u8L L ++ u8L (92 :: 85 :: (hexL z false 8)) ++ [34])) wf from hR5.out.1); have hbf := hide (hbe.out.trans hR5.out.2.bel); clear hR5 hoe hbe) | (at_make; refine wpList_make_own _ rfl _ _ 27 rfl wr.heap.size 5 i0 (.int .u8 0) 1 Tryf.underlying27 hi hiz0 hiz1 .i64 .i64 _ (s.size + 4) rfl rfl (by simp) (by rw [hiz2]; have := hsh.out; have := hLs.out; omega) (by have := hsh.out; have := hLs.out; unfold maxLen; omega) (hbf.out.size) ?_; intro wg howng hgg; have hbg := hide (show Below wr.heap.size wr wg from hbf.out.grown hgg hbf.out.size (fun k hk => by cases hk)); have hog := hide (show Own wr.heap.size _ [] wg from howng); have hEg := hide (show Own wr.heap.size v5 (34 :: (u8L L ++ u8L (92 :: 85 :: (hexL z false 8)) ++ [34])) wg from World.ownsRow.kept hof.out hgg (by cases h : v5.ownBlock with | none => exact .inl rfl | some k => exact .inr (by intro e; cases e))); have hap := hide (show Apart v5 (.slice (some ⟨wf.heap.size, 0, none⟩) 0 (s.size + 4)) from fun k h1 h2 => by have h3 := (World.ownsRow.lt hof.out k h1).2; injection h2 with h2; exact absurd h2 (Nat.ne_of_gt h3)); clear howng hgg hof hbf) | (at_builtin; refine wpList_append_own_at _ rfl _ _ 27 rfl wr.heap.size 5 i0 (.int .u8 0) 1 1 Tryf.underlying27 hi hiz0 hiz1 hiz2 rfl (by decide) _ _ _ rfl (hog.out) ⟨w.heap.size, 0, none⟩ s.size s.size (cells8 L) rfl (by rw [Nat.mul_one]; simp [cells8]; exact hLs.out) (Src8.news (hsrc.out.below hbg.out) hPl.out) (cells8_one L) (by have := hsh.out; have := hLs.out; unfold maxLen; try simp only [List.length_append, List.length_cons, List.length_nil, u8L_length]; omega) (by have := hsh.out; have := hLs.out; try simp only [List.length_append, List.length_cons, List.length_nil, u8L_length]; omega) (hbg.out.size) ?_; intro v6 wh hown' hg' _ hat'; have hR6 := hide (put_row (v' := v6) (w1 := wh) L hPl.out hbg.out.size hog.out (m := s.size) hLs.out rfl hown' hg' hat'); clear hown' hg' hat'; have hoh := hide (show Own wr.heap.size v6 (u8L L) wh from hR6.out.1); have hbh := hide (hbg.out.trans hR6.out.2.bel); have hEh := hide (hEg.out.keep hR6.out.2 hap.out); have hap6 := hide (hap.out.grow hEg.out hR6.out.2); clear hR6 hog hbg hEg hap) | (go_at_call 17; refine (uni_any z _ wr.heap.size v6 (u8L L) hbh.out.size (by have := hsh.out; have := hLs.out; rw [u8L_length]; omega) hoh.out hzh.out).mono ?_; rintro e wi ⟨v7, rfl, hoi0, hgi⟩; have hoi := hide hoi0; have hbi := hide (hbh.out.trans hgi.bel); have hEi := hide (hEh.out.keep hgi hap6.out); clear hoi0 hgi hoh hbh hEh hap6; have hcv := own_X _ _ hEi.out) | (go_at_call 8; refine (good8 X _ (hXs.out) (hTh.out.below (hbr.out.trans (hbi.out.mono hbr.out.size))) _ hwh.out).mono ?_; rintro e wj ⟨rfl, hbj⟩; rw [hYY]; have hb0 := hide (hbi.out.trans (hbj.mono hbi.out.size)); have hEj := hide (hEi.out.below hbj); have hoj := hide (hoi.out.below hbj); clear hEi hoi hbi hbj hcv; have hcv := own_X _ _ hEj.out) | (go_at_call 9; refine (bad9 X _ (hXs.out) (hTh.out.below (hbr.out.trans (hb0.out.mono hbr.out.size))) hwn.out).mono ?_; rintro e wk ⟨⟨t, aa, rfl⟩, hbk⟩; have hb9 := hide (hb0.out.trans (hbk.mono hb0.out.size)); have hok := hide (hoj.out.below hbk); clear hEj hoj hb0 hbk hcv; have hcw : (convert 27 9 v7).run Tryf.prog wk = .ok (.string Y) wk := by rw [← hYY]; exact own_text _ rfl hok.out))
      go_ret
      exact ⟨rfl, hbr.out.trans (hb9.out.mono hbr.out.size)⟩
set_option maxRecDepth 20000 in
set_option maxHeartbeats 16000000 in
theorem to_b0 (s : ByteArray) (z st : Nat) (w : World) (hs : s.size ≤ 65536) (hz : z ≤ 1114111) (hst : st ≤ 255) (hT : TU w) (hm : st % 3 = 1) (hu : st / 4 % 2 = 0) :
    Calls Tryf.prog 6 #[.string s, .int .i32 (z : Int), .int .u8 (st : Int)] w fun e w' => e = .returned (.bool true) ∧ Below w.heap.size w w' := by
  have Z := hide (zz18_yes s (z : Int) (st : Int) w (by omega))
  have hs' : (s.size : Int) ≤ 65536 := by omega
  have hz0 : (0 : Int) ≤ (z : Int) := by omega
  have hz1 : (z : Int) ≤ 1114111 := by omega
  have hst' : (st : Int) ≤ 255 := by omega
  have hst0 : (0 : Int) ≤ (st : Int) := by omega
  have hM : (st : Int).tmod 3 = 1 := by rw [Int.tmod_eq_emod_of_nonneg (by omega)]; omega
  have hU := u8_low 1 (st / 4) 1 rfl (by decide) (by omega)
  rw [show (st / 4 % 2 ^ 1 : Nat) = 0 from hu, show ((st / 4 : Nat) : Int) = (st : Int) / 4 by omega] at hU
  have hTh := hide hT
  have hsh := hide hs
  have hzh := hide hz
  have hW := fun w => hide (hexWidth_any z w (by omega))
  obtain ⟨i0, hi, hiz0, hiz1, hiz2⟩ := info_parts info5
  clear hm hu hT hs hst 
  go_enter Tryf.func6, Tryf.ntmps6
  go_wp2_with fail
  refine Z.out.mono ?_
  rintro e w' ⟨rfl, rfl⟩
  clear Z
  go_wp2_with (at_make; refine wpList_make_full _ rfl _ _ 27 rfl w.heap.size 5 i0 (.int .u8 0) 1 Tryf.underlying27 hi hiz0 hiz1 .i64 .i64 _ _ s.size rfl rfl rfl rfl (by rw [hiz2]; have := hsh.out; omega) (by have := hsh.out; unfold maxLen; omega) (Nat.le_refl _) ?_; intro w2 hown2 hg2)
  have hF := hide (show Fill (u8L []) s.size 0 w.heap.size w.heap.size w w2 from ⟨rfl, Nat.zero_le _, by rw [made1] at hown2; simpa [byteCells, u8L] using hown2, (Below.refl _ _).grown hg2 (Nat.le_refl _) (fun k hk => by cases hk)⟩)
  clear hown2 hg2
  go_loopw [8] (fun iv wr => ∃ (i : Nat) (L : List Nat), iv = .int .i64 i ∧ i ≤ s.size ∧ Hid (Fill (u8L L) s.size i w.heap.size w.heap.size w wr) ∧ Hid (Plain2 L)) (fun iv _ => s.size - (RowKit.intOf iv).toNat)
  case atStart => exact ⟨0, [], rfl, Nat.zero_le _, hF, hide Plain2.nil⟩
  case round =>
    clear hF
    obtain ⟨i, L, rfl, hi2, hF, hPP⟩ := hrel
    have hi0' : (0 : Int) ≤ (i : Int) := by omega
    have hii : (i : Int) ≤ (s.size : Int) := by omega
    have hbs := hF.out.bel.size
    by_cases h : i < s.size
    · have h' : (i : Int) < (s.size : Int) := by omega
      have gi : ∀ h : i < s.size, ((s[i]'h).toNat : Int) = (byteAt s i : Int) := fun h => byteAt_get s i h
      have hx := byteAt_le s i
      generalize byteAt s i = x at *
      obtain ⟨hc, hf⟩ := hF.out.facts h
      have hput := fun (y : Nat) (hy : y ≤ 255) => hide (hF.out.put h y.toUInt8 (Nat.le_refl _) (.int .u8 (y : Int)) (by simp; omega) hbs)
      have hpp := fun (y : Nat) h0 h1 h2 => hide (hPP.out.more y h0 h1 h2)
      have hx0 : (0 : Int) ≤ (x : Int) := by omega
      have hx1 : (x : Int) ≤ 255 := by omega
      clear hF hPP
      by_cases c1 : 128 ≤ x
      · have c1' : (128 : Int) ≤ (x : Int) := by omega
        have hp := hput 95 (by decide)
        have hq := hpp 95 (by decide) (by decide) (by decide)
        clear hput hpp c1
        go_wp2
        go_roundw
        case rel => exact ⟨i + 1, L ++ [95], by go_num, by omega, hide (by rw [u8L_app]; exact hp.out), hq⟩
        case measure => simp [RowKit.intOf]; omega
      by_cases c2 : x = 92 ∨ x = 13 ∨ x = 34
      · have hp := hput 95 (by decide)
        have hq := hpp 95 (by decide) (by decide) (by decide)
        clear hput hpp c1
        rcases c2 with rfl | rfl | rfl
        · go_wp2
          go_roundw
          case rel => exact ⟨i + 1, L ++ [95], by go_num, by omega, hide (by rw [u8L_app]; exact hp.out), hq⟩
          case measure => simp [RowKit.intOf]; omega
        · go_wp2
          go_roundw
          case rel => exact ⟨i + 1, L ++ [95], by go_num, by omega, hide (by rw [u8L_app]; exact hp.out), hq⟩
          case measure => simp [RowKit.intOf]; omega
        · go_wp2
          go_roundw
          case rel => exact ⟨i + 1, L ++ [95], by go_num, by omega, hide (by rw [u8L_app]; exact hp.out), hq⟩
          case measure => simp [RowKit.intOf]; omega
      · have hp := hput x hx
        have hq := hpp x (by omega) (by omega) (by omega)
        have c1' : ¬ (128 : Int) ≤ (x : Int) := by omega
        have n92 : ((x : Int) == 92) = false := by rw [beq_eq_false_iff_ne]; omega
        have n13 : ((x : Int) == 13) = false := by rw [beq_eq_false_iff_ne]; omega
        have n34 : ((x : Int) == 34) = false := by rw [beq_eq_false_iff_ne]; omega
        clear hput hpp c1 c2
        go_wp2
        go_roundw
        case rel => exact ⟨i + 1, L ++ [x], by go_num, by omega, hide (by rw [u8L_app]; exact hp.out), hq⟩
        case measure => simp [RowKit.intOf]; omega
    · obtain rfl : s.size = i := by omega
      have hsrc := hide hF.out.src
      have hLs := hF.out.len
      rw [u8L_length] at hLs
      have hbr := hide hF.out.bel
      have hPl := hide hPP.out.2.2
      have hLs := hide hLs
      clear hF hi2 h
      go_wp2_with (first | (at_make; refine wpList_make_own _ rfl _ _ 27 rfl wr.heap.size 5 i0 (.int .u8 0) 1 Tryf.underlying27 hi hiz0 hiz1 .i64 .i64 _ (s.size + 16) rfl rfl (by simp) (by rw [hiz2]; have := hsh.out; have := hLs.out; omega) (by have := hsh.out; have := hLs.out; unfold maxLen; omega) (Nat.le_refl _) ?_; intro wa howna hga; have hba := hide (show Below wr.heap.size wr wa from (Below.refl _ _).grown hga (Nat.le_refl _) (fun k hk => by cases hk)); have hoa := hide (show Own wr.heap.size _ [] wa from howna); clear howna hga) | (at_builtin; refine wpList_append_own_at _ rfl _ _ 27 rfl wr.heap.size 5 i0 (.int .u8 0) 1 1 Tryf.underlying27 hi hiz0 hiz1 hiz2 rfl (by decide) _ _ _ rfl (World.ownsRow.alloc (hoa.out) _) ⟨wa.heap.size, 0, none⟩ 1 1 [.int .u8 34] rfl rfl (by intro j u hj; match j, hj with | 0, hj => simp at hj; subst hj; simp [Addr.add]) (by intro u hu; simp at hu; subst hu; rfl) (by have := hba.out.size; unfold maxLen; try simp only [List.length_append, List.length_cons, List.length_nil, u8L_length, hexL_length]; omega) (by have := hba.out.size; try simp only [List.length_append, List.length_cons, List.length_nil, u8L_length, hexL_length]; omega) (by have := hba.out.size; simp; omega) ?_; intro v1 wb hown' hg' _ hat'; have hR1 := hide (put_own (v' := v1) (w1 := wb) [34] (by simp) hba.out.size hoa.out (m := 1) rfl rfl hown' hg' hat'); clear hown' hg' hat'; have hob := hide (show Own wr.heap.size v1 [34] wb from hR1.out.1); have hbb := hide (hba.out.trans hR1.out.2.bel); clear hR1 hba hoa) | (at_builtin; refine wpList_append_own_at _ rfl _ _ 27 rfl wr.heap.size 5 i0 (.int .u8 0) 1 1 Tryf.underlying27 hi hiz0 hiz1 hiz2 rfl (by decide) _ _ _ rfl (hob.out) ⟨w.heap.size, 0, none⟩ s.size s.size (cells8 L) rfl (by rw [Nat.mul_one]; simp [cells8]; exact hLs.out) (Src8.news (hsrc.out.below hbb.out) hPl.out) (cells8_one L) (by have := hsh.out; have := hLs.out; unfold maxLen; try simp only [List.length_append, List.length_cons, List.length_nil, u8L_length]; omega) (by have := hsh.out; have := hLs.out; try simp only [List.length_append, List.length_cons, List.length_nil, u8L_length]; omega) (hbb.out.size) ?_; intro v2 wc hown' hg' _ hat'; have hR2 := hide (put_row (v' := v2) (w1 := wc) L hPl.out hbb.out.size hob.out (m := s.size) hLs.out rfl hown' hg' hat'); clear hown' hg' hat'; have hoc := hide (show Own wr.heap.size v2 (34 :: u8L L) wc from hR2.out.1); have hbc := hide (hbb.out.trans hR2.out.2.bel); clear hR2 hob hbb) | (at_builtin; refine wpList_append_own_at _ rfl _ _ 27 rfl wr.heap.size 5 i0 (.int .u8 0) 1 1 Tryf.underlying27 hi hiz0 hiz1 hiz2 rfl (by decide) _ _ _ rfl (World.ownsRow.alloc (hoc.out) _) ⟨wc.heap.size, 0, none⟩ 3 3 [.int .u8 92, .int .u8 117, .int .u8 123] rfl rfl (by intro j u hj; match j, hj with | 0, hj => simp at hj; subst hj; simp [Addr.add] | 1, hj => simp at hj; subst hj; simp [Addr.add] | 2, hj => simp at hj; subst hj; simp [Addr.add]) (by intro u hu; simp at hu; rcases hu with rfl | rfl | rfl <;> rfl) (by have := hbc.out.size; have := hsh.out; have := hLs.out; unfold maxLen; try simp only [List.length_append, List.length_cons, List.length_nil, u8L_length, hexL_length]; omega) (by have := hbc.out.size; have := hsh.out; have := hLs.out; try simp only [List.length_append, List.length_cons, List.length_nil, u8L_length, hexL_length]; omega) (by have := hbc.out.size; have := hsh.out; have := hLs.out; simp; omega) ?_; intro v3 wd hown' hg' _ hat'; have hR3 := hide (put_own (v' := v3) (w1 := wd) [92, 117, 123] (by simp) hbc.out.size hoc.out (m := 3) rfl rfl hown' hg' hat'); clear hown' hg' hat'; have hod := hide hR3.out.1; have hbd := hide (hbc.out.trans hR3.out.2.bel); clear hR3 hoc hbc; have hC19 := fun n hn8 => hide (hexRun_any z n false wd wr.heap.size v3 (34 :: u8L L ++ u8L [92, 117, 123]) hn8 (by omega) hbd.out.size (by have := hsh.out; have := hLs.out; simp only [List.length_append, List.length_cons, List.length_nil, u8L_length]; omega) hod.out)) | (go_at_call 20; refine (hW _).out.mono ?_; rintro e w' ⟨⟨n, rfl, hn1, hn6, hnv⟩, rfl⟩; have hNN := hide (And.intro hn1 (And.intro hn6 hnv)); clear hn1 hn6 hnv) | (go_at_call 19; refine (hC19 n (by have := hNN.out.2.1; omega)).out.mono ?_; rintro e we ⟨v4, rfl, hoe0, hbe0⟩; have hoe1 := hide hoe0; have hbe1 := hide (hbd.out.trans hbe0.bel); clear hoe0 hbe0 hC19 hod hbd) | (at_builtin; refine wpList_append_own_at _ rfl _ _ 27 rfl wr.heap.size 5 i0 (.int .u8 0) 1 1 Tryf.underlying27 hi hiz0 hiz1 hiz2 rfl (by decide) _ _ _ rfl (World.ownsRow.alloc (hoe1.out) _) ⟨we.heap.size, 0, none⟩ 1 1 [.int .u8 125] rfl rfl (by intro j u hj; match j, hj with | 0, hj => simp at hj; subst hj; simp [Addr.add]) (by intro u hu; simp at hu; subst hu; rfl) (by have := hbe1.out.size; have := hsh.out; have := hLs.out; have := hNN.out.2.1; unfold maxLen; try simp only [List.length_append, List.length_cons, List.length_nil, u8L_length, hexL_length]; omega) (by have := hbe1.out.size; have := hsh.out; have := hLs.out; have := hNN.out.2.1; try simp only [List.length_append, List.length_cons, List.length_nil, u8L_length, hexL_length]; omega) (by have := hbe1.out.size; have := hsh.out; have := hLs.out; have := hNN.out.2.1; simp; omega) ?_; intro v9 w9 hown' hg' _ hat'; have hR9 := hide (put_own (v' := v9) (w1 := w9) [125] (by simp) hbe1.out.size hoe1.out (m := 1) rfl rfl hown' hg' hat'); clear hown' hg' hat'; have eqE := hide (show 34 :: u8L L ++ u8L [92, 117, 123] ++ u8L (hexL z false n) ++ u8L [125] = 34 :: (u8L L ++ u8L (92 :: 117 :: 123 :: (hexL z false n ++ [125]))) by simp only [List.cons_append, List.append_assoc, ← u8L_app]; rfl); have hoe := hide (show Own wr.heap.size v9 (34 :: (u8L L ++ u8L (92 :: 117 :: 123 :: (hexL z false n ++ [125])))) w9 by rw [← eqE.out]; exact hR9.out.1); have hbe := hide (hbe1.out.trans hR9.out.2.bel); clear hR9 hoe1 hbe1 eqE; have hEl := hide (show (92 :: 117 :: 123 :: (hexL z false n ++ [125])).length ≤ 12 by have := hNN.out.2.1; simp [hexL_length]; omega); have hSU : SpellU z (92 :: 117 :: 123 :: (hexL z false n ++ [125])) := spellU_brace z n false hNN.out.1 hNN.out.2.1 hNN.out.2.2 hzh.out; have hwh0 := (hPP.out.1.more good_unesc hSU.pos hSU.lt (hSU.reads.choose_spec.1)); rw [hSU.reads.choose_spec.2] at hwh0; have hwh1 := hwh0.whole 34 (by decide); have hwn1 := hPP.out.2.1.refused hSU.pos hSU.lt (unescB_u 117 _ (by decide) (fun y hy => (hSU.lt y hy).1)) 34 (by decide); obtain ⟨X, hX⟩ : ∃ X, bytesB (34 :: (u8L L ++ u8L (92 :: 117 :: 123 :: (hexL z false n ++ [125])) ++ [34])) = X := ⟨_, rfl⟩; rw [hX] at hwh1 hwn1; have hwh := hide hwh1; have hwn := hide hwn1; have hXs := hide (show X.size ≤ 1048600 by rw [← hX, bytesB_size]; have := hsh.out; have := hLs.out; have := hEl.out; simp [u8L_length] at *; omega); have own_X := fun w1 v (h : Own wr.heap.size v (34 :: (u8L L ++ u8L (92 :: 117 :: 123 :: (hexL z false n ++ [125])) ++ [34])) w1) => (show (convert 27 9 v).run Tryf.prog w1 = .ok (.string X) w1 by rw [← hX]; exact own_text _ rfl h); obtain ⟨Y, hYY⟩ : ∃ Y, bytesB (u8L L ++ piece (z : Int) true) = Y := ⟨_, rfl⟩; clear hwh1 hwn1 hwh0 hSU) | (at_builtin; refine wpList_append_own_at _ rfl _ _ 27 rfl wr.heap.size 5 i0 (.int .u8 0) 1 1 Tryf.underlying27 hi hiz0 hiz1 hiz2 rfl (by decide) _ _ _ rfl (World.ownsRow.alloc (hoe.out) _) ⟨w9.heap.size, 0, none⟩ 1 1 [.int .u8 34] rfl rfl (by intro j u hj; match j, hj with | 0, hj => simp at hj; subst hj; simp [Addr.add]) (by intro u hu; simp at hu; subst hu; rfl) (by have := hbe.out.size; have := hsh.out; have := hLs.out; have := hEl.out; have := hNN.out.2.1; unfold maxLen; try simp only [List.length_append, List.length_cons, List.length_nil, u8L_length, hexL_length]; omega) (by have := hbe.out.size; have := hsh.out; have := hLs.out; have := hEl.out; have := hNN.out.2.1; try simp only [List.length_append, List.length_cons, List.length_nil, u8L_length, hexL_length]; omega) (by have := hbe.out.size; have := hsh.out; have := hLs.out; have := hEl.out; have := hNN.out.2.1; simp; omega) ?_; intro v5 wf hown' hg' _ hat'; have hR5 := hide (put_own (v' := v5) (w1 := wf) [34] (by simp) hbe.out.size hoe.out (m := 1) rfl rfl hown' hg' hat'); clear hown' hg' hat'; have hof := hide (show Own wr.heap.size v5 (34 :: (u8L L ++ u8L (92 :: 117 :: 123 :: (hexL z false n ++ [125])) ++ [34])) wf from hR5.out.1); have hbf := hide (hbe.out.trans hR5.out.2.bel); clear hR5 hoe hbe) | (at_make; refine wpList_make_own _ rfl _ _ 27 rfl wr.heap.size 5 i0 (.int .u8 0) 1 Tryf.underlying27 hi hiz0 hiz1 .i64 .i64 _ (s.size + 4) rfl rfl (by simp) (by rw [hiz2]; have := hsh.out; have := hLs.out; omega) (by have := hsh.out; have := hLs.out; unfold maxLen; omega) (hbf.out.size) ?_; intro wg howng hgg; have hbg := hide (show Below wr.heap.size wr wg from hbf.out.grown hgg hbf.out.size (fun k hk => by cases hk)); have hog := hide (show Own wr.heap.size _ [] wg from howng); have hEg := hide (show Own wr.heap.size v5 (34 :: (u8L L ++ u8L (92 :: 117 :: 123 :: (hexL z false n ++ [125])) ++ [34])) wg from World.ownsRow.kept hof.out hgg (by cases h : v5.ownBlock with | none => exact .inl rfl | some k => exact .inr (by intro e; cases e))); have hap := hide (show Apart v5 (.slice (some ⟨wf.heap.size, 0, none⟩) 0 (s.size + 4)) from fun k h1 h2 => by have h3 := (World.ownsRow.lt hof.out k h1).2; injection h2 with h2; exact absurd h2 (Nat.ne_of_gt h3)); clear howng hgg hof hbf) | (at_builtin; refine wpList_append_own_at _ rfl _ _ 27 rfl wr.heap.size 5 i0 (.int .u8 0) 1 1 Tryf.underlying27 hi hiz0 hiz1 hiz2 rfl (by decide) _ _ _ rfl (hog.out) ⟨w.heap.size, 0, none⟩ s.size s.size (cells8 L) rfl (by rw [Nat.mul_one]; simp [cells8]; exact hLs.out) (Src8.news (hsrc.out.below hbg.out) hPl.out) (cells8_one L) (by have := hsh.out; have := hLs.out; unfold maxLen; try simp only [List.length_append, List.length_cons, List.length_nil, u8L_length]; omega) (by have := hsh.out; have := hLs.out; try simp only [List.length_append, List.length_cons, List.length_nil, u8L_length]; omega) (hbg.out.size) ?_; intro v6 wh hown' hg' _ hat'; have hR6 := hide (put_row (v' := v6) (w1 := wh) L hPl.out hbg.out.size hog.out (m := s.size) hLs.out rfl hown' hg' hat'); clear hown' hg' hat'; have hoh := hide (show Own wr.heap.size v6 (u8L L) wh from hR6.out.1); have hbh := hide (hbg.out.trans hR6.out.2.bel); have hEh := hide (hEg.out.keep hR6.out.2 hap.out); have hap6 := hide (hap.out.grow hEg.out hR6.out.2); clear hR6 hog hbg hEg hap) | (go_at_call 17; refine (uni_any z _ wr.heap.size v6 (u8L L) hbh.out.size (by have := hsh.out; have := hLs.out; rw [u8L_length]; omega) hoh.out hzh.out).mono ?_; rintro e wi ⟨v7, rfl, hoi0, hgi⟩; have hoi := hide hoi0; have hbi := hide (hbh.out.trans hgi.bel); have hEi := hide (hEh.out.keep hgi hap6.out); clear hoi0 hgi hoh hbh hEh hap6; have hcv := own_X _ _ hEi.out) | (go_at_call 8; refine (good8 X _ (hXs.out) (hTh.out.below (hbr.out.trans (hbi.out.mono hbr.out.size))) _ hwh.out).mono ?_; rintro e wj ⟨rfl, hbj⟩; rw [hYY]; have hb0 := hide (hbi.out.trans (hbj.mono hbi.out.size)); have hEj := hide (hEi.out.below hbj); have hoj := hide (hoi.out.below hbj); clear hEi hoi hbi hbj hcv; have hcv := own_X _ _ hEj.out) | (go_at_call 9; refine (bad9 X _ (hXs.out) (hTh.out.below (hbr.out.trans (hb0.out.mono hbr.out.size))) hwn.out).mono ?_; rintro e wk ⟨⟨t, aa, rfl⟩, hbk⟩; have hb9 := hide (hb0.out.trans (hbk.mono hb0.out.size)); have hok := hide (hoj.out.below hbk); clear hEj hoj hb0 hbk hcv; have hcw : (convert 27 9 v7).run Tryf.prog wk = .ok (.string Y) wk := by rw [← hYY]; exact own_text _ rfl hok.out))
      go_ret
      exact ⟨rfl, hbr.out.trans (hb9.out.mono hbr.out.size)⟩
end Go.Proofs.YtncoodplmpgnbaaFmt
