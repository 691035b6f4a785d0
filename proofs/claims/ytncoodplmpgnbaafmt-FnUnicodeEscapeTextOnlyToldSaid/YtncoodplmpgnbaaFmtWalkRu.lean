/-
  The walk of the statement on runes. Condition: utf8's two tables hold what their initialisers lay.
-/
import Derived.Test.YtncoodplmpgnbaaFmtGrN
namespace Go.Proofs.YtncoodplmpgnbaaFmt
open Go.RowKit Go.Lib Go.Shelf Go.Proofs
set_option linter.unusedVariables false
set_option linter.unusedSimpArgs false

theorem good8 (s : ByteArray) (w : World) (hs : s.size ≤ 1048600) (hT : TU w) (l : List UInt8) (h : unText unesc (bytesB (nlL s.data.toList)) = some l) :
    Calls Tryf.prog 8 #[.string s] w fun e w' => e = .returned (.tuple #[.string (bytesB l), .nilIface]) ∧ Below w.heap.size w w' := by
  have H := zz8 s w hs hT
  rw [h] at H
  exact H
theorem piece_le (z : Nat) : (piece (z : Int) true).length ≤ 4 := by
  unfold piece
  split
  · simp
  · show ((encodeRuneZ (z : Int)).map _).length ≤ 4
    rw [List.length_map]
    unfold encodeRuneZ
    repeat' split
    all_goals simp
set_option maxRecDepth 20000 in
set_option maxHeartbeats 8000000 in
theorem ru_0 (a : Option Addr) (n c : Nat) (rs : List Int) (b : Option Addr) (len cap : Nat) (zs : List Int) (st : Nat) (w : World) (hR : Runes w a n c rs) (hY : IsRow .u8 w b len cap zs) (hn : n ≤ 65536) (hl : len ≤ 65536) (hst : st ≤ 255) (hT : TU w) (hm : st % 2 = 0) :
    Calls Tryf.prog 5 #[.slice a n c, .slice b len cap, .int .u8 (st : Int)] w fun e w' => e = .returned (.bool true) ∧ Below w.heap.size w w' := by
  have Z := hide (zz14_yes a n c b len cap (st : Int) w (by omega))
  have HR := hide (cloneR_any a n c rs w hR (by omega))
  have HB := fun w1 (hb1 : Below w.heap.size w w1) => hide (clone8_any b len cap zs w1 (hY.below hb1) (by omega))
  have hn' : (n : Int) ≤ 65536 := by omega
  have hn0 : (0 : Int) ≤ (n : Int) := by omega
  have hl' : (len : Int) ≤ 65536 := by omega
  have hl0 : (0 : Int) ≤ (len : Int) := by omega
  have hst' : (st : Int) ≤ 255 := by omega
  have hst0 : (0 : Int) ≤ (st : Int) := by omega
  have hQ := u8_low 1 st 1 rfl (by decide) hst
  rw [show (st % 2 ^ 1 : Nat) = 0 from hm] at hQ
  have hTh := hide hT
  have hRh := hide hR
  have hnh := hide hn
  have hlh := hide hl
  have hsth := hide hst
  obtain ⟨i0, hi, hiz0, hiz1, hiz2⟩ := info_parts info5
  clear hR hY hm hT hn hl hst
  go_enter Tryf.func5, Tryf.ntmps5
  go_wp2_with fail
  refine Z.out.mono ?_
  rintro e w' ⟨rfl, rfl⟩
  clear Z
  go_wp2_with fail
  go_loopw [6, 7] (fun rv iv wr => ∃ i : Nat, iv = .int .i64 i ∧ i ≤ n ∧ Hid (∀ j (h : j < rs.length), j < i → 0 ≤ rs[j] ∧ rs[j] ≤ 1114111) ∧ w = wr) (fun _ iv _ => n - (RowKit.intOf iv).toNat)
  case atStart => exact ⟨0, rfl, Nat.zero_le _, hide (fun j h hj => absurd hj (Nat.not_lt_zero _)), rfl⟩
  case round =>
    obtain ⟨i, rfl, hi2, hP, rfl⟩ := hrel
    have hi0' : (0 : Int) ≤ (i : Int) := by omega
    have hii : (i : Int) ≤ (n : Int) := by omega
    by_cases h : i < n
    · have h' : (i : Int) < (n : Int) := by omega
      obtain ⟨x, rfl⟩ : ∃ x, a = some x := by
        cases a with
        | none => exact absurd (hRh.out.nil rfl).1 (by omega)
        | some x => exact ⟨x, rfl⟩
      have hil : i < rs.length := by rw [hRh.out.len]; exact h
      have hcs := hRh.out.src x rfl i hil
      have hPn := fun (h0 : 0 ≤ rs[i]'hil) (h1 : rs[i]'hil ≤ 1114111) => hide (show ∀ j (h : j < rs.length), j < i + 1 → 0 ≤ rs[j] ∧ rs[j] ≤ 1114111 from fun j hj hji => by
        by_cases e : j < i
        · exact hP.out j hj e
        · obtain rfl : j = i := by omega
          exact ⟨h0, h1⟩)
      generalize rs[i]'hil = z at *
      clear hP HR
      by_cases hz0 : z < 0
      · clear hPn
        go_wp2
        go_ret
        exact ⟨rfl, Below.refl _ _⟩
      · by_cases hz1 : 1114111 < z
        · clear hPn
          go_wp2
          go_ret
          exact ⟨rfl, Below.refl _ _⟩
        · have hPN := hPn (by omega) (by omega)
          clear hPn
          go_wp2
          go_roundw
          case rel => exact ⟨i + 1, by go_num, by omega, hPN, by first | rfl | trivial⟩
          case measure => simp [RowKit.intOf]; omega
    · obtain rfl : i = n := by omega
      clear hi2 h
      go_wp2_with fail
      refine HR.out.mono ?_
      rintro e w1 ⟨a1, c1, rfl, hR1, hb1⟩
      have hR1h := hide hR1
      have hb1h := hide hb1
      clear HR hR1 hb1
      go_wp2_with fail
      refine (HB w1 hb1h.out).out.mono ?_
      rintro e w2 ⟨ys, hys, cv, rfl, hown2, hb2⟩
      have hown2h := hide hown2
      have hR2 := hide (hR1h.out.below hb2)
      have hb2h := hide (hb1h.out.trans (hb2.mono hb1h.out.size))
      have hysh := hide hys
      clear HB hown2 hb2 hys hR1h hb1h
      go_wp2_with (first | (at_make; refine wpList_make_own _ rfl _ _ 27 rfl w2.heap.size 5 i0 (.int .u8 0) 1 Tryf.underlying27 hi hiz0 hiz1 .i64 .i64 _ (12 * i + 2) rfl rfl (by simp) (by rw [hiz2]; have := hnh.out; omega) (by have := hnh.out; unfold maxLen; omega) (Nat.le_refl _) ?_; intro w3 hown3 hg3; have hb3 := hide (show Below w2.heap.size w2 w3 from (Below.refl _ _).grown hg3 (Nat.le_refl _) (fun k hk => by cases hk)); have ho3 := hide (show Own w2.heap.size _ [] w3 from hown3); clear hown3 hg3) | (at_make; refine wpList_make_own _ rfl _ _ 27 rfl w2.heap.size 5 i0 (.int .u8 0) 1 Tryf.underlying27 hi hiz0 hiz1 .i64 .i64 _ (4 * i) rfl rfl (by simp) (by rw [hiz2]; have := hnh.out; omega) (by have := hnh.out; unfold maxLen; omega) (hb3.out.size) ?_; intro w4 hown4 hg4; have hb4 := hide (show Below w2.heap.size w2 w4 from hb3.out.grown hg4 hb3.out.size (fun k hk => by cases hk)); have hoW := hide (show Own w2.heap.size _ [] w4 from hown4); have ho4 := hide (show Own w2.heap.size _ [] w4 from World.ownsRow.kept ho3.out hg4 (.inr (by intro e; cases e))); have hap := hide (show Apart (.slice (some ⟨w3.heap.size, 0, none⟩) 0 (4 * i)) (.slice (some ⟨w2.heap.size, 0, none⟩) 0 (12 * i + 2)) from fun k h1 h2 => by have h3 := (World.ownsRow.lt ho3.out k h2).2; injection h1 with h1; exact absurd h1 (Nat.ne_of_gt h3)); clear hown4 hg4) | (at_builtin; refine wpList_append_own_at _ rfl _ _ 27 rfl w2.heap.size 5 i0 (.int .u8 0) 1 1 Tryf.underlying27 hi hiz0 hiz1 hiz2 rfl (by decide) _ _ _ rfl (World.ownsRow.alloc (ho4.out) _) ⟨w4.heap.size, 0, none⟩ 1 1 [.int .u8 34] rfl rfl (by intro j u hj; match j, hj with | 0, hj => simp at hj; subst hj; simp [Addr.add]) (by intro u hu; simp at hu; subst hu; rfl) (by unfold maxLen; simp) (by simp) (by have := hb4.out.size; simp; omega) ?_; intro v5 w5 hown' hg' _ hat'; have hR := hide (put_own (v' := v5) (w1 := w5) [34] (by simp) hb4.out.size ho4.out (m := 1) rfl rfl hown' hg' hat'); clear hown' hg' hat'))
      have hoW5 := hide (hoW.out.keep hR.out.2 hap.out)
      have hap5 := hide (hap.out.grow hoW.out hR.out.2)
      have hb5 := hide (hb4.out.trans hR.out.2.bel)
      have ho5 := hide hR.out.1
      clear hR hap hoW ho4 hb4 ho3 hb3
      go_loopw [11, 12, 13] (fun ev wv iv wr => ∃ (j : Nat) (M D : List UInt8), iv = .int .i64 j ∧ j ≤ i ∧ M.length ≤ 12 * j ∧ D.length ≤ 4 * j ∧ Hid (Own w2.heap.size ev (34 :: M) wr) ∧ Hid (Own w2.heap.size wv D wr) ∧ Hid (Apart wv ev) ∧ Hid (Spelt unesc D M) ∧ Hid (Below w2.heap.size w2 wr)) (fun _ _ iv _ => i - (RowKit.intOf iv).toNat)
      case atStart => exact ⟨0, [], [], rfl, Nat.zero_le _, by simp, by simp, ho5, hoW5, hap5, hide (Spelt.nil _), hb5⟩
      case round =>
        clear ho5 hoW5 hap5 hb5
        obtain ⟨j, M, D, rfl, hj2, hM, hD, oE, oW, hap, hS, hb⟩ := hrel
        have hj0 : (0 : Int) ≤ (j : Int) := by omega
        have hjj : (j : Int) ≤ (i : Int) := by omega
        have hbs := hb.out.size
        have hnn := hnh.out
        by_cases h : j < i
        · have h' : (j : Int) < (i : Int) := by omega
          obtain ⟨x, rfl⟩ : ∃ x, a1 = some x := by
            cases a1 with
            | none => exact absurd (hR2.out.nil rfl).1 (by omega)
            | some x => exact ⟨x, rfl⟩
          have hjl : j < rs.length := by rw [hR2.out.len]; exact h
          have hsr := hide (hR2.out.below hb.out)
          have hcs := hsr.out.src x rfl j hjl
          have hcsd := fun w' (hb' : Below w2.heap.size w2 w') => (hR2.out.below hb').src x rfl j hjl
          have hzz := hP.out j hjl h
          obtain ⟨z, hz⟩ := Int.eq_ofNat_of_zero_le hzz.1
          rw [hz] at hcs
          simp only [hz] at hcsd
          have hzle := hide (show z ≤ 1114111 by omega)
          have hz0 : (0 : Int) ≤ (z : Int) := by omega
          have hz1 : (z : Int) ≤ 1114111 := by omega
          have hzw := hide hz
          clear hzz hz
          have hSp := fun E (hE : SpellU z E) => hide (show Spelt unesc (D ++ piece (z : Int) true) (M ++ u8L E) by
            obtain ⟨mb, h1, h2⟩ := hE.reads
            have := hS.out.more good_unesc hE.pos hE.lt h1
            rw [h2] at this
            exact this)
          have hC13 := fun w' (hb' : Below wr.heap.size wr w') => hide (spellAt_any w1.heap.size cv ys j st w' ((hown2h.out.below hb.out).below hb') (by omega) hsth.out (by have := hysh.out; have := hlh.out; omega))
          have hC16 := fun b (hb8 : b ≤ 255) w' (hb' : Below wr.heap.size wr w') => hide (encRune_any z b 34 w' w2.heap.size _ (34 :: M) hzle.out hb8 (by decide) (Nat.le_trans hbs hb'.size) (by simp; omega) (oE.out.below hb'))
          clear hS
          have hdr : Below wr.heap.size wr wr.drew := below_drewN' (Below.refl _ wr) 1
          have hdrh := hide hdr
          have hoWd := hide (oW.out.below hdr)
          have hcsdh := hide hcsd
          clear hcsd
          go_wp2_with fail
          go_region_with (first | (go_at_call 13; refine (hC13 _ hdr).out.mono ?_; rintro e w' ⟨⟨b, hb8, rfl⟩, rfl⟩) | (go_at_call 16; refine (hC16 b hb8 _ hdr).out.mono ?_; rintro e w' ⟨E, hE, v', rfl, ho', hb'⟩))
          all_goals (
            have hElen := hide hE.le
            have hSN := hSp E hE
            have hoN := hide (show Own w2.heap.size v' (34 :: (M ++ u8L E)) w' from ho')
            have hoW1 := hide (hoWd.out.keep hb' hap.out)
            have hap1 := hide (hap.out.grow hoWd.out hb')
            have hbN := hide (hdr.mono hbs |>.trans hb'.bel)
            have hcs1 := hide (hcsdh.out w' (hb.out.trans hbN.out))
            clear hSp hE ho' hb' hC13 hC16 hdr hcs
            have hC17 := hide (uni_any z w' w2.heap.size _ D (Nat.le_trans hbs hbN.out.size) (by omega) hoW1.out hzle.out)
            have hcs := hcs1.out
            go_wp2_with (go_at_call 17; refine hC17.out.mono ?_; rintro e w3 ⟨v3, rfl, ho3, hb3⟩)
            refine ⟨⟨j + 1, M ++ u8L E, D ++ piece (z : Int) true, by go_num, by omega, by rw [List.length_append, u8L_length]; have := hElen.out; omega, by rw [List.length_append]; have := piece_le z; omega, hide (hoN.out.keep hb3 hap1.out.symm), hide ho3, hide (hap1.out.symm.grow hoN.out hb3).symm, hSN, hide (hb.out.trans (hbN.out.trans hb3.bel))⟩, ?_⟩
            simp [RowKit.intOf]
            omega)
        · obtain rfl : j = i := by omega
          have hSz := hide (show M.length + 2 ≤ 1048600 by omega)
          have hMl := hide hM
          have hwh := hS.out.whole 34 (by decide)
          obtain ⟨X, hX⟩ : ∃ X, bytesB (34 :: (M ++ [34])) = X := ⟨_, rfl⟩
          have hXs := hide (show X.size = M.length + 2 by rw [← hX, bytesB_size]; simp)
          rw [hX] at hwh
          have hwh' := hide hwh
          clear hM hwh hS
          obtain ⟨Y, hYY⟩ : ∃ Y, bytesB D = Y := ⟨_, rfl⟩
          go_wp2_with (first | (at_builtin; refine wpList_append_own_at _ rfl _ _ 27 rfl w2.heap.size 5 i0 (.int .u8 0) 1 1 Tryf.underlying27 hi hiz0 hiz1 hiz2 rfl (by decide) _ _ _ rfl (World.ownsRow.alloc (oE.out) _) ⟨wr.heap.size, 0, none⟩ 1 1 [.int .u8 34] rfl rfl (by intro j u hj; match j, hj with | 0, hj => simp at hj; subst hj; simp [Addr.add]) (by intro u hu; simp at hu; subst hu; rfl) (by have := hMl.out; unfold maxLen; simp; omega) (by have := hMl.out; simp; omega) (by simp; omega) ?_; intro v5 w5 hown' hg' _ hat'; have hR := hide (put_own (v' := v5) (w1 := w5) [34] (by simp) hbs oE.out (m := 1) rfl rfl hown' hg' hat'); clear hown' hg' hat'; have hb5 := hide (hb.out.trans hR.out.2.bel); have hoW5 := hide (oW.out.keep hR.out.2 hap.out); have hcv : (convert 27 9 v5).run Tryf.prog w5 = .ok (.string X) w5 := by rw [← hX]; exact own_text (34 :: (M ++ [34])) rfl hR.out.1) | (go_at_call 8; refine (good8 X w5 (by have := hXs.out; have := hSz.out; omega) (hTh.out.below (hb2h.out.trans (hb5.out.mono hb2h.out.size))) _ hwh'.out).mono ?_; rintro e w6 ⟨rfl, hb6⟩; rw [hYY]; have hcw : (convert 27 9 u12).run Tryf.prog w6 = .ok (.string Y) w6 := by rw [← hYY]; exact own_text D rfl (hoW5.out.below hb6)))
          go_ret
          exact ⟨rfl, hb2h.out.trans ((hb5.out.mono hb2h.out.size).trans (hb6.mono (Nat.le_trans hb2h.out.size hb5.out.size)))⟩
set_option maxRecDepth 20000 in
set_option maxHeartbeats 8000000 in
theorem ru_1 (a : Option Addr) (n c : Nat) (rs : List Int) (b : Option Addr) (len cap : Nat) (zs : List Int) (st : Nat) (w : World) (hR : Runes w a n c rs) (hY : IsRow .u8 w b len cap zs) (hn : n ≤ 65536) (hl : len ≤ 65536) (hst : st ≤ 255) (hT : TU w) (hm : st % 2 = 1) :
    Calls Tryf.prog 5 #[.slice a n c, .slice b len cap, .int .u8 (st : Int)] w fun e w' => e = .returned (.bool true) ∧ Below w.heap.size w w' := by
  have Z := hide (zz14_yes a n c b len cap (st : Int) w (by omega))
  have HR := hide (cloneR_any a n c rs w hR (by omega))
  have HB := fun w1 (hb1 : Below w.heap.size w w1) => hide (clone8_any b len cap zs w1 (hY.below hb1) (by omega))
  have hn' : (n : Int) ≤ 65536 := by omega
  have hn0 : (0 : Int) ≤ (n : Int) := by omega
  have hl' : (len : Int) ≤ 65536 := by omega
  have hl0 : (0 : Int) ≤ (len : Int) := by omega
  have hst' : (st : Int) ≤ 255 := by omega
  have hst0 : (0 : Int) ≤ (st : Int) := by omega
  have hQ := u8_low 1 st 1 rfl (by decide) hst
  rw [show (st % 2 ^ 1 : Nat) = 1 from hm] at hQ
  have hTh := hide hT
  have hRh := hide hR
  have hnh := hide hn
  have hlh := hide hl
  have hsth := hide hst
  obtain ⟨i0, hi, hiz0, hiz1, hiz2⟩ := info_parts info5
  clear hR hY hm hT hn hl hst
  go_enter Tryf.func5, Tryf.ntmps5
  go_wp2_with fail
  refine Z.out.mono ?_
  rintro e w' ⟨rfl, rfl⟩
  clear Z
  go_wp2_with fail
  go_loopw [6, 7] (fun rv iv wr => ∃ i : Nat, iv = .int .i64 i ∧ i ≤ n ∧ Hid (∀ j (h : j < rs.length), j < i → 0 ≤ rs[j] ∧ rs[j] ≤ 1114111) ∧ w = wr) (fun _ iv _ => n - (RowKit.intOf iv).toNat)
  case atStart => exact ⟨0, rfl, Nat.zero_le _, hide (fun j h hj => absurd hj (Nat.not_lt_zero _)), rfl⟩
  case round =>
    obtain ⟨i, rfl, hi2, hP, rfl⟩ := hrel
    have hi0' : (0 : Int) ≤ (i : Int) := by omega
    have hii : (i : Int) ≤ (n : Int) := by omega
    by_cases h : i < n
    · have h' : (i : Int) < (n : Int) := by omega
      obtain ⟨x, rfl⟩ : ∃ x, a = some x := by
        cases a with
        | none => exact absurd (hRh.out.nil rfl).1 (by omega)
        | some x => exact ⟨x, rfl⟩
      have hil : i < rs.length := by rw [hRh.out.len]; exact h
      have hcs := hRh.out.src x rfl i hil
      have hPn := fun (h0 : 0 ≤ rs[i]'hil) (h1 : rs[i]'hil ≤ 1114111) => hide (show ∀ j (h : j < rs.length), j < i + 1 → 0 ≤ rs[j] ∧ rs[j] ≤ 1114111 from fun j hj hji => by
        by_cases e : j < i
        · exact hP.out j hj e
        · obtain rfl : j = i := by omega
          exact ⟨h0, h1⟩)
      generalize rs[i]'hil = z at *
      clear hP HR
      by_cases hz0 : z < 0
      · clear hPn
        go_wp2
        go_ret
        exact ⟨rfl, Below.refl _ _⟩
      · by_cases hz1 : 1114111 < z
        · clear hPn
          go_wp2
          go_ret
          exact ⟨rfl, Below.refl _ _⟩
        · have hPN := hPn (by omega) (by omega)
          clear hPn
          go_wp2
          go_roundw
          case rel => exact ⟨i + 1, by go_num, by omega, hPN, by first | rfl | trivial⟩
          case measure => simp [RowKit.intOf]; omega
    · obtain rfl : i = n := by omega
      clear hi2 h
      go_wp2_with fail
      refine HR.out.mono ?_
      rintro e w1 ⟨a1, c1, rfl, hR1, hb1⟩
      have hR1h := hide hR1
      have hb1h := hide hb1
      clear HR hR1 hb1
      go_wp2_with fail
      refine (HB w1 hb1h.out).out.mono ?_
      rintro e w2 ⟨ys, hys, cv, rfl, hown2, hb2⟩
      have hown2h := hide hown2
      have hR2 := hide (hR1h.out.below hb2)
      have hb2h := hide (hb1h.out.trans (hb2.mono hb1h.out.size))
      have hysh := hide hys
      clear HB hown2 hb2 hys hR1h hb1h
      go_wp2_with (first | (at_make; refine wpList_make_own _ rfl _ _ 27 rfl w2.heap.size 5 i0 (.int .u8 0) 1 Tryf.underlying27 hi hiz0 hiz1 .i64 .i64 _ (12 * i + 2) rfl rfl (by simp) (by rw [hiz2]; have := hnh.out; omega) (by have := hnh.out; unfold maxLen; omega) (Nat.le_refl _) ?_; intro w3 hown3 hg3; have hb3 := hide (show Below w2.heap.size w2 w3 from (Below.refl _ _).grown hg3 (Nat.le_refl _) (fun k hk => by cases hk)); have ho3 := hide (show Own w2.heap.size _ [] w3 from hown3); clear hown3 hg3) | (at_make; refine wpList_make_own _ rfl _ _ 27 rfl w2.heap.size 5 i0 (.int .u8 0) 1 Tryf.underlying27 hi hiz0 hiz1 .i64 .i64 _ (4 * i) rfl rfl (by simp) (by rw [hiz2]; have := hnh.out; omega) (by have := hnh.out; unfold maxLen; omega) (hb3.out.size) ?_; intro w4 hown4 hg4; have hb4 := hide (show Below w2.heap.size w2 w4 from hb3.out.grown hg4 hb3.out.size (fun k hk => by cases hk)); have hoW := hide (show Own w2.heap.size _ [] w4 from hown4); have ho4 := hide (show Own w2.heap.size _ [] w4 from World.ownsRow.kept ho3.out hg4 (.inr (by intro e; cases e))); have hap := hide (show Apart (.slice (some ⟨w3.heap.size, 0, none⟩) 0 (4 * i)) (.slice (some ⟨w2.heap.size, 0, none⟩) 0 (12 * i + 2)) from fun k h1 h2 => by have h3 := (World.ownsRow.lt ho3.out k h2).2; injection h1 with h1; exact absurd h1 (Nat.ne_of_gt h3)); clear hown4 hg4) | (at_builtin; refine wpList_append_own_at _ rfl _ _ 27 rfl w2.heap.size 5 i0 (.int .u8 0) 1 1 Tryf.underlying27 hi hiz0 hiz1 hiz2 rfl (by decide) _ _ _ rfl (World.ownsRow.alloc (ho4.out) _) ⟨w4.heap.size, 0, none⟩ 1 1 [.int .u8 39] rfl rfl (by intro j u hj; match j, hj with | 0, hj => simp at hj; subst hj; simp [Addr.add]) (by intro u hu; simp at hu; subst hu; rfl) (by unfold maxLen; simp) (by simp) (by have := hb4.out.size; simp; omega) ?_; intro v5 w5 hown' hg' _ hat'; have hR := hide (put_own (v' := v5) (w1 := w5) [39] (by simp) hb4.out.size ho4.out (m := 1) rfl rfl hown' hg' hat'); clear hown' hg' hat'))
      have hoW5 := hide (hoW.out.keep hR.out.2 hap.out)
      have hap5 := hide (hap.out.grow hoW.out hR.out.2)
      have hb5 := hide (hb4.out.trans hR.out.2.bel)
      have ho5 := hide hR.out.1
      clear hR hap hoW ho4 hb4 ho3 hb3
      go_loopw [11, 12, 13] (fun ev wv iv wr => ∃ (j : Nat) (M D : List UInt8), iv = .int .i64 j ∧ j ≤ i ∧ M.length ≤ 12 * j ∧ D.length ≤ 4 * j ∧ Hid (Own w2.heap.size ev (39 :: M) wr) ∧ Hid (Own w2.heap.size wv D wr) ∧ Hid (Apart wv ev) ∧ Hid (Spelt unesc D M) ∧ Hid (Below w2.heap.size w2 wr)) (fun _ _ iv _ => i - (RowKit.intOf iv).toNat)
      case atStart => exact ⟨0, [], [], rfl, Nat.zero_le _, by simp, by simp, ho5, hoW5, hap5, hide (Spelt.nil _), hb5⟩
      case round =>
        clear ho5 hoW5 hap5 hb5
        obtain ⟨j, M, D, rfl, hj2, hM, hD, oE, oW, hap, hS, hb⟩ := hrel
        have hj0 : (0 : Int) ≤ (j : Int) := by omega
        have hjj : (j : Int) ≤ (i : Int) := by omega
        have hbs := hb.out.size
        have hnn := hnh.out
        by_cases h : j < i
        · have h' : (j : Int) < (i : Int) := by omega
          obtain ⟨x, rfl⟩ : ∃ x, a1 = some x := by
            cases a1 with
            | none => exact absurd (hR2.out.nil rfl).1 (by omega)
            | some x => exact ⟨x, rfl⟩
          have hjl : j < rs.length := by rw [hR2.out.len]; exact h
          have hsr := hide (hR2.out.below hb.out)
          have hcs := hsr.out.src x rfl j hjl
          have hcsd := fun w' (hb' : Below w2.heap.size w2 w') => (hR2.out.below hb').src x rfl j hjl
          have hzz := hP.out j hjl h
          obtain ⟨z, hz⟩ := Int.eq_ofNat_of_zero_le hzz.1
          rw [hz] at hcs
          simp only [hz] at hcsd
          have hzle := hide (show z ≤ 1114111 by omega)
          have hz0 : (0 : Int) ≤ (z : Int) := by omega
          have hz1 : (z : Int) ≤ 1114111 := by omega
          have hzw := hide hz
          clear hzz hz
          have hSp := fun E (hE : SpellU z E) => hide (show Spelt unesc (D ++ piece (z : Int) true) (M ++ u8L E) by
            obtain ⟨mb, h1, h2⟩ := hE.reads
            have := hS.out.more good_unesc hE.pos hE.lt h1
            rw [h2] at this
            exact this)
          have hC13 := fun w' (hb' : Below wr.heap.size wr w') => hide (spellAt_any w1.heap.size cv ys j st w' ((hown2h.out.below hb.out).below hb') (by omega) hsth.out (by have := hysh.out; have := hlh.out; omega))
          have hC16 := fun b (hb8 : b ≤ 255) w' (hb' : Below wr.heap.size wr w') => hide (encRune_any z b 39 w' w2.heap.size _ (39 :: M) hzle.out hb8 (by decide) (Nat.le_trans hbs hb'.size) (by simp; omega) (oE.out.below hb'))
          clear hS
          have hdr : Below wr.heap.size wr wr.drew := below_drewN' (Below.refl _ wr) 1
          have hdrh := hide hdr
          have hoWd := hide (oW.out.below hdr)
          have hcsdh := hide hcsd
          clear hcsd
          go_wp2_with fail
          go_region_with (first | (go_at_call 13; refine (hC13 _ hdr).out.mono ?_; rintro e w' ⟨⟨b, hb8, rfl⟩, rfl⟩) | (go_at_call 16; refine (hC16 b hb8 _ hdr).out.mono ?_; rintro e w' ⟨E, hE, v', rfl, ho', hb'⟩))
          all_goals (
            have hElen := hide hE.le
            have hSN := hSp E hE
            have hoN := hide (show Own w2.heap.size v' (39 :: (M ++ u8L E)) w' from ho')
            have hoW1 := hide (hoWd.out.keep hb' hap.out)
            have hap1 := hide (hap.out.grow hoWd.out hb')
            have hbN := hide (hdr.mono hbs |>.trans hb'.bel)
            have hcs1 := hide (hcsdh.out w' (hb.out.trans hbN.out))
            clear hSp hE ho' hb' hC13 hC16 hdr hcs
            have hC17 := hide (uni_any z w' w2.heap.size _ D (Nat.le_trans hbs hbN.out.size) (by omega) hoW1.out hzle.out)
            have hcs := hcs1.out
            go_wp2_with (go_at_call 17; refine hC17.out.mono ?_; rintro e w3 ⟨v3, rfl, ho3, hb3⟩)
            refine ⟨⟨j + 1, M ++ u8L E, D ++ piece (z : Int) true, by go_num, by omega, by rw [List.length_append, u8L_length]; have := hElen.out; omega, by rw [List.length_append]; have := piece_le z; omega, hide (hoN.out.keep hb3 hap1.out.symm), hide ho3, hide (hap1.out.symm.grow hoN.out hb3).symm, hSN, hide (hb.out.trans (hbN.out.trans hb3.bel))⟩, ?_⟩
            simp [RowKit.intOf]
            omega)
        · obtain rfl : j = i := by omega
          have hSz := hide (show M.length + 2 ≤ 1048600 by omega)
          have hMl := hide hM
          have hwh := hS.out.whole 39 (by decide)
          obtain ⟨X, hX⟩ : ∃ X, bytesB (39 :: (M ++ [39])) = X := ⟨_, rfl⟩
          have hXs := hide (show X.size = M.length + 2 by rw [← hX, bytesB_size]; simp)
          rw [hX] at hwh
          have hwh' := hide hwh
          clear hM hwh hS
          obtain ⟨Y, hYY⟩ : ∃ Y, bytesB D = Y := ⟨_, rfl⟩
          go_wp2_with (first | (at_builtin; refine wpList_append_own_at _ rfl _ _ 27 rfl w2.heap.size 5 i0 (.int .u8 0) 1 1 Tryf.underlying27 hi hiz0 hiz1 hiz2 rfl (by decide) _ _ _ rfl (World.ownsRow.alloc (oE.out) _) ⟨wr.heap.size, 0, none⟩ 1 1 [.int .u8 39] rfl rfl (by intro j u hj; match j, hj with | 0, hj => simp at hj; subst hj; simp [Addr.add]) (by intro u hu; simp at hu; subst hu; rfl) (by have := hMl.out; unfold maxLen; simp; omega) (by have := hMl.out; simp; omega) (by simp; omega) ?_; intro v5 w5 hown' hg' _ hat'; have hR := hide (put_own (v' := v5) (w1 := w5) [39] (by simp) hbs oE.out (m := 1) rfl rfl hown' hg' hat'); clear hown' hg' hat'; have hb5 := hide (hb.out.trans hR.out.2.bel); have hoW5 := hide (oW.out.keep hR.out.2 hap.out); have hcv : (convert 27 9 v5).run Tryf.prog w5 = .ok (.string X) w5 := by rw [← hX]; exact own_text (39 :: (M ++ [39])) rfl hR.out.1) | (go_at_call 8; refine (good8 X w5 (by have := hXs.out; have := hSz.out; omega) (hTh.out.below (hb2h.out.trans (hb5.out.mono hb2h.out.size))) _ hwh'.out).mono ?_; rintro e w6 ⟨rfl, hb6⟩; rw [hYY]; have hcw : (convert 27 9 u12).run Tryf.prog w6 = .ok (.string Y) w6 := by rw [← hYY]; exact own_text D rfl (hoW5.out.below hb6)))
          go_ret
          exact ⟨rfl, hb2h.out.trans ((hb5.out.mono hb2h.out.size).trans (hb6.mono (Nat.le_trans hb2h.out.size hb5.out.size)))⟩
theorem IsRow.max {k : IntKind} {w : World} {a : Option Addr} {n c : Nat} {zs : List Int} (h : IsRow k w a n c zs) : n ≤ maxLen := by
  rcases h with ⟨_, h, _⟩ | ⟨x, _, h, h2, _⟩
  · omega
  · omega
theorem all5 (a : Option Addr) (n c : Nat) (zs : List Int) (b : Option Addr) (len cap : Nat) (ys : List Int) (st : Int) (w : World) (hr : IsRow .i32 w a n c zs) (hy : IsRow .u8 w b len cap ys) (h0 : 0 ≤ st) (h1 : st ≤ 255) (hT : TU w) :
    Calls Tryf.prog 5 #[.slice a n c, .slice b len cap, .int .u8 st] w fun e w' => e = .returned (.bool true) ∧ Below w.heap.size w w' := by
  obtain ⟨st, rfl⟩ := Int.eq_ofNat_of_zero_le h0
  have hm1 := hr.max
  have hm2 := hy.max
  by_cases hb : n + len ≤ 1048576
  · have Z := hide (zz14_yes a n c b len cap (st : Int) w hb)
    by_cases h2 : n ≤ 65536
    · by_cases h3 : len ≤ 65536
      · rcases (show st % 2 = 0 ∨ st % 2 = 1 by omega) with h | h
        · exact ru_0 a n c _ b len cap ys st w hr.runes hy h2 h3 (by omega) hT h
        · exact ru_1 a n c _ b len cap ys st w hr.runes hy h2 h3 (by omega) hT h
      · have h2' : (n : Int) ≤ 65536 := by omega
        have h3' : (65536 : Int) < (len : Int) := by omega
        clear hr hy hm1 hm2 h0 h1 hT hb h2 h3
        go_enter Tryf.func5, Tryf.ntmps5
        go_wp2_with fail
        refine Z.out.mono ?_
        rintro e w' ⟨rfl, rfl⟩
        go_wp2
        all_goals (first | (go_ret; exact ⟨rfl, Below.refl _ _⟩) | (exfalso; omega))
    · have h2' : (65536 : Int) < (n : Int) := by omega
      clear hr hy hm1 hm2 h0 h1 hT hb h2
      go_enter Tryf.func5, Tryf.ntmps5
      go_wp2_with fail
      refine Z.out.mono ?_
      rintro e w' ⟨rfl, rfl⟩
      go_wp2
      all_goals (first | (go_ret; exact ⟨rfl, Below.refl _ _⟩) | (exfalso; omega))
  · have Z := hide (zz14_no a n c b len cap (st : Int) w (by omega) ⟨hm1, hm2⟩)
    clear hr hy hm1 hm2 h0 h1 hT hb
    go_enter Tryf.func5, Tryf.ntmps5
    go_wp2_with fail
    refine Z.out.mono ?_
    rintro e w' ⟨rfl, rfl⟩
    go_wp2
    go_ret
    exact ⟨rfl, Below.refl _ _⟩
end Go.Proofs.YtncoodplmpgnbaaFmt
