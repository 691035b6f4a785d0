/-
  The walk of the statement on bytes. Condition: utf8's two tables hold what their initialisers lay.
-/
import Derived.Test.YtncoodplmpgnbaaFmtAppC
import Derived.Test.YtncoodplmpgnbaaFmtAppD
import Derived.Test.YtncoodplmpgnbaaFmtAppE
namespace Go.Proofs.YtncoodplmpgnbaaFmt
open Go.RowKit Go.Lib Go.Shelf Go.Proofs
set_option linter.unusedVariables false
set_option linter.unusedSimpArgs false

theorem take_byte (s : ByteArray) (i : Nat) (h : i < s.size) : s.data.toList.take (i + 1) = s.data.toList.take i ++ [(byteAt s i).toUInt8] := by
  have h1 := byteAt_list s i h
  rw [List.take_add_one, h1.1]
  rfl
theorem take_all (s : ByteArray) : s.data.toList.take s.size = s.data.toList := List.take_of_length_le (by rw [len_data]; exact Nat.le_refl _)
theorem good9 (s : ByteArray) (w : World) (hs : s.size ≤ 1048600) (hT : TU w) (l : List UInt8) (h : unText unescB (bytesB (nlL s.data.toList)) = some l) :
    Calls Tryf.prog 9 #[.string s] w fun e w' => e = .returned (.tuple #[.string (bytesB l), .nilIface]) ∧ Below w.heap.size w w' := by
  have H := zz9 s w hs hT
  rw [h] at H
  exact H
set_option maxRecDepth 20000 in
set_option maxHeartbeats 4000000 in
theorem by_0 (s : ByteArray) (a : Option Addr) (len cap : Nat) (zs : List Int) (st : Nat) (w : World) (hr : IsRow .u8 w a len cap zs) (hs : s.size ≤ 65536) (hn : len ≤ 65536) (hst : st ≤ 255) (hT : TU w) (hm : st % 2 = 0) :
    Calls Tryf.prog 4 #[.string s, .slice a len cap, .int .u8 (st : Int)] w fun e w' => e = .returned (.bool true) ∧ Below w.heap.size w w' := by
  have Z := hide (zz10_yes s a len cap (st : Int) w (by omega))
  have HC := hide (clone8_any a len cap zs w hr (by omega))
  have hs' : (s.size : Int) ≤ 65536 := by omega
  have hn' : (len : Int) ≤ 65536 := by omega
  have hl0 : (0 : Int) ≤ (len : Int) := by omega
  have hst' : (st : Int) ≤ 255 := by omega
  have hst0 : (0 : Int) ≤ (st : Int) := by omega
  have hQ := u8_low 1 st 1 rfl (by decide) hst
  rw [show (st % 2 ^ 1 : Nat) = 0 from hm] at hQ
  have hTh := hide hT
  have hsh := hide hs
  have hnh := hide hn
  have hsth := hide hst
  obtain ⟨i0, hi, hz0, hz1, hz2⟩ := info_parts info5
  clear hr hm hT hs hn hst
  go_enter Tryf.func4, Tryf.ntmps4
  go_wp2_with fail
  refine Z.out.mono ?_
  rintro e w' ⟨rfl, rfl⟩
  go_wp2_with fail
  refine HC.out.mono ?_
  rintro e w1 ⟨ys, hys, cv, rfl, hown1, hbw1⟩
  have hown1h := hide hown1
  have hbw1h := hide hbw1
  have hysh := hide hys
  clear hown1 hbw1 hys HC Z
  go_wp2_with (first | (at_make; refine wpList_make_own _ rfl _ _ 27 rfl w1.heap.size 5 i0 (.int .u8 0) 1 Tryf.underlying27 hi hz0 hz1 .i64 .i64 _ (4 * s.size + 2) rfl rfl (by simp) (by rw [hz2]; have := hsh.out; omega) (by have := hsh.out; unfold maxLen; omega) (Nat.le_refl _) ?_; intro w2 hown2 hg2; have hb2 := hide (show Below w1.heap.size w1 w2 from (Below.refl _ _).grown hg2 (Nat.le_refl _) (fun k hk => by cases hk)); have hown2h := hide (show Own w1.heap.size _ [] w2 from hown2); clear hown2 hg2) | (at_builtin; refine wpList_append_own _ rfl _ _ 27 rfl w1.heap.size 5 i0 (.int .u8 0) 1 1 Tryf.underlying27 hi hz0 hz1 hz2 rfl (by decide) _ _ _ rfl (World.ownsRow.alloc hown2h.out _) ⟨w2.heap.size, 0, none⟩ 1 1 [.int .u8 34] rfl rfl (by intro j u hj; match j, hj with | 0, hj => simp at hj; subst hj; simp [Addr.add]) (by intro u hu; simp at hu; subst hu; rfl) (by unfold maxLen; simp) (by simp) (by have := hb2.out.size; simp; omega) ?_; intro v3 w3 hown' hg'; have hR := hide (put_own (v' := v3) (w1 := w3) [34] (by simp) hb2.out.size hown2h.out (m := 1) rfl rfl hown' hg'); clear hown' hg'; intro _))
  have hb3 := hide (hb2.out.trans hR.out.2)
  have ho3 := hide hR.out.1
  clear hR hb2 hown2h
  go_loopw [9, 10] (fun vv iv wr => ∃ (i : Nat) (M : List UInt8), iv = .int .i64 i ∧ i ≤ s.size ∧ M.length ≤ 4 * i ∧ Hid (Own w1.heap.size vv (34 :: M) wr) ∧ Hid (Spelt unescB (s.data.toList.take i) M) ∧ Hid (Below w1.heap.size w1 wr)) (fun _ iv _ => s.size - (RowKit.intOf iv).toNat)
  case atStart => exact ⟨0, [], rfl, Nat.zero_le _, by simp, hide ho3.out, hide (by rw [List.take_zero]; exact Spelt.nil _), hb3⟩
  case round =>
    clear ho3 hb3
    obtain ⟨i, M, rfl, hi2, hM, own, hS, hb⟩ := hrel
    have hi0' : (0 : Int) ≤ (i : Int) := by omega
    have hii : (i : Int) ≤ (s.size : Int) := by omega
    have hbs := hb.out.size
    have hsn := hsh.out
    by_cases h : i < s.size
    · have h' : (i : Int) < (s.size : Int) := by omega
      have gi : ∀ h : i < s.size, ((s[i]'h).toNat : Int) = (byteAt s i : Int) := fun h => byteAt_get s i h
      have hx := byteAt_le s i
      have hSp := fun E (hE : Spell (byteAt s i) E) => hide (show Spelt unescB (s.data.toList.take (i + 1)) (M ++ u8L E) by
        have := hS.out.more good_unescB hE.pos hE.lt hE.reads
        rw [piece_byte _ hx, ← take_byte s i h] at this
        exact this)
      have hC13 := fun w' (hb' : Below wr.heap.size wr w') => hide (spellAt_any w.heap.size cv ys i st w' ((hown1h.out.below hb.out).below hb') (by omega) hsth.out (by have := hysh.out; have := hnh.out; omega))
      have hC12 := fun b (hb8 : b ≤ 255) w' (hb' : Below wr.heap.size wr w') => hide (encByte_any (byteAt s i) b w' w1.heap.size _ (34 :: M) hx hb8 (Nat.le_trans hbs hb'.size) (by simp; omega) (own.out.below hb'))
      clear hS
      have hdr : Below wr.heap.size wr wr.drew := below_drewN' (Below.refl _ wr) 1
      generalize byteAt s i = x at *
      go_wp2_with fail
      go_region_with (first | (go_at_call 13; refine (hC13 _ hdr).out.mono ?_; rintro e w' ⟨⟨b, hb8, rfl⟩, rfl⟩) | (go_at_call 12; obtain ⟨E, hE, hCE⟩ := (hC12 b hb8 _ hdr).out; refine hCE.mono ?_; rintro e w' ⟨v', rfl, ho', hb'⟩))
      all_goals (
        have hElen := hide hE.le
        have hSN := hSp E hE
        have hbN := hide (hb.out.trans ((hdr.mono hbs).trans hb'))
        have hoN := hide (show Own w1.heap.size v' (34 :: (M ++ u8L E)) w' from ho')
        clear hSp hE ho' hb' hC13 hC12 hdr
        try go_wp2
        refine ⟨⟨i + 1, M ++ u8L E, by go_num, by omega, by rw [List.length_append, u8L_length]; have := hElen.out; omega, hoN, hSN, hbN⟩, ?_⟩
        simp [RowKit.intOf]
        omega)
    · obtain rfl : i = s.size := by omega
      rw [take_all] at hS
      have hT9 := hide (hTh.out.below (hbw1h.out.trans (hb.out.mono hbw1h.out.size)))
      have hSz := hide (show M.length + 2 ≤ 1048600 by omega)
      have hMl := hide hM
      have hwh := hS.out.whole 34 (by decide)
      obtain ⟨X, hX⟩ : ∃ X, bytesB (34 :: (M ++ [34])) = X := ⟨_, rfl⟩
      have hXs := hide (show X.size = M.length + 2 by rw [← hX, bytesB_size]; simp)
      rw [hX] at hwh
      have hwh' := hide hwh
      clear hM hwh hS
      go_wp2_with (first | (at_builtin; refine wpList_append_own _ rfl _ _ 27 rfl w1.heap.size 5 i0 (.int .u8 0) 1 1 Tryf.underlying27 hi hz0 hz1 hz2 rfl (by decide) _ _ _ rfl (World.ownsRow.alloc own.out _) ⟨wr.heap.size, 0, none⟩ 1 1 [.int .u8 34] rfl rfl (by intro j u hj; match j, hj with | 0, hj => simp at hj; subst hj; simp [Addr.add]) (by intro u hu; simp at hu; subst hu; rfl) (by have := hMl.out; unfold maxLen; simp; omega) (by have := hMl.out; simp; omega) (by simp; omega) ?_; intro v5 w5 hown' hg' _; have hR := hide (put_own (v' := v5) (w1 := w5) [34] (by simp) hbs own.out (m := 1) rfl rfl hown' hg'); clear hown' hg'; have hb5 := hide (hb.out.trans hR.out.2); have hcv : (convert 27 9 v5).run Tryf.prog w5 = .ok (.string X) w5 := by rw [← hX]; exact own_text (34 :: (M ++ [34])) rfl hR.out.1) | (go_at_call 9; refine (good9 X w5 (by have := hXs.out; have := hSz.out; omega) (hTh.out.below (hbw1h.out.trans (hb5.out.mono hbw1h.out.size))) _ hwh'.out).mono ?_; rintro e w6 ⟨rfl, hb6⟩; rw [bytesB_of]))
      go_ret
      exact ⟨rfl, hbw1h.out.trans ((hb5.out.mono hbw1h.out.size).trans (hb6.mono (Nat.le_trans hbw1h.out.size hb5.out.size)))⟩
set_option maxRecDepth 20000 in
set_option maxHeartbeats 4000000 in
theorem by_1 (s : ByteArray) (a : Option Addr) (len cap : Nat) (zs : List Int) (st : Nat) (w : World) (hr : IsRow .u8 w a len cap zs) (hs : s.size ≤ 65536) (hn : len ≤ 65536) (hst : st ≤ 255) (hT : TU w) (hm : st % 2 = 1) :
    Calls Tryf.prog 4 #[.string s, .slice a len cap, .int .u8 (st : Int)] w fun e w' => e = .returned (.bool true) ∧ Below w.heap.size w w' := by
  have Z := hide (zz10_yes s a len cap (st : Int) w (by omega))
  have HC := hide (clone8_any a len cap zs w hr (by omega))
  have hs' : (s.size : Int) ≤ 65536 := by omega
  have hn' : (len : Int) ≤ 65536 := by omega
  have hl0 : (0 : Int) ≤ (len : Int) := by omega
  have hst' : (st : Int) ≤ 255 := by omega
  have hst0 : (0 : Int) ≤ (st : Int) := by omega
  have hQ := u8_low 1 st 1 rfl (by decide) hst
  rw [show (st % 2 ^ 1 : Nat) = 1 from hm] at hQ
  have hTh := hide hT
  have hsh := hide hs
  have hnh := hide hn
  have hsth := hide hst
  obtain ⟨i0, hi, hz0, hz1, hz2⟩ := info_parts info5
  clear hr hm hT hs hn hst
  go_enter Tryf.func4, Tryf.ntmps4
  go_wp2_with fail
  refine Z.out.mono ?_
  rintro e w' ⟨rfl, rfl⟩
  go_wp2_with fail
  refine HC.out.mono ?_
  rintro e w1 ⟨ys, hys, cv, rfl, hown1, hbw1⟩
  have hown1h := hide hown1
  have hbw1h := hide hbw1
  have hysh := hide hys
  clear hown1 hbw1 hys HC Z
  go_wp2_with (first | (at_make; refine wpList_make_own _ rfl _ _ 27 rfl w1.heap.size 5 i0 (.int .u8 0) 1 Tryf.underlying27 hi hz0 hz1 .i64 .i64 _ (4 * s.size + 2) rfl rfl (by simp) (by rw [hz2]; have := hsh.out; omega) (by have := hsh.out; unfold maxLen; omega) (Nat.le_refl _) ?_; intro w2 hown2 hg2; have hb2 := hide (show Below w1.heap.size w1 w2 from (Below.refl _ _).grown hg2 (Nat.le_refl _) (fun k hk => by cases hk)); have hown2h := hide (show Own w1.heap.size _ [] w2 from hown2); clear hown2 hg2) | (at_builtin; refine wpList_append_own _ rfl _ _ 27 rfl w1.heap.size 5 i0 (.int .u8 0) 1 1 Tryf.underlying27 hi hz0 hz1 hz2 rfl (by decide) _ _ _ rfl (World.ownsRow.alloc hown2h.out _) ⟨w2.heap.size, 0, none⟩ 1 1 [.int .u8 39] rfl rfl (by intro j u hj; match j, hj with | 0, hj => simp at hj; subst hj; simp [Addr.add]) (by intro u hu; simp at hu; subst hu; rfl) (by unfold maxLen; simp) (by simp) (by have := hb2.out.size; simp; omega) ?_; intro v3 w3 hown' hg'; have hR := hide (put_own (v' := v3) (w1 := w3) [39] (by simp) hb2.out.size hown2h.out (m := 1) rfl rfl hown' hg'); clear hown' hg'; intro _))
  have hb3 := hide (hb2.out.trans hR.out.2)
  have ho3 := hide hR.out.1
  clear hR hb2 hown2h
  go_loopw [9, 10] (fun vv iv wr => ∃ (i : Nat) (M : List UInt8), iv = .int .i64 i ∧ i ≤ s.size ∧ M.length ≤ 4 * i ∧ Hid (Own w1.heap.size vv (39 :: M) wr) ∧ Hid (Spelt unescB (s.data.toList.take i) M) ∧ Hid (Below w1.heap.size w1 wr)) (fun _ iv _ => s.size - (RowKit.intOf iv).toNat)
  case atStart => exact ⟨0, [], rfl, Nat.zero_le _, by simp, hide ho3.out, hide (by rw [List.take_zero]; exact Spelt.nil _), hb3⟩
  case round =>
    clear ho3 hb3
    obtain ⟨i, M, rfl, hi2, hM, own, hS, hb⟩ := hrel
    have hi0' : (0 : Int) ≤ (i : Int) := by omega
    have hii : (i : Int) ≤ (s.size : Int) := by omega
    have hbs := hb.out.size
    have hsn := hsh.out
    by_cases h : i < s.size
    · have h' : (i : Int) < (s.size : Int) := by omega
      have gi : ∀ h : i < s.size, ((s[i]'h).toNat : Int) = (byteAt s i : Int) := fun h => byteAt_get s i h
      have hx := byteAt_le s i
      have hSp := fun E (hE : Spell (byteAt s i) E) => hide (show Spelt unescB (s.data.toList.take (i + 1)) (M ++ u8L E) by
        have := hS.out.more good_unescB hE.pos hE.lt hE.reads
        rw [piece_byte _ hx, ← take_byte s i h] at this
        exact this)
      have hC13 := fun w' (hb' : Below wr.heap.size wr w') => hide (spellAt_any w.heap.size cv ys i st w' ((hown1h.out.below hb.out).below hb') (by omega) hsth.out (by have := hysh.out; have := hnh.out; omega))
      have hC12 := fun b (hb8 : b ≤ 255) w' (hb' : Below wr.heap.size wr w') => hide (encByte_any (byteAt s i) b w' w1.heap.size _ (39 :: M) hx hb8 (Nat.le_trans hbs hb'.size) (by simp; omega) (own.out.below hb'))
      clear hS
      have hdr : Below wr.heap.size wr wr.drew := below_drewN' (Below.refl _ wr) 1
      generalize byteAt s i = x at *
      go_wp2_with fail
      go_region_with (first | (go_at_call 13; refine (hC13 _ hdr).out.mono ?_; rintro e w' ⟨⟨b, hb8, rfl⟩, rfl⟩) | (go_at_call 12; obtain ⟨E, hE, hCE⟩ := (hC12 b hb8 _ hdr).out; refine hCE.mono ?_; rintro e w' ⟨v', rfl, ho', hb'⟩))
      all_goals (
        have hElen := hide hE.le
        have hSN := hSp E hE
        have hbN := hide (hb.out.trans ((hdr.mono hbs).trans hb'))
        have hoN := hide (show Own w1.heap.size v' (39 :: (M ++ u8L E)) w' from ho')
        clear hSp hE ho' hb' hC13 hC12 hdr
        try go_wp2
        refine ⟨⟨i + 1, M ++ u8L E, by go_num, by omega, by rw [List.length_append, u8L_length]; have := hElen.out; omega, hoN, hSN, hbN⟩, ?_⟩
        simp [RowKit.intOf]
        omega)
    · obtain rfl : i = s.size := by omega
      rw [take_all] at hS
      have hT9 := hide (hTh.out.below (hbw1h.out.trans (hb.out.mono hbw1h.out.size)))
      have hSz := hide (show M.length + 2 ≤ 1048600 by omega)
      have hMl := hide hM
      have hwh := hS.out.whole 39 (by decide)
      obtain ⟨X, hX⟩ : ∃ X, bytesB (39 :: (M ++ [39])) = X := ⟨_, rfl⟩
      have hXs := hide (show X.size = M.length + 2 by rw [← hX, bytesB_size]; simp)
      rw [hX] at hwh
      have hwh' := hide hwh
      clear hM hwh hS
      go_wp2_with (first | (at_builtin; refine wpList_append_own _ rfl _ _ 27 rfl w1.heap.size 5 i0 (.int .u8 0) 1 1 Tryf.underlying27 hi hz0 hz1 hz2 rfl (by decide) _ _ _ rfl (World.ownsRow.alloc own.out _) ⟨wr.heap.size, 0, none⟩ 1 1 [.int .u8 39] rfl rfl (by intro j u hj; match j, hj with | 0, hj => simp at hj; subst hj; simp [Addr.add]) (by intro u hu; simp at hu; subst hu; rfl) (by have := hMl.out; unfold maxLen; simp; omega) (by have := hMl.out; simp; omega) (by simp; omega) ?_; intro v5 w5 hown' hg' _; have hR := hide (put_own (v' := v5) (w1 := w5) [39] (by simp) hbs own.out (m := 1) rfl rfl hown' hg'); clear hown' hg'; have hb5 := hide (hb.out.trans hR.out.2); have hcv : (convert 27 9 v5).run Tryf.prog w5 = .ok (.string X) w5 := by rw [← hX]; exact own_text (39 :: (M ++ [39])) rfl hR.out.1) | (go_at_call 9; refine (good9 X w5 (by have := hXs.out; have := hSz.out; omega) (hTh.out.below (hbw1h.out.trans (hb5.out.mono hbw1h.out.size))) _ hwh'.out).mono ?_; rintro e w6 ⟨rfl, hb6⟩; rw [bytesB_of]))
      go_ret
      exact ⟨rfl, hbw1h.out.trans ((hb5.out.mono hbw1h.out.size).trans (hb6.mono (Nat.le_trans hbw1h.out.size hb5.out.size)))⟩
theorem all4 (s : ByteArray) (a : Option Addr) (len cap : Nat) (zs : List Int) (st : Int) (w : World) (hm : s.size ≤ maxLen) (hr : IsRow .u8 w a len cap zs) (h0 : 0 ≤ st) (h1 : st ≤ 255) (hT : TU w) :
    Calls Tryf.prog 4 #[.string s, .slice a len cap, .int .u8 st] w fun e w' => e = .returned (.bool true) ∧ Below w.heap.size w w' := by
  obtain ⟨st, rfl⟩ := Int.eq_ofNat_of_zero_le h0
  have hlm : len ≤ maxLen := by
    rcases hr with ⟨_, h, _⟩ | ⟨x, _, h, h2, _⟩
    · omega
    · omega
  by_cases hb : s.size + len ≤ 1048576
  · have Z := hide (zz10_yes s a len cap (st : Int) w hb)
    by_cases h2 : s.size ≤ 65536
    · by_cases h3 : len ≤ 65536
      · rcases (show st % 2 = 0 ∨ st % 2 = 1 by omega) with h | h
        · exact by_0 s a len cap zs st w hr h2 h3 (by omega) hT h
        · exact by_1 s a len cap zs st w hr h2 h3 (by omega) hT h
      · have h2' : (s.size : Int) ≤ 65536 := by omega
        have h3' : (65536 : Int) < (len : Int) := by omega
        clear hr hm h0 h1 hT hlm hb h2 h3
        go_enter Tryf.func4, Tryf.ntmps4
        go_wp2_with fail
        refine Z.out.mono ?_
        rintro e w' ⟨rfl, rfl⟩
        go_wp2
        all_goals (first | (go_ret; exact ⟨rfl, Below.refl _ _⟩) | (exfalso; omega))
    · have h2' : (65536 : Int) < (s.size : Int) := by omega
      clear hr hm h0 h1 hT hlm hb h2
      go_enter Tryf.func4, Tryf.ntmps4
      go_wp2_with fail
      refine Z.out.mono ?_
      rintro e w' ⟨rfl, rfl⟩
      go_wp2
      all_goals (first | (go_ret; exact ⟨rfl, Below.refl _ _⟩) | (exfalso; omega))
  · have Z := hide (zz10_no s a len cap (st : Int) w (by omega) ⟨hm, hlm⟩)
    clear hr hm h0 h1 hT hlm hb
    go_enter Tryf.func4, Tryf.ntmps4
    go_wp2_with fail
    refine Z.out.mono ?_
    rintro e w' ⟨rfl, rfl⟩
    go_wp2
    go_ret
    exact ⟨rfl, Below.refl _ _⟩
end Go.Proofs.YtncoodplmpgnbaaFmt
