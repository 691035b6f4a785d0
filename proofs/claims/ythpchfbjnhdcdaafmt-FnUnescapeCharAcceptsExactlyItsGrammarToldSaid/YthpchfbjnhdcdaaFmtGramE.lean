/-
  The law's own grammar by contract: the forms with eight digits, in braces, in octal; and all forms together. No condition beyond the bounds.
-/
import Derived.Test.YthpchfbjnhdcdaaFmtGramD
namespace Go.Proofs.YthpchfbjnhdcdaaFmt
open Go.RowKit Go.Lib Go.Shelf Go.Proofs
set_option linter.unusedVariables false
set_option linter.unusedSimpArgs false

set_option maxRecDepth 20000 in
set_option maxHeartbeats 1000000 in
theorem gr_85_short (s : ByteArray) (w : World) (hs : s.size ≤ 1048576) (hs1 : 1 < s.size) (h0 : byteAt s 0 = 92) (h1 : byteAt s 1 = 85) (h2 : s.size < 10) :
    Calls Tryf.prog 20 #[.string s] w fun e w' => GramRes s e ∧ w = w' := by
  have hs' : (s.size : Int) ≤ 1048576 := by omega
  have hu := hide (show unesc s = none by
    rw [unesc_esc s h0 hs1 (by rw [h1]; rfl), h1]
    exact hexItem_short s 8 h2)
  have HS := hide (show Calls Tryf.prog 21 #[.int .u8 85] w fun e w' => e = .returned (.tuple #[.int .i32 0, .bool false]) ∧ w = w' from simpleValue_any 85 w (by decide))
  have g0 : ∀ h : 0 < s.size, ((s[0]'h).toNat : Int) = 92 := fun h => by rw [byteAt_get s 0 h]; omega
  have g1 : ∀ h : 1 < s.size, ((s[1]'h).toNat : Int) = 85 := fun h => by rw [byteAt_get s 1 h]; omega
  have hz : (1 : Int) < (s.size : Int) := by omega
  have hz2 : (s.size : Int) ≤ 9 := by omega
  clear h0 h1 hs1 h2
  go_enter Tryf.func20, Tryf.ntmps20
  go_wp2_with fail
  refine HS.out.mono ?_
  rintro e w' ⟨rfl, rfl⟩
  go_wp2
  go_ret3
  exact ⟨GramRes.no hu.out, rfl⟩

theorem all8 {s : ByteArray} (h : ∀ j, j < 10 → 2 ≤ j → (hexD (byteAt s j)).isSome = true) : ∀ j, j < 8 → (hexD (byteAt s (2 + j))).isSome = true := fun j hj => h (2 + j) (by omega) (by omega)
set_option maxRecDepth 20000 in
set_option maxHeartbeats 1000000 in
theorem gr_85 (s : ByteArray) (w : World) (hs : s.size ≤ 1048576) (hs1 : 1 < s.size) (h0 : byteAt s 0 = 92) (h1 : byteAt s 1 = 85) (h2 : 10 ≤ s.size) :
    Calls Tryf.prog 20 #[.string s] w fun e w' => GramRes s e ∧ w = w' := by
  have hs' : (s.size : Int) ≤ 1048576 := by omega
  have hu0 := hide (show unesc s = hexItem s 8 by
    rw [unesc_esc s h0 hs1 (by rw [h1]; rfl), h1]
    rfl)
  have HS := hide (show Calls Tryf.prog 21 #[.int .u8 85] w fun e w' => e = .returned (.tuple #[.int .i32 0, .bool false]) ∧ w = w' from simpleValue_any 85 w (by decide))
  have g0 : ∀ h : 0 < s.size, ((s[0]'h).toNat : Int) = 92 := fun h => by rw [byteAt_get s 0 h]; omega
  have g1 : ∀ h : 1 < s.size, ((s[1]'h).toNat : Int) = 85 := fun h => by rw [byteAt_get s 1 h]; omega
  have hz : (1 : Int) < (s.size : Int) := by omega
  have hz2 : (10 : Int) ≤ (s.size : Int) := by omega
  have h2h := hide h2
  have hsh := hide hs
  clear h0 h1 hs1 h2 hs
  go_enter Tryf.func20, Tryf.ntmps20
  go_wp2_with fail
  refine HS.out.mono ?_
  rintro e w' ⟨rfl, rfl⟩
  go_wp2_with fail
  go_loopw [2, 3, 4, 9] (fun av bv cv jv wr => ∃ j : Nat, av = .int .i64 0 ∧ bv = .bool false ∧ cv = .bool false ∧ jv = .int .i64 j ∧ 2 ≤ j ∧ j ≤ 10 ∧ Hid (∀ i, i < j → 2 ≤ i → (hexD (byteAt s i)).isSome = true) ∧ w = wr) (fun _ _ _ jv _ => 11 - (RowKit.intOf jv).toNat)
  case atStart => exact ⟨2, rfl, rfl, rfl, rfl, by omega, by omega, hide (fun i h1 h2 => by omega), rfl⟩
  case round =>
    obtain ⟨j, rfl, rfl, rfl, rfl, hj2, hj10, hd, rfl⟩ := hrel
    have hj0 : (2 : Int) ≤ (j : Int) := by omega
    have hjt : (j : Int) ≤ 10 := by omega
    by_cases c1 : j < 10
    · have c1' : (j : Int) < 10 := by omega
      have c1s : (j : Int) < (s.size : Int) := by omega
      have gj : ∀ h : j < s.size, ((s[j]'h).toNat : Int) = (byteAt s j : Int) := fun h => byteAt_get s j h
      have HX := isHex_any (byteAt s j) w (byteAt_le s j)
      rcases hx : hexD (byteAt s j) with _ | d
      · rw [hx] at HX
        have HX2 := hide (show Calls Tryf.prog 27 #[.int .u8 (byteAt s j : Int)] w fun e w' => e = .returned (.bool false) ∧ w = w' from HX)
        have hu := hide (hu0.out.trans (hexItem_bad s 8 (j - 2) (by omega) (by rw [show 2 + (j - 2) = j by omega]; exact hx)))
        clear hx HX
        go_wp2_with fail
        refine HX2.out.mono ?_
        rintro e w' ⟨rfl, rfl⟩
        go_wp2
        go_ret3
        exact ⟨GramRes.no hu.out, rfl⟩
      · rw [hx] at HX
        have HX2 := hide (show Calls Tryf.prog 27 #[.int .u8 (byteAt s j : Int)] w fun e w' => e = .returned (.bool true) ∧ w = w' from HX)
        have hd2 := hide (show ∀ i, i < j + 1 → 2 ≤ i → (hexD (byteAt s i)).isSome = true by
          intro i hi h2
          by_cases e : i = j
          · subst e; rw [hx]; rfl
          · exact hd.out i (by omega) h2)
        clear hx HX
        go_wp2_with fail
        refine HX2.out.mono ?_
        rintro e w' ⟨rfl, rfl⟩
        go_wp2
        go_roundw
        case rel => exact ⟨j + 1, rfl, rfl, rfl, by go_num, by omega, by omega, hd2, by first | rfl | trivial⟩
        case measure => simp [RowKit.intOf]; omega
    · obtain rfl : j = 10 := by omega
      obtain ⟨v, hv⟩ := hexN_run s 2 8 (all8 hd.out) 8 (Nat.le_refl _)
      have hit := hide (hu0.out.trans (hexItem_good s 8 v h2h.out hv))
      have HV := hide (hexVal_any s 2 8 v w h2h.out (by decide) hsh.out hv)
      have hlt := hide (hexN_lt hv)
      clear hv hd
      go_wp2_with fail
      refine HV.out.mono ?_
      rintro e w' ⟨rfl, rfl⟩
      rcases Nat.lt_or_ge 1114111 v with c2 | c2
      · rcases Nat.lt_or_ge v 2147483648 with c3 | c3
        · have hu := hide (show unesc s = none by rw [hit.out, w32_small c3, if_pos (by omega)])
          have k1 : decide ((v : Int) ≤ 1114111) = false := by simp; omega
          have k2 : decide ((2147483648 : Int) ≤ (v : Int)) = false := by simp; omega
          clear c2 c3 hit hlt
          go_wp2
          go_ret3
          exact ⟨GramRes.no hu.out, rfl⟩
        · have hlt2 := hlt.out
          have hw : w32 v = (v : Int) - 4294967296 := by unfold w32; rw [if_neg (by omega)]
          have hu := hide (show unesc s = some ((v : Int) - 4294967296, true, 10) by rw [hit.out, hw, if_neg (by omega)])
          have hng := hide (show true = decide ((v : Int) - 4294967296 < 0) by simp; omega)
          have k1 : decide ((v : Int) ≤ 1114111) = false := by simp; omega
          have k2 : decide ((2147483648 : Int) ≤ (v : Int)) = true := by simp; omega
          clear c2 c3 hit hlt hlt2 hw
          go_wp2
          go_ret3
          exact ⟨GramRes.yes hu.out rfl hng.out, rfl⟩
      · have hu := hide (show unesc s = some ((v : Int), true, 10) by rw [hit.out, w32_small (by omega), if_neg (by omega)])
        have k1 : decide ((v : Int) ≤ 1114111) = true := by simp; omega
        clear c2 hit hlt
        go_wp2
        go_ret3
        exact ⟨GramRes.yes hu.out rfl (by simp), rfl⟩

set_option maxRecDepth 20000 in
set_option maxHeartbeats 1000000 in
theorem gr_brace (s : ByteArray) (w : World) (hs : s.size ≤ 1048576) (hs1 : 1 < s.size) (h0 : byteAt s 0 = 92) (h1 : byteAt s 1 = 117) (h2 : 2 < s.size) (h3 : byteAt s 2 = 123) :
    Calls Tryf.prog 20 #[.string s] w fun e w' => GramRes s e ∧ w = w' := by
  have hs' : (s.size : Int) ≤ 1048576 := by omega
  have hu0 := hide (show unesc s = scan s 7 0 0 by
    rw [unesc_esc s h0 hs1 (by rw [h1]; rfl), h1, if_neg (by decide), if_pos rfl, if_pos ⟨h2, h3⟩])
  have HR := hide (hexRun_any s 3 w (by omega) hs)
  have HS := hide (show Calls Tryf.prog 21 #[.int .u8 117] w fun e w' => e = .returned (.tuple #[.int .i32 0, .bool false]) ∧ w = w' from simpleValue_any 117 w (by decide))
  have g0 : ∀ h : 0 < s.size, ((s[0]'h).toNat : Int) = 92 := fun h => by rw [byteAt_get s 0 h]; omega
  have g1 : ∀ h : 1 < s.size, ((s[1]'h).toNat : Int) = 117 := fun h => by rw [byteAt_get s 1 h]; omega
  have g2 : ∀ h : 2 < s.size, ((s[2]'h).toNat : Int) = 123 := fun h => by rw [byteAt_get s 2 h]; omega
  have hz : (2 : Int) < (s.size : Int) := by omega
  have hsh := hide hs
  clear h0 h1 hs1 h2 h3 hs
  go_enter Tryf.func20, Tryf.ntmps20
  go_wp2_with fail
  refine HS.out.mono ?_
  rintro e w' ⟨rfl, rfl⟩
  go_wp2_with fail
  refine HR.out.mono ?_
  rintro e w' ⟨⟨k, rfl, hk⟩, rfl⟩
  have hk7 : (k : Int) ≤ 7 := by have := hk.le; omega
  have hk0 : (0 : Int) ≤ (k : Int) := by omega
  have hkf : 3 + (k : Int) ≤ (s.size : Int) := by have := hk.fits; omega
  have hkh := hide hk
  clear hk
  by_cases c1 : k < 1
  · have hu := hide (hu0.out.trans (scan_no_run s k hkh.out (.inl c1)))
    have c1' : (k : Int) < 1 := by omega
    clear c1
    go_wp2
    go_ret3
    exact ⟨GramRes.no hu.out, rfl⟩
  have c1' : ¬ (k : Int) < 1 := by omega
  by_cases c2 : 6 < k
  · have hu := hide (hu0.out.trans (scan_no_run s k hkh.out (.inr c2)))
    have c2' : (6 : Int) < (k : Int) := by omega
    clear c1 c2
    go_wp2
    go_ret3
    exact ⟨GramRes.no hu.out, rfl⟩
  have c2' : ¬ (6 : Int) < (k : Int) := by omega
  obtain ⟨u, huN⟩ := hexN_run s 3 k hkh.out.dig k (Nat.le_refl _)
  have hsc := hide (hu0.out.trans (scan_by_run s k u hkh.out (by omega) (by omega) huN))
  by_cases c3 : s.size ≤ 3 + k
  · have hu := hide (show unesc s = none by rw [hsc.out, if_neg (by omega)])
    have c3' : (s.size : Int) ≤ 3 + (k : Int) := by omega
    clear c1 c2 c3 huN
    go_wp2
    go_ret3
    exact ⟨GramRes.no hu.out, rfl⟩
  have c3' : ¬ (s.size : Int) ≤ 3 + (k : Int) := by omega
  have c3'' : 3 + (k : Int) < (s.size : Int) := by omega
  by_cases c4 : byteAt s (3 + k) = 125
  · have gk : ∀ h : 3 + k < s.size, ((s[3 + k]'h).toNat : Int) = 125 := fun h => by rw [byteAt_get s (3 + k) h]; omega
    have HV := hide (hexVal_any s 3 k u w (by omega) (by omega) hsh.out huN)
    have hlt := hexN_lt8 huN (by omega)
    by_cases c5 : u ≤ 1114111
    · have hu := hide (show unesc s = some ((u : Int), true, 4 + k) by rw [hsc.out, if_pos ⟨by omega, c4, c5⟩])
      have c5' : (u : Int) ≤ 1114111 := by omega
      clear c1 c2 c3 c4 c5 huN hlt
      go_wp2_with fail
      refine HV.out.mono ?_
      rintro e w' ⟨rfl, rfl⟩
      go_wp2
      go_ret3
      exact ⟨GramRes.yes hu.out (by omega) (by simp), rfl⟩
    · have hu := hide (show unesc s = none by rw [hsc.out, if_neg (by omega)])
      have c5' : decide ((1114111 : Int) < (u : Int)) = true := by simp; omega
      clear c1 c2 c3 c4 c5 huN hlt
      go_wp2_with fail
      refine HV.out.mono ?_
      rintro e w' ⟨rfl, rfl⟩
      go_wp2
      go_ret3
      exact ⟨GramRes.no hu.out, rfl⟩
  · have gk : ∀ h : 3 + k < s.size, ((s[3 + k]'h).toNat : Int) = (byteAt s (3 + k) : Int) := fun h => byteAt_get s (3 + k) h
    have c4' : ((byteAt s (3 + k) : Int) != 125) = true := by simp; omega
    have hu := hide (show unesc s = none by rw [hsc.out, if_neg (by intro e; exact c4 e.2.1)])
    clear c1 c2 c3 c4 huN
    go_wp2
    go_ret3
    exact ⟨GramRes.no hu.out, rfl⟩

set_option maxRecDepth 20000 in
set_option maxHeartbeats 1000000 in
theorem gr_oct_short (s : ByteArray) (w : World) (hs : s.size ≤ 1048576) (hs1 : 1 < s.size) (h0 : byteAt s 0 = 92) (h1 : 48 ≤ byteAt s 1 ∧ byteAt s 1 ≤ 51) (h2 : s.size < 4) :
    Calls Tryf.prog 20 #[.string s] w fun e w' => GramRes s e ∧ w = w' := by
  have hs' : (s.size : Int) ≤ 1048576 := by omega
  have hsv : simpleV (byteAt s 1) = none := by
    rcases (show byteAt s 1 = 48 ∨ byteAt s 1 = 49 ∨ byteAt s 1 = 50 ∨ byteAt s 1 = 51 by omega) with e | e | e | e <;> rw [e] <;> rfl
  have hu0 : unesc s = octItem s := by
    rw [unesc_esc s h0 hs1 hsv, if_neg (by omega), if_neg (by omega), if_neg (by omega), if_pos h1]
  have hu := hide (show unesc s = none by rw [hu0]; unfold octItem; rw [if_pos h2])
  have HS := hide (show Calls Tryf.prog 21 #[.int .u8 (byteAt s 1 : Int)] w fun e w' => e = .returned (.tuple #[.int .i32 0, .bool false]) ∧ w = w' by
    have h := simpleValue_any (byteAt s 1) w (byteAt_le s 1)
    rw [hsv] at h
    exact h)
  have g0 : ∀ h : 0 < s.size, ((s[0]'h).toNat : Int) = 92 := fun h => by rw [byteAt_get s 0 h]; omega
  have g1 : ∀ h : 1 < s.size, ((s[1]'h).toNat : Int) = (byteAt s 1 : Int) := fun h => byteAt_get s 1 h
  have hz : (1 : Int) < (s.size : Int) := by omega
  have h1a : (48 : Int) ≤ (byteAt s 1 : Int) := by omega
  have h1b : (byteAt s 1 : Int) ≤ 51 := by omega
  have k1 : ((byteAt s 1 : Int) == 120) = false := by simp only [beq_eq_false_iff_ne]; omega
  have k2 : ((byteAt s 1 : Int) == 88) = false := by simp only [beq_eq_false_iff_ne]; omega
  have k3 : ((byteAt s 1 : Int) == 117) = false := by simp only [beq_eq_false_iff_ne]; omega
  have k4 : ((byteAt s 1 : Int) == 85) = false := by simp only [beq_eq_false_iff_ne]; omega
  have hz2 : (s.size : Int) ≤ 3 := by omega
  clear h0 h1 hs1 h2 hu0 hsv
  go_enter Tryf.func20, Tryf.ntmps20
  go_wp2_with fail
  refine HS.out.mono ?_
  rintro e w' ⟨rfl, rfl⟩
  go_wp2
  go_ret3
  exact ⟨GramRes.no hu.out, rfl⟩

set_option maxRecDepth 20000 in
set_option maxHeartbeats 1000000 in
theorem gr_oct_a (s : ByteArray) (w : World) (hs : s.size ≤ 1048576) (hs1 : 1 < s.size) (h0 : byteAt s 0 = 92) (h1 : 48 ≤ byteAt s 1 ∧ byteAt s 1 ≤ 51) (h2 : 4 ≤ s.size) (o2 : isOct (byteAt s 2) = false) :
    Calls Tryf.prog 20 #[.string s] w fun e w' => GramRes s e ∧ w = w' := by
  have hs' : (s.size : Int) ≤ 1048576 := by omega
  have hsv : simpleV (byteAt s 1) = none := by
    rcases (show byteAt s 1 = 48 ∨ byteAt s 1 = 49 ∨ byteAt s 1 = 50 ∨ byteAt s 1 = 51 by omega) with e | e | e | e <;> rw [e] <;> rfl
  have hu0 : unesc s = octItem s := by
    rw [unesc_esc s h0 hs1 hsv, if_neg (by omega), if_neg (by omega), if_neg (by omega), if_pos h1]
  have hu := hide (show unesc s = none by rw [hu0]; unfold octItem; rw [if_neg (by omega), o2]; simp)
  have HS := hide (show Calls Tryf.prog 21 #[.int .u8 (byteAt s 1 : Int)] w fun e w' => e = .returned (.tuple #[.int .i32 0, .bool false]) ∧ w = w' by
    have h := simpleValue_any (byteAt s 1) w (byteAt_le s 1)
    rw [hsv] at h
    exact h)
  have H2 := hide (show Calls Tryf.prog 30 #[.int .u8 (byteAt s 2 : Int)] w fun e w' => e = .returned (.bool false) ∧ w = w' by
    have h := isOct_any (byteAt s 2) w (byteAt_le s 2)
    rw [o2] at h
    exact h)
  have g0 : ∀ h : 0 < s.size, ((s[0]'h).toNat : Int) = 92 := fun h => by rw [byteAt_get s 0 h]; omega
  have g1 : ∀ h : 1 < s.size, ((s[1]'h).toNat : Int) = (byteAt s 1 : Int) := fun h => byteAt_get s 1 h
  have g2 : ∀ h : 2 < s.size, ((s[2]'h).toNat : Int) = (byteAt s 2 : Int) := fun h => byteAt_get s 2 h
  have g3 : ∀ h : 3 < s.size, ((s[3]'h).toNat : Int) = (byteAt s 3 : Int) := fun h => byteAt_get s 3 h
  have hz : (1 : Int) < (s.size : Int) := by omega
  have h1a : (48 : Int) ≤ (byteAt s 1 : Int) := by omega
  have h1b : (byteAt s 1 : Int) ≤ 51 := by omega
  have k1 : ((byteAt s 1 : Int) == 120) = false := by simp only [beq_eq_false_iff_ne]; omega
  have k2 : ((byteAt s 1 : Int) == 88) = false := by simp only [beq_eq_false_iff_ne]; omega
  have k3 : ((byteAt s 1 : Int) == 117) = false := by simp only [beq_eq_false_iff_ne]; omega
  have k4 : ((byteAt s 1 : Int) == 85) = false := by simp only [beq_eq_false_iff_ne]; omega
  have hz2 : (4 : Int) ≤ (s.size : Int) := by omega
  clear h0 h1 hs1 h2 hu0 hsv o2
  go_enter Tryf.func20, Tryf.ntmps20
  go_wp2_with fail
  refine HS.out.mono ?_
  rintro e w' ⟨rfl, rfl⟩
  go_wp2_with fail
  refine H2.out.mono ?_
  rintro e w' ⟨rfl, rfl⟩
  go_wp2
  go_ret3
  exact ⟨GramRes.no hu.out, rfl⟩

set_option maxRecDepth 20000 in
set_option maxHeartbeats 1000000 in
theorem gr_oct_b (s : ByteArray) (w : World) (hs : s.size ≤ 1048576) (hs1 : 1 < s.size) (h0 : byteAt s 0 = 92) (h1 : 48 ≤ byteAt s 1 ∧ byteAt s 1 ≤ 51) (h2 : 4 ≤ s.size) (o2 : isOct (byteAt s 2) = true) (o3 : isOct (byteAt s 3) = false) :
    Calls Tryf.prog 20 #[.string s] w fun e w' => GramRes s e ∧ w = w' := by
  have hs' : (s.size : Int) ≤ 1048576 := by omega
  have hsv : simpleV (byteAt s 1) = none := by
    rcases (show byteAt s 1 = 48 ∨ byteAt s 1 = 49 ∨ byteAt s 1 = 50 ∨ byteAt s 1 = 51 by omega) with e | e | e | e <;> rw [e] <;> rfl
  have hu0 : unesc s = octItem s := by
    rw [unesc_esc s h0 hs1 hsv, if_neg (by omega), if_neg (by omega), if_neg (by omega), if_pos h1]
  have hu := hide (show unesc s = none by rw [hu0]; unfold octItem; rw [if_neg (by omega), o2, o3]; simp)
  have HS := hide (show Calls Tryf.prog 21 #[.int .u8 (byteAt s 1 : Int)] w fun e w' => e = .returned (.tuple #[.int .i32 0, .bool false]) ∧ w = w' by
    have h := simpleValue_any (byteAt s 1) w (byteAt_le s 1)
    rw [hsv] at h
    exact h)
  have H2 := hide (show Calls Tryf.prog 30 #[.int .u8 (byteAt s 2 : Int)] w fun e w' => e = .returned (.bool true) ∧ w = w' by
    have h := isOct_any (byteAt s 2) w (byteAt_le s 2)
    rw [o2] at h
    exact h)
  have H3 := hide (show Calls Tryf.prog 30 #[.int .u8 (byteAt s 3 : Int)] w fun e w' => e = .returned (.bool false) ∧ w = w' by
    have h := isOct_any (byteAt s 3) w (byteAt_le s 3)
    rw [o3] at h
    exact h)
  have g0 : ∀ h : 0 < s.size, ((s[0]'h).toNat : Int) = 92 := fun h => by rw [byteAt_get s 0 h]; omega
  have g1 : ∀ h : 1 < s.size, ((s[1]'h).toNat : Int) = (byteAt s 1 : Int) := fun h => byteAt_get s 1 h
  have g2 : ∀ h : 2 < s.size, ((s[2]'h).toNat : Int) = (byteAt s 2 : Int) := fun h => byteAt_get s 2 h
  have g3 : ∀ h : 3 < s.size, ((s[3]'h).toNat : Int) = (byteAt s 3 : Int) := fun h => byteAt_get s 3 h
  have hz : (1 : Int) < (s.size : Int) := by omega
  have h1a : (48 : Int) ≤ (byteAt s 1 : Int) := by omega
  have h1b : (byteAt s 1 : Int) ≤ 51 := by omega
  have k1 : ((byteAt s 1 : Int) == 120) = false := by simp only [beq_eq_false_iff_ne]; omega
  have k2 : ((byteAt s 1 : Int) == 88) = false := by simp only [beq_eq_false_iff_ne]; omega
  have k3 : ((byteAt s 1 : Int) == 117) = false := by simp only [beq_eq_false_iff_ne]; omega
  have k4 : ((byteAt s 1 : Int) == 85) = false := by simp only [beq_eq_false_iff_ne]; omega
  have hz2 : (4 : Int) ≤ (s.size : Int) := by omega
  clear h0 h1 hs1 h2 hu0 hsv o2 o3
  go_enter Tryf.func20, Tryf.ntmps20
  go_wp2_with fail
  refine HS.out.mono ?_
  rintro e w' ⟨rfl, rfl⟩
  go_wp2_with fail
  refine H2.out.mono ?_
  rintro e w' ⟨rfl, rfl⟩
  go_wp2_with fail
  refine H3.out.mono ?_
  rintro e w' ⟨rfl, rfl⟩
  go_wp2
  go_ret3
  exact ⟨GramRes.no hu.out, rfl⟩

set_option maxRecDepth 20000 in
set_option maxHeartbeats 1000000 in
theorem gr_oct_c (s : ByteArray) (w : World) (hs : s.size ≤ 1048576) (hs1 : 1 < s.size) (h0 : byteAt s 0 = 92) (h1 : 48 ≤ byteAt s 1 ∧ byteAt s 1 ≤ 51) (h2 : 4 ≤ s.size) (o2 : isOct (byteAt s 2) = true) (o3 : isOct (byteAt s 3) = true) :
    Calls Tryf.prog 20 #[.string s] w fun e w' => GramRes s e ∧ w = w' := by
  have hs' : (s.size : Int) ≤ 1048576 := by omega
  have hsv : simpleV (byteAt s 1) = none := by
    rcases (show byteAt s 1 = 48 ∨ byteAt s 1 = 49 ∨ byteAt s 1 = 50 ∨ byteAt s 1 = 51 by omega) with e | e | e | e <;> rw [e] <;> rfl
  have hu0 : unesc s = octItem s := by
    rw [unesc_esc s h0 hs1 hsv, if_neg (by omega), if_neg (by omega), if_neg (by omega), if_pos h1]
  have hu := hide (show unesc s = some ((((byteAt s 1 - 48) * 64 + (byteAt s 2 - 48) * 8 + (byteAt s 3 - 48) : Nat) : Int), true, 4) by rw [hu0]; unfold octItem; rw [if_neg (by omega), o2, o3]; rfl)
  have HS := hide (show Calls Tryf.prog 21 #[.int .u8 (byteAt s 1 : Int)] w fun e w' => e = .returned (.tuple #[.int .i32 0, .bool false]) ∧ w = w' by
    have h := simpleValue_any (byteAt s 1) w (byteAt_le s 1)
    rw [hsv] at h
    exact h)
  have H2 := hide (show Calls Tryf.prog 30 #[.int .u8 (byteAt s 2 : Int)] w fun e w' => e = .returned (.bool true) ∧ w = w' by
    have h := isOct_any (byteAt s 2) w (byteAt_le s 2)
    rw [o2] at h
    exact h)
  have H3 := hide (show Calls Tryf.prog 30 #[.int .u8 (byteAt s 3 : Int)] w fun e w' => e = .returned (.bool true) ∧ w = w' by
    have h := isOct_any (byteAt s 3) w (byteAt_le s 3)
    rw [o3] at h
    exact h)
  have g0 : ∀ h : 0 < s.size, ((s[0]'h).toNat : Int) = 92 := fun h => by rw [byteAt_get s 0 h]; omega
  have g1 : ∀ h : 1 < s.size, ((s[1]'h).toNat : Int) = (byteAt s 1 : Int) := fun h => byteAt_get s 1 h
  have g2 : ∀ h : 2 < s.size, ((s[2]'h).toNat : Int) = (byteAt s 2 : Int) := fun h => byteAt_get s 2 h
  have g3 : ∀ h : 3 < s.size, ((s[3]'h).toNat : Int) = (byteAt s 3 : Int) := fun h => byteAt_get s 3 h
  have hz : (1 : Int) < (s.size : Int) := by omega
  have h1a : (48 : Int) ≤ (byteAt s 1 : Int) := by omega
  have h1b : (byteAt s 1 : Int) ≤ 51 := by omega
  have k1 : ((byteAt s 1 : Int) == 120) = false := by simp only [beq_eq_false_iff_ne]; omega
  have k2 : ((byteAt s 1 : Int) == 88) = false := by simp only [beq_eq_false_iff_ne]; omega
  have k3 : ((byteAt s 1 : Int) == 117) = false := by simp only [beq_eq_false_iff_ne]; omega
  have k4 : ((byteAt s 1 : Int) == 85) = false := by simp only [beq_eq_false_iff_ne]; omega
  have hz2 : (4 : Int) ≤ (s.size : Int) := by omega
  clear h0 h1 hs1 h2 hu0 hsv o2 o3
  go_enter Tryf.func20, Tryf.ntmps20
  go_wp2_with fail
  refine HS.out.mono ?_
  rintro e w' ⟨rfl, rfl⟩
  go_wp2_with fail
  refine H2.out.mono ?_
  rintro e w' ⟨rfl, rfl⟩
  go_wp2_with fail
  refine H3.out.mono ?_
  rintro e w' ⟨rfl, rfl⟩
  go_wp2
  go_ret3
  exact ⟨GramRes.yes hu.out rfl (by simp; omega), rfl⟩

set_option maxRecDepth 20000 in
set_option maxHeartbeats 1000000 in
theorem gr_other (s : ByteArray) (w : World) (hs : s.size ≤ 1048576) (hs1 : 1 < s.size) (h0 : byteAt s 0 = 92) (hsv : simpleV (byteAt s 1) = none) (n1 : byteAt s 1 ≠ 120) (n2 : byteAt s 1 ≠ 88) (n3 : byteAt s 1 ≠ 117) (n4 : byteAt s 1 ≠ 85) (n5 : byteAt s 1 < 48 ∨ 51 < byteAt s 1) :
    Calls Tryf.prog 20 #[.string s] w fun e w' => GramRes s e ∧ w = w' := by
  have hs' : (s.size : Int) ≤ 1048576 := by omega
  have hu := hide (show unesc s = none by
    rw [unesc_esc s h0 hs1 hsv, if_neg (by omega), if_neg (by omega), if_neg (by omega), if_neg (by omega)])
  have HS := hide (show Calls Tryf.prog 21 #[.int .u8 (byteAt s 1 : Int)] w fun e w' => e = .returned (.tuple #[.int .i32 0, .bool false]) ∧ w = w' by
    have h := simpleValue_any (byteAt s 1) w (byteAt_le s 1)
    rw [hsv] at h
    exact h)
  have g0 : ∀ h : 0 < s.size, ((s[0]'h).toNat : Int) = 92 := fun h => by rw [byteAt_get s 0 h]; omega
  have g1 : ∀ h : 1 < s.size, ((s[1]'h).toNat : Int) = (byteAt s 1 : Int) := fun h => byteAt_get s 1 h
  have hz : (1 : Int) < (s.size : Int) := by omega
  have k1 : ((byteAt s 1 : Int) == 120) = false := by simp only [beq_eq_false_iff_ne]; omega
  have k2 : ((byteAt s 1 : Int) == 88) = false := by simp only [beq_eq_false_iff_ne]; omega
  have k3 : ((byteAt s 1 : Int) == 117) = false := by simp only [beq_eq_false_iff_ne]; omega
  have k4 : ((byteAt s 1 : Int) == 85) = false := by simp only [beq_eq_false_iff_ne]; omega
  have k5 : (byteAt s 1 : Int) < 48 ∨ (51 : Int) < (byteAt s 1 : Int) := by omega
  clear h0 hs1 hsv n1 n2 n3 n4 n5
  rcases k5 with k5 | k5
  · go_enter Tryf.func20, Tryf.ntmps20
    go_wp2_with fail
    refine HS.out.mono ?_
    rintro e w' ⟨rfl, rfl⟩
    go_wp2
    go_ret3
    exact ⟨GramRes.no hu.out, rfl⟩
  have k6 : (48 : Int) ≤ (byteAt s 1 : Int) := by omega
  go_enter Tryf.func20, Tryf.ntmps20
  go_wp2_with fail
  refine HS.out.mono ?_
  rintro e w' ⟨rfl, rfl⟩
  go_wp2
  go_ret3
  exact ⟨GramRes.no hu.out, rfl⟩

theorem digits4 (s : ByteArray) (n : Nat) : (∃ k, k < n ∧ (∀ j, j < k → (hexD (byteAt s (2 + j))).isSome = true) ∧ (hexD (byteAt s (2 + k))).isSome = false) ∨ ∀ j, j < n → (hexD (byteAt s (2 + j))).isSome = true := by
  induction n with
  | zero => exact .inr (fun j hj => by omega)
  | succ n ih =>
    rcases ih with ⟨k, hk, h1, h2⟩ | h
    · exact .inl ⟨k, by omega, h1, h2⟩
    · rcases hb : (hexD (byteAt s (2 + n))).isSome with _ | _
      · exact .inl ⟨n, by omega, h, hb⟩
      · refine .inr (fun j hj => ?_)
        by_cases e : j = n
        · subst e; exact hb
        · exact h j (by omega)
theorem gram_any (s : ByteArray) (w : World) (hs0 : 0 < s.size) (hs : s.size ≤ 1048576) :
    Calls Tryf.prog 20 #[.string s] w fun e w' => GramRes s e ∧ w = w' := by
  by_cases a1 : 128 ≤ byteAt s 0
  · exact gr_high s w hs hs0 a1
  by_cases a2 : byteAt s 0 ≠ 92
  · exact gr_plain s w hs hs0 (by omega) a2
  have h0 : byteAt s 0 = 92 := by omega
  by_cases a3 : s.size = 1
  · exact gr_last s w hs a3 h0
  have h1 : 1 < s.size := by omega
  rcases hc : simpleV (byteAt s 1) with _ | c
  · by_cases b1 : byteAt s 1 = 120
    · by_cases z : s.size < 4
      · exact gr_120_short s w hs h1 h0 b1 z
      · rcases digits4 s 2 with ⟨k, hk, hd, hn⟩ | hd
        · rcases (show k = 0 ∨ k = 1 by omega) with rfl | rfl
          · exact gr_120_0 s w hs h1 h0 b1 (by omega) hn
          · exact gr_120_1 s w hs h1 h0 b1 (by omega) (hd 0 (by omega)) hn
        · exact gr_120_2 s w hs h1 h0 b1 (by omega) (hd 0 (by omega)) (hd 1 (by omega))
    by_cases b2 : byteAt s 1 = 88
    · by_cases z : s.size < 4
      · exact gr_88_short s w hs h1 h0 b2 z
      · rcases digits4 s 2 with ⟨k, hk, hd, hn⟩ | hd
        · rcases (show k = 0 ∨ k = 1 by omega) with rfl | rfl
          · exact gr_88_0 s w hs h1 h0 b2 (by omega) hn
          · exact gr_88_1 s w hs h1 h0 b2 (by omega) (hd 0 (by omega)) hn
        · exact gr_88_2 s w hs h1 h0 b2 (by omega) (hd 0 (by omega)) (hd 1 (by omega))
    by_cases b3 : byteAt s 1 = 117
    · by_cases hb : 2 < s.size ∧ byteAt s 2 = 123
      · exact gr_brace s w hs h1 h0 b3 hb.1 hb.2
      · by_cases z : s.size ≤ 2
        · exact gr_117_shorta s w hs h1 h0 b3 hb z
        · by_cases z2 : s.size < 6
          · exact gr_117_shortb s w hs h1 h0 b3 hb (by omega) z2
          · rcases digits4 s 4 with ⟨k, hk, hd, hn⟩ | hd
            · rcases (show k = 0 ∨ k = 1 ∨ k = 2 ∨ k = 3 by omega) with rfl | rfl | rfl | rfl
              · exact gr_117_0 s w hs h1 h0 b3 hb (by omega) hn
              · exact gr_117_1 s w hs h1 h0 b3 hb (by omega) (hd 0 (by omega)) hn
              · exact gr_117_2 s w hs h1 h0 b3 hb (by omega) (hd 0 (by omega)) (hd 1 (by omega)) hn
              · exact gr_117_3 s w hs h1 h0 b3 hb (by omega) (hd 0 (by omega)) (hd 1 (by omega)) (hd 2 (by omega)) hn
            · exact gr_117_4 s w hs h1 h0 b3 hb (by omega) (hd 0 (by omega)) (hd 1 (by omega)) (hd 2 (by omega)) (hd 3 (by omega))
    by_cases b4 : byteAt s 1 = 85
    · by_cases z : s.size < 10
      · exact gr_85_short s w hs h1 h0 b4 z
      · exact gr_85 s w hs h1 h0 b4 (by omega)
    by_cases b5 : 48 ≤ byteAt s 1 ∧ byteAt s 1 ≤ 51
    · by_cases z : s.size < 4
      · exact gr_oct_short s w hs h1 h0 b5 z
      · rcases o2 : isOct (byteAt s 2) with _ | _
        · exact gr_oct_a s w hs h1 h0 b5 (by omega) o2
        · rcases o3 : isOct (byteAt s 3) with _ | _
          · exact gr_oct_b s w hs h1 h0 b5 (by omega) o2 o3
          · exact gr_oct_c s w hs h1 h0 b5 (by omega) o2 o3
    exact gr_other s w hs h1 h0 hc b1 b2 b3 b4 (by omega)
  · exact gr_simple s w hs h1 h0 c hc
end Go.Proofs.YthpchfbjnhdcdaaFmt
