/-
  unescapeChar by contract: the braced form, and all ways together. Condition: utf8's two tables hold what their initialisers lay, where the text says so.
-/
import Derived.Test.YtncoodplmpgnbaaFmtUcD
namespace Go.Proofs.YtncoodplmpgnbaaFmt
open Go.RowKit Go.Lib Go.Shelf Go.Proofs
set_option linter.unusedVariables false
set_option linter.unusedSimpArgs false

set_option maxRecDepth 20000 in
set_option maxHeartbeats 4000000 in
theorem uc_brace (s : ByteArray) (w : World) (hs : s.size ≤ 9223372036854775807) (hs0 : 2 ≤ s.size) (h0 : byteAt s 0 = 92) (h1 : byteAt s 1 = 117) (hs3 : 2 < s.size) (h2 : byteAt s 2 = 123) (hun : unesc s = scan s 7 0 0) :
    Calls Tryf.prog 29 #[.string s] w fun e w' => UcRes s (unesc s) e ∧ Below w.heap.size w w' := by
  obtain ⟨t, ht⟩ : ∃ t, s.extract 2 s.size = t := ⟨_, rfl⟩
  have hts := cut_size s 2 hs0
  rw [ht] at hts
  have g0 : ∀ h : 0 < s.size, ((s[0]'h).toNat : Int) = (byteAt s 0 : Int) := fun h => byteAt_get s 0 h
  have g1 : ∀ h : 1 < s.size, ((s[1]'h).toNat : Int) = (byteAt s 1 : Int) := fun h => byteAt_get s 1 h
  have h0' : (byteAt s 0 : Int) = 92 := by omega
  have h1' : (byteAt s 1 : Int) = 117 := by omega
  have hs0' : (2 : Int) ≤ (s.size : Int) := by omega
  have hun' := hide hun
  have ht0 : (0 : Int) ≤ (t.size : Int) := by omega
  obtain ⟨u0, hu0⟩ : ∃ u, t.extract 1 t.size = u := ⟨_, rfl⟩
  have hcut0 := hide (show u0 = s.extract (3 + 0) s.size by rw [← hu0]; exact cut_tail s t 2 1 ht)
  have g2 : ∀ h : 0 < t.size, ((t[0]'h).toNat : Int) = (byteAt s 2 : Int) := cut_get s t 2 0 ht
  have h2' : (byteAt s 2 : Int) = 123 := by omega
  have hts' : (1 : Int) ≤ (t.size : Int) := by omega
  generalize byteAt s 0 = b0 at *
  generalize byteAt s 1 = b1 at *
  generalize byteAt s 2 = b2 at *
  clear h0 h1 hun h2 hts
  go_enter Tryf.func29, Tryf.ntmps29
  go_wp2_with fail
  go_loopw [0, 5, 10, 11] (fun sv ev v dg wr => ∃ (k f V : Nat) (u : ByteArray), sv = .string u ∧ ev = .nilIface ∧ v = .int .i32 V ∧ dg = .int .i64 k ∧ k + f = 6 ∧ 3 + k ≤ s.size ∧ Hid (u = s.extract (3 + k) s.size) ∧ Hid (V < 16 ^ k) ∧ Hid (unesc s = scan s (f + 1) k V) ∧ w = wr) (fun _ _ _ dg _ => 8 - (RowKit.intOf dg).toNat)
  case atStart => exact ⟨0, 6, 0, u0, rfl, rfl, rfl, rfl, rfl, by omega, hcut0, hide (by decide), hun', rfl⟩
  case round =>
    clear hcut0 hu0 hun'
    obtain ⟨k, f, V, u, rfl, rfl, rfl, rfl, hkf, hk3, hu, hV, hun, rfl⟩ := hrel
    have hus := cut_size s (3 + k) hk3
    rw [← hu.out] at hus
    have gk := cut_get s u (3 + k) 0 hu.out.symm
    have htl := hide (cut_tail s u (3 + k) 1 hu.out.symm)
    have hble := byteAt_le s (3 + k)
    have hVlt : V < 16777216 := by
      have h2 : 16 ^ k ≤ 16 ^ 6 := Nat.pow_le_pow_right (by omega) (by omega)
      have := hV.out
      omega
    have hscan : scan s (f + 1) k V = if s.size ≤ 3 + k then none else if byteAt s (3 + k) = 125 then (if k = 0 then none else if 1114111 < V then none else some ((V : Int), true, 4 + k)) else
      match hexD (byteAt s (3 + k)) with
      | none => none
      | some d => if 6 ≤ k then none else scan s f (k + 1) (V * 16 + d) := by
        rw [scan]
        split
        · rfl
        · split
          · rfl
          · cases hexD (byteAt s (3 + k)) <;> rfl
    have hsc := hide hscan
    obtain ⟨x, hx⟩ : ∃ x, byteAt s (3 + k) = x := ⟨_, rfl⟩
    have hxh := hide hx
    rw [show 3 + k + 0 = 3 + k by omega, hx] at gk
    rw [hx] at hble hsc
    clear hx hscan
    have hk0 : (0 : Int) ≤ (k : Int) := by omega
    have hk6 : (k : Int) ≤ 6 := by omega
    have hV0 : (0 : Int) ≤ (V : Int) := by omega
    by_cases hz : s.size ≤ 3 + k
    · have hz' : (u.size : Int) = 0 := by omega
      have hn := hide (show unesc s = none by rw [hun.out, hsc.out, if_pos hz])
      clear hus gk hV hVlt
      go_wp2_with fail
      refine (errorf_any _ (by decide +kernel) _).mono ?_
      rintro e w1 ⟨a, rfl, hb1⟩
      go_wp2
      refine bodyPost_ret (results_tmp4 rfl _ _ _) rfl ?_
      exact ⟨UcRes.bad hn.out, hb1⟩
    · have hz' : (1 : Int) ≤ (u.size : Int) := by omega
      clear hus
      have hune : ¬ u = ByteArray.empty := by
        intro e
        rw [e] at hz'
        simp at hz'
      have hzh := hide hz
      have hk3h := hide hk3
      clear hz hk3
      by_cases hx : x = 125
      · have hx' : (x : Int) = 125 := by omega
        by_cases hk : k = 0
        · have hk' : (k : Int) = 0 := by omega
          have hn := hide (show unesc s = none by rw [hun.out, hsc.out, if_neg hzh.out, if_pos hx, if_pos hk])
          clear hV hVlt hk'
          subst hk
          go_wp2_with fail
          all_goals
            refine (errorf_any _ (by decide +kernel) _).mono ?_
            rintro e w1 ⟨a, rfl, hb1⟩
            go_wp2
            refine bodyPost_ret (results_tmp4 rfl _ _ _) rfl ?_
            exact ⟨UcRes.bad hn.out, hb1⟩

        · have hk' : ((k : Int) == 0) = false := by rw [beq_eq_false_iff_ne]; omega
          by_cases hb : 1114111 < V
          · have hb' : (1114111 : Int) < (V : Int) := by omega
            have hn := hide (show unesc s = none by rw [hun.out, hsc.out, if_neg hzh.out, if_pos hx, if_neg hk, if_pos hb])
            clear hV hVlt hb
            go_wp2_with fail
            refine (errorf_any _ (by decide +kernel) _).mono ?_
            rintro e w1 ⟨a, rfl, hb1⟩
            go_wp2
            refine bodyPost_ret (results_tmp4 rfl _ _ _) rfl ?_
            exact ⟨UcRes.bad hn.out, hb1⟩
          · have hb' : (V : Int) ≤ 1114111 := by omega
            have hn := hide (show unesc s = some ((V : Int), true, 4 + k) by rw [hun.out, hsc.out, if_neg hzh.out, if_pos hx, if_neg hk, if_neg hb])
            clear hV hVlt hb
            go_wp2
            refine bodyPost_ret (results_tmp4 rfl _ _ _) rfl ?_
            exact ⟨UcRes.okt hn.out (by rw [htl.out]; congr 1; omega), Below.refl _ _⟩
      · have hx' : ((x : Int) == 125) = false := by rw [beq_eq_false_iff_ne]; omega
        have hx2 : ((x : Int) != 125) = true := by simp; omega
        have HX := hide (unhex_any x w hble)
        rcases hd : hexD x with _ | d
        · rw [show hexV x = 0 by unfold hexV; rw [hd]; rfl, hd] at HX
          have hn := hide (show unesc s = none by rw [hun.out, hsc.out, if_neg hzh.out, if_neg hx, hd])
          clear hV hVlt hd
          go_wp2_with fail
          refine HX.out.mono ?_
          rintro e w1 ⟨rfl, rfl⟩
          go_wp2_with fail
          refine (errorf_any _ (by decide +kernel) _).mono ?_
          rintro e w1 ⟨a, rfl, hb1⟩
          go_wp2
          refine bodyPost_ret (results_tmp4 rfl _ _ _) rfl ?_
          exact ⟨UcRes.bad hn.out, hb1⟩
        · rw [show hexV x = d by unfold hexV; rw [hd]; rfl, hd] at HX
          have hd16 := hexD_lt hd
          by_cases hk : 6 ≤ k
          · have hk' : (6 : Int) ≤ (k : Int) := by omega
            have hn := hide (show unesc s = none by rw [hun.out, hsc.out, if_neg hzh.out, if_neg hx, hd]; simp only []; rw [if_pos hk])
            clear hV hVlt hd
            go_wp2_with fail
            refine HX.out.mono ?_
            rintro e w1 ⟨rfl, rfl⟩
            go_wp2_with fail
            refine (errorf_any _ (by decide +kernel) _).mono ?_
            rintro e w1 ⟨a, rfl, hb1⟩
            go_wp2
            refine bodyPost_ret (results_tmp4 rfl _ _ _) rfl ?_
            exact ⟨UcRes.bad hn.out, hb1⟩
          · have hk' : (k : Int) < 6 := by omega
            have hn := hide (show unesc s = scan s f (k + 1) (V * 16 + d) by rw [hun.out, hsc.out, if_neg hzh.out, if_neg hx, hd]; simp only []; rw [if_neg hk])
            have hsh := shl_w32 V (by omega)
            have hor := or_w32 V d (by omega) hd16
            rw [w32_small (show V * 16 < 2147483648 by omega)] at hsh hor
            rw [w32_small (show V * 16 + d < 2147483648 by omega), show ((V * 16 : Nat) : Int) = (V : Int) * 16 by omega] at hor
            have horh := hide hor
            clear hor
            have hpw := hide (show V * 16 + d < 16 ^ (k + 1) by have := hV.out; rw [Nat.pow_succ]; omega)
            clear hd hd16 hVlt
            go_wp2_with fail
            refine HX.out.mono ?_
            rintro e w1 ⟨rfl, rfl⟩
            go_wp2
            go_roundw
            case rel => exact ⟨k + 1, f - 1, V * 16 + d, _, rfl, rfl, by rw [horh.out], by go_num, by omega, by have := hzh.out; omega, hide (by rw [htl.out]; congr 1), hpw, by rw [show f - 1 + 1 = f by omega]; exact hn, by first | rfl | trivial⟩
            case measure => simp [RowKit.intOf]; omega

theorem uc_oct (s : ByteArray) (w : World) (hs : s.size ≤ 9223372036854775807) (hs0 : 2 ≤ s.size) (h0 : byteAt s 0 = 92) (h1 : 48 ≤ byteAt s 1 ∧ byteAt s 1 ≤ 51) (hun : unesc s = octItem s) :
    Calls Tryf.prog 29 #[.string s] w fun e w' => UcRes s (unesc s) e ∧ Below w.heap.size w w' := by
  rcases (show byteAt s 1 = 48 ∨ byteAt s 1 = 49 ∨ byteAt s 1 = 50 ∨ byteAt s 1 = 51 by omega) with h | h | h | h
  · exact uc_oct48 s w hs hs0 h0 h hun
  · exact uc_oct49 s w hs hs0 h0 h hun
  · exact uc_oct50 s w hs hs0 h0 h hun
  · exact uc_oct51 s w hs hs0 h0 h hun

/-- unescapeChar, of every text that is not empty. -/
theorem uc_any (s : ByteArray) (w : World) (hs0 : 0 < s.size) (hs : s.size ≤ 9223372036854775807) (hT : TU w) :
    Calls Tryf.prog 29 #[.string s] w fun e w' => UcRes s (unesc s) e ∧ Below w.heap.size w w' := by
  by_cases a1 : 128 ≤ byteAt s 0
  · exact uc_high s w hs0 hs hT a1
  by_cases a2 : byteAt s 0 ≠ 92
  · exact uc_plain s w hs hs0 (by omega) a2
  by_cases a3 : s.size ≤ 1
  · exact uc_end s w hs (by omega) (by omega)
  have h0 : byteAt s 0 = 92 := by omega
  have h2 : 2 ≤ s.size := by omega
  rcases hc : simpleV (byteAt s 1) with _ | v
  · have hu : unesc s = if byteAt s 1 = 120 ∨ byteAt s 1 = 88 then hexItem s 2
      else if byteAt s 1 = 117 then (if 2 < s.size ∧ byteAt s 2 = 123 then scan s 7 0 0 else hexItem s 4)
      else if byteAt s 1 = 85 then hexItem s 8
      else if 48 ≤ byteAt s 1 ∧ byteAt s 1 ≤ 51 then octItem s
      else none := by
        unfold unesc
        rw [if_neg a1, if_neg a2, if_neg a3, hc]
    by_cases b1 : byteAt s 1 = 120 ∨ byteAt s 1 = 88
    · rw [if_pos b1] at hu
      rcases b1 with b1 | b1
      · exact uc_hex120 s w hs h2 h0 b1 hu
      · exact uc_hex88 s w hs h2 h0 b1 hu
    · rw [if_neg b1] at hu
      by_cases b2 : byteAt s 1 = 117
      · rw [if_pos b2] at hu
        by_cases b3 : 2 < s.size ∧ byteAt s 2 = 123
        · rw [if_pos b3] at hu
          exact uc_brace s w hs h2 h0 b2 b3.1 b3.2 hu
        · rw [if_neg b3] at hu
          exact uc_hex117 s w hs h2 h0 b2 b3 hu
      · rw [if_neg b2] at hu
        by_cases b4 : byteAt s 1 = 85
        · rw [if_pos b4] at hu
          exact uc_hex85 s w hs h2 h0 b4 hu
        · rw [if_neg b4] at hu
          by_cases b5 : 48 ≤ byteAt s 1 ∧ byteAt s 1 ≤ 51
          · rw [if_pos b5] at hu
            exact uc_oct s w hs h2 h0 b5 hu
          · exact uc_other s w hs h2 h0 hc b1 b2 b4 b5
  · exact uc_simple s w hs h2 h0 (by rw [hc]; rfl)
end Go.Proofs.YtncoodplmpgnbaaFmt
