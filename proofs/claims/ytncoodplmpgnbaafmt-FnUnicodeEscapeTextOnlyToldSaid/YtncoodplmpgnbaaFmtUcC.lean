/-
  unescapeChar by contract: the octal form and the hex forms of fixed length. Condition: utf8's two tables hold what their initialisers lay, where the text says so.
-/
import Derived.Test.YtncoodplmpgnbaaFmtUcB
namespace Go.Proofs.YtncoodplmpgnbaaFmt
open Go.RowKit Go.Lib Go.Shelf Go.Proofs
set_option linter.unusedVariables false
set_option linter.unusedSimpArgs false

theorem UcRes.okt {s t : ByteArray} {r : Option (Int × Bool × Nat)} {v : Int} {mb : Bool} {n : Nat} (h : r = some (v, mb, n)) (ht : t = s.extract n s.size) : UcRes s r (.returned (.tuple #[.int .i32 v, .bool mb, .string t, .nilIface])) := by
  rw [ht]; exact UcRes.ok h
theorem cut_size (s : ByteArray) (i : Nat) (h : i ≤ s.size) : ((s.extract i s.size).size : Int) = (s.size : Int) - (i : Int) := by
  simp; omega
theorem cut_tail (s t : ByteArray) (i j : Nat) (h : s.extract i s.size = t) : t.extract j t.size = s.extract (i + j) s.size := by
  subst h
  have : (s.extract i s.size).size = s.size - i := by simp
  rw [this, cut_cut]
theorem cut_get (s t : ByteArray) (i k : Nat) (h : s.extract i s.size = t) : ∀ hk : k < t.size, ((t[k]'hk).toNat : Int) = (byteAt s (i + k) : Int) := by
  subst h
  intro hk
  rw [byteAt_get, byteAt_cut]
theorem item_none {s : ByteArray} {n k : Nat} (hk : k < n) (h : hexN s 2 (k + 1) = none) : hexItem s n = none := by
  have h1 := hexN_stay_none h (n - (k + 1))
  rw [show k + 1 + (n - (k + 1)) = n by omega] at h1
  unfold hexItem
  rw [h1]
  split <;> rfl
theorem shl_w32 (V : Nat) (h : V < 268435456) : IntKind.i32.wrap ((V : Int) * 16) = w32 (V * 16) := by
  rw [← wrap_w32 (V * 16) (by omega)]
  congr 1

set_option maxRecDepth 20000 in
set_option maxHeartbeats 4000000 in
theorem uc_hex120 (s : ByteArray) (w : World) (hs : s.size ≤ 9223372036854775807) (hs0 : 2 ≤ s.size) (h0 : byteAt s 0 = 92) (h1 : byteAt s 1 = 120) (hun : unesc s = hexItem s 2) :
    Calls Tryf.prog 29 #[.string s] w fun e w' => UcRes s (unesc s) e ∧ Below w.heap.size w w' := by
  obtain ⟨t, ht⟩ : ∃ t, s.extract 2 s.size = t := ⟨_, rfl⟩
  have hts := cut_size s 2 hs0
  rw [ht] at hts
  have htail := hide (cut_tail s t 2 2 ht)
  have hget := fun k => hide (cut_get s t 2 k ht)
  have g0 : ∀ h : 0 < s.size, ((s[0]'h).toNat : Int) = (byteAt s 0 : Int) := fun h => byteAt_get s 0 h
  have g1 : ∀ h : 1 < s.size, ((s[1]'h).toNat : Int) = (byteAt s 1 : Int) := fun h => byteAt_get s 1 h
  have h0' : (byteAt s 0 : Int) = 92 := by omega
  have h1' : (byteAt s 1 : Int) = 120 := by omega
  have hs0' : (2 : Int) ≤ (s.size : Int) := by omega
  have hun' := hide hun
  have ht0 : (0 : Int) ≤ (t.size : Int) := by omega
  generalize byteAt s 0 = b0 at *
  generalize byteAt s 1 = b1 at *
  clear h0 h1 hun
  by_cases hsz : s.size < 2 + 2
  · have hsz' : (t.size : Int) < 2 := by omega
    have hu := hide (show unesc s = none by rw [hun'.out]; unfold hexItem; rw [if_pos hsz])
    have hts' := hide hts
    clear hts
    go_enter Tryf.func29, Tryf.ntmps29
    go_wp2_with fail
    refine (errorf_any _ (by decide +kernel) _).mono ?_
    rintro e w1 ⟨a, rfl, hb1⟩
    go_wp2
    refine bodyPost_ret (results_tmp4 rfl _ _ _) rfl ?_
    exact ⟨UcRes.bad hu.out, hb1⟩
  · have hsz' : (2 : Int) ≤ (t.size : Int) := by omega
    have hts' := hide hts
    clear hts
    have hi : hexItem s 2 = match hexN s 2 2 with | none => none | some v => if 1114111 < w32 v then none else some (w32 v, true, 2 + 2) := by unfold hexItem; rw [if_neg hsz]; cases hexN s 2 2 <;> rfl
    have hi' := hide hi
    clear hi hsz
    go_enter Tryf.func29, Tryf.ntmps29
    go_wp2_with fail
    go_loopw [5, 15, 16] (fun ev v j wr => ∃ k V : Nat, ev = .nilIface ∧ j = .int .i64 k ∧ v = .int .i32 (w32 V) ∧ k ≤ 2 ∧ Hid (hexN s 2 k = some V) ∧ w = wr) (fun _ _ j _ => 2 + 1 - (RowKit.intOf j).toNat)
    case atStart => exact ⟨0, 0, rfl, rfl, rfl, by omega, hide rfl, rfl⟩
    case round =>
      obtain ⟨k, V, rfl, rfl, rfl, hk, hV, rfl⟩ := hrel
      by_cases hkn : k < 2
      · have hkn' : (k : Int) < 2 := by omega
        have hk0 : (0 : Int) ≤ (k : Int) := by omega
        have hkt : (k : Int) < (t.size : Int) := by omega
        have gk := (hget k).out
        have hble := byteAt_le s (2 + k)
        obtain ⟨bk, hbk⟩ : ∃ bk, byteAt s (2 + k) = bk := ⟨_, rfl⟩
        rw [hbk] at gk hble
        have HX := hide (unhex_any bk w hble)
        have hVlt : V < 268435456 := by
          have h1 := hexN_lt hV.out
          have h2 : 16 ^ k ≤ 16 ^ 7 := Nat.pow_le_pow_right (by omega) (by omega)
          omega
        have hVw := hide (w32_small (n := V) (by omega))
        rcases hd : hexD bk with _ | d
        · rw [show hexV bk = 0 by unfold hexV; rw [hd]; rfl, hd] at HX
          have hu := hide (show unesc s = none by rw [hun'.out]; exact item_none hkn (hexN_succ_none (by rw [hbk]; exact hd)))
          clear hble hd hbk hVlt
          go_wp2_with fail
          refine HX.out.mono ?_
          rintro e w1 ⟨rfl, rfl⟩
          go_wp2_with fail
          refine (errorf_any _ (by decide +kernel) _).mono ?_
          rintro e w1 ⟨a, rfl, hb1⟩
          go_wp2
          refine bodyPost_ret (results_tmp4 rfl _ _ _) rfl ?_
          exact ⟨UcRes.bad hu.out, hb1⟩

        · rw [show hexV bk = d by unfold hexV; rw [hd]; rfl, hd] at HX
          have hd16 := hexD_lt hd
          have hV2 := hide (hexN_succ_some hV.out (show hexD (byteAt s (2 + k)) = some d by rw [hbk]; exact hd))
          have hsh := shl_w32 V hVlt
          have hor := or_w32 V d hVlt hd16
          have hVi : (V : Int) < 268435456 := by omega
          have hV0 : (0 : Int) ≤ (V : Int) := by omega
          rw [hVw.out]
          clear hble hd hbk hd16 hVlt
          go_wp2_with fail
          refine HX.out.mono ?_
          rintro e w1 ⟨rfl, rfl⟩
          go_wp2
          go_roundw
          case rel => exact ⟨k + 1, V * 16 + d, rfl, by go_num, rfl, by omega, hV2, by first | rfl | trivial⟩
          case measure => simp [RowKit.intOf]; omega
      · have hkn' : (k : Int) = 2 := by omega
        obtain rfl : k = 2 := by omega
        have hVh := hide (show unesc s = if 1114111 < w32 V then none else some (w32 V, true, 2 + 2) by rw [hun'.out, hi'.out, hV.out])
        by_cases hbig : 1114111 < w32 V
        · have hu := hide (show unesc s = none by rw [hVh.out, if_pos hbig])
          generalize w32 V = X at *
          clear hVh hV
          go_wp2_with fail
          refine (errorf_any _ (by decide +kernel) _).mono ?_
          rintro e w1 ⟨a, rfl, hb1⟩
          go_wp2
          refine bodyPost_ret (results_tmp4 rfl _ _ _) rfl ?_
          exact ⟨UcRes.bad hu.out, hb1⟩

        · have hu := hide (show unesc s = some (w32 V, true, 2 + 2) by rw [hVh.out, if_neg hbig])
          have hbig' : w32 V ≤ 1114111 := by omega
          generalize w32 V = X at *
          clear hVh hV hbig
          go_wp2
          refine bodyPost_ret (results_tmp4 rfl _ _ _) rfl ?_
          exact ⟨UcRes.okt hu.out htail.out, Below.refl _ _⟩

set_option maxRecDepth 20000 in
set_option maxHeartbeats 4000000 in
theorem uc_hex88 (s : ByteArray) (w : World) (hs : s.size ≤ 9223372036854775807) (hs0 : 2 ≤ s.size) (h0 : byteAt s 0 = 92) (h1 : byteAt s 1 = 88) (hun : unesc s = hexItem s 2) :
    Calls Tryf.prog 29 #[.string s] w fun e w' => UcRes s (unesc s) e ∧ Below w.heap.size w w' := by
  obtain ⟨t, ht⟩ : ∃ t, s.extract 2 s.size = t := ⟨_, rfl⟩
  have hts := cut_size s 2 hs0
  rw [ht] at hts
  have htail := hide (cut_tail s t 2 2 ht)
  have hget := fun k => hide (cut_get s t 2 k ht)
  have g0 : ∀ h : 0 < s.size, ((s[0]'h).toNat : Int) = (byteAt s 0 : Int) := fun h => byteAt_get s 0 h
  have g1 : ∀ h : 1 < s.size, ((s[1]'h).toNat : Int) = (byteAt s 1 : Int) := fun h => byteAt_get s 1 h
  have h0' : (byteAt s 0 : Int) = 92 := by omega
  have h1' : (byteAt s 1 : Int) = 88 := by omega
  have hs0' : (2 : Int) ≤ (s.size : Int) := by omega
  have hun' := hide hun
  have ht0 : (0 : Int) ≤ (t.size : Int) := by omega
  generalize byteAt s 0 = b0 at *
  generalize byteAt s 1 = b1 at *
  clear h0 h1 hun
  by_cases hsz : s.size < 2 + 2
  · have hsz' : (t.size : Int) < 2 := by omega
    have hu := hide (show unesc s = none by rw [hun'.out]; unfold hexItem; rw [if_pos hsz])
    have hts' := hide hts
    clear hts
    go_enter Tryf.func29, Tryf.ntmps29
    go_wp2_with fail
    refine (errorf_any _ (by decide +kernel) _).mono ?_
    rintro e w1 ⟨a, rfl, hb1⟩
    go_wp2
    refine bodyPost_ret (results_tmp4 rfl _ _ _) rfl ?_
    exact ⟨UcRes.bad hu.out, hb1⟩
  · have hsz' : (2 : Int) ≤ (t.size : Int) := by omega
    have hts' := hide hts
    clear hts
    have hi : hexItem s 2 = match hexN s 2 2 with | none => none | some v => if 1114111 < w32 v then none else some (w32 v, true, 2 + 2) := by unfold hexItem; rw [if_neg hsz]; cases hexN s 2 2 <;> rfl
    have hi' := hide hi
    clear hi hsz
    go_enter Tryf.func29, Tryf.ntmps29
    go_wp2_with fail
    go_loopw [5, 15, 16] (fun ev v j wr => ∃ k V : Nat, ev = .nilIface ∧ j = .int .i64 k ∧ v = .int .i32 (w32 V) ∧ k ≤ 2 ∧ Hid (hexN s 2 k = some V) ∧ w = wr) (fun _ _ j _ => 2 + 1 - (RowKit.intOf j).toNat)
    case atStart => exact ⟨0, 0, rfl, rfl, rfl, by omega, hide rfl, rfl⟩
    case round =>
      obtain ⟨k, V, rfl, rfl, rfl, hk, hV, rfl⟩ := hrel
      by_cases hkn : k < 2
      · have hkn' : (k : Int) < 2 := by omega
        have hk0 : (0 : Int) ≤ (k : Int) := by omega
        have hkt : (k : Int) < (t.size : Int) := by omega
        have gk := (hget k).out
        have hble := byteAt_le s (2 + k)
        obtain ⟨bk, hbk⟩ : ∃ bk, byteAt s (2 + k) = bk := ⟨_, rfl⟩
        rw [hbk] at gk hble
        have HX := hide (unhex_any bk w hble)
        have hVlt : V < 268435456 := by
          have h1 := hexN_lt hV.out
          have h2 : 16 ^ k ≤ 16 ^ 7 := Nat.pow_le_pow_right (by omega) (by omega)
          omega
        have hVw := hide (w32_small (n := V) (by omega))
        rcases hd : hexD bk with _ | d
        · rw [show hexV bk = 0 by unfold hexV; rw [hd]; rfl, hd] at HX
          have hu := hide (show unesc s = none by rw [hun'.out]; exact item_none hkn (hexN_succ_none (by rw [hbk]; exact hd)))
          clear hble hd hbk hVlt
          go_wp2_with fail
          refine HX.out.mono ?_
          rintro e w1 ⟨rfl, rfl⟩
          go_wp2_with fail
          refine (errorf_any _ (by decide +kernel) _).mono ?_
          rintro e w1 ⟨a, rfl, hb1⟩
          go_wp2
          refine bodyPost_ret (results_tmp4 rfl _ _ _) rfl ?_
          exact ⟨UcRes.bad hu.out, hb1⟩

        · rw [show hexV bk = d by unfold hexV; rw [hd]; rfl, hd] at HX
          have hd16 := hexD_lt hd
          have hV2 := hide (hexN_succ_some hV.out (show hexD (byteAt s (2 + k)) = some d by rw [hbk]; exact hd))
          have hsh := shl_w32 V hVlt
          have hor := or_w32 V d hVlt hd16
          have hVi : (V : Int) < 268435456 := by omega
          have hV0 : (0 : Int) ≤ (V : Int) := by omega
          rw [hVw.out]
          clear hble hd hbk hd16 hVlt
          go_wp2_with fail
          refine HX.out.mono ?_
          rintro e w1 ⟨rfl, rfl⟩
          go_wp2
          go_roundw
          case rel => exact ⟨k + 1, V * 16 + d, rfl, by go_num, rfl, by omega, hV2, by first | rfl | trivial⟩
          case measure => simp [RowKit.intOf]; omega
      · have hkn' : (k : Int) = 2 := by omega
        obtain rfl : k = 2 := by omega
        have hVh := hide (show unesc s = if 1114111 < w32 V then none else some (w32 V, true, 2 + 2) by rw [hun'.out, hi'.out, hV.out])
        by_cases hbig : 1114111 < w32 V
        · have hu := hide (show unesc s = none by rw [hVh.out, if_pos hbig])
          generalize w32 V = X at *
          clear hVh hV
          go_wp2_with fail
          refine (errorf_any _ (by decide +kernel) _).mono ?_
          rintro e w1 ⟨a, rfl, hb1⟩
          go_wp2
          refine bodyPost_ret (results_tmp4 rfl _ _ _) rfl ?_
          exact ⟨UcRes.bad hu.out, hb1⟩

        · have hu := hide (show unesc s = some (w32 V, true, 2 + 2) by rw [hVh.out, if_neg hbig])
          have hbig' : w32 V ≤ 1114111 := by omega
          generalize w32 V = X at *
          clear hVh hV hbig
          go_wp2
          refine bodyPost_ret (results_tmp4 rfl _ _ _) rfl ?_
          exact ⟨UcRes.okt hu.out htail.out, Below.refl _ _⟩

set_option maxRecDepth 20000 in
set_option maxHeartbeats 4000000 in
theorem uc_hex117 (s : ByteArray) (w : World) (hs : s.size ≤ 9223372036854775807) (hs0 : 2 ≤ s.size) (h0 : byteAt s 0 = 92) (h1 : byteAt s 1 = 117) (h2 : ¬ (2 < s.size ∧ byteAt s 2 = 123)) (hun : unesc s = hexItem s 4) :
    Calls Tryf.prog 29 #[.string s] w fun e w' => UcRes s (unesc s) e ∧ Below w.heap.size w w' := by
  obtain ⟨t, ht⟩ : ∃ t, s.extract 2 s.size = t := ⟨_, rfl⟩
  have hts := cut_size s 2 hs0
  rw [ht] at hts
  have htail := hide (cut_tail s t 2 4 ht)
  have hget := fun k => hide (cut_get s t 2 k ht)
  have g0 : ∀ h : 0 < s.size, ((s[0]'h).toNat : Int) = (byteAt s 0 : Int) := fun h => byteAt_get s 0 h
  have g1 : ∀ h : 1 < s.size, ((s[1]'h).toNat : Int) = (byteAt s 1 : Int) := fun h => byteAt_get s 1 h
  have g2 : ∀ h : 0 < t.size, ((t[0]'h).toNat : Int) = (byteAt s 2 : Int) := fun h => cut_get s t 2 0 ht h
  have h2' : (0 : Int) < (t.size : Int) → ((byteAt s 2 : Int) == 123) = false := fun h => by rw [beq_eq_false_iff_ne]; omega
  generalize byteAt s 2 = b2 at *
  have h0' : (byteAt s 0 : Int) = 92 := by omega
  have h1' : (byteAt s 1 : Int) = 117 := by omega
  have hs0' : (2 : Int) ≤ (s.size : Int) := by omega
  have hun' := hide hun
  have ht0 : (0 : Int) ≤ (t.size : Int) := by omega
  generalize byteAt s 0 = b0 at *
  generalize byteAt s 1 = b1 at *
  clear h0 h1 hun
  by_cases hsz : s.size < 2 + 4
  · have hsz' : (t.size : Int) < 4 := by omega
    have hu := hide (show unesc s = none by rw [hun'.out]; unfold hexItem; rw [if_pos hsz])
    have hts' := hide hts
    clear hts
    rcases Nat.eq_zero_or_pos t.size with hz | hz
    · have hz' : (t.size : Int) = 0 := by omega
      clear h2' g2
      go_enter Tryf.func29, Tryf.ntmps29
      go_wp2_with fail
      refine (errorf_any _ (by decide +kernel) _).mono ?_
      rintro e w1 ⟨a, rfl, hb1⟩
      go_wp2
      refine bodyPost_ret (results_tmp4 rfl _ _ _) rfl ?_
      exact ⟨UcRes.bad hu.out, hb1⟩
    · have hz' : (0 : Int) < (t.size : Int) := by omega
      have h2'' := h2' hz'
      clear h2'
      go_enter Tryf.func29, Tryf.ntmps29
      go_wp2_with fail
      refine (errorf_any _ (by decide +kernel) _).mono ?_
      rintro e w1 ⟨a, rfl, hb1⟩
      go_wp2
      refine bodyPost_ret (results_tmp4 rfl _ _ _) rfl ?_
      exact ⟨UcRes.bad hu.out, hb1⟩
  · have hsz' : (4 : Int) ≤ (t.size : Int) := by omega
    have hts' := hide hts
    clear hts
    have hi : hexItem s 4 = match hexN s 2 4 with | none => none | some v => if 1114111 < w32 v then none else some (w32 v, true, 2 + 4) := by unfold hexItem; rw [if_neg hsz]; cases hexN s 2 4 <;> rfl
    have hi' := hide hi
    clear hi hsz
    have h2'' := h2' (by omega)
    clear h2'
    go_enter Tryf.func29, Tryf.ntmps29
    go_wp2_with fail
    go_loopw [5, 15, 16] (fun ev v j wr => ∃ k V : Nat, ev = .nilIface ∧ j = .int .i64 k ∧ v = .int .i32 (w32 V) ∧ k ≤ 4 ∧ Hid (hexN s 2 k = some V) ∧ w = wr) (fun _ _ j _ => 4 + 1 - (RowKit.intOf j).toNat)
    case atStart => exact ⟨0, 0, rfl, rfl, rfl, by omega, hide rfl, rfl⟩
    case round =>
      obtain ⟨k, V, rfl, rfl, rfl, hk, hV, rfl⟩ := hrel
      by_cases hkn : k < 4
      · have hkn' : (k : Int) < 4 := by omega
        have hk0 : (0 : Int) ≤ (k : Int) := by omega
        have hkt : (k : Int) < (t.size : Int) := by omega
        have gk := (hget k).out
        have hble := byteAt_le s (2 + k)
        obtain ⟨bk, hbk⟩ : ∃ bk, byteAt s (2 + k) = bk := ⟨_, rfl⟩
        rw [hbk] at gk hble
        have HX := hide (unhex_any bk w hble)
        have hVlt : V < 268435456 := by
          have h1 := hexN_lt hV.out
          have h2 : 16 ^ k ≤ 16 ^ 7 := Nat.pow_le_pow_right (by omega) (by omega)
          omega
        have hVw := hide (w32_small (n := V) (by omega))
        rcases hd : hexD bk with _ | d
        · rw [show hexV bk = 0 by unfold hexV; rw [hd]; rfl, hd] at HX
          have hu := hide (show unesc s = none by rw [hun'.out]; exact item_none hkn (hexN_succ_none (by rw [hbk]; exact hd)))
          clear hble hd hbk hVlt
          go_wp2_with fail
          refine HX.out.mono ?_
          rintro e w1 ⟨rfl, rfl⟩
          go_wp2_with fail
          refine (errorf_any _ (by decide +kernel) _).mono ?_
          rintro e w1 ⟨a, rfl, hb1⟩
          go_wp2
          refine bodyPost_ret (results_tmp4 rfl _ _ _) rfl ?_
          exact ⟨UcRes.bad hu.out, hb1⟩

        · rw [show hexV bk = d by unfold hexV; rw [hd]; rfl, hd] at HX
          have hd16 := hexD_lt hd
          have hV2 := hide (hexN_succ_some hV.out (show hexD (byteAt s (2 + k)) = some d by rw [hbk]; exact hd))
          have hsh := shl_w32 V hVlt
          have hor := or_w32 V d hVlt hd16
          have hVi : (V : Int) < 268435456 := by omega
          have hV0 : (0 : Int) ≤ (V : Int) := by omega
          rw [hVw.out]
          clear hble hd hbk hd16 hVlt
          go_wp2_with fail
          refine HX.out.mono ?_
          rintro e w1 ⟨rfl, rfl⟩
          go_wp2
          go_roundw
          case rel => exact ⟨k + 1, V * 16 + d, rfl, by go_num, rfl, by omega, hV2, by first | rfl | trivial⟩
          case measure => simp [RowKit.intOf]; omega
      · have hkn' : (k : Int) = 4 := by omega
        obtain rfl : k = 4 := by omega
        have hVh := hide (show unesc s = if 1114111 < w32 V then none else some (w32 V, true, 2 + 4) by rw [hun'.out, hi'.out, hV.out])
        by_cases hbig : 1114111 < w32 V
        · have hu := hide (show unesc s = none by rw [hVh.out, if_pos hbig])
          generalize w32 V = X at *
          clear hVh hV
          go_wp2_with fail
          refine (errorf_any _ (by decide +kernel) _).mono ?_
          rintro e w1 ⟨a, rfl, hb1⟩
          go_wp2
          refine bodyPost_ret (results_tmp4 rfl _ _ _) rfl ?_
          exact ⟨UcRes.bad hu.out, hb1⟩

        · have hu := hide (show unesc s = some (w32 V, true, 2 + 4) by rw [hVh.out, if_neg hbig])
          have hbig' : w32 V ≤ 1114111 := by omega
          generalize w32 V = X at *
          clear hVh hV hbig
          go_wp2
          refine bodyPost_ret (results_tmp4 rfl _ _ _) rfl ?_
          exact ⟨UcRes.okt hu.out htail.out, Below.refl _ _⟩

set_option maxRecDepth 20000 in
set_option maxHeartbeats 4000000 in
theorem uc_hex85 (s : ByteArray) (w : World) (hs : s.size ≤ 9223372036854775807) (hs0 : 2 ≤ s.size) (h0 : byteAt s 0 = 92) (h1 : byteAt s 1 = 85) (hun : unesc s = hexItem s 8) :
    Calls Tryf.prog 29 #[.string s] w fun e w' => UcRes s (unesc s) e ∧ Below w.heap.size w w' := by
  obtain ⟨t, ht⟩ : ∃ t, s.extract 2 s.size = t := ⟨_, rfl⟩
  have hts := cut_size s 2 hs0
  rw [ht] at hts
  have htail := hide (cut_tail s t 2 8 ht)
  have hget := fun k => hide (cut_get s t 2 k ht)
  have g0 : ∀ h : 0 < s.size, ((s[0]'h).toNat : Int) = (byteAt s 0 : Int) := fun h => byteAt_get s 0 h
  have g1 : ∀ h : 1 < s.size, ((s[1]'h).toNat : Int) = (byteAt s 1 : Int) := fun h => byteAt_get s 1 h
  have h0' : (byteAt s 0 : Int) = 92 := by omega
  have h1' : (byteAt s 1 : Int) = 85 := by omega
  have hs0' : (2 : Int) ≤ (s.size : Int) := by omega
  have hun' := hide hun
  have ht0 : (0 : Int) ≤ (t.size : Int) := by omega
  generalize byteAt s 0 = b0 at *
  generalize byteAt s 1 = b1 at *
  clear h0 h1 hun
  by_cases hsz : s.size < 2 + 8
  · have hsz' : (t.size : Int) < 8 := by omega
    have hu := hide (show unesc s = none by rw [hun'.out]; unfold hexItem; rw [if_pos hsz])
    have hts' := hide hts
    clear hts
    go_enter Tryf.func29, Tryf.ntmps29
    go_wp2_with fail
    refine (errorf_any _ (by decide +kernel) _).mono ?_
    rintro e w1 ⟨a, rfl, hb1⟩
    go_wp2
    refine bodyPost_ret (results_tmp4 rfl _ _ _) rfl ?_
    exact ⟨UcRes.bad hu.out, hb1⟩
  · have hsz' : (8 : Int) ≤ (t.size : Int) := by omega
    have hts' := hide hts
    clear hts
    have hi : hexItem s 8 = match hexN s 2 8 with | none => none | some v => if 1114111 < w32 v then none else some (w32 v, true, 2 + 8) := by unfold hexItem; rw [if_neg hsz]; cases hexN s 2 8 <;> rfl
    have hi' := hide hi
    clear hi hsz
    go_enter Tryf.func29, Tryf.ntmps29
    go_wp2_with fail
    go_loopw [5, 15, 16] (fun ev v j wr => ∃ k V : Nat, ev = .nilIface ∧ j = .int .i64 k ∧ v = .int .i32 (w32 V) ∧ k ≤ 8 ∧ Hid (hexN s 2 k = some V) ∧ w = wr) (fun _ _ j _ => 8 + 1 - (RowKit.intOf j).toNat)
    case atStart => exact ⟨0, 0, rfl, rfl, rfl, by omega, hide rfl, rfl⟩
    case round =>
      obtain ⟨k, V, rfl, rfl, rfl, hk, hV, rfl⟩ := hrel
      by_cases hkn : k < 8
      · have hkn' : (k : Int) < 8 := by omega
        have hk0 : (0 : Int) ≤ (k : Int) := by omega
        have hkt : (k : Int) < (t.size : Int) := by omega
        have gk := (hget k).out
        have hble := byteAt_le s (2 + k)
        obtain ⟨bk, hbk⟩ : ∃ bk, byteAt s (2 + k) = bk := ⟨_, rfl⟩
        rw [hbk] at gk hble
        have HX := hide (unhex_any bk w hble)
        have hVlt : V < 268435456 := by
          have h1 := hexN_lt hV.out
          have h2 : 16 ^ k ≤ 16 ^ 7 := Nat.pow_le_pow_right (by omega) (by omega)
          omega
        have hVw := hide (w32_small (n := V) (by omega))
        rcases hd : hexD bk with _ | d
        · rw [show hexV bk = 0 by unfold hexV; rw [hd]; rfl, hd] at HX
          have hu := hide (show unesc s = none by rw [hun'.out]; exact item_none hkn (hexN_succ_none (by rw [hbk]; exact hd)))
          clear hble hd hbk hVlt
          go_wp2_with fail
          refine HX.out.mono ?_
          rintro e w1 ⟨rfl, rfl⟩
          go_wp2_with fail
          refine (errorf_any _ (by decide +kernel) _).mono ?_
          rintro e w1 ⟨a, rfl, hb1⟩
          go_wp2
          refine bodyPost_ret (results_tmp4 rfl _ _ _) rfl ?_
          exact ⟨UcRes.bad hu.out, hb1⟩

        · rw [show hexV bk = d by unfold hexV; rw [hd]; rfl, hd] at HX
          have hd16 := hexD_lt hd
          have hV2 := hide (hexN_succ_some hV.out (show hexD (byteAt s (2 + k)) = some d by rw [hbk]; exact hd))
          have hsh := shl_w32 V hVlt
          have hor := or_w32 V d hVlt hd16
          have hVi : (V : Int) < 268435456 := by omega
          have hV0 : (0 : Int) ≤ (V : Int) := by omega
          rw [hVw.out]
          clear hble hd hbk hd16 hVlt
          go_wp2_with fail
          refine HX.out.mono ?_
          rintro e w1 ⟨rfl, rfl⟩
          go_wp2
          go_roundw
          case rel => exact ⟨k + 1, V * 16 + d, rfl, by go_num, rfl, by omega, hV2, by first | rfl | trivial⟩
          case measure => simp [RowKit.intOf]; omega
      · have hkn' : (k : Int) = 8 := by omega
        obtain rfl : k = 8 := by omega
        have hVh := hide (show unesc s = if 1114111 < w32 V then none else some (w32 V, true, 2 + 8) by rw [hun'.out, hi'.out, hV.out])
        by_cases hbig : 1114111 < w32 V
        · have hu := hide (show unesc s = none by rw [hVh.out, if_pos hbig])
          generalize w32 V = X at *
          clear hVh hV
          go_wp2_with fail
          refine (errorf_any _ (by decide +kernel) _).mono ?_
          rintro e w1 ⟨a, rfl, hb1⟩
          go_wp2
          refine bodyPost_ret (results_tmp4 rfl _ _ _) rfl ?_
          exact ⟨UcRes.bad hu.out, hb1⟩

        · have hu := hide (show unesc s = some (w32 V, true, 2 + 8) by rw [hVh.out, if_neg hbig])
          have hbig' : w32 V ≤ 1114111 := by omega
          generalize w32 V = X at *
          clear hVh hV hbig
          go_wp2
          refine bodyPost_ret (results_tmp4 rfl _ _ _) rfl ?_
          exact ⟨UcRes.okt hu.out htail.out, Below.refl _ _⟩

end Go.Proofs.YtncoodplmpgnbaaFmt
