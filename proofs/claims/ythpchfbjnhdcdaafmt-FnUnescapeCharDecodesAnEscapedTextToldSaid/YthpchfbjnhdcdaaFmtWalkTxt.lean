/-
  The walk of the statement on a whole escaped text. Condition: utf8's two tables hold what their initialisers lay.
-/
import Derived.Test.YthpchfbjnhdcdaaFmtRowA
import Derived.WalkSpells
namespace Go.Proofs.YthpchfbjnhdcdaaFmt
open Go.RowKit Go.Lib Go.Shelf Go.Proofs
set_option linter.unusedVariables false
set_option linter.unusedSimpArgs false

theorem zz11_yes (a : Option Addr) (n c : Nat) (b : Option Addr) (len cap : Nat) (up : Bool) (W : World) (h : n + len ≤ 1048576) : Calls Tryf.prog 11 #[.slice a n c, .slice b len cap, .bool up] W fun e w' => e = .returned (.bool true) ∧ W = w' := by
  have h' : (n : Int) + (len : Int) ≤ 1048576 := by omega
  have h_0 : (n : Int) ≤ 1048576 := by omega
  have h_1 : (len : Int) ≤ 1048576 := by omega
  clear h
  go_enter Tryf.func11, Tryf.ntmps11
  go_wp2
  go_ret
  exact ⟨rfl, rfl⟩
set_option maxRecDepth 20000 in
theorem zz11_no (a : Option Addr) (n c : Nat) (b : Option Addr) (len cap : Nat) (up : Bool) (W : World) (h : 1048576 < n + len) (hm : n ≤ maxLen ∧ len ≤ maxLen) : Calls Tryf.prog 11 #[.slice a n c, .slice b len cap, .bool up] W fun e w' => e = .returned (.bool false) ∧ W = w' := by
  have h' : 1048576 < (n : Int) + (len : Int) := by omega
  have n_0 : (n : Int) ≤ 9223372036854775807 := by unfold maxLen at hm; omega
  have n_1 : (len : Int) ≤ 9223372036854775807 := by unfold maxLen at hm; omega
  clear h hm
  go_enter Tryf.func11, Tryf.ntmps11
  go_wp2
  all_goals (first | (go_ret; exact ⟨rfl, rfl⟩) | (exfalso; omega))
set_option maxRecDepth 20000 in
set_option maxHeartbeats 16000000 in
theorem tx_nn (up : Bool) (w : World) (hT : TU w) :
    Calls Tryf.prog 4 #[.slice none 0 0, .slice none 0 0, .bool up] w fun e w' => e = .returned (.bool true) ∧ Below w.heap.size w w' := by
  have Z := hide (zz11_yes none 0 0 none 0 0 up w (by decide))
  have heR : (binOp .neq 28 (.slice none 0 0) (.slice none 0 0)).run Tryf.prog w = .ok (.bool false) w := run_neq_slice_nil_any w 28 21 none 0 0 0 0 Tryf.underlying28
  have heYw := fun w' => (show (binOp .neq 29 (.slice none 0 0) (.slice none 0 0)).run Tryf.prog w' = .ok (.bool false) w' from run_neq_slice_nil_any w' 29 5 none 0 0 0 0 Tryf.underlying29)
  have hTh := hide hT
  obtain ⟨i0, hi, hiz0, hiz1, hiz2⟩ := info_parts info5
  obtain ⟨j0, hj, hjz0, hjz1, hjz2⟩ := info_parts info21
  clear hT
  go_enter Tryf.func4, Tryf.ntmps4
  go_wp2_with fail
  refine Z.out.mono ?_
  rintro e w' ⟨rfl, rfl⟩
  clear Z
  have heY := heYw w
  clear heYw
  have hb1 := hide (Below.refl w.heap.size w)
  have hbB := hb1
  clear hb1
  go_wp2_with fail
  go_loopw [6, 11] (fun rv iv wr => iv = .int .i64 0 ∧ w = wr) (fun _ _ _ => 0)
  case atStart => exact ⟨rfl, rfl⟩
  case round =>
    obtain ⟨rfl, rfl⟩ := hrel
    go_wp2_with fail
    go_loopw [12, 13] (fun ev iv wr => ev = .slice none 0 0 ∧ iv = .int .i64 0 ∧ w = wr) (fun _ _ _ => 0)
    case atStart => exact ⟨rfl, rfl, rfl⟩
    case round =>
      obtain ⟨rfl, rfl, rfl⟩ := hrel
      have hcv := own_text29 [] rfl (World.ownsRow_nil w 0 5 1)
      go_wp2_with fail
      go_loopw [6, 16, 17] (fun rv sv kv wr => sv = .string (bytesB []) ∧ kv = .int .i64 0 ∧ w = wr) (fun _ _ _ _ => 0)
      case atStart => exact ⟨rfl, rfl, rfl⟩
      case round =>
        obtain ⟨rfl, rfl, rfl⟩ := hrel
        have hsz : (bytesB []).size = 0 := rfl
        go_wp2
        go_ret
        exact ⟨rfl, hbB.out⟩
set_option maxRecDepth 20000 in
set_option maxHeartbeats 16000000 in
theorem tx_ns (b : Addr) (len cap : Nat) (ys : List UInt8) (up : Bool) (w : World) (hY : Byts w (some b) len cap ys) (hl : len ≤ 65536) (hT : TU w) :
    Calls Tryf.prog 4 #[.slice none 0 0, .slice (some b) len cap, .bool up] w fun e w' => e = .returned (.bool true) ∧ Below w.heap.size w w' := by
  have Z := hide (zz11_yes none 0 0 (some b) len cap up w (by omega))
  have heR : (binOp .neq 28 (.slice none 0 0) (.slice none 0 0)).run Tryf.prog w = .ok (.bool false) w := run_neq_slice_nil_any w 28 21 none 0 0 0 0 Tryf.underlying28
  have hl' : (len : Int) ≤ 65536 := by omega
  have hl0 : (0 : Int) ≤ (len : Int) := by omega
  have hYh := hide hY
  have hlh := hide hl
  have hyl := hide hY.len
  have heYw := fun w' => (show (binOp .neq 29 (.slice (some b) len cap) (.slice none 0 0)).run Tryf.prog w' = .ok (.bool true) w' from run_neq_slice_nil_any w' 29 5 (some b) len cap 0 0 Tryf.underlying29)
  clear hY hl
  have hTh := hide hT
  obtain ⟨i0, hi, hiz0, hiz1, hiz2⟩ := info_parts info5
  obtain ⟨j0, hj, hjz0, hjz1, hjz2⟩ := info_parts info21
  clear hT
  go_enter Tryf.func4, Tryf.ntmps4
  go_wp2_with fail
  refine Z.out.mono ?_
  rintro e w' ⟨rfl, rfl⟩
  clear Z
  have heY := heYw w
  clear heYw
  have hb1 := hide (Below.refl w.heap.size w)
  go_wp2_with (at_make; refine wpList_make_full _ rfl _ _ 29 rfl w.heap.size 5 i0 (.int .u8 0) 1 Tryf.underlying29 hi hiz0 hiz1 .i64 .i64 _ _ len rfl rfl rfl rfl (by rw [hiz2]; have := hlh.out; omega) (by have := hlh.out; unfold maxLen; omega) (Nat.le_refl _) ?_; intro w3 hown3 hg3)
  have hG := hide (show Fill [] len 0 w.heap.size w.heap.size w w3 from ⟨rfl, Nat.zero_le _, by rw [made1] at hown3; simpa [byteCells] using hown3, (Below.refl _ _).grown hg3 (Nat.le_refl _) (fun k hk => by cases hk)⟩)
  clear hown3 hg3 heY
  have hsrc8 := hide ((hYh.out.below hb1.out).src b rfl)
  go_loopw [10] (fun iv ws => ∃ k : Nat, iv = .int .i64 k ∧ k ≤ len ∧ Hid (Fill (ys.take k) len k w.heap.size w.heap.size w ws)) (fun iv _ => len - (RowKit.intOf iv).toNat)
  case atStart => exact ⟨0, rfl, by omega, by rw [List.take_zero]; exact hG⟩
  case round =>
    clear hG
    obtain ⟨k, rfl, hk2, hG⟩ := hrel
    have hk0 : (0 : Int) ≤ (k : Int) := by omega
    have hgs := hG.out.bel.size
    have hyl1 := hyl.out
    by_cases h : k < len
    · have h' : (k : Int) < (len : Int) := by omega
      obtain ⟨hc, hf⟩ := hG.out.facts h
      have hcs := hsrc8.out.below hG.out.bel k (by omega)
      have hp := hide (hG.out.put h (ys[k]'(by omega)) (Nat.le_refl _) (.int .u8 ((ys[k]'(by omega)).toNat : Int)) rfl hgs)
      rw [← List.take_succ_eq_append_getElem (by omega)] at hp
      generalize ((ys[k]'(by omega)).toNat : Int) = z at *
      go_wp2
      go_roundw
      case rel => exact ⟨k + 1, by go_num, by omega, hp⟩
      case measure => simp [RowKit.intOf]; omega
    · obtain rfl : k = len := by omega
      rw [List.take_of_length_le (by omega)] at hG
      rename World => wB
      have hY2 := hide hG.out.byts
      have hbB := hide (hb1.out.trans (hG.out.bel.mono hb1.out.size))
      clear hG hk2 h hsrc8 hYh hgs hyl1 hb1
      go_wp2_with fail
      go_loopw [6, 11] (fun rv iv wr => iv = .int .i64 0 ∧ wB = wr) (fun _ _ _ => 0)
      case atStart => exact ⟨rfl, rfl⟩
      case round =>
        obtain ⟨rfl, rfl⟩ := hrel
        go_wp2_with fail
        go_loopw [12, 13] (fun ev iv wr => ev = .slice none 0 0 ∧ iv = .int .i64 0 ∧ wB = wr) (fun _ _ _ => 0)
        case atStart => exact ⟨rfl, rfl, rfl⟩
        case round =>
          obtain ⟨rfl, rfl, rfl⟩ := hrel
          have hcv := own_text29 [] rfl (World.ownsRow_nil wB 0 5 1)
          go_wp2_with fail
          go_loopw [6, 16, 17] (fun rv sv kv wr => sv = .string (bytesB []) ∧ kv = .int .i64 0 ∧ wB = wr) (fun _ _ _ _ => 0)
          case atStart => exact ⟨rfl, rfl, rfl⟩
          case round =>
            obtain ⟨rfl, rfl, rfl⟩ := hrel
            have hsz : (bytesB []).size = 0 := rfl
            go_wp2
            go_ret
            exact ⟨rfl, hbB.out⟩
set_option maxRecDepth 20000 in
set_option maxHeartbeats 16000000 in
theorem tx_sn (x : Addr) (n c : Nat) (rs : List Int) (up : Bool) (w : World) (hR : Runes w (some x) n c rs) (hn : n ≤ 65536) (hT : TU w) :
    Calls Tryf.prog 4 #[.slice (some x) n c, .slice none 0 0, .bool up] w fun e w' => e = .returned (.bool true) ∧ Below w.heap.size w w' := by
  have Z := hide (zz11_yes (some x) n c none 0 0 up w (by omega))
  have hn' : (n : Int) ≤ 65536 := by omega
  have hn0 : (0 : Int) ≤ (n : Int) := by omega
  have hRh := hide hR
  have hnh := hide hn
  have heR : (binOp .neq 28 (.slice (some x) n c) (.slice none 0 0)).run Tryf.prog w = .ok (.bool true) w := run_neq_slice_nil_any w 28 21 (some x) n c 0 0 Tryf.underlying28
  have hsrc := hide (hR.src x rfl)
  have hrl := hide hR.len
  clear hR hn
  have heYw := fun w' => (show (binOp .neq 29 (.slice none 0 0) (.slice none 0 0)).run Tryf.prog w' = .ok (.bool false) w' from run_neq_slice_nil_any w' 29 5 none 0 0 0 0 Tryf.underlying29)
  have hTh := hide hT
  obtain ⟨i0, hi, hiz0, hiz1, hiz2⟩ := info_parts info5
  obtain ⟨j0, hj, hjz0, hjz1, hjz2⟩ := info_parts info21
  clear hT
  go_enter Tryf.func4, Tryf.ntmps4
  go_wp2_with fail
  refine Z.out.mono ?_
  rintro e w' ⟨rfl, rfl⟩
  clear Z
  go_wp2_with (at_make; refine wpList_make_full _ rfl _ _ 28 rfl w.heap.size 21 j0 (.int .i32 0) 1 Tryf.underlying28 hj hjz0 hjz1 .i64 .i64 _ _ n rfl rfl rfl rfl (by rw [hjz2]; have := hnh.out; omega) (by have := hnh.out; unfold maxLen; omega) (Nat.le_refl _) ?_; intro w2 hown2 hg2)
  have hF := hide (show Fill32 [] n 0 w.heap.size w.heap.size w w2 from ⟨rfl, Nat.zero_le _, by rw [made32] at hown2; simpa [cells32] using hown2, (Below.refl _ _).grown hg2 (Nat.le_refl _) (fun k hk => by cases hk)⟩)
  clear hown2 hg2 heR
  go_loopw [8] (fun iv wr => ∃ i : Nat, iv = .int .i64 i ∧ i ≤ n ∧ Hid (Fill32 (rs.take i) n i w.heap.size w.heap.size w wr)) (fun iv _ => n - (RowKit.intOf iv).toNat)
  case atStart => exact ⟨0, rfl, by omega, by rw [List.take_zero]; exact hF⟩
  case round =>
    clear hF
    obtain ⟨i, rfl, hi2, hF⟩ := hrel
    have hi0 : (0 : Int) ≤ (i : Int) := by omega
    have hbs := hF.out.bel.size
    have hrl1 := hrl.out
    by_cases h : i < n
    · have h' : (i : Int) < (n : Int) := by omega
      obtain ⟨hc, hf⟩ := hF.out.facts h
      have hcs := hsrc.out.below hF.out.bel i (by omega)
      have hp := hide (hF.out.put h (rs[i]'(by omega)) (Nat.le_refl _) hbs)
      rw [← List.take_succ_eq_append_getElem (by omega)] at hp
      generalize (rs[i]'(by omega)) = z at *
      clear heYw
      go_wp2
      go_roundw
      case rel => exact ⟨i + 1, by go_num, by omega, hp⟩
      case measure => simp [RowKit.intOf]; omega
    · obtain rfl : i = n := by omega
      rw [List.take_of_length_le (by omega)] at hF
      rename World => wA
      have hR1 := hide hF.out.runes
      have hb1 := hide hF.out.bel
      clear hF hi2 h hsrc hRh hbs hrl1
      have heY := heYw wA
      clear heYw
      have hbB := hb1
      have hR2 := hR1
      clear hR1
      clear hb1
      go_wp2_with fail
      go_loopw [6, 11] (fun rv iv wr => ∃ j : Nat, iv = .int .i64 j ∧ j ≤ i ∧ Hid (∀ m (h : m < rs.length), m < j → 0 ≤ rs[m] ∧ rs[m] ≤ 1114111) ∧ wA = wr) (fun _ iv _ => i - (RowKit.intOf iv).toNat)
      case atStart => exact ⟨0, rfl, Nat.zero_le _, hide (fun j h hj => absurd hj (Nat.not_lt_zero _)), rfl⟩
      case round =>
        obtain ⟨j, rfl, hj2, hP, rfl⟩ := hrel
        have hj0 : (0 : Int) ≤ (j : Int) := by omega
        have hjj : (j : Int) ≤ (i : Int) := by omega
        by_cases h : j < i
        · have h' : (j : Int) < (i : Int) := by omega
          have hjl : j < rs.length := by rw [hR2.out.len]; exact h
          have hcs := hR2.out.at_ j hjl
          have hPn := fun (h0 : 0 ≤ rs[j]'hjl) (h1 : rs[j]'hjl ≤ 1114111) => hide (show ∀ m (h : m < rs.length), m < j + 1 → 0 ≤ rs[m] ∧ rs[m] ≤ 1114111 from fun m hm hmi => by
            by_cases e : m < j
            · exact hP.out m hm e
            · obtain rfl : m = j := by omega
              exact ⟨h0, h1⟩)
          generalize rs[j]'hjl = z at *
          clear hP
          by_cases hz0 : z < 0
          · clear hPn
            go_wp2
            go_ret
            exact ⟨rfl, hbB.out⟩
          · by_cases hz1 : 1114111 < z
            · clear hPn
              go_wp2
              go_ret
              exact ⟨rfl, hbB.out⟩
            · have hPN := hPn (by omega) (by omega)
              clear hPn
              go_wp2
              go_roundw
              case rel => exact ⟨j + 1, by go_num, by omega, hPN, by first | rfl | trivial⟩
              case measure => simp [RowKit.intOf]; omega
        · obtain rfl : j = i := by omega
          clear hj2 h hj0 hjj
          go_wp2_with fail
          go_loopw [12, 13] (fun ev iv wr => ∃ (m : Nat) (l : List UInt8), iv = .int .i64 m ∧ m ≤ j ∧ Hid (Own wA.heap.size ev l wr) ∧ Hid (Txt (rs.take m) l) ∧ Hid (Below wA.heap.size wA wr)) (fun _ iv _ => j - (RowKit.intOf iv).toNat)
          case atStart => exact ⟨0, [], rfl, Nat.zero_le _, hide (World.ownsRow_nil _ _ _ _), hide (by rw [List.take_zero]; rfl), hide (Below.refl _ _)⟩
          case round =>
            obtain ⟨m, l, rfl, hm2, own, hX, hb⟩ := hrel
            have hm0 : (0 : Int) ≤ (m : Int) := by omega
            have hmm : (m : Int) ≤ (j : Int) := by omega
            have hbs := hb.out.size
            have hll := (Txt.len _ _ hX.out).2
            rw [List.length_take] at hll
            have hnn := hnh.out
            have hl6 : l.length ≤ 655360 := by omega
            clear hll
            by_cases h : m < j
            · have h' : (m : Int) < (j : Int) := by omega
              have hml : m < rs.length := by rw [hR2.out.len]; exact h
              have hcs := (hR2.out.below hb.out).at_ m hml
              have hzz := hP.out m hml h
              have hXn := fun E (hE : Reads1 (rs[m]'hml) E) => hide (show Txt (rs.take (m + 1)) (l ++ E.data.toList) by
                rw [List.take_succ_eq_append_getElem hml]
                exact Txt.snoc _ _ hX.out _ _ hE)
              generalize rs[m]'hml = zi at *
              obtain ⟨z, rfl⟩ := Int.eq_ofNat_of_zero_le hzz.1
              have hzle := hide (show z ≤ 1114111 by omega)
              have hz0 : (0 : Int) ≤ (z : Int) := by omega
              have hz1 : (z : Int) ≤ 1114111 := by omega
              clear hzz hX
              have hEsc := fun f hf => hide (esc_call z f up wr hzle.out hf)
              have hRaw := fun h1 h2 => hide (raw_call z wr hzle.out h1 h2)
              have hOn := fun E w4 v5 w5 (hb4 : Below wr.heap.size wr w4) ho hg => hide (put_str (v' := v5) (w1 := w5) E (Nat.le_trans hbs hb4.size) (own.out.below hb4) ho hg)
              clear h
              go_wp2_with (first | (go_at_call 9; refine (hEsc 0 (by decide)).out.mono ?_; rintro e w4 ⟨⟨E, rfl, hE⟩, hb4⟩) | (at_builtin; refine wpList_append_own_string _ rfl _ _ 29 9 rfl wA.heap.size 5 i0 Tryf.underlying29 Tryf.underlying9 hi hiz0 hiz1 hiz2 _ _ _ rfl (own.out.below hb4) E rfl (by have := hE.2.1; unfold maxLen; omega) (by have := hE.2.1; omega) (Nat.le_trans hbs hb4.size) ?_; intro v5 w5 hown' hg' _; have hR5 := hOn E _ v5 w5 hb4 hown' hg'; have hXN := hXn E hE; have hbN := hide (hb.out.trans ((hb4.mono hbs).trans hR5.out.2)); have hoN := hide hR5.out.1; clear hown' hg' hR5 hE hb4))
              go_roundw
              case rel => exact ⟨m + 1, _, by go_num, by omega, hoN, hXN, hbN⟩
              case measure => simp [RowKit.intOf]; omega
            · obtain rfl : m = j := by omega
              have hrl2 : rs.length = m := hR2.out.len
              rw [List.take_of_length_le (by omega)] at hX
              have hcv := own_text29 l rfl own.out
              have hX0 := hide (show Txt (rs.drop 0) (bytesB l).data.toList by rw [bytesB_data, List.drop_zero]; exact hX.out)
              have hbC := hide (hbB.out.trans (hb.out.mono hbB.out.size))
              have hR3 := hide (hR2.out.below hb.out)
              clear hX hR2 hbs hnn hl6 hm2 h
              rename World => wC
              go_wp2_with fail
              go_loopw [6, 16, 17] (fun rv sv kv wr => ∃ (p : Nat) (s : ByteArray), sv = .string s ∧ kv = .int .i64 p ∧ p ≤ m ∧ Hid (Txt (rs.drop p) s.data.toList) ∧ Hid (Below wC.heap.size wC wr)) (fun _ _ kv _ => m - (RowKit.intOf kv).toNat)
              case atStart => exact ⟨0, _, rfl, rfl, Nat.zero_le _, hX0, hide (Below.refl _ _)⟩
              case round =>
                obtain ⟨p, s, rfl, rfl, hp2, hX, hbD⟩ := hrel
                clear hX0 hcv own hb
                have hp0 : (0 : Int) ≤ (p : Int) := by omega
                have hpm : (p : Int) ≤ (m : Int) := by omega
                have hT1 := Txt.len _ _ hX.out
                rw [len_data, List.length_drop] at hT1
                have hnn := hnh.out
                by_cases hs0 : s.size = 0
                · obtain rfl : m = p := by omega
                  have hs0' : (s.size : Int) = 0 := by omega
                  clear hX hT1 hnn
                  go_wp2
                  go_ret
                  exact ⟨rfl, hbC.out.trans (hbD.out.mono hbC.out.size)⟩
                · have hpl : p < rs.length := by omega
                  have hpm' : (p : Int) < (m : Int) := by omega
                  have hXX := hX.out
                  rw [List.drop_eq_getElem_cons hpl] at hXX
                  obtain ⟨E, l', hE, e, hX'⟩ := hXX
                  have hsE := split_text e
                  have hcs := fun w4 (hb4 : Below wr.heap.size wr w4) => ((hR3.out.below hbD.out).below hb4).at_ p hpl
                  have hsz : s.size = E.size + l'.length := by rw [hsE, size_app, bytesB_size]
                  have hC := hide (read_call (rs[p]'hpl) E (bytesB l') wr (hTh.out.below (hbC.out.trans (hbD.out.mono hbC.out.size))) hE (by rw [bytesB_size]; omega))
                  rw [← hsE] at hC
                  have hE1 := hE.1
                  have hXN := hide (show Txt (rs.drop (p + 1)) (bytesB l').data.toList by rw [bytesB_data]; exact hX')
                  generalize rs[p]'hpl = zi at *
                  have hTz : (bytesB l').size = l'.length := bytesB_size l'
                  generalize bytesB l' = T at *
                  have q1 : (0 : Int) < (s.size : Int) := by omega
                  have q2 : (s.size : Int) ≤ 655360 := by omega
                  have q3 : ¬ (s.size : Int) ≤ (T.size : Int) := by omega
                  have q4 : (T.size : Int) ≤ 655360 := by omega
                  have hcsh := hide hcs
                  clear hX e hX' hsE hE hsz hE1 hTz hT1 hnn hs0 hcs
                  go_wp2_with (go_at_call 10; refine hC.out.mono ?_; rintro e w4 ⟨⟨mb, rfl⟩, hb4⟩; have hcs4 := hcsh.out w4 hb4; have hbE := hide (hbD.out.trans (hb4.mono hbD.out.size)); clear hb4)
                  go_roundw
                  case rel => exact ⟨p + 1, T, rfl, by go_num, by omega, hXN, hbE⟩
                  case measure => simp [RowKit.intOf]; omega
set_option maxRecDepth 20000 in
set_option maxHeartbeats 16000000 in
theorem tx_ss (x : Addr) (n c : Nat) (rs : List Int) (b : Addr) (len cap : Nat) (ys : List UInt8) (up : Bool) (w : World) (hR : Runes w (some x) n c rs) (hn : n ≤ 65536) (hY : Byts w (some b) len cap ys) (hl : len ≤ 65536) (hT : TU w) :
    Calls Tryf.prog 4 #[.slice (some x) n c, .slice (some b) len cap, .bool up] w fun e w' => e = .returned (.bool true) ∧ Below w.heap.size w w' := by
  have Z := hide (zz11_yes (some x) n c (some b) len cap up w (by omega))
  have hn' : (n : Int) ≤ 65536 := by omega
  have hn0 : (0 : Int) ≤ (n : Int) := by omega
  have hRh := hide hR
  have hnh := hide hn
  have heR : (binOp .neq 28 (.slice (some x) n c) (.slice none 0 0)).run Tryf.prog w = .ok (.bool true) w := run_neq_slice_nil_any w 28 21 (some x) n c 0 0 Tryf.underlying28
  have hsrc := hide (hR.src x rfl)
  have hrl := hide hR.len
  clear hR hn
  have hl' : (len : Int) ≤ 65536 := by omega
  have hl0 : (0 : Int) ≤ (len : Int) := by omega
  have hYh := hide hY
  have hlh := hide hl
  have hyl := hide hY.len
  have heYw := fun w' => (show (binOp .neq 29 (.slice (some b) len cap) (.slice none 0 0)).run Tryf.prog w' = .ok (.bool true) w' from run_neq_slice_nil_any w' 29 5 (some b) len cap 0 0 Tryf.underlying29)
  clear hY hl
  have hTh := hide hT
  obtain ⟨i0, hi, hiz0, hiz1, hiz2⟩ := info_parts info5
  obtain ⟨j0, hj, hjz0, hjz1, hjz2⟩ := info_parts info21
  clear hT
  go_enter Tryf.func4, Tryf.ntmps4
  go_wp2_with fail
  refine Z.out.mono ?_
  rintro e w' ⟨rfl, rfl⟩
  clear Z
  go_wp2_with (at_make; refine wpList_make_full _ rfl _ _ 28 rfl w.heap.size 21 j0 (.int .i32 0) 1 Tryf.underlying28 hj hjz0 hjz1 .i64 .i64 _ _ n rfl rfl rfl rfl (by rw [hjz2]; have := hnh.out; omega) (by have := hnh.out; unfold maxLen; omega) (Nat.le_refl _) ?_; intro w2 hown2 hg2)
  have hF := hide (show Fill32 [] n 0 w.heap.size w.heap.size w w2 from ⟨rfl, Nat.zero_le _, by rw [made32] at hown2; simpa [cells32] using hown2, (Below.refl _ _).grown hg2 (Nat.le_refl _) (fun k hk => by cases hk)⟩)
  clear hown2 hg2 heR
  go_loopw [8] (fun iv wr => ∃ i : Nat, iv = .int .i64 i ∧ i ≤ n ∧ Hid (Fill32 (rs.take i) n i w.heap.size w.heap.size w wr)) (fun iv _ => n - (RowKit.intOf iv).toNat)
  case atStart => exact ⟨0, rfl, by omega, by rw [List.take_zero]; exact hF⟩
  case round =>
    clear hF
    obtain ⟨i, rfl, hi2, hF⟩ := hrel
    have hi0 : (0 : Int) ≤ (i : Int) := by omega
    have hbs := hF.out.bel.size
    have hrl1 := hrl.out
    by_cases h : i < n
    · have h' : (i : Int) < (n : Int) := by omega
      obtain ⟨hc, hf⟩ := hF.out.facts h
      have hcs := hsrc.out.below hF.out.bel i (by omega)
      have hp := hide (hF.out.put h (rs[i]'(by omega)) (Nat.le_refl _) hbs)
      rw [← List.take_succ_eq_append_getElem (by omega)] at hp
      generalize (rs[i]'(by omega)) = z at *
      clear heYw
      go_wp2
      go_roundw
      case rel => exact ⟨i + 1, by go_num, by omega, hp⟩
      case measure => simp [RowKit.intOf]; omega
    · obtain rfl : i = n := by omega
      rw [List.take_of_length_le (by omega)] at hF
      rename World => wA
      have hR1 := hide hF.out.runes
      have hb1 := hide hF.out.bel
      clear hF hi2 h hsrc hRh hbs hrl1
      have heY := heYw wA
      clear heYw
      go_wp2_with (at_make; refine wpList_make_full _ rfl _ _ 29 rfl wA.heap.size 5 i0 (.int .u8 0) 1 Tryf.underlying29 hi hiz0 hiz1 .i64 .i64 _ _ len rfl rfl rfl rfl (by rw [hiz2]; have := hlh.out; omega) (by have := hlh.out; unfold maxLen; omega) (Nat.le_refl _) ?_; intro w3 hown3 hg3)
      have hG := hide (show Fill [] len 0 wA.heap.size wA.heap.size wA w3 from ⟨rfl, Nat.zero_le _, by rw [made1] at hown3; simpa [byteCells] using hown3, (Below.refl _ _).grown hg3 (Nat.le_refl _) (fun k hk => by cases hk)⟩)
      clear hown3 hg3 heY
      have hsrc8 := hide ((hYh.out.below hb1.out).src b rfl)
      go_loopw [10] (fun iv ws => ∃ k : Nat, iv = .int .i64 k ∧ k ≤ len ∧ Hid (Fill (ys.take k) len k wA.heap.size wA.heap.size wA ws)) (fun iv _ => len - (RowKit.intOf iv).toNat)
      case atStart => exact ⟨0, rfl, by omega, by rw [List.take_zero]; exact hG⟩
      case round =>
        clear hG
        obtain ⟨k, rfl, hk2, hG⟩ := hrel
        have hk0 : (0 : Int) ≤ (k : Int) := by omega
        have hgs := hG.out.bel.size
        have hyl1 := hyl.out
        by_cases h : k < len
        · have h' : (k : Int) < (len : Int) := by omega
          obtain ⟨hc, hf⟩ := hG.out.facts h
          have hcs := hsrc8.out.below hG.out.bel k (by omega)
          have hp := hide (hG.out.put h (ys[k]'(by omega)) (Nat.le_refl _) (.int .u8 ((ys[k]'(by omega)).toNat : Int)) rfl hgs)
          rw [← List.take_succ_eq_append_getElem (by omega)] at hp
          generalize ((ys[k]'(by omega)).toNat : Int) = z at *
          go_wp2
          go_roundw
          case rel => exact ⟨k + 1, by go_num, by omega, hp⟩
          case measure => simp [RowKit.intOf]; omega
        · obtain rfl : k = len := by omega
          rw [List.take_of_length_le (by omega)] at hG
          rename World => wB
          have hY2 := hide hG.out.byts
          have hbB := hide (hb1.out.trans (hG.out.bel.mono hb1.out.size))
          have hR2 := hide (hR1.out.below hG.out.bel)
          clear hR1
          clear hG hk2 h hsrc8 hYh hgs hyl1 hb1
          go_wp2_with fail
          go_loopw [6, 11] (fun rv iv wr => ∃ j : Nat, iv = .int .i64 j ∧ j ≤ i ∧ Hid (∀ m (h : m < rs.length), m < j → 0 ≤ rs[m] ∧ rs[m] ≤ 1114111) ∧ wB = wr) (fun _ iv _ => i - (RowKit.intOf iv).toNat)
          case atStart => exact ⟨0, rfl, Nat.zero_le _, hide (fun j h hj => absurd hj (Nat.not_lt_zero _)), rfl⟩
          case round =>
            obtain ⟨j, rfl, hj2, hP, rfl⟩ := hrel
            have hj0 : (0 : Int) ≤ (j : Int) := by omega
            have hjj : (j : Int) ≤ (i : Int) := by omega
            by_cases h : j < i
            · have h' : (j : Int) < (i : Int) := by omega
              have hjl : j < rs.length := by rw [hR2.out.len]; exact h
              have hcs := hR2.out.at_ j hjl
              have hPn := fun (h0 : 0 ≤ rs[j]'hjl) (h1 : rs[j]'hjl ≤ 1114111) => hide (show ∀ m (h : m < rs.length), m < j + 1 → 0 ≤ rs[m] ∧ rs[m] ≤ 1114111 from fun m hm hmi => by
                by_cases e : m < j
                · exact hP.out m hm e
                · obtain rfl : m = j := by omega
                  exact ⟨h0, h1⟩)
              generalize rs[j]'hjl = z at *
              clear hP
              by_cases hz0 : z < 0
              · clear hPn
                go_wp2
                go_ret
                exact ⟨rfl, hbB.out⟩
              · by_cases hz1 : 1114111 < z
                · clear hPn
                  go_wp2
                  go_ret
                  exact ⟨rfl, hbB.out⟩
                · have hPN := hPn (by omega) (by omega)
                  clear hPn
                  go_wp2
                  go_roundw
                  case rel => exact ⟨j + 1, by go_num, by omega, hPN, by first | rfl | trivial⟩
                  case measure => simp [RowKit.intOf]; omega
            · obtain rfl : j = i := by omega
              clear hj2 h hj0 hjj
              go_wp2_with fail
              go_loopw [12, 13] (fun ev iv wr => ∃ (m : Nat) (l : List UInt8), iv = .int .i64 m ∧ m ≤ j ∧ Hid (Own wB.heap.size ev l wr) ∧ Hid (Txt (rs.take m) l) ∧ Hid (Below wB.heap.size wB wr)) (fun _ iv _ => j - (RowKit.intOf iv).toNat)
              case atStart => exact ⟨0, [], rfl, Nat.zero_le _, hide (World.ownsRow_nil _ _ _ _), hide (by rw [List.take_zero]; rfl), hide (Below.refl _ _)⟩
              case round =>
                obtain ⟨m, l, rfl, hm2, own, hX, hb⟩ := hrel
                have hm0 : (0 : Int) ≤ (m : Int) := by omega
                have hmm : (m : Int) ≤ (j : Int) := by omega
                have hbs := hb.out.size
                have hll := (Txt.len _ _ hX.out).2
                rw [List.length_take] at hll
                have hnn := hnh.out
                have hl6 : l.length ≤ 655360 := by omega
                clear hll
                by_cases h : m < j
                · have h' : (m : Int) < (j : Int) := by omega
                  have hml : m < rs.length := by rw [hR2.out.len]; exact h
                  have hcs := (hR2.out.below hb.out).at_ m hml
                  have hzz := hP.out m hml h
                  have hXn := fun E (hE : Reads1 (rs[m]'hml) E) => hide (show Txt (rs.take (m + 1)) (l ++ E.data.toList) by
                    rw [List.take_succ_eq_append_getElem hml]
                    exact Txt.snoc _ _ hX.out _ _ hE)
                  generalize rs[m]'hml = zi at *
                  obtain ⟨z, rfl⟩ := Int.eq_ofNat_of_zero_le hzz.1
                  have hzle := hide (show z ≤ 1114111 by omega)
                  have hz0 : (0 : Int) ≤ (z : Int) := by omega
                  have hz1 : (z : Int) ≤ 1114111 := by omega
                  clear hzz hX
                  have hEsc := fun f hf => hide (esc_call z f up wr hzle.out hf)
                  have hRaw := fun h1 h2 => hide (raw_call z wr hzle.out h1 h2)
                  have hOn := fun E w4 v5 w5 (hb4 : Below wr.heap.size wr w4) ho hg => hide (put_str (v' := v5) (w1 := w5) E (Nat.le_trans hbs hb4.size) (own.out.below hb4) ho hg)
                  by_cases hf : m < k
                  · have hf' : (m : Int) < (k : Int) := by omega
                    have hyl2 : m < ys.length := by rw [hY2.out.len]; exact hf
                    have hcy := (hY2.out.below hb.out).at_ m hyl2
                    have hy8 : (ys[m]'hyl2).toNat ≤ 255 := by have := (ys[m]'hyl2).toNat_lt; omega
                    generalize (ys[m]'hyl2).toNat = yb at *
                    have hyb1 : (yb : Int) ≤ 255 := by omega
                    have hyb0 : (0 : Int) ≤ (yb : Int) := by omega
                    have hM7 : (yb : Int).tmod 7 = ((yb % 7 : Nat) : Int) := by rw [Int.tmod_eq_emod_of_nonneg (by omega)]; omega
                    have hq6 : yb % 7 ≤ 6 := by omega
                    generalize yb % 7 = q at *
                    have hq0 : (0 : Int) ≤ (q : Int) := by omega
                    have hq6' : (q : Int) ≤ 6 := by omega
                    by_cases hq : q = 6
                    · subst hq
                      by_cases h92 : z = 92
                      · subst h92
                        clear hf hy8 hq6
                        clear h
                        go_wp2_with (first | (go_at_call 9; refine (hEsc 0 (by decide)).out.mono ?_; rintro e w4 ⟨⟨E, rfl, hE⟩, hb4⟩) | (at_builtin; refine wpList_append_own_string _ rfl _ _ 29 9 rfl wB.heap.size 5 i0 Tryf.underlying29 Tryf.underlying9 hi hiz0 hiz1 hiz2 _ _ _ rfl (own.out.below hb4) E rfl (by have := hE.2.1; unfold maxLen; omega) (by have := hE.2.1; omega) (Nat.le_trans hbs hb4.size) ?_; intro v5 w5 hown' hg' _; have hR5 := hOn E _ v5 w5 hb4 hown' hg'; have hXN := hXn E hE; have hbN := hide (hb.out.trans ((hb4.mono hbs).trans hR5.out.2)); have hoN := hide hR5.out.1; clear hown' hg' hR5 hE hb4))
                        go_roundw
                        case rel => exact ⟨m + 1, _, by go_num, by omega, hoN, hXN, hbN⟩
                        case measure => simp [RowKit.intOf]; omega
                      · have n92 : ((z : Int) != 92) = true := by rw [bne_iff_ne]; omega
                        by_cases s1 : z < 55296
                        · have s1' : decide ((z : Int) < 55296) = true := by rw [decide_eq_true_iff]; omega
                          have hR9 := hRaw h92 (by omega)
                          clear hf hy8 hq6 hRaw s1 h92
                          clear h
                          go_wp2_with (first | (go_at_call 12; refine (hR9).out.mono ?_; rintro e w4 ⟨⟨E, rfl, hE⟩, hb4⟩) | (at_builtin; refine wpList_append_own_string _ rfl _ _ 29 9 rfl wB.heap.size 5 i0 Tryf.underlying29 Tryf.underlying9 hi hiz0 hiz1 hiz2 _ _ _ rfl (own.out.below hb4) E rfl (by have := hE.2.1; unfold maxLen; omega) (by have := hE.2.1; omega) (Nat.le_trans hbs hb4.size) ?_; intro v5 w5 hown' hg' _; have hR5 := hOn E _ v5 w5 hb4 hown' hg'; have hXN := hXn E hE; have hbN := hide (hb.out.trans ((hb4.mono hbs).trans hR5.out.2)); have hoN := hide hR5.out.1; clear hown' hg' hR5 hE hb4))
                          go_roundw
                          case rel => exact ⟨m + 1, _, by go_num, by omega, hoN, hXN, hbN⟩
                          case measure => simp [RowKit.intOf]; omega
                        · have s1' : decide ((z : Int) < 55296) = false := by rw [decide_eq_false_iff_not]; omega
                          by_cases s2 : 57343 < z
                          · have s2' : decide ((57343 : Int) < (z : Int)) = true := by rw [decide_eq_true_iff]; omega
                            have hR9 := hRaw h92 (by omega)
                            clear hf hy8 hq6 hRaw s1 s2 h92
                            clear h
                            go_wp2_with (first | (go_at_call 12; refine (hR9).out.mono ?_; rintro e w4 ⟨⟨E, rfl, hE⟩, hb4⟩) | (at_builtin; refine wpList_append_own_string _ rfl _ _ 29 9 rfl wB.heap.size 5 i0 Tryf.underlying29 Tryf.underlying9 hi hiz0 hiz1 hiz2 _ _ _ rfl (own.out.below hb4) E rfl (by have := hE.2.1; unfold maxLen; omega) (by have := hE.2.1; omega) (Nat.le_trans hbs hb4.size) ?_; intro v5 w5 hown' hg' _; have hR5 := hOn E _ v5 w5 hb4 hown' hg'; have hXN := hXn E hE; have hbN := hide (hb.out.trans ((hb4.mono hbs).trans hR5.out.2)); have hoN := hide hR5.out.1; clear hown' hg' hR5 hE hb4))
                            go_roundw
                            case rel => exact ⟨m + 1, _, by go_num, by omega, hoN, hXN, hbN⟩
                            case measure => simp [RowKit.intOf]; omega
                          · have s2' : decide ((57343 : Int) < (z : Int)) = false := by rw [decide_eq_false_iff_not]; omega
                            clear hf hy8 hq6 s1 s2 h92
                            clear h
                            go_wp2_with (first | (go_at_call 9; refine (hEsc 0 (by decide)).out.mono ?_; rintro e w4 ⟨⟨E, rfl, hE⟩, hb4⟩) | (at_builtin; refine wpList_append_own_string _ rfl _ _ 29 9 rfl wB.heap.size 5 i0 Tryf.underlying29 Tryf.underlying9 hi hiz0 hiz1 hiz2 _ _ _ rfl (own.out.below hb4) E rfl (by have := hE.2.1; unfold maxLen; omega) (by have := hE.2.1; omega) (Nat.le_trans hbs hb4.size) ?_; intro v5 w5 hown' hg' _; have hR5 := hOn E _ v5 w5 hb4 hown' hg'; have hXN := hXn E hE; have hbN := hide (hb.out.trans ((hb4.mono hbs).trans hR5.out.2)); have hoN := hide hR5.out.1; clear hown' hg' hR5 hE hb4))
                            go_roundw
                            case rel => exact ⟨m + 1, _, by go_num, by omega, hoN, hXN, hbN⟩
                            case measure => simp [RowKit.intOf]; omega
                    · have nq : ((q : Int) == 6) = false := by rw [beq_eq_false_iff_ne]; omega
                      have hM6 : (q : Int).tmod 6 = (q : Int) := by rw [Int.tmod_eq_emod_of_nonneg (by omega)]; omega
                      have hE9 := hEsc q (by omega)
                      clear hf hy8 hq6 hq
                      clear h
                      go_wp2_with (first | (go_at_call 9; refine (hE9).out.mono ?_; rintro e w4 ⟨⟨E, rfl, hE⟩, hb4⟩) | (at_builtin; refine wpList_append_own_string _ rfl _ _ 29 9 rfl wB.heap.size 5 i0 Tryf.underlying29 Tryf.underlying9 hi hiz0 hiz1 hiz2 _ _ _ rfl (own.out.below hb4) E rfl (by have := hE.2.1; unfold maxLen; omega) (by have := hE.2.1; omega) (Nat.le_trans hbs hb4.size) ?_; intro v5 w5 hown' hg' _; have hR5 := hOn E _ v5 w5 hb4 hown' hg'; have hXN := hXn E hE; have hbN := hide (hb.out.trans ((hb4.mono hbs).trans hR5.out.2)); have hoN := hide hR5.out.1; clear hown' hg' hR5 hE hb4))
                      go_roundw
                      case rel => exact ⟨m + 1, _, by go_num, by omega, hoN, hXN, hbN⟩
                      case measure => simp [RowKit.intOf]; omega
                  · have hf' : ¬ (m : Int) < (k : Int) := by omega
                    clear hf
                    clear h
                    go_wp2_with (first | (go_at_call 9; refine (hEsc 0 (by decide)).out.mono ?_; rintro e w4 ⟨⟨E, rfl, hE⟩, hb4⟩) | (at_builtin; refine wpList_append_own_string _ rfl _ _ 29 9 rfl wB.heap.size 5 i0 Tryf.underlying29 Tryf.underlying9 hi hiz0 hiz1 hiz2 _ _ _ rfl (own.out.below hb4) E rfl (by have := hE.2.1; unfold maxLen; omega) (by have := hE.2.1; omega) (Nat.le_trans hbs hb4.size) ?_; intro v5 w5 hown' hg' _; have hR5 := hOn E _ v5 w5 hb4 hown' hg'; have hXN := hXn E hE; have hbN := hide (hb.out.trans ((hb4.mono hbs).trans hR5.out.2)); have hoN := hide hR5.out.1; clear hown' hg' hR5 hE hb4))
                    go_roundw
                    case rel => exact ⟨m + 1, _, by go_num, by omega, hoN, hXN, hbN⟩
                    case measure => simp [RowKit.intOf]; omega
                · obtain rfl : m = j := by omega
                  have hrl2 : rs.length = m := hR2.out.len
                  rw [List.take_of_length_le (by omega)] at hX
                  have hcv := own_text29 l rfl own.out
                  have hX0 := hide (show Txt (rs.drop 0) (bytesB l).data.toList by rw [bytesB_data, List.drop_zero]; exact hX.out)
                  have hbC := hide (hbB.out.trans (hb.out.mono hbB.out.size))
                  have hR3 := hide (hR2.out.below hb.out)
                  clear hX hR2 hbs hnn hl6 hm2 h
                  rename World => wC
                  go_wp2_with fail
                  go_loopw [6, 16, 17] (fun rv sv kv wr => ∃ (p : Nat) (s : ByteArray), sv = .string s ∧ kv = .int .i64 p ∧ p ≤ m ∧ Hid (Txt (rs.drop p) s.data.toList) ∧ Hid (Below wC.heap.size wC wr)) (fun _ _ kv _ => m - (RowKit.intOf kv).toNat)
                  case atStart => exact ⟨0, _, rfl, rfl, Nat.zero_le _, hX0, hide (Below.refl _ _)⟩
                  case round =>
                    obtain ⟨p, s, rfl, rfl, hp2, hX, hbD⟩ := hrel
                    clear hX0 hcv own hb
                    have hp0 : (0 : Int) ≤ (p : Int) := by omega
                    have hpm : (p : Int) ≤ (m : Int) := by omega
                    have hT1 := Txt.len _ _ hX.out
                    rw [len_data, List.length_drop] at hT1
                    have hnn := hnh.out
                    by_cases hs0 : s.size = 0
                    · obtain rfl : m = p := by omega
                      have hs0' : (s.size : Int) = 0 := by omega
                      clear hX hT1 hnn
                      go_wp2
                      go_ret
                      exact ⟨rfl, hbC.out.trans (hbD.out.mono hbC.out.size)⟩
                    · have hpl : p < rs.length := by omega
                      have hpm' : (p : Int) < (m : Int) := by omega
                      have hXX := hX.out
                      rw [List.drop_eq_getElem_cons hpl] at hXX
                      obtain ⟨E, l', hE, e, hX'⟩ := hXX
                      have hsE := split_text e
                      have hcs := fun w4 (hb4 : Below wr.heap.size wr w4) => ((hR3.out.below hbD.out).below hb4).at_ p hpl
                      have hsz : s.size = E.size + l'.length := by rw [hsE, size_app, bytesB_size]
                      have hC := hide (read_call (rs[p]'hpl) E (bytesB l') wr (hTh.out.below (hbC.out.trans (hbD.out.mono hbC.out.size))) hE (by rw [bytesB_size]; omega))
                      rw [← hsE] at hC
                      have hE1 := hE.1
                      have hXN := hide (show Txt (rs.drop (p + 1)) (bytesB l').data.toList by rw [bytesB_data]; exact hX')
                      generalize rs[p]'hpl = zi at *
                      have hTz : (bytesB l').size = l'.length := bytesB_size l'
                      generalize bytesB l' = T at *
                      have q1 : (0 : Int) < (s.size : Int) := by omega
                      have q2 : (s.size : Int) ≤ 655360 := by omega
                      have q3 : ¬ (s.size : Int) ≤ (T.size : Int) := by omega
                      have q4 : (T.size : Int) ≤ 655360 := by omega
                      have hcsh := hide hcs
                      clear hX e hX' hsE hE hsz hE1 hTz hT1 hnn hs0 hcs
                      go_wp2_with (go_at_call 10; refine hC.out.mono ?_; rintro e w4 ⟨⟨mb, rfl⟩, hb4⟩; have hcs4 := hcsh.out w4 hb4; have hbE := hide (hbD.out.trans (hb4.mono hbD.out.size)); clear hb4)
                      go_roundw
                      case rel => exact ⟨p + 1, T, rfl, by go_num, by omega, hXN, hbE⟩
                      case measure => simp [RowKit.intOf]; omega
theorem IsRow.max {k : IntKind} {w : World} {a : Option Addr} {n c : Nat} {zs : List Int} (h : IsRow k w a n c zs) : n ≤ maxLen := by
  rcases h with ⟨_, h, _⟩ | ⟨x, _, h, h2, _⟩
  · omega
  · omega
set_option maxRecDepth 20000 in
theorem all4 (a : Option Addr) (n c : Nat) (zs : List Int) (b : Option Addr) (len cap : Nat) (ys : List Int) (up : Bool) (w : World) (hr : IsRow .i32 w a n c zs) (hy : IsRow .u8 w b len cap ys) (hT : TU w) :
    Calls Tryf.prog 4 #[.slice a n c, .slice b len cap, .bool up] w fun e w' => e = .returned (.bool true) ∧ Below w.heap.size w w' := by
  have hm1 := hr.max
  have hm2 := hy.max
  by_cases hb : n + len ≤ 1048576
  · have Z := hide (zz11_yes a n c b len cap up w hb)
    by_cases h2 : n ≤ 65536
    · by_cases h3 : len ≤ 65536
      · have hR := hr.runes
        obtain ⟨bs, hY⟩ := hy.byts
        cases a with
        | none =>
          obtain ⟨rfl, rfl⟩ := hR.nil rfl
          cases b with
          | none =>
            obtain ⟨rfl, rfl⟩ := hY.nil rfl
            exact tx_nn up w hT
          | some y => exact tx_ns y len cap bs up w hY h3 hT
        | some x =>
          cases b with
          | none =>
            obtain ⟨rfl, rfl⟩ := hY.nil rfl
            exact tx_sn x n c _ up w hR h2 hT
          | some y => exact tx_ss x n c _ y len cap bs up w hR h2 hY h3 hT
      · have h2' : (n : Int) ≤ 65536 := by omega
        have h3' : (65536 : Int) < (len : Int) := by omega
        clear hr hy hm1 hm2 hT hb h2 h3
        go_enter Tryf.func4, Tryf.ntmps4
        go_wp2_with fail
        refine Z.out.mono ?_
        rintro e w' ⟨rfl, rfl⟩
        go_wp2
        all_goals (first | (go_ret; exact ⟨rfl, Below.refl _ _⟩) | (exfalso; omega))
    · have h2' : (65536 : Int) < (n : Int) := by omega
      clear hr hy hm1 hm2 hT hb h2
      go_enter Tryf.func4, Tryf.ntmps4
      go_wp2_with fail
      refine Z.out.mono ?_
      rintro e w' ⟨rfl, rfl⟩
      go_wp2
      all_goals (first | (go_ret; exact ⟨rfl, Below.refl _ _⟩) | (exfalso; omega))
  · have Z := hide (zz11_no a n c b len cap up w (by omega) ⟨hm1, hm2⟩)
    clear hr hy hm1 hm2 hT hb
    go_enter Tryf.func4, Tryf.ntmps4
    go_wp2_with fail
    refine Z.out.mono ?_
    rintro e w' ⟨rfl, rfl⟩
    go_wp2
    go_ret
    exact ⟨rfl, Below.refl _ _⟩
end Go.Proofs.YthpchfbjnhdcdaaFmt
