/-
  The walk of the statement that the pieces cut by reading, taking the word and committing join to the source. Conditions: utf8's two tables hold what their initialisers lay.
-/
import Derived.Test.YtklkbalbmeefjaaDoorWalksG
import Derived.Test.YtklkbalbmeefjaaDoorWalksF
import Derived.Lib.AppendStr
import Derived.Laws.IdiomStrings
namespace Go.Proofs.YtklkbalbmeefjaaDoor
open Go.RowKit Go.Lib Go.Shelf Go.Proofs
set_option linter.unusedVariables false

theorem und34 : Tryd.prog.underlying 34 = some (.slice 5) := by kernel_rfl
theorem info5 : (Tryd.prog.info? 5).map (fun i => (i.zero, i.size, i.bytes)) = some (some (.int .u8 0), 1, 1) := by kernel_rfl
theorem strCells_cut (s : ByteArray) (p q : Nat) (h1 : p ≤ q) (h2 : q ≤ s.size) : strCells (s.extract 0 p) ++ strCells (s.extract p q) = strCells (s.extract 0 q) := by
  unfold strCells
  rw [← List.map_append]
  congr 1
  have h3 : q - 0 ≤ s.data.toList.length := by rw [← Lib.size_eq]; omega
  simp only [ByteArray.data_extract, Array.toList_extract, List.extract_eq_take_drop, Nat.sub_zero, List.drop_zero]
  have h4 : s.data.toList.take q = (s.data.toList.take p) ++ ((s.data.toList.drop p).take (q - p)) := by
    rw [← List.take_append_drop p (s.data.toList.take q), List.take_take, Nat.min_eq_left h1, List.drop_take]
  rw [h4]
theorem size_cut (s : ByteArray) (p q : Nat) (h1 : p ≤ q) (h2 : q ≤ s.size) : ((s.extract p q).size : Int) = (q : Int) - (p : Int) := by
  simp
  omega
theorem extract_all (s : ByteArray) : s.extract 0 s.size = s := by simp
theorem mk_all (s : ByteArray) : (⟨s.data.toList.toArray⟩ : ByteArray) = s := by cases s; simp
theorem own_back {w : World} {base cap g : Nat} {s : ByteArray} (h : w.ownsRow base 5 1 (.slice (some ⟨g, 0, none⟩) s.size cap) s.size (strCells s)) :
    (convert 34 9 (.slice (some ⟨g, 0, none⟩) s.size cap)).run Tryd.prog w = .ok (.string s) w := by
  have hl : s.data.toList.length = s.size := (Lib.size_eq s).symm
  have hr := run_convert_bytes_back (P := Tryd.prog) w 34 9 5 ⟨g, 0, none⟩ cap s.data.toList Tryd.underlying34 Tryd.underlying5 Tryd.underlying9 (fun j hj => by
    have ha : (⟨g, 0, none⟩ : Addr).add j = ⟨g, j, none⟩ := by unfold Addr.add; split <;> simp_all
    rw [ha, h.cellAt j (by omega)]
    simp only [strCells, List.getElem?_map, List.getElem?_eq_getElem hj]
    rfl)
  rw [mk_all, hl] at hr
  exact hr
theorem own_shape0 {w : World} {base e n : Nat} {v : Value} {xs : List Value} (h : w.ownsRow base e 1 v n xs) (hv : v ≠ .slice none 0 0) : ∃ g cap, v = .slice (some ⟨g, 0, none⟩) n cap := by
  rcases h.2 with ⟨h0, _⟩ | ⟨g, cap, cur, rfl, _⟩
  · exact absurd h0 hv
  · exact ⟨g, cap, rfl⟩
theorem behind_append0 {w0 w w' : World} {e n : Nat} {v : Value} {xs : List Value} {b : Nat} {s : ByteArray} {sb sr eb er : Int} {ef : Bool} (h : w.ownsRow w0.heap.size e 1 v n xs) (hL : Lx w b s sb sr eb er ef) (he : e ≠ 44)
    (hbw : Below w0.heap.size w0 w) (hg : w.grownBy w' v.ownBlock) : Hid (Lx w' b s sb sr eb er ef) ∧ Below w0.heap.size w0 w' :=
  ⟨hide (hL.grown hg (own_ne h hL he)), hbw.grown hg hbw.size (fun k hk => (h.lt k hk).1)⟩
theorem own_below {w w' : World} {base e n : Nat} {v : Value} {xs : List Value} (h : w.ownsRow base e 1 v n xs) (hb : Below w.heap.size w w') : w'.ownsRow base e 1 v n xs :=
  h.kept (only_of_below hb none) (by cases hv : v.ownBlock <;> simp)

theorem big10 (s : ByteArray) (m : Int) (w : World) (hs : 1048576 < s.size) (hm : s.size ≤ 9223372036854775807) :
    Calls Tryd.prog 10 #[.string s, .int .i64 m] w fun e w' => e = .returned (.bool true) ∧ Below w.heap.size w w' := by
  have hs' : (1048576 : Int) < (s.size : Int) := by omega
  clear hs
  go_enter Tryd.func10, Tryd.ntmps10
  go_wp2
  go_ret
  exact ⟨rfl, Below.refl _ _⟩
theorem neg10 (s : ByteArray) (m : Int) (w : World) (hs : s.size ≤ 1048576) (hk : m < 1) :
    Calls Tryd.prog 10 #[.string s, .int .i64 m] w fun e w' => e = .returned (.bool true) ∧ Below w.heap.size w w' := by
  have hs' : (s.size : Int) ≤ 1048576 := by omega
  go_enter Tryd.func10, Tryd.ntmps10
  go_wp2
  go_ret
  exact ⟨rfl, Below.refl _ _⟩
theorem pos10 (s : ByteArray) (m : Int) (w : World) (hs : s.size ≤ 1048576) (hk : 65536 < m) :
    Calls Tryd.prog 10 #[.string s, .int .i64 m] w fun e w' => e = .returned (.bool true) ∧ Below w.heap.size w w' := by
  have hs' : (s.size : Int) ≤ 1048576 := by omega
  go_enter Tryd.func10, Tryd.ntmps10
  go_wp2
  go_ret
  exact ⟨rfl, Below.refl _ _⟩

set_option maxRecDepth 20000 in
set_option maxHeartbeats 4000000 in
theorem law10 (s : ByteArray) (m : Nat) (w : World) (hs : s.size ≤ 1048576) (hm1 : 1 ≤ m) (hm2 : m ≤ 65536) (hU : TU w) :
    Calls Tryd.prog 10 #[.string s, .int .i64 (m : Int)] w fun e w' => e = .returned (.bool true) ∧ Below w.heap.size w w' := by
  have hs' : (s.size : Int) ≤ 1048576 := by omega
  have hm1' : (1 : Int) ≤ (m : Int) := by omega
  have hm2' : (m : Int) ≤ 65536 := by omega
  have HN := hide (new_any s w)
  obtain ⟨i0, hi, hz0, hz1, hz2⟩ := info_parts info5
  have hm2h := hide hm2
  clear hm2
  go_enter Tryd.func10, Tryd.ntmps10
  go_wp2_with (first | (go_at_call 12; refine HN.out.mono ?_; rintro e w1 ⟨b, rfl, hb0, hx, hb1⟩) | go_in | (at_make; refine wpList_make_own _ rfl _ _ 34 rfl w.heap.size 5 i0 (.int .u8 0) 1 und34 hi hz0 hz1 .i64 .i64 _ s.size rfl rfl rfl (by rw [hz2]; omega) (by unfold maxLen; omega) (Below.size (by assumption)) ?_; intro w2 hown2 hg2))
  have hx2 := hide (hx.grown hg2 (by simp))
  have hbw2 : Below w.heap.size w w2 := hb1.grown hg2 hb1.size (fun k hk => by cases hk)
  have hown2' := hide (show w2.ownsRow w.heap.size 5 1 _ 0 (strCells (s.extract 0 0)) by rw [extract_self]; exact hown2)
  clear hown2 hg2 hx hb1 HN
  go_loopw [6, 7] (fun v pc wr => ∃ p c q : Nat, pc = .int .i64 q ∧ q ≤ c ∧ c ≤ p ∧ p ≤ s.size ∧ v ≠ .slice none 0 0 ∧ Hid (wr.ownsRow w.heap.size 5 1 v p (strCells (s.extract 0 p))) ∧ Hid (Lx wr b s p c p c false) ∧ Below w.heap.size w wr) (fun _ pc _ => s.size + 2 - (RowKit.intOf pc).toNat)
  case atStart => exact ⟨0, 0, 0, rfl, by omega, by omega, by omega, by simp, hown2', hx2, hbw2⟩
  case round =>
    obtain ⟨p, c, q, rfl, hq, hc, hp, hvn, hown, hL, hbw⟩ := hrel
    clear hown2' hx2 hbw2
    have hqs : (q : Int) ≤ (s.size : Int) := by omega
    have G_15 := hide (endByte_any wr b s p c p c false hL.out)
    have G_17 := hide (endRune_any wr b s p c p c false hL.out)
    have G_22 := hide (startByte_any wr b s p c p c false hL.out)
    have G_23 := hide (startRune_any wr b s p c p c false hL.out)
    go_wp2_with (first | (go_at_call 15; refine G_15.out.mono ?_; rintro e w' ⟨rfl, rfl⟩) | (go_at_call 17; refine G_17.out.mono ?_; rintro e w' ⟨rfl, rfl⟩) | (go_at_call 22; refine G_22.out.mono ?_; rintro e w' ⟨rfl, rfl⟩) | (go_at_call 23; refine G_23.out.mono ?_; rintro e w' ⟨rfl, rfl⟩))
    clear G_15 G_17 G_22 G_23
    go_loopw [10, 11] (fun tk hf wx => ∃ p2 k : Nat, tk = .int .i64 k ∧ hf = .bool false ∧ k ≤ m ∧ c + k ≤ p2 ∧ p + k ≤ p2 ∧ p2 ≤ s.size ∧ Hid (wx.ownsRow w.heap.size 5 1 u6 p (strCells (s.extract 0 p))) ∧ Hid (Lx wx b s p c p2 ((c + k : Nat) : Int) false) ∧ Below w.heap.size w wx) (fun tk _ _ => s.size + 2 - (RowKit.intOf tk).toNat)
    case atStart => exact ⟨p, 0, rfl, rfl, by omega, by omega, by omega, hp, hown, hL, hbw⟩
    case round =>
      clear hown hL hbw
      obtain ⟨p2, k, rfl, rfl, hk, hck, hpk, hp2, hown, hL, hbw⟩ := hrel
      by_cases hkm : k < m
      · have hkm' : (k : Int) < (m : Int) := by omega
        by_cases hlt : p2 < s.size
        · obtain ⟨d1, d2, d3, d4, d5⟩ := dec_facts s p2 hlt
          obtain ⟨R, hR⟩ : ∃ R, (Utf8.decode s p2).1 = R := ⟨_, rfl⟩
          obtain ⟨K, hK⟩ : ∃ K, (Utf8.decode s p2).2 = K := ⟨_, rfl⟩
          have HX := hide (znx wr b s p c p2 (c + k) false hL.out hlt hs (by omega) (hU.below hbw) R K hR hK)
          rw [hR] at d4
          rw [hK] at d1 d2 d3
          clear hR hK d5 hlt
          have hR1 : ((R : Int) == -1) = false := by rw [beq_eq_false_iff_ne]; omega
          have hks : (k : Int) ≤ 65536 := by omega
          go_wp2_with fail
          refine HX.out.mono ?_
          rintro e w4 ⟨rfl, hL4, hg4⟩
          have hbw4 := below_one hbw hg4 hb0
          have hown4 := hide (own_kept hown.out hL.out (by decide) hg4)
          clear hg4 HX hown
          have hL4' := hide (Lx.conv hL4.out (show _ = ((p2 + K : Nat) : Int) by omega) (show _ = ((c + (k + 1) : Nat) : Int) by omega))
          clear hL4
          go_wp2
          go_roundw
          case rel => exact ⟨p2 + K, k + 1, by go_num, rfl, by omega, by omega, by omega, by omega, hown4, hL4', hbw4⟩
          case measure => simp [RowKit.intOf]; omega
        · have hps : p2 = s.size := by omega
          subst hps
          have HX := hide (zne wr b s p c ((c + k : Nat) : Int) false hL.out hs)
          clear hlt
          go_wp2_with fail
          refine HX.out.mono ?_
          rintro e w4 ⟨rfl, hL4, hg4⟩
          have hbw4 := below_one hbw hg4 hb0
          have hown4 := hide (own_kept hown.out hL.out (by decide) hg4)
          clear hg4 HX hown hL hbw
          have hcast := hide (show ((c + k : Nat) : Int) = (c : Int) + (k : Int) by omega)
          have hL5 := hide (Lx.conv hL4.out (show _ = (s.size : Int) from rfl) hcast.out)
          clear hL4
          have hsz := size_cut s p s.size (by omega) (by omega)
          have HW := hide (zword_any w4 b s c ((c : Int) + (k : Int)) p s.size true hL5.out (by omega) (by omega))
          have hcut := hide (strCells_cut s p s.size (by omega) (by omega))
          obtain ⟨x, hx⟩ : ∃ x, s.extract p s.size = x := ⟨_, rfl⟩
          rw [hx] at hsz HW hcut
          clear hx
          have hxn : x.size = s.size - p := by omega
          have hpp : (p : Int) + (k : Int) ≤ (s.size : Int) := by omega
          have hk0 : (0 : Int) ≤ (k : Int) := by omega
          have hc0 : (0 : Int) ≤ (c : Int) := by omega
          have hp0 : (0 : Int) ≤ (p : Int) := by omega
          have hck' : (c : Int) + (k : Int) ≤ 1048576 := by omega
          have G5_17 := hide (endRune_any w4 b s p c s.size ((c : Int) + (k : Int)) true hL5.out)
          go_wp2_with (first | (go_at_call 17; refine G5_17.out.mono ?_; rintro e w' ⟨rfl, rfl⟩))
          refine HW.out.mono ?_
          rintro e w6 ⟨rfl, hb6⟩
          have hL6 := hide (hL5.out.below hb6)
          have hown6 := hide (own_below hown4.out hb6)
          have hbw6 := hbw4.trans (hb6.mono hbw4.size)
          clear HW hL5 hown4 hbw4 G5_17
          have G6_15 := hide (endByte_any w6 b s p c s.size ((c : Int) + (k : Int)) true hL6.out)
          have hxs : ((x.size : Int) == (s.size : Int) - (p : Int)) = true := by rw [hsz]; simp
          have hsz' := hide hsz
          clear hsz
          go_wp2_with (first | (go_at_call 15; refine G6_15.out.mono ?_; rintro e w' ⟨rfl, rfl⟩) | (at_builtin; refine wpList_append_own_string _ rfl _ _ 34 9 rfl w.heap.size 5 i0 und34 Tryd.underlying9 hi hz0 hz1 hz2 _ _ _ rfl hown6.out x rfl (by unfold maxLen; omega) (by omega) hbw6.size ?_; intro v7 w7 hown7 hg7 hnil7))
          obtain ⟨hL7, hbw7⟩ := behind_append0 hown6.out hL6.out (by decide) hbw6 hg7
          rw [hcut.out, show p + x.size = s.size by omega] at hown7
          have hv7 : v7 ≠ .slice none 0 0 := fun h => hvn (hnil7.1 h).1
          obtain ⟨g7, cap7, rfl⟩ := own_shape0 hown7 hv7
          have hown7' := hide hown7
          clear hown7 hg7 hnil7 hown6 hL6 hbw6 hcut G6_15 hxs
          have HC := hide (zcm w7 b s p c s.size ((c : Int) + (k : Int)) true hL7.out)
          go_wp2_with fail
          refine HC.out.mono ?_
          rintro e w8 ⟨rfl, hL8, hg8⟩
          have hbw8 := below_one hbw7 hg8 hb0
          have hown8 := hide (own_kept hown7'.out hL7.out (by decide) hg8)
          clear hg8 HC hL7 hown7' hbw7
          have HE := hide (zwe w8 b s ((c : Int) + (k : Int)) ((c : Int) + (k : Int)) s.size true hL8.out (by omega))
          go_wp2_with fail
          refine HE.out.mono ?_
          rintro e w9 ⟨rfl, hb9⟩
          have hL9 := hide (Lx.conv (hL8.out.below hb9) rfl hcast.out.symm)
          have hown9 := hide (own_below hown8.out hb9)
          have hbw9 := hbw8.trans (hb9.mono hbw8.size)
          clear hb9 HE hL8 hown8 hbw8
          rw [extract_all] at hown9
          have hcv := own_back hown9.out
          go_wp2
          go_ret
          exact ⟨by simp, hbw9⟩
      · have hkm' : (m : Int) ≤ (k : Int) := by omega
        have hL4 := hL
        have hbw4 := hbw
        have hown4 := hown
        clear hL hbw hown
        have hcast := hide (show ((c + k : Nat) : Int) = (c : Int) + (k : Int) by omega)
        have hL5 := hide (Lx.conv hL4.out (show _ = (p2 : Int) from rfl) hcast.out)
        clear hL4
        have hsz := size_cut s p p2 (by omega) (by omega)
        have HW := hide (zword_any wr b s c ((c : Int) + (k : Int)) p p2 false hL5.out (by omega) (by omega))
        have hcut := hide (strCells_cut s p p2 (by omega) (by omega))
        obtain ⟨x, hx⟩ : ∃ x, s.extract p p2 = x := ⟨_, rfl⟩
        rw [hx] at hsz HW hcut
        clear hx
        have hxn : x.size = p2 - p := by omega
        have hpp : (p : Int) + (k : Int) ≤ (p2 : Int) := by omega
        have hk0 : (0 : Int) ≤ (k : Int) := by omega
        have hc0 : (0 : Int) ≤ (c : Int) := by omega
        have hp0 : (0 : Int) ≤ (p : Int) := by omega
        have hck' : (c : Int) + (k : Int) ≤ 1048576 := by omega
        have G5_17 := hide (endRune_any wr b s p c p2 ((c : Int) + (k : Int)) false hL5.out)
        go_wp2_with (first | (go_at_call 17; refine G5_17.out.mono ?_; rintro e w' ⟨rfl, rfl⟩))
        refine HW.out.mono ?_
        rintro e w6 ⟨rfl, hb6⟩
        have hL6 := hide (hL5.out.below hb6)
        have hown6 := hide (own_below hown4.out hb6)
        have hbw6 := hbw4.trans (hb6.mono hbw4.size)
        clear HW hL5 hown4 hbw4 G5_17
        have G6_15 := hide (endByte_any w6 b s p c p2 ((c : Int) + (k : Int)) false hL6.out)
        have hxs : ((x.size : Int) == (p2 : Int) - (p : Int)) = true := by rw [hsz]; simp
        have hsz' := hide hsz
        clear hsz
        have hnz : ((x.size : Int) == 0) = false := by rw [beq_eq_false_iff_ne]; omega
        go_wp2_with (first | (go_at_call 15; refine G6_15.out.mono ?_; rintro e w' ⟨rfl, rfl⟩) | (at_builtin; refine wpList_append_own_string _ rfl _ _ 34 9 rfl w.heap.size 5 i0 und34 Tryd.underlying9 hi hz0 hz1 hz2 _ _ _ rfl hown6.out x rfl (by unfold maxLen; omega) (by omega) hbw6.size ?_; intro v7 w7 hown7 hg7 hnil7))
        obtain ⟨hL7, hbw7⟩ := behind_append0 hown6.out hL6.out (by decide) hbw6 hg7
        rw [hcut.out, show p + x.size = p2 by omega] at hown7
        have hv7 : v7 ≠ .slice none 0 0 := fun h => hvn (hnil7.1 h).1
        obtain ⟨g7, cap7, rfl⟩ := own_shape0 hown7 hv7
        have hown7' := hide hown7
        clear hown7 hg7 hnil7 hown6 hL6 hbw6 hcut G6_15 hxs
        have HC := hide (zcm w7 b s p c p2 ((c : Int) + (k : Int)) false hL7.out)
        go_wp2_with fail
        refine HC.out.mono ?_
        rintro e w8 ⟨rfl, hL8, hg8⟩
        have hbw8 := below_one hbw7 hg8 hb0
        have hown8 := hide (own_kept hown7'.out hL7.out (by decide) hg8)
        clear hg8 HC hL7 hown7' hbw7
        have HE := hide (zwe w8 b s ((c : Int) + (k : Int)) ((c : Int) + (k : Int)) p2 false hL8.out (by omega))
        go_wp2_with fail
        refine HE.out.mono ?_
        rintro e w9 ⟨rfl, hb9⟩
        have hL9 := hide (Lx.conv (hL8.out.below hb9) rfl hcast.out.symm)
        have hown9 := hide (own_below hown8.out hb9)
        have hbw9 := hbw8.trans (hb9.mono hbw8.size)
        clear hb9 HE hL8 hown8 hbw8
        go_wp2
        go_roundw
        case rel => exact ⟨p2, c + k, q + 1, by go_num, by omega, by omega, hp2, hv7, hown9, hide (by have h := hL9.out; rw [hcast.out]; unfold Lx at h ⊢; rw [h]; simp), hbw9⟩
        case measure => simp [RowKit.intOf]; omega

theorem all10 (s : ByteArray) (k : Int) (w : World) (hm : s.size ≤ maxLen) (_h1 : -9223372036854775808 ≤ k) (_h2 : k ≤ 9223372036854775807) (hU : TU w) :
    Calls Tryd.prog 10 #[.string s, .int .i64 k] w fun e w' => e = .returned (.bool true) ∧ Below w.heap.size w w' := by
  by_cases h : s.size ≤ 1048576
  · by_cases h3 : k < 1
    · exact neg10 s k w h h3
    · by_cases h4 : 65536 < k
      · exact pos10 s k w h h4
      · obtain ⟨n, rfl⟩ := Int.eq_ofNat_of_zero_le (show 0 ≤ k by omega)
        exact law10 s n w h (by omega) (by omega) hU
  · exact big10 s k w (by omega) (by unfold maxLen at hm; omega)
end Go.Proofs.YtklkbalbmeefjaaDoor
