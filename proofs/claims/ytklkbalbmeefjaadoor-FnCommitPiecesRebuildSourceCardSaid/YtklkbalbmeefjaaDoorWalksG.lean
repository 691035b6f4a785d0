/-
  The walk of the statement that backup walks back through the very byte offsets that reading passed. Conditions: utf8's two tables hold what their initialisers lay.
-/
import Derived.Test.YtklkbalbmeefjaaDoorSteps
import Derived.OwnWalk
import Derived.Deep.QuietTactic
import Derived.BigQuiet
namespace Go.Proofs.YtklkbalbmeefjaaDoor
open Go.RowKit Go.Lib Go.Shelf Go.Proofs
set_option linter.unusedVariables false

/-- The byte offset behind c runes. -/
def posN (s : ByteArray) : Nat → Nat
  | 0 => 0
  | c + 1 => posN s c + (Utf8.decode s (posN s c)).2
theorem posN_bd (s : ByteArray) : ∀ c, BdS s (posN s c)
  | 0 => BdS.zero s
  | c + 1 => (posN_bd s c).step
theorem posN_step (s : ByteArray) (c : Nat) : posN s c + 1 ≤ posN s (c + 1) := by
  have h : 1 ≤ (Utf8.decode s (posN s c)).2 := by rw [← decodeL_drop]; exact decodeL_width _
  show posN s c + 1 ≤ posN s c + (Utf8.decode s (posN s c)).2
  omega
theorem posN_mono (s : ByteArray) (c : Nat) : ∀ d, posN s c + d ≤ posN s (c + d)
  | 0 => Nat.le_refl _
  | d + 1 => by
    have h1 := posN_mono s c d
    have h2 := posN_step s (c + d)
    have e : c + (d + 1) = c + d + 1 := by omega
    rw [e]
    omega
/-- The offsets of the first n positions, as cells. -/
def posRow (s : ByteArray) (n : Nat) : List Value := (List.range n).map fun k => Value.int .i64 (posN s k)
theorem posRow_succ (s : ByteArray) (n : Nat) (p : Int) (h : p = (posN s n : Int)) : posRow s n ++ [Value.int .i64 p] = posRow s (n + 1) := by
  subst h
  simp [posRow, List.range_succ]
theorem posRow_at (s : ByteArray) (n k : Nat) (h : k < n) : (posRow s n)[k]? = some (.int .i64 (posN s k)) := by
  simp [posRow, h]

theorem und33 : Tryd.prog.underlying 33 = some (.slice 3) := by kernel_rfl
theorem info3 : (Tryd.prog.info? 3).map (fun i => (i.zero, i.size, i.bytes)) = some (some (.int .i64 0), 1, 8) := by kernel_rfl

theorem own_ne {w : World} {base e n : Nat} {v : Value} {xs : List Value} {b : Nat} {s : ByteArray} {sb sr eb er : Int} {ef : Bool} (h : w.ownsRow base e 1 v n xs) (hL : Lx w b s sb sr eb er ef) (he : e ≠ 44) : v.ownBlock ≠ some b := by
  rcases h.2 with ⟨rfl, _⟩ | ⟨g', cap, cur, rfl, _, hh, _⟩
  · simp [Value.ownBlock]
  · intro hg
    have : g' = b := by simpa [Value.ownBlock] using hg
    subst this
    unfold Lx at hL
    rw [hh] at hL
    simp at hL
    exact he hL.2
theorem Lx.grown {w w' : World} {b : Nat} {s : ByteArray} {sb sr eb er : Int} {ef : Bool} {row : Option Nat} (h : Lx w b s sb sr eb er ef) (hg : w.grownBy w' row) (hne : row ≠ some b) : Lx w' b s sb sr eb er ef :=
  (hg.block b h.lt (fun e => hne e.symm)).trans h
theorem Lx.conv {w : World} {b : Nat} {s : ByteArray} {sb sr eb er eb' er' : Int} {ef : Bool} (h : Lx w b s sb sr eb er ef) (h1 : eb = eb') (h2 : er = er') : Lx w b s sb sr eb' er' ef := by
  subst h1 h2; exact h
theorem own_kept {w w' : World} {base e n : Nat} {v : Value} {xs : List Value} {b : Nat} {s : ByteArray} {sb sr eb er : Int} {ef : Bool} (h : w.ownsRow base e 1 v n xs) (hL : Lx w b s sb sr eb er ef) (he : e ≠ 44) (hg : w.grownBy w' (some b)) : w'.ownsRow base e 1 v n xs :=
  h.kept hg (.inr (own_ne h hL he))
/-- Behind an append: all that the loop keeps. -/
theorem behind_append {w0 w w' : World} {e n : Nat} {v : Value} {xs : List Value} {b : Nat} {s : ByteArray} {sb sr eb er : Int} {ef : Bool} (o : Obj) (h : w.ownsRow w0.heap.size e 1 v n xs) (hL : Lx w b s sb sr eb er ef) (he : e ≠ 44)
    (hbw : Below w0.heap.size w0 w) (hg : (w.alloc o).grownBy w' v.ownBlock) : Hid (Lx w' b s sb sr eb er ef) ∧ Below w0.heap.size w0 w' := by
  have hLa : Lx (w.alloc o) b s sb sr eb er ef := by
    have := hL.below ((Below.refl _ _).alloc (Nat.le_refl _) o)
    exact this
  refine ⟨hide (hLa.grown hg (own_ne h hL he)), ?_⟩
  exact (hbw.alloc hbw.size o).grown hg (by simpa using Nat.le_succ_of_le hbw.size) (fun k hk => (h.lt k hk).1)

theorem new_cell (w : World) (u : Value) (e : TypeId) : ∀ j x, [u][j]? = some x → (w.alloc (.cells #[u] e)).cell? ((⟨w.heap.size, 0, none⟩ : Addr).add j) = some x := by
  intro j x hj
  cases j with
  | zero =>
    simp at hj
    subst hj
    have h := heap_alloc_new w (.cells #[u] e)
    rw [Addr.add_lit, cell_of_row _ _ _ #[u] e (0, 0) h]
    rfl
  | succ j => simp at hj
theorem one_int (k : IntKind) (z : Int) : ∀ x ∈ [Value.int k z], x.oneCell' = true := by
  intro x hx
  simp at hx
  subst hx
  rfl
theorem own_shape {w : World} {base e n : Nat} {v : Value} {xs : List Value} (h : w.ownsRow base e 1 v (n + 1) xs) : ∃ g cap, v = .slice (some ⟨g, 0, none⟩) (n + 1) cap := by
  rcases h.2 with ⟨_, h0⟩ | ⟨g, cap, cur, rfl, _⟩
  · omega
  · exact ⟨g, cap, rfl⟩
theorem Lx.drewN {w : World} {b : Nat} {s : ByteArray} {sb sr eb er : Int} {ef : Bool} (h : Lx w b s sb sr eb er ef) (n : Nat) : Lx (w.drewN n) b s sb sr eb er ef := h
theorem own_drewN {w : World} {base e n : Nat} {v : Value} {xs : List Value} (h : w.ownsRow base e 1 v n xs) (m : Nat) : (w.drewN m).ownsRow base e 1 v n xs := h
theorem below_drewN' {w0 w : World} (h : Below w0.heap.size w0 w) (m : Nat) : Below w0.heap.size w0 (w.drewN m) := ⟨h.os, h.tape, h.output, h.size, h.block⟩
theorem q15 {w : World} {b : Nat} {s : ByteArray} {sb sr eb er : Int} {ef : Bool} (h : Hid (Lx w b s sb sr eb er ef)) (n : Nat) : Calls Tryd.prog 15 #[.pointer (some ⟨b, 0, none⟩)] (w.drewN n) fun e w'' => e = .returned (.int .i64 eb) ∧ ∃ m, w'' = w.drewN m :=
  Calls.quiet_of_same ((endByte_any _ b s sb sr eb er ef (h.out.drewN n)).mono fun _ _ ⟨a, b⟩ => ⟨a, b.symm⟩)
theorem q17 {w : World} {b : Nat} {s : ByteArray} {sb sr eb er : Int} {ef : Bool} (h : Hid (Lx w b s sb sr eb er ef)) (n : Nat) : Calls Tryd.prog 17 #[.pointer (some ⟨b, 0, none⟩)] (w.drewN n) fun e w'' => e = .returned (.int .i64 er) ∧ ∃ m, w'' = w.drewN m :=
  Calls.quiet_of_same ((endRune_any _ b s sb sr eb er ef (h.out.drewN n)).mono fun _ _ ⟨a, b⟩ => ⟨a, b.symm⟩)
theorem q19 {w : World} {b : Nat} {s : ByteArray} {sb sr eb er : Int} {ef : Bool} (h : Hid (Lx w b s sb sr eb er ef)) (n : Nat) : Calls Tryd.prog 19 #[.pointer (some ⟨b, 0, none⟩)] (w.drewN n) fun e w'' => e = .returned (.bool ef) ∧ ∃ m, w'' = w.drewN m :=
  Calls.quiet_of_same ((eof_any _ b s sb sr eb er ef (h.out.drewN n)).mono fun _ _ ⟨a, b⟩ => ⟨a, b.symm⟩)

theorem big9 (s : ByteArray) (w : World) (hs : 1048576 < s.size) (hm : s.size ≤ 9223372036854775807) :
    Calls Tryd.prog 9 #[.string s] w fun e w' => e = .returned (.bool true) ∧ Below w.heap.size w w' := by
  have hs' : (1048576 : Int) < (s.size : Int) := by omega
  clear hs
  go_enter Tryd.func9, Tryd.ntmps9
  go_wp2
  go_ret
  exact ⟨rfl, Below.refl _ _⟩

set_option maxRecDepth 20000 in
set_option maxHeartbeats 4000000 in
theorem law9 (s : ByteArray) (w : World) (hs : s.size ≤ 1048576) (hU : TU w) :
    Calls Tryd.prog 9 #[.string s] w fun e w' => e = .returned (.bool true) ∧ Below w.heap.size w w' := by
  have hs' : (s.size : Int) ≤ 1048576 := by omega
  have HN := hide (new_any s w)
  obtain ⟨i0, hi, hz0, hz1, hz2⟩ := info_parts info3
  go_enter Tryd.func9, Tryd.ntmps9
  go_wp2_with (first | (go_at_call 12; refine HN.out.mono ?_; rintro e w1 ⟨b, rfl, hb0, hx, hb1⟩) | go_in | (at_make; refine wpList_make_own _ rfl _ _ 33 rfl w.heap.size 3 i0 (.int .i64 0) 1 und33 hi hz0 hz1 .i64 .i64 _ (s.size + 1) rfl rfl (by simp) (by rw [hz2]; omega) (by unfold maxLen; omega) (Below.size (by assumption)) ?_; intro w2 hown2 hg2) | (at_builtin; refine wpList_append_own _ rfl _ _ 33 rfl w.heap.size 3 i0 (.int .i64 0) 1 8 und33 hi hz0 hz1 hz2 rfl (by decide) _ _ _ rfl (hown2.alloc _) ⟨w2.heap.size, 0, none⟩ 1 1 [.int .i64 0] rfl rfl (new_cell _ _ _) (one_int _ _) (by decide) (by decide) (by have := hb1.size; have := hg2.size; simp; omega) ?_; intro v3 w3 hown3 hg3 _))
  have hx2 := hx.grown hg2 (by simp)
  have hbw2 : Below w.heap.size w w2 := hb1.grown hg2 hb1.size (fun k hk => by cases hk)
  obtain ⟨hL3, hbw3⟩ := behind_append _ hown2 hx2 (by decide) hbw2 hg3
  have hown3' := hide hown3
  clear hown3 hown2 hg2 hg3 hx hx2 hbw2 hb1 HN
  go_loopw [4, 5, 6] (fun v dn st wr => ∃ p c : Nat, dn = .bool false ∧ st = .int .i64 c ∧ Hid (p = posN s c) ∧ c ≤ p ∧ p ≤ s.size ∧ Hid (wr.ownsRow w.heap.size 3 1 v (c + 1) (posRow s (c + 1))) ∧ Hid (Lx wr b s 0 0 p c false) ∧ Below w.heap.size w wr) (fun _ _ st _ => s.size + 2 - (RowKit.intOf st).toNat)
  case atStart => exact ⟨0, 0, rfl, rfl, hide rfl, by omega, by omega, hown3', hL3, hbw3⟩
  case round =>
    obtain ⟨p, c, rfl, rfl, hpp, hc, hp, hown, hL, hbw⟩ := hrel
    clear hown3' hL3 hbw3
    have hcs : (c : Int) ≤ (s.size : Int) := by omega
    by_cases hlt : p < s.size
    · obtain ⟨d1, d2, d3, d4, d5⟩ := dec_facts s p hlt
      obtain ⟨R, hR⟩ : ∃ R, (Utf8.decode s p).1 = R := ⟨_, rfl⟩
      obtain ⟨K, hK⟩ : ∃ K, (Utf8.decode s p).2 = K := ⟨_, rfl⟩
      have HX := fun w hL hU => hide (znx w b s 0 0 p c false hL hlt hs (by omega) hU R K hR hK)
      have hpp' := hide (show p + K = posN s (c + 1) by rw [← hK, hpp.out]; rfl)
      rw [hR] at d4
      rw [hK] at d1 d2 d3
      clear hR hK d5 hlt
      have hR1 : ((R : Int) == -1) = false := by rw [beq_eq_false_iff_ne]; omega
      go_wp2_with fail
      refine (HX wr hL.out (hU.below hbw)).out.mono ?_
      rintro e w4 ⟨rfl, hL4, hg4⟩
      have hbw4 := below_one hbw hg4 hb0
      have hown4 := hide (own_kept hown.out hL.out (by decide) hg4)
      clear hg4 HX hown
      have G4_15 := hide (endByte_any w4 b s 0 0 ((p : Int) + (K : Int)) ((c : Int) + 1) false hL4.out)
      go_wp2_with (first | (go_at_call 15; refine G4_15.out.mono ?_; rintro e w' ⟨rfl, rfl⟩) | (at_builtin; refine wpList_append_own _ rfl _ _ 33 rfl w.heap.size 3 i0 (.int .i64 0) 1 8 und33 hi hz0 hz1 hz2 rfl (by decide) _ _ _ rfl (hown4.out.alloc _) ⟨w4.heap.size, 0, none⟩ 1 1 [.int .i64 ((p : Int) + (K : Int))] rfl rfl (new_cell _ _ _) (one_int _ _) (by unfold maxLen; omega) (by omega) (by have := hbw4.size; simp; omega) ?_; intro v5 w5 hown5 hg5 _))
      obtain ⟨hL5, hbw5⟩ := behind_append _ hown4.out hL4.out (by decide) hbw4 hg5
      rw [posRow_succ s (c + 1) _ (by rw [← hpp'.out]; omega)] at hown5
      have hown5' := hide hown5
      clear hown5 hg5 hown4 G4_15
      go_wp2
      go_roundw
      case rel => exact ⟨p + K, c + 1, rfl, by go_num, hpp', by omega, by omega, hown5', hide hL5.out.nat, hbw5⟩
      case measure => simp [RowKit.intOf]; omega
    · have hps : p = s.size := by omega
      subst hps
      have HX := fun w ef hL => hide (zne w b s 0 0 c ef hL hs)
      clear hlt
      obtain ⟨g, cap, rfl⟩ := own_shape hown.out
      go_wp2_with fail
      refine (HX wr false hL.out).out.mono ?_
      rintro e w4 ⟨rfl, hL4, hg4⟩
      have hbw4 := below_one hbw hg4 hb0
      have hown4 := hide (own_kept hown.out hL.out (by decide) hg4)
      clear hg4 HX hown
      have HB := hide (zbeof w4 b s 0 0 s.size c hL4.out)
      go_wp2_with fail
      refine HB.out.mono ?_
      rintro e w5 ⟨rfl, hL5, hg5⟩
      have hbw5 := below_one hbw4 hg5 hb0
      have hown5 := hide (own_kept hown4.out hL4.out (by decide) hg5)
      clear hg5 HB hown4 hL4 hL hbw hbw4
      have G5_15 := hide (endByte_any w5 b s 0 0 s.size c false hL5.out)
      have G5_17 := hide (endRune_any w5 b s 0 0 s.size c false hL5.out)
      have G5_19 := hide (eof_any w5 b s 0 0 s.size c false hL5.out)
      go_wp2_with (first | (go_at_call 15; refine G5_15.out.mono ?_; rintro e w' ⟨rfl, rfl⟩) | (go_at_call 17; refine G5_17.out.mono ?_; rintro e w' ⟨rfl, rfl⟩) | (go_at_call 19; refine G5_19.out.mono ?_; rintro e w' ⟨rfl, rfl⟩))
      clear G5_15 G5_17 G5_19
      have hpp' := hide (show (s.size : Int) = (posN s c : Int) ∧ (s.size = posN s c) from ⟨by rw [← hpp.out], hpp.out⟩)
      have hL5' := hide (Lx.conv hL5.out hpp'.out.1 rfl)
      clear hL5 hpp
      go_loopw [9] (fun st wr => ∃ (j : Nat) (i : Int), st = .int .i64 i ∧ i + 1 = (j : Int) ∧ j ≤ c ∧ Hid (wr.ownsRow w.heap.size 3 1 (.slice (some ⟨g, 0, none⟩) (c + 1) cap) (c + 1) (posRow s (c + 1))) ∧ Hid (Lx wr b s 0 0 (posN s j) j false) ∧ Below w.heap.size w wr) (fun st _ => (RowKit.intOf st + 1).toNat)
      case atStart => exact ⟨c, _, rfl, by omega, Nat.le_refl _, hown5, hL5', hbw5⟩
      case round =>
        clear hown5 hL5' hbw5
        obtain ⟨j, i, rfl, hij, hjc, hown, hL, hbw⟩ := hrel
        by_cases hj0 : j = 0
        · subst hj0
          obtain rfl : i = -1 := by omega
          have hL0 := hide (Lx.conv hL.out (show _ = (0 : Int) from rfl) (show _ = (0 : Int) from rfl))
          have HB := hide (zbzero wr b s 0 0 0 hL0.out)
          clear hL
          go_wp2_with fail
          refine HB.out.mono ?_
          rintro e w6 ⟨rfl, hL6, hg6⟩
          have hbw6 := below_one hbw hg6 hb0
          clear hg6 HB hL0
          have G6_15 := hide (endByte_any w6 b s 0 0 0 0 false hL6.out)
          have G6_17 := hide (endRune_any w6 b s 0 0 0 0 false hL6.out)
          have G6_19 := hide (eof_any w6 b s 0 0 0 0 false hL6.out)
          have G6_22 := hide (startByte_any w6 b s 0 0 0 0 false hL6.out)
          have G6_23 := hide (startRune_any w6 b s 0 0 0 0 false hL6.out)
          go_wp2_with (first | (go_at_call 15; refine G6_15.out.mono ?_; rintro e w' ⟨rfl, rfl⟩) | (go_at_call 17; refine G6_17.out.mono ?_; rintro e w' ⟨rfl, rfl⟩) | (go_at_call 19; refine G6_19.out.mono ?_; rintro e w' ⟨rfl, rfl⟩) | (go_at_call 22; refine G6_22.out.mono ?_; rintro e w' ⟨rfl, rfl⟩) | (go_at_call 23; refine G6_23.out.mono ?_; rintro e w' ⟨rfl, rfl⟩))
          go_ret
          exact ⟨rfl, hbw6⟩
        · obtain ⟨m, rfl⟩ : ∃ m, j = m + 1 := ⟨j - 1, by omega⟩
          obtain rfl : i = (m : Int) := by omega
          clear hij hj0
          have hmn := posN_mono s (m + 1) (c - (m + 1))
          rw [show m + 1 + (c - (m + 1)) = c by omega, ← hpp'.out.2] at hmn
          have hst := posN_step s m
          have hlast := BdS.last (posN_bd s m) (by omega)
          obtain ⟨q, hq⟩ : ∃ q, posN s m = q := ⟨_, rfl⟩
          have hq1 : posN s (m + 1) = q + (Utf8.decode s q).2 := by rw [← hq]; rfl
          rw [hq] at hlast hst
          rw [hq1] at hmn hst
          have hL0 := hL
          rw [hq1] at hL0
          clear hL
          have hcell := hide (posRow_at s (c + 1) m (by omega))
          rw [hq] at hcell
          have hq' := hide hq
          clear hq hq1
          obtain ⟨K, hK⟩ : ∃ K, (Utf8.decode s q).2 = K := ⟨_, rfl⟩
          rw [hK] at hlast hmn hst hL0
          clear hK
          have hLm := hide (Lx.conv hL0.out (show _ = (q : Int) + (K : Int) by omega) (show _ = (m : Int) + 1 by omega))
          have HB := hide (zback wr b s 0 0 q m K hLm.out (by omega) (by omega) hs (hU.below hbw) hlast)
          clear hL0 hlast
          go_wp2_with fail
          refine HB.out.mono ?_
          rintro e w6 ⟨rfl, hL6, hg6⟩
          have hbw6 := below_one hbw hg6 hb0
          have hown6 := hide (own_kept hown.out hLm.out (by decide) hg6)
          have hce : w6.cell? ⟨g, m, none⟩ = some (.int .i64 (q : Int)) := (hown6.out.cellAt m (by omega)).trans hcell.out
          clear hg6 HB hown hLm hcell
          have hm1 : (m : Int) < (c : Int) + 1 := by omega
          have hm2 : (m : Int) < ((c + 1 : Nat) : Int) := by omega
          have hm0 : (0 : Int) ≤ (m : Int) := by omega
          go_wp2_with fail
          go_quiet (first | (go_at_call 15; exact q15 hL6 _) | (go_at_call 17; exact q17 hL6 _) | (go_at_call 19; exact q19 hL6 _))
          have hown7 := hide (own_drewN hown6.out nq)
          have hL7 := hide (hL6.out.drewN nq)
          have hbw7 := below_drewN' hbw6 nq
          clear hown6 hL6 hbw6 hce
          go_wp2
          go_roundw
          case rel => exact ⟨m, _, rfl, by omega, by omega, hown7, hide (hL7.out.conv (by rw [hq'.out]) rfl), hbw7⟩
          case measure => simp [RowKit.intOf]
theorem all9 (s : ByteArray) (w : World) (hm : s.size ≤ maxLen) (hU : TU w) :
    Calls Tryd.prog 9 #[.string s] w fun e w' => e = .returned (.bool true) ∧ Below w.heap.size w w' := by
  by_cases h : s.size ≤ 1048576
  · exact law9 s w h hU
  · exact big9 s w (by omega) (by unfold maxLen at hm; omega)
end Go.Proofs.YtklkbalbmeefjaaDoor
