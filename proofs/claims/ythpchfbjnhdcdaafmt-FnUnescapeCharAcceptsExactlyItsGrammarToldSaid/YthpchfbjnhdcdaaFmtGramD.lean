/-
  The law's own grammar by contract: it accepts what the reader accepts, with the reader's length. No condition beyond the bounds.
-/
import Derived.Test.YthpchfbjnhdcdaaFmtGramP
namespace Go.Proofs.YthpchfbjnhdcdaaFmt
open Go.RowKit Go.Lib Go.Shelf Go.Proofs
set_option linter.unusedVariables false
set_option linter.unusedSimpArgs false

/-- What the grammar hands back, by the reader's spec. -/
def GramRes (s : ByteArray) (e : Ending) : Prop :=
  match unesc s with
  | none => e = .returned (.tuple #[.int .i64 0, .bool false, .bool false])
  | some (v, _, n) => e = .returned (.tuple #[.int .i64 (n : Int), .bool true, .bool (decide (v < 0))])
theorem GramRes.no {s : ByteArray} (h : unesc s = none) : GramRes s (.returned (.tuple #[.int .i64 0, .bool false, .bool false])) := by
  unfold GramRes; rw [h]
theorem GramRes.yes {s : ByteArray} {v : Int} {mb : Bool} {n : Nat} {x : Int} {b : Bool} (h : unesc s = some (v, mb, n)) (hx : x = (n : Int)) (hb : b = decide (v < 0)) : GramRes s (.returned (.tuple #[.int .i64 x, .bool true, .bool b])) := by
  unfold GramRes; rw [h, hx, hb]
set_option maxRecDepth 20000 in
set_option maxHeartbeats 1000000 in
theorem gr_high (s : ByteArray) (w : World) (hs : s.size ≤ 1048576) (hs0 : 0 < s.size) (h0 : 128 ≤ byteAt s 0) :
    Calls Tryf.prog 20 #[.string s] w fun e w' => GramRes s e ∧ w = w' := by
  have hs' : (s.size : Int) ≤ 1048576 := by omega
  have hu := hide (show unesc s = some (((Utf8.decode s 0).1 : Int), true, (Utf8.decode s 0).2) by unfold unesc; rw [if_pos h0])
  have H := hide (wid_any s w hs0 hs h0)
  have g0 : ∀ h : 0 < s.size, ((s[0]'h).toNat : Int) = (byteAt s 0 : Int) := fun h => byteAt_get s 0 h
  have hz : (0 : Int) < (s.size : Int) := by omega
  have h0' : (128 : Int) ≤ (byteAt s 0 : Int) := by omega
  clear h0
  go_enter Tryf.func20, Tryf.ntmps20
  go_wp2_with fail
  refine H.out.mono ?_
  rintro e w' ⟨rfl, rfl⟩
  go_wp2
  go_ret3
  exact ⟨GramRes.yes hu.out rfl (by simp), rfl⟩

set_option maxRecDepth 20000 in
set_option maxHeartbeats 1000000 in
theorem gr_plain (s : ByteArray) (w : World) (hs : s.size ≤ 1048576) (hs0 : 0 < s.size) (h0 : byteAt s 0 < 128) (h1 : byteAt s 0 ≠ 92) :
    Calls Tryf.prog 20 #[.string s] w fun e w' => GramRes s e ∧ w = w' := by
  have hs' : (s.size : Int) ≤ 1048576 := by omega
  have hu := hide (show unesc s = some ((byteAt s 0 : Int), false, 1) by unfold unesc; rw [if_neg (by omega), if_pos h1])
  have g0 : ∀ h : 0 < s.size, ((s[0]'h).toNat : Int) = (byteAt s 0 : Int) := fun h => byteAt_get s 0 h
  have hz : (0 : Int) < (s.size : Int) := by omega
  have h0' : (byteAt s 0 : Int) < 128 := by omega
  have h1' : ((byteAt s 0 : Int) != 92) = true := by simp; omega
  clear h0 h1
  go_enter Tryf.func20, Tryf.ntmps20
  go_wp2
  go_ret3
  exact ⟨GramRes.yes hu.out rfl (by simp), rfl⟩

set_option maxRecDepth 20000 in
set_option maxHeartbeats 1000000 in
theorem gr_last (s : ByteArray) (w : World) (hs : s.size ≤ 1048576) (hs0 : s.size = 1) (h0 : byteAt s 0 = 92) :
    Calls Tryf.prog 20 #[.string s] w fun e w' => GramRes s e ∧ w = w' := by
  have hs' : (s.size : Int) ≤ 1048576 := by omega
  have hu := hide (show unesc s = none by unfold unesc; rw [if_neg (by omega), if_neg (by omega), if_pos (by omega)])
  have g0 : ∀ h : 0 < s.size, ((s[0]'h).toNat : Int) = 92 := fun h => by rw [byteAt_get s 0 h]; omega
  have hz : (s.size : Int) = 1 := by omega
  clear h0 hs0
  go_enter Tryf.func20, Tryf.ntmps20
  go_wp2
  go_ret3
  exact ⟨GramRes.no hu.out, rfl⟩

set_option maxRecDepth 20000 in
set_option maxHeartbeats 1000000 in
theorem gr_simple (s : ByteArray) (w : World) (hs : s.size ≤ 1048576) (hs1 : 1 < s.size) (h0 : byteAt s 0 = 92) (c : Nat) (hc : simpleV (byteAt s 1) = some c) :
    Calls Tryf.prog 20 #[.string s] w fun e w' => GramRes s e ∧ w = w' := by
  have hs' : (s.size : Int) ≤ 1048576 := by omega
  have hu := hide (show unesc s = some ((c : Int), false, 2) by unfold unesc; rw [if_neg (by omega), if_neg (by omega), if_neg (by omega), hc])
  have HS := hide (show Calls Tryf.prog 21 #[.int .u8 (byteAt s 1 : Int)] w fun e w' => e = .returned (.tuple #[.int .i32 (c : Int), .bool true]) ∧ w = w' by
    have h := simpleValue_any (byteAt s 1) w (byteAt_le s 1)
    rw [hc] at h
    exact h)
  have g0 : ∀ h : 0 < s.size, ((s[0]'h).toNat : Int) = 92 := fun h => by rw [byteAt_get s 0 h]; omega
  have g1 : ∀ h : 1 < s.size, ((s[1]'h).toNat : Int) = (byteAt s 1 : Int) := fun h => byteAt_get s 1 h
  have hz : (1 : Int) < (s.size : Int) := by omega
  clear h0 hc hs1
  go_enter Tryf.func20, Tryf.ntmps20
  go_wp2_with fail
  refine HS.out.mono ?_
  rintro e w' ⟨rfl, rfl⟩
  go_wp2
  go_ret3
  exact ⟨GramRes.yes hu.out rfl (by simp), rfl⟩

set_option maxRecDepth 20000 in
set_option maxHeartbeats 1000000 in
theorem gr_120_short (s : ByteArray) (w : World) (hs : s.size ≤ 1048576) (hs1 : 1 < s.size) (h0 : byteAt s 0 = 92) (h1 : byteAt s 1 = 120) (h2 : s.size < 4) :
    Calls Tryf.prog 20 #[.string s] w fun e w' => GramRes s e ∧ w = w' := by
  have hs' : (s.size : Int) ≤ 1048576 := by omega
  have hu0 : unesc s = hexItem s 2 := by
    rw [unesc_esc s h0 hs1 (by rw [h1]; rfl), h1]
    rfl
  have hu := hide (hu0.trans (hexItem_short s 2 (by omega)))
  have HS := hide (show Calls Tryf.prog 21 #[.int .u8 120] w fun e w' => e = .returned (.tuple #[.int .i32 0, .bool false]) ∧ w = w' from simpleValue_any 120 w (by decide))
  have g0 : ∀ h : 0 < s.size, ((s[0]'h).toNat : Int) = 92 := fun h => by rw [byteAt_get s 0 h]; omega
  have g1 : ∀ h : 1 < s.size, ((s[1]'h).toNat : Int) = 120 := fun h => by rw [byteAt_get s 1 h]; omega
  have hz : (1 : Int) < (s.size : Int) := by omega
  have hz2 : (s.size : Int) ≤ 3 := by omega
  clear h0 h1 hs1 hu0 h2
  go_enter Tryf.func20, Tryf.ntmps20
  go_wp2_with fail
  refine HS.out.mono ?_
  rintro e w' ⟨rfl, rfl⟩
  go_wp2
  go_ret3
  exact ⟨GramRes.no hu.out, rfl⟩

set_option maxRecDepth 20000 in
set_option maxHeartbeats 1000000 in
theorem gr_120_0 (s : ByteArray) (w : World) (hs : s.size ≤ 1048576) (hs1 : 1 < s.size) (h0 : byteAt s 0 = 92) (h1 : byteAt s 1 = 120) (h2 : 4 ≤ s.size) (d2 : (hexD (byteAt s 2)).isSome = false) :
    Calls Tryf.prog 20 #[.string s] w fun e w' => GramRes s e ∧ w = w' := by
  have hs' : (s.size : Int) ≤ 1048576 := by omega
  have hu0 : unesc s = hexItem s 2 := by
    rw [unesc_esc s h0 hs1 (by rw [h1]; rfl), h1]
    rfl
  have hu := hide (hu0.trans (hexItem_bad s 2 0 (by decide) (by simpa using d2)))
  have HS := hide (show Calls Tryf.prog 21 #[.int .u8 120] w fun e w' => e = .returned (.tuple #[.int .i32 0, .bool false]) ∧ w = w' from simpleValue_any 120 w (by decide))
  have H2 := hide (show Calls Tryf.prog 27 #[.int .u8 (byteAt s 2 : Int)] w fun e w' => e = .returned (.bool false) ∧ w = w' by
    have h := isHex_any (byteAt s 2) w (byteAt_le s 2)
    rw [d2] at h
    exact h)
  have g0 : ∀ h : 0 < s.size, ((s[0]'h).toNat : Int) = 92 := fun h => by rw [byteAt_get s 0 h]; omega
  have g1 : ∀ h : 1 < s.size, ((s[1]'h).toNat : Int) = 120 := fun h => by rw [byteAt_get s 1 h]; omega
  have g2 : ∀ h : 2 < s.size, ((s[2]'h).toNat : Int) = (byteAt s 2 : Int) := fun h => byteAt_get s 2 h
  have g3 : ∀ h : 3 < s.size, ((s[3]'h).toNat : Int) = (byteAt s 3 : Int) := fun h => byteAt_get s 3 h
  have hz : (1 : Int) < (s.size : Int) := by omega
  have hz2 : (4 : Int) ≤ (s.size : Int) := by omega
  clear h0 h1 hs1 hu0 h2 d2
  go_enter Tryf.func20, Tryf.ntmps20
  go_wp2_with fail
  refine HS.out.mono ?_
  rintro e w' ⟨rfl, rfl⟩
  go_wp2_with fail
  refine H2.out.mono ?_
  rintro e w' ⟨rfl, rfl⟩
  go_wp2
  go_ret3
  exact ⟨GramRes.no hu.out, rfl⟩

set_option maxRecDepth 20000 in
set_option maxHeartbeats 1000000 in
theorem gr_120_1 (s : ByteArray) (w : World) (hs : s.size ≤ 1048576) (hs1 : 1 < s.size) (h0 : byteAt s 0 = 92) (h1 : byteAt s 1 = 120) (h2 : 4 ≤ s.size) (d2 : (hexD (byteAt s 2)).isSome = true) (d3 : (hexD (byteAt s 3)).isSome = false) :
    Calls Tryf.prog 20 #[.string s] w fun e w' => GramRes s e ∧ w = w' := by
  have hs' : (s.size : Int) ≤ 1048576 := by omega
  have hu0 : unesc s = hexItem s 2 := by
    rw [unesc_esc s h0 hs1 (by rw [h1]; rfl), h1]
    rfl
  have hu := hide (hu0.trans (hexItem_bad s 2 1 (by decide) (by simpa using d3)))
  have HS := hide (show Calls Tryf.prog 21 #[.int .u8 120] w fun e w' => e = .returned (.tuple #[.int .i32 0, .bool false]) ∧ w = w' from simpleValue_any 120 w (by decide))
  have H2 := hide (show Calls Tryf.prog 27 #[.int .u8 (byteAt s 2 : Int)] w fun e w' => e = .returned (.bool true) ∧ w = w' by
    have h := isHex_any (byteAt s 2) w (byteAt_le s 2)
    rw [d2] at h
    exact h)
  have H3 := hide (show Calls Tryf.prog 27 #[.int .u8 (byteAt s 3 : Int)] w fun e w' => e = .returned (.bool false) ∧ w = w' by
    have h := isHex_any (byteAt s 3) w (byteAt_le s 3)
    rw [d3] at h
    exact h)
  have g0 : ∀ h : 0 < s.size, ((s[0]'h).toNat : Int) = 92 := fun h => by rw [byteAt_get s 0 h]; omega
  have g1 : ∀ h : 1 < s.size, ((s[1]'h).toNat : Int) = 120 := fun h => by rw [byteAt_get s 1 h]; omega
  have g2 : ∀ h : 2 < s.size, ((s[2]'h).toNat : Int) = (byteAt s 2 : Int) := fun h => byteAt_get s 2 h
  have g3 : ∀ h : 3 < s.size, ((s[3]'h).toNat : Int) = (byteAt s 3 : Int) := fun h => byteAt_get s 3 h
  have hz : (1 : Int) < (s.size : Int) := by omega
  have hz2 : (4 : Int) ≤ (s.size : Int) := by omega
  clear h0 h1 hs1 hu0 h2 d2 d3
  go_enter Tryf.func20, Tryf.ntmps20
  go_wp2_with fail
  refine HS.out.mono ?_
  rintro e w' ⟨rfl, rfl⟩
  go_wp2_with fail
  refine H2.out.mono ?_
  rintro e w' ⟨rfl, rfl⟩
  go_wp2_with fail
  refine H3.out.mono ?_
  rintro e w' ⟨rfl, rfl⟩
  go_wp2
  go_ret3
  exact ⟨GramRes.no hu.out, rfl⟩

set_option maxRecDepth 20000 in
set_option maxHeartbeats 1000000 in
theorem gr_120_2 (s : ByteArray) (w : World) (hs : s.size ≤ 1048576) (hs1 : 1 < s.size) (h0 : byteAt s 0 = 92) (h1 : byteAt s 1 = 120) (h2 : 4 ≤ s.size) (d2 : (hexD (byteAt s 2)).isSome = true) (d3 : (hexD (byteAt s 3)).isSome = true) :
    Calls Tryf.prog 20 #[.string s] w fun e w' => GramRes s e ∧ w = w' := by
  have hs' : (s.size : Int) ≤ 1048576 := by omega
  have hu0 : unesc s = hexItem s 2 := by
    rw [unesc_esc s h0 hs1 (by rw [h1]; rfl), h1]
    rfl
  obtain ⟨v, hv⟩ := hexN_run s 2 2 (fun j hj => by
    rcases (show j = 0 ∨ j = 1 by omega) with rfl | rfl
    · exact d2
    · exact d3) 2 (Nat.le_refl _)
  have hu := hide (hu0.trans (hexItem_small s 2 v (by omega) hv (by decide)))
  have HS := hide (show Calls Tryf.prog 21 #[.int .u8 120] w fun e w' => e = .returned (.tuple #[.int .i32 0, .bool false]) ∧ w = w' from simpleValue_any 120 w (by decide))
  have H2 := hide (show Calls Tryf.prog 27 #[.int .u8 (byteAt s 2 : Int)] w fun e w' => e = .returned (.bool true) ∧ w = w' by
    have h := isHex_any (byteAt s 2) w (byteAt_le s 2)
    rw [d2] at h
    exact h)
  have H3 := hide (show Calls Tryf.prog 27 #[.int .u8 (byteAt s 3 : Int)] w fun e w' => e = .returned (.bool true) ∧ w = w' by
    have h := isHex_any (byteAt s 3) w (byteAt_le s 3)
    rw [d3] at h
    exact h)
  have g0 : ∀ h : 0 < s.size, ((s[0]'h).toNat : Int) = 92 := fun h => by rw [byteAt_get s 0 h]; omega
  have g1 : ∀ h : 1 < s.size, ((s[1]'h).toNat : Int) = 120 := fun h => by rw [byteAt_get s 1 h]; omega
  have g2 : ∀ h : 2 < s.size, ((s[2]'h).toNat : Int) = (byteAt s 2 : Int) := fun h => byteAt_get s 2 h
  have g3 : ∀ h : 3 < s.size, ((s[3]'h).toNat : Int) = (byteAt s 3 : Int) := fun h => byteAt_get s 3 h
  have hz : (1 : Int) < (s.size : Int) := by omega
  have hz2 : (4 : Int) ≤ (s.size : Int) := by omega
  clear h0 h1 hs1 hu0 h2 d2 d3 hv
  go_enter Tryf.func20, Tryf.ntmps20
  go_wp2_with fail
  refine HS.out.mono ?_
  rintro e w' ⟨rfl, rfl⟩
  go_wp2_with fail
  refine H2.out.mono ?_
  rintro e w' ⟨rfl, rfl⟩
  go_wp2_with fail
  refine H3.out.mono ?_
  rintro e w' ⟨rfl, rfl⟩
  go_wp2
  go_ret3
  exact ⟨GramRes.yes hu.out rfl (by simp), rfl⟩

set_option maxRecDepth 20000 in
set_option maxHeartbeats 1000000 in
theorem gr_88_short (s : ByteArray) (w : World) (hs : s.size ≤ 1048576) (hs1 : 1 < s.size) (h0 : byteAt s 0 = 92) (h1 : byteAt s 1 = 88) (h2 : s.size < 4) :
    Calls Tryf.prog 20 #[.string s] w fun e w' => GramRes s e ∧ w = w' := by
  have hs' : (s.size : Int) ≤ 1048576 := by omega
  have hu0 : unesc s = hexItem s 2 := by
    rw [unesc_esc s h0 hs1 (by rw [h1]; rfl), h1]
    rfl
  have hu := hide (hu0.trans (hexItem_short s 2 (by omega)))
  have HS := hide (show Calls Tryf.prog 21 #[.int .u8 88] w fun e w' => e = .returned (.tuple #[.int .i32 0, .bool false]) ∧ w = w' from simpleValue_any 88 w (by decide))
  have g0 : ∀ h : 0 < s.size, ((s[0]'h).toNat : Int) = 92 := fun h => by rw [byteAt_get s 0 h]; omega
  have g1 : ∀ h : 1 < s.size, ((s[1]'h).toNat : Int) = 88 := fun h => by rw [byteAt_get s 1 h]; omega
  have hz : (1 : Int) < (s.size : Int) := by omega
  have hz2 : (s.size : Int) ≤ 3 := by omega
  clear h0 h1 hs1 hu0 h2
  go_enter Tryf.func20, Tryf.ntmps20
  go_wp2_with fail
  refine HS.out.mono ?_
  rintro e w' ⟨rfl, rfl⟩
  go_wp2
  go_ret3
  exact ⟨GramRes.no hu.out, rfl⟩

set_option maxRecDepth 20000 in
set_option maxHeartbeats 1000000 in
theorem gr_88_0 (s : ByteArray) (w : World) (hs : s.size ≤ 1048576) (hs1 : 1 < s.size) (h0 : byteAt s 0 = 92) (h1 : byteAt s 1 = 88) (h2 : 4 ≤ s.size) (d2 : (hexD (byteAt s 2)).isSome = false) :
    Calls Tryf.prog 20 #[.string s] w fun e w' => GramRes s e ∧ w = w' := by
  have hs' : (s.size : Int) ≤ 1048576 := by omega
  have hu0 : unesc s = hexItem s 2 := by
    rw [unesc_esc s h0 hs1 (by rw [h1]; rfl), h1]
    rfl
  have hu := hide (hu0.trans (hexItem_bad s 2 0 (by decide) (by simpa using d2)))
  have HS := hide (show Calls Tryf.prog 21 #[.int .u8 88] w fun e w' => e = .returned (.tuple #[.int .i32 0, .bool false]) ∧ w = w' from simpleValue_any 88 w (by decide))
  have H2 := hide (show Calls Tryf.prog 27 #[.int .u8 (byteAt s 2 : Int)] w fun e w' => e = .returned (.bool false) ∧ w = w' by
    have h := isHex_any (byteAt s 2) w (byteAt_le s 2)
    rw [d2] at h
    exact h)
  have g0 : ∀ h : 0 < s.size, ((s[0]'h).toNat : Int) = 92 := fun h => by rw [byteAt_get s 0 h]; omega
  have g1 : ∀ h : 1 < s.size, ((s[1]'h).toNat : Int) = 88 := fun h => by rw [byteAt_get s 1 h]; omega
  have g2 : ∀ h : 2 < s.size, ((s[2]'h).toNat : Int) = (byteAt s 2 : Int) := fun h => byteAt_get s 2 h
  have g3 : ∀ h : 3 < s.size, ((s[3]'h).toNat : Int) = (byteAt s 3 : Int) := fun h => byteAt_get s 3 h
  have hz : (1 : Int) < (s.size : Int) := by omega
  have hz2 : (4 : Int) ≤ (s.size : Int) := by omega
  clear h0 h1 hs1 hu0 h2 d2
  go_enter Tryf.func20, Tryf.ntmps20
  go_wp2_with fail
  refine HS.out.mono ?_
  rintro e w' ⟨rfl, rfl⟩
  go_wp2_with fail
  refine H2.out.mono ?_
  rintro e w' ⟨rfl, rfl⟩
  go_wp2
  go_ret3
  exact ⟨GramRes.no hu.out, rfl⟩

set_option maxRecDepth 20000 in
set_option maxHeartbeats 1000000 in
theorem gr_88_1 (s : ByteArray) (w : World) (hs : s.size ≤ 1048576) (hs1 : 1 < s.size) (h0 : byteAt s 0 = 92) (h1 : byteAt s 1 = 88) (h2 : 4 ≤ s.size) (d2 : (hexD (byteAt s 2)).isSome = true) (d3 : (hexD (byteAt s 3)).isSome = false) :
    Calls Tryf.prog 20 #[.string s] w fun e w' => GramRes s e ∧ w = w' := by
  have hs' : (s.size : Int) ≤ 1048576 := by omega
  have hu0 : unesc s = hexItem s 2 := by
    rw [unesc_esc s h0 hs1 (by rw [h1]; rfl), h1]
    rfl
  have hu := hide (hu0.trans (hexItem_bad s 2 1 (by decide) (by simpa using d3)))
  have HS := hide (show Calls Tryf.prog 21 #[.int .u8 88] w fun e w' => e = .returned (.tuple #[.int .i32 0, .bool false]) ∧ w = w' from simpleValue_any 88 w (by decide))
  have H2 := hide (show Calls Tryf.prog 27 #[.int .u8 (byteAt s 2 : Int)] w fun e w' => e = .returned (.bool true) ∧ w = w' by
    have h := isHex_any (byteAt s 2) w (byteAt_le s 2)
    rw [d2] at h
    exact h)
  have H3 := hide (show Calls Tryf.prog 27 #[.int .u8 (byteAt s 3 : Int)] w fun e w' => e = .returned (.bool false) ∧ w = w' by
    have h := isHex_any (byteAt s 3) w (byteAt_le s 3)
    rw [d3] at h
    exact h)
  have g0 : ∀ h : 0 < s.size, ((s[0]'h).toNat : Int) = 92 := fun h => by rw [byteAt_get s 0 h]; omega
  have g1 : ∀ h : 1 < s.size, ((s[1]'h).toNat : Int) = 88 := fun h => by rw [byteAt_get s 1 h]; omega
  have g2 : ∀ h : 2 < s.size, ((s[2]'h).toNat : Int) = (byteAt s 2 : Int) := fun h => byteAt_get s 2 h
  have g3 : ∀ h : 3 < s.size, ((s[3]'h).toNat : Int) = (byteAt s 3 : Int) := fun h => byteAt_get s 3 h
  have hz : (1 : Int) < (s.size : Int) := by omega
  have hz2 : (4 : Int) ≤ (s.size : Int) := by omega
  clear h0 h1 hs1 hu0 h2 d2 d3
  go_enter Tryf.func20, Tryf.ntmps20
  go_wp2_with fail
  refine HS.out.mono ?_
  rintro e w' ⟨rfl, rfl⟩
  go_wp2_with fail
  refine H2.out.mono ?_
  rintro e w' ⟨rfl, rfl⟩
  go_wp2_with fail
  refine H3.out.mono ?_
  rintro e w' ⟨rfl, rfl⟩
  go_wp2
  go_ret3
  exact ⟨GramRes.no hu.out, rfl⟩

set_option maxRecDepth 20000 in
set_option maxHeartbeats 1000000 in
theorem gr_88_2 (s : ByteArray) (w : World) (hs : s.size ≤ 1048576) (hs1 : 1 < s.size) (h0 : byteAt s 0 = 92) (h1 : byteAt s 1 = 88) (h2 : 4 ≤ s.size) (d2 : (hexD (byteAt s 2)).isSome = true) (d3 : (hexD (byteAt s 3)).isSome = true) :
    Calls Tryf.prog 20 #[.string s] w fun e w' => GramRes s e ∧ w = w' := by
  have hs' : (s.size : Int) ≤ 1048576 := by omega
  have hu0 : unesc s = hexItem s 2 := by
    rw [unesc_esc s h0 hs1 (by rw [h1]; rfl), h1]
    rfl
  obtain ⟨v, hv⟩ := hexN_run s 2 2 (fun j hj => by
    rcases (show j = 0 ∨ j = 1 by omega) with rfl | rfl
    · exact d2
    · exact d3) 2 (Nat.le_refl _)
  have hu := hide (hu0.trans (hexItem_small s 2 v (by omega) hv (by decide)))
  have HS := hide (show Calls Tryf.prog 21 #[.int .u8 88] w fun e w' => e = .returned (.tuple #[.int .i32 0, .bool false]) ∧ w = w' from simpleValue_any 88 w (by decide))
  have H2 := hide (show Calls Tryf.prog 27 #[.int .u8 (byteAt s 2 : Int)] w fun e w' => e = .returned (.bool true) ∧ w = w' by
    have h := isHex_any (byteAt s 2) w (byteAt_le s 2)
    rw [d2] at h
    exact h)
  have H3 := hide (show Calls Tryf.prog 27 #[.int .u8 (byteAt s 3 : Int)] w fun e w' => e = .returned (.bool true) ∧ w = w' by
    have h := isHex_any (byteAt s 3) w (byteAt_le s 3)
    rw [d3] at h
    exact h)
  have g0 : ∀ h : 0 < s.size, ((s[0]'h).toNat : Int) = 92 := fun h => by rw [byteAt_get s 0 h]; omega
  have g1 : ∀ h : 1 < s.size, ((s[1]'h).toNat : Int) = 88 := fun h => by rw [byteAt_get s 1 h]; omega
  have g2 : ∀ h : 2 < s.size, ((s[2]'h).toNat : Int) = (byteAt s 2 : Int) := fun h => byteAt_get s 2 h
  have g3 : ∀ h : 3 < s.size, ((s[3]'h).toNat : Int) = (byteAt s 3 : Int) := fun h => byteAt_get s 3 h
  have hz : (1 : Int) < (s.size : Int) := by omega
  have hz2 : (4 : Int) ≤ (s.size : Int) := by omega
  clear h0 h1 hs1 hu0 h2 d2 d3 hv
  go_enter Tryf.func20, Tryf.ntmps20
  go_wp2_with fail
  refine HS.out.mono ?_
  rintro e w' ⟨rfl, rfl⟩
  go_wp2_with fail
  refine H2.out.mono ?_
  rintro e w' ⟨rfl, rfl⟩
  go_wp2_with fail
  refine H3.out.mono ?_
  rintro e w' ⟨rfl, rfl⟩
  go_wp2
  go_ret3
  exact ⟨GramRes.yes hu.out rfl (by simp), rfl⟩

set_option maxRecDepth 20000 in
set_option maxHeartbeats 1000000 in
theorem gr_117_shorta (s : ByteArray) (w : World) (hs : s.size ≤ 1048576) (hs1 : 1 < s.size) (h0 : byteAt s 0 = 92) (h1 : byteAt s 1 = 117) (hb : ¬ (2 < s.size ∧ byteAt s 2 = 123)) (h2 : s.size ≤ 2) :
    Calls Tryf.prog 20 #[.string s] w fun e w' => GramRes s e ∧ w = w' := by
  have hs' : (s.size : Int) ≤ 1048576 := by omega
  have hu0 : unesc s = hexItem s 4 := by
    rw [unesc_esc s h0 hs1 (by rw [h1]; rfl), h1]
    rw [if_neg (by decide), if_pos rfl, if_neg hb]
  have hu := hide (hu0.trans (hexItem_short s 4 (by omega)))
  have HS := hide (show Calls Tryf.prog 21 #[.int .u8 117] w fun e w' => e = .returned (.tuple #[.int .i32 0, .bool false]) ∧ w = w' from simpleValue_any 117 w (by decide))
  have g0 : ∀ h : 0 < s.size, ((s[0]'h).toNat : Int) = 92 := fun h => by rw [byteAt_get s 0 h]; omega
  have g1 : ∀ h : 1 < s.size, ((s[1]'h).toNat : Int) = 117 := fun h => by rw [byteAt_get s 1 h]; omega
  have hz : (1 : Int) < (s.size : Int) := by omega
  have hz2 : (s.size : Int) ≤ 2 := by omega
  clear h0 h1 hs1 hu0 hb h2
  go_enter Tryf.func20, Tryf.ntmps20
  go_wp2_with fail
  refine HS.out.mono ?_
  rintro e w' ⟨rfl, rfl⟩
  go_wp2
  go_ret3
  exact ⟨GramRes.no hu.out, rfl⟩

set_option maxRecDepth 20000 in
set_option maxHeartbeats 1000000 in
theorem gr_117_shortb (s : ByteArray) (w : World) (hs : s.size ≤ 1048576) (hs1 : 1 < s.size) (h0 : byteAt s 0 = 92) (h1 : byteAt s 1 = 117) (hb : ¬ (2 < s.size ∧ byteAt s 2 = 123)) (h2 : 2 < s.size) (h3 : s.size < 6) :
    Calls Tryf.prog 20 #[.string s] w fun e w' => GramRes s e ∧ w = w' := by
  have hs' : (s.size : Int) ≤ 1048576 := by omega
  have hu0 : unesc s = hexItem s 4 := by
    rw [unesc_esc s h0 hs1 (by rw [h1]; rfl), h1]
    rw [if_neg (by decide), if_pos rfl, if_neg hb]
  have hu := hide (hu0.trans (hexItem_short s 4 (by omega)))
  have HS := hide (show Calls Tryf.prog 21 #[.int .u8 117] w fun e w' => e = .returned (.tuple #[.int .i32 0, .bool false]) ∧ w = w' from simpleValue_any 117 w (by decide))
  have g0 : ∀ h : 0 < s.size, ((s[0]'h).toNat : Int) = 92 := fun h => by rw [byteAt_get s 0 h]; omega
  have g1 : ∀ h : 1 < s.size, ((s[1]'h).toNat : Int) = 117 := fun h => by rw [byteAt_get s 1 h]; omega
  have g2 : ∀ h : 2 < s.size, ((s[2]'h).toNat : Int) = (byteAt s 2 : Int) := fun h => byteAt_get s 2 h
  have hz : (1 : Int) < (s.size : Int) := by omega
  have hz2 : (2 : Int) < (s.size : Int) := by omega
  have hz3 : (s.size : Int) ≤ 5 := by omega
  have hb2 : ((byteAt s 2 : Int) == 123) = false := by simp only [beq_eq_false_iff_ne]; omega
  clear h0 h1 hs1 hu0 hb h2 h3
  go_enter Tryf.func20, Tryf.ntmps20
  go_wp2_with fail
  refine HS.out.mono ?_
  rintro e w' ⟨rfl, rfl⟩
  go_wp2
  go_ret3
  exact ⟨GramRes.no hu.out, rfl⟩

set_option maxRecDepth 20000 in
set_option maxHeartbeats 1000000 in
theorem gr_117_0 (s : ByteArray) (w : World) (hs : s.size ≤ 1048576) (hs1 : 1 < s.size) (h0 : byteAt s 0 = 92) (h1 : byteAt s 1 = 117) (hb : ¬ (2 < s.size ∧ byteAt s 2 = 123)) (h2 : 6 ≤ s.size) (d2 : (hexD (byteAt s 2)).isSome = false) :
    Calls Tryf.prog 20 #[.string s] w fun e w' => GramRes s e ∧ w = w' := by
  have hs' : (s.size : Int) ≤ 1048576 := by omega
  have hu0 : unesc s = hexItem s 4 := by
    rw [unesc_esc s h0 hs1 (by rw [h1]; rfl), h1]
    rw [if_neg (by decide), if_pos rfl, if_neg hb]
  have hu := hide (hu0.trans (hexItem_bad s 4 0 (by decide) (by simpa using d2)))
  have HS := hide (show Calls Tryf.prog 21 #[.int .u8 117] w fun e w' => e = .returned (.tuple #[.int .i32 0, .bool false]) ∧ w = w' from simpleValue_any 117 w (by decide))
  have H2 := hide (show Calls Tryf.prog 27 #[.int .u8 (byteAt s 2 : Int)] w fun e w' => e = .returned (.bool false) ∧ w = w' by
    have h := isHex_any (byteAt s 2) w (byteAt_le s 2)
    rw [d2] at h
    exact h)
  have g0 : ∀ h : 0 < s.size, ((s[0]'h).toNat : Int) = 92 := fun h => by rw [byteAt_get s 0 h]; omega
  have g1 : ∀ h : 1 < s.size, ((s[1]'h).toNat : Int) = 117 := fun h => by rw [byteAt_get s 1 h]; omega
  have g2 : ∀ h : 2 < s.size, ((s[2]'h).toNat : Int) = (byteAt s 2 : Int) := fun h => byteAt_get s 2 h
  have g3 : ∀ h : 3 < s.size, ((s[3]'h).toNat : Int) = (byteAt s 3 : Int) := fun h => byteAt_get s 3 h
  have g4 : ∀ h : 4 < s.size, ((s[4]'h).toNat : Int) = (byteAt s 4 : Int) := fun h => byteAt_get s 4 h
  have g5 : ∀ h : 5 < s.size, ((s[5]'h).toNat : Int) = (byteAt s 5 : Int) := fun h => byteAt_get s 5 h
  have hb2 : ((byteAt s 2 : Int) == 123) = false := by simp only [beq_eq_false_iff_ne]; omega
  have hz : (1 : Int) < (s.size : Int) := by omega
  have hz2 : (6 : Int) ≤ (s.size : Int) := by omega
  clear h0 h1 hs1 hu0 h2 hb d2
  go_enter Tryf.func20, Tryf.ntmps20
  go_wp2_with fail
  refine HS.out.mono ?_
  rintro e w' ⟨rfl, rfl⟩
  go_wp2_with fail
  refine H2.out.mono ?_
  rintro e w' ⟨rfl, rfl⟩
  go_wp2
  go_ret3
  exact ⟨GramRes.no hu.out, rfl⟩

set_option maxRecDepth 20000 in
set_option maxHeartbeats 1000000 in
theorem gr_117_1 (s : ByteArray) (w : World) (hs : s.size ≤ 1048576) (hs1 : 1 < s.size) (h0 : byteAt s 0 = 92) (h1 : byteAt s 1 = 117) (hb : ¬ (2 < s.size ∧ byteAt s 2 = 123)) (h2 : 6 ≤ s.size) (d2 : (hexD (byteAt s 2)).isSome = true) (d3 : (hexD (byteAt s 3)).isSome = false) :
    Calls Tryf.prog 20 #[.string s] w fun e w' => GramRes s e ∧ w = w' := by
  have hs' : (s.size : Int) ≤ 1048576 := by omega
  have hu0 : unesc s = hexItem s 4 := by
    rw [unesc_esc s h0 hs1 (by rw [h1]; rfl), h1]
    rw [if_neg (by decide), if_pos rfl, if_neg hb]
  have hu := hide (hu0.trans (hexItem_bad s 4 1 (by decide) (by simpa using d3)))
  have HS := hide (show Calls Tryf.prog 21 #[.int .u8 117] w fun e w' => e = .returned (.tuple #[.int .i32 0, .bool false]) ∧ w = w' from simpleValue_any 117 w (by decide))
  have H2 := hide (show Calls Tryf.prog 27 #[.int .u8 (byteAt s 2 : Int)] w fun e w' => e = .returned (.bool true) ∧ w = w' by
    have h := isHex_any (byteAt s 2) w (byteAt_le s 2)
    rw [d2] at h
    exact h)
  have H3 := hide (show Calls Tryf.prog 27 #[.int .u8 (byteAt s 3 : Int)] w fun e w' => e = .returned (.bool false) ∧ w = w' by
    have h := isHex_any (byteAt s 3) w (byteAt_le s 3)
    rw [d3] at h
    exact h)
  have g0 : ∀ h : 0 < s.size, ((s[0]'h).toNat : Int) = 92 := fun h => by rw [byteAt_get s 0 h]; omega
  have g1 : ∀ h : 1 < s.size, ((s[1]'h).toNat : Int) = 117 := fun h => by rw [byteAt_get s 1 h]; omega
  have g2 : ∀ h : 2 < s.size, ((s[2]'h).toNat : Int) = (byteAt s 2 : Int) := fun h => byteAt_get s 2 h
  have g3 : ∀ h : 3 < s.size, ((s[3]'h).toNat : Int) = (byteAt s 3 : Int) := fun h => byteAt_get s 3 h
  have g4 : ∀ h : 4 < s.size, ((s[4]'h).toNat : Int) = (byteAt s 4 : Int) := fun h => byteAt_get s 4 h
  have g5 : ∀ h : 5 < s.size, ((s[5]'h).toNat : Int) = (byteAt s 5 : Int) := fun h => byteAt_get s 5 h
  have hb2 : ((byteAt s 2 : Int) == 123) = false := by simp only [beq_eq_false_iff_ne]; omega
  have hz : (1 : Int) < (s.size : Int) := by omega
  have hz2 : (6 : Int) ≤ (s.size : Int) := by omega
  clear h0 h1 hs1 hu0 h2 hb d2 d3
  go_enter Tryf.func20, Tryf.ntmps20
  go_wp2_with fail
  refine HS.out.mono ?_
  rintro e w' ⟨rfl, rfl⟩
  go_wp2_with fail
  refine H2.out.mono ?_
  rintro e w' ⟨rfl, rfl⟩
  go_wp2_with fail
  refine H3.out.mono ?_
  rintro e w' ⟨rfl, rfl⟩
  go_wp2
  go_ret3
  exact ⟨GramRes.no hu.out, rfl⟩

set_option maxRecDepth 20000 in
set_option maxHeartbeats 1000000 in
theorem gr_117_2 (s : ByteArray) (w : World) (hs : s.size ≤ 1048576) (hs1 : 1 < s.size) (h0 : byteAt s 0 = 92) (h1 : byteAt s 1 = 117) (hb : ¬ (2 < s.size ∧ byteAt s 2 = 123)) (h2 : 6 ≤ s.size) (d2 : (hexD (byteAt s 2)).isSome = true) (d3 : (hexD (byteAt s 3)).isSome = true) (d4 : (hexD (byteAt s 4)).isSome = false) :
    Calls Tryf.prog 20 #[.string s] w fun e w' => GramRes s e ∧ w = w' := by
  have hs' : (s.size : Int) ≤ 1048576 := by omega
  have hu0 : unesc s = hexItem s 4 := by
    rw [unesc_esc s h0 hs1 (by rw [h1]; rfl), h1]
    rw [if_neg (by decide), if_pos rfl, if_neg hb]
  have hu := hide (hu0.trans (hexItem_bad s 4 2 (by decide) (by simpa using d4)))
  have HS := hide (show Calls Tryf.prog 21 #[.int .u8 117] w fun e w' => e = .returned (.tuple #[.int .i32 0, .bool false]) ∧ w = w' from simpleValue_any 117 w (by decide))
  have H2 := hide (show Calls Tryf.prog 27 #[.int .u8 (byteAt s 2 : Int)] w fun e w' => e = .returned (.bool true) ∧ w = w' by
    have h := isHex_any (byteAt s 2) w (byteAt_le s 2)
    rw [d2] at h
    exact h)
  have H3 := hide (show Calls Tryf.prog 27 #[.int .u8 (byteAt s 3 : Int)] w fun e w' => e = .returned (.bool true) ∧ w = w' by
    have h := isHex_any (byteAt s 3) w (byteAt_le s 3)
    rw [d3] at h
    exact h)
  have H4 := hide (show Calls Tryf.prog 27 #[.int .u8 (byteAt s 4 : Int)] w fun e w' => e = .returned (.bool false) ∧ w = w' by
    have h := isHex_any (byteAt s 4) w (byteAt_le s 4)
    rw [d4] at h
    exact h)
  have g0 : ∀ h : 0 < s.size, ((s[0]'h).toNat : Int) = 92 := fun h => by rw [byteAt_get s 0 h]; omega
  have g1 : ∀ h : 1 < s.size, ((s[1]'h).toNat : Int) = 117 := fun h => by rw [byteAt_get s 1 h]; omega
  have g2 : ∀ h : 2 < s.size, ((s[2]'h).toNat : Int) = (byteAt s 2 : Int) := fun h => byteAt_get s 2 h
  have g3 : ∀ h : 3 < s.size, ((s[3]'h).toNat : Int) = (byteAt s 3 : Int) := fun h => byteAt_get s 3 h
  have g4 : ∀ h : 4 < s.size, ((s[4]'h).toNat : Int) = (byteAt s 4 : Int) := fun h => byteAt_get s 4 h
  have g5 : ∀ h : 5 < s.size, ((s[5]'h).toNat : Int) = (byteAt s 5 : Int) := fun h => byteAt_get s 5 h
  have hb2 : ((byteAt s 2 : Int) == 123) = false := by simp only [beq_eq_false_iff_ne]; omega
  have hz : (1 : Int) < (s.size : Int) := by omega
  have hz2 : (6 : Int) ≤ (s.size : Int) := by omega
  clear h0 h1 hs1 hu0 h2 hb d2 d3 d4
  go_enter Tryf.func20, Tryf.ntmps20
  go_wp2_with fail
  refine HS.out.mono ?_
  rintro e w' ⟨rfl, rfl⟩
  go_wp2_with fail
  refine H2.out.mono ?_
  rintro e w' ⟨rfl, rfl⟩
  go_wp2_with fail
  refine H3.out.mono ?_
  rintro e w' ⟨rfl, rfl⟩
  go_wp2_with fail
  refine H4.out.mono ?_
  rintro e w' ⟨rfl, rfl⟩
  go_wp2
  go_ret3
  exact ⟨GramRes.no hu.out, rfl⟩

set_option maxRecDepth 20000 in
set_option maxHeartbeats 1000000 in
theorem gr_117_3 (s : ByteArray) (w : World) (hs : s.size ≤ 1048576) (hs1 : 1 < s.size) (h0 : byteAt s 0 = 92) (h1 : byteAt s 1 = 117) (hb : ¬ (2 < s.size ∧ byteAt s 2 = 123)) (h2 : 6 ≤ s.size) (d2 : (hexD (byteAt s 2)).isSome = true) (d3 : (hexD (byteAt s 3)).isSome = true) (d4 : (hexD (byteAt s 4)).isSome = true) (d5 : (hexD (byteAt s 5)).isSome = false) :
    Calls Tryf.prog 20 #[.string s] w fun e w' => GramRes s e ∧ w = w' := by
  have hs' : (s.size : Int) ≤ 1048576 := by omega
  have hu0 : unesc s = hexItem s 4 := by
    rw [unesc_esc s h0 hs1 (by rw [h1]; rfl), h1]
    rw [if_neg (by decide), if_pos rfl, if_neg hb]
  have hu := hide (hu0.trans (hexItem_bad s 4 3 (by decide) (by simpa using d5)))
  have HS := hide (show Calls Tryf.prog 21 #[.int .u8 117] w fun e w' => e = .returned (.tuple #[.int .i32 0, .bool false]) ∧ w = w' from simpleValue_any 117 w (by decide))
  have H2 := hide (show Calls Tryf.prog 27 #[.int .u8 (byteAt s 2 : Int)] w fun e w' => e = .returned (.bool true) ∧ w = w' by
    have h := isHex_any (byteAt s 2) w (byteAt_le s 2)
    rw [d2] at h
    exact h)
  have H3 := hide (show Calls Tryf.prog 27 #[.int .u8 (byteAt s 3 : Int)] w fun e w' => e = .returned (.bool true) ∧ w = w' by
    have h := isHex_any (byteAt s 3) w (byteAt_le s 3)
    rw [d3] at h
    exact h)
  have H4 := hide (show Calls Tryf.prog 27 #[.int .u8 (byteAt s 4 : Int)] w fun e w' => e = .returned (.bool true) ∧ w = w' by
    have h := isHex_any (byteAt s 4) w (byteAt_le s 4)
    rw [d4] at h
    exact h)
  have H5 := hide (show Calls Tryf.prog 27 #[.int .u8 (byteAt s 5 : Int)] w fun e w' => e = .returned (.bool false) ∧ w = w' by
    have h := isHex_any (byteAt s 5) w (byteAt_le s 5)
    rw [d5] at h
    exact h)
  have g0 : ∀ h : 0 < s.size, ((s[0]'h).toNat : Int) = 92 := fun h => by rw [byteAt_get s 0 h]; omega
  have g1 : ∀ h : 1 < s.size, ((s[1]'h).toNat : Int) = 117 := fun h => by rw [byteAt_get s 1 h]; omega
  have g2 : ∀ h : 2 < s.size, ((s[2]'h).toNat : Int) = (byteAt s 2 : Int) := fun h => byteAt_get s 2 h
  have g3 : ∀ h : 3 < s.size, ((s[3]'h).toNat : Int) = (byteAt s 3 : Int) := fun h => byteAt_get s 3 h
  have g4 : ∀ h : 4 < s.size, ((s[4]'h).toNat : Int) = (byteAt s 4 : Int) := fun h => byteAt_get s 4 h
  have g5 : ∀ h : 5 < s.size, ((s[5]'h).toNat : Int) = (byteAt s 5 : Int) := fun h => byteAt_get s 5 h
  have hb2 : ((byteAt s 2 : Int) == 123) = false := by simp only [beq_eq_false_iff_ne]; omega
  have hz : (1 : Int) < (s.size : Int) := by omega
  have hz2 : (6 : Int) ≤ (s.size : Int) := by omega
  clear h0 h1 hs1 hu0 h2 hb d2 d3 d4 d5
  go_enter Tryf.func20, Tryf.ntmps20
  go_wp2_with fail
  refine HS.out.mono ?_
  rintro e w' ⟨rfl, rfl⟩
  go_wp2_with fail
  refine H2.out.mono ?_
  rintro e w' ⟨rfl, rfl⟩
  go_wp2_with fail
  refine H3.out.mono ?_
  rintro e w' ⟨rfl, rfl⟩
  go_wp2_with fail
  refine H4.out.mono ?_
  rintro e w' ⟨rfl, rfl⟩
  go_wp2_with fail
  refine H5.out.mono ?_
  rintro e w' ⟨rfl, rfl⟩
  go_wp2
  go_ret3
  exact ⟨GramRes.no hu.out, rfl⟩

set_option maxRecDepth 20000 in
set_option maxHeartbeats 1000000 in
theorem gr_117_4 (s : ByteArray) (w : World) (hs : s.size ≤ 1048576) (hs1 : 1 < s.size) (h0 : byteAt s 0 = 92) (h1 : byteAt s 1 = 117) (hb : ¬ (2 < s.size ∧ byteAt s 2 = 123)) (h2 : 6 ≤ s.size) (d2 : (hexD (byteAt s 2)).isSome = true) (d3 : (hexD (byteAt s 3)).isSome = true) (d4 : (hexD (byteAt s 4)).isSome = true) (d5 : (hexD (byteAt s 5)).isSome = true) :
    Calls Tryf.prog 20 #[.string s] w fun e w' => GramRes s e ∧ w = w' := by
  have hs' : (s.size : Int) ≤ 1048576 := by omega
  have hu0 : unesc s = hexItem s 4 := by
    rw [unesc_esc s h0 hs1 (by rw [h1]; rfl), h1]
    rw [if_neg (by decide), if_pos rfl, if_neg hb]
  obtain ⟨v, hv⟩ := hexN_run s 2 4 (fun j hj => by
    rcases (show j = 0 ∨ j = 1 ∨ j = 2 ∨ j = 3 by omega) with rfl | rfl | rfl | rfl
    · exact d2
    · exact d3
    · exact d4
    · exact d5) 4 (Nat.le_refl _)
  have hu := hide (hu0.trans (hexItem_small s 4 v (by omega) hv (by decide)))
  have HS := hide (show Calls Tryf.prog 21 #[.int .u8 117] w fun e w' => e = .returned (.tuple #[.int .i32 0, .bool false]) ∧ w = w' from simpleValue_any 117 w (by decide))
  have H2 := hide (show Calls Tryf.prog 27 #[.int .u8 (byteAt s 2 : Int)] w fun e w' => e = .returned (.bool true) ∧ w = w' by
    have h := isHex_any (byteAt s 2) w (byteAt_le s 2)
    rw [d2] at h
    exact h)
  have H3 := hide (show Calls Tryf.prog 27 #[.int .u8 (byteAt s 3 : Int)] w fun e w' => e = .returned (.bool true) ∧ w = w' by
    have h := isHex_any (byteAt s 3) w (byteAt_le s 3)
    rw [d3] at h
    exact h)
  have H4 := hide (show Calls Tryf.prog 27 #[.int .u8 (byteAt s 4 : Int)] w fun e w' => e = .returned (.bool true) ∧ w = w' by
    have h := isHex_any (byteAt s 4) w (byteAt_le s 4)
    rw [d4] at h
    exact h)
  have H5 := hide (show Calls Tryf.prog 27 #[.int .u8 (byteAt s 5 : Int)] w fun e w' => e = .returned (.bool true) ∧ w = w' by
    have h := isHex_any (byteAt s 5) w (byteAt_le s 5)
    rw [d5] at h
    exact h)
  have g0 : ∀ h : 0 < s.size, ((s[0]'h).toNat : Int) = 92 := fun h => by rw [byteAt_get s 0 h]; omega
  have g1 : ∀ h : 1 < s.size, ((s[1]'h).toNat : Int) = 117 := fun h => by rw [byteAt_get s 1 h]; omega
  have g2 : ∀ h : 2 < s.size, ((s[2]'h).toNat : Int) = (byteAt s 2 : Int) := fun h => byteAt_get s 2 h
  have g3 : ∀ h : 3 < s.size, ((s[3]'h).toNat : Int) = (byteAt s 3 : Int) := fun h => byteAt_get s 3 h
  have g4 : ∀ h : 4 < s.size, ((s[4]'h).toNat : Int) = (byteAt s 4 : Int) := fun h => byteAt_get s 4 h
  have g5 : ∀ h : 5 < s.size, ((s[5]'h).toNat : Int) = (byteAt s 5 : Int) := fun h => byteAt_get s 5 h
  have hb2 : ((byteAt s 2 : Int) == 123) = false := by simp only [beq_eq_false_iff_ne]; omega
  have hz : (1 : Int) < (s.size : Int) := by omega
  have hz2 : (6 : Int) ≤ (s.size : Int) := by omega
  clear h0 h1 hs1 hu0 h2 hb d2 d3 d4 d5 hv
  go_enter Tryf.func20, Tryf.ntmps20
  go_wp2_with fail
  refine HS.out.mono ?_
  rintro e w' ⟨rfl, rfl⟩
  go_wp2_with fail
  refine H2.out.mono ?_
  rintro e w' ⟨rfl, rfl⟩
  go_wp2_with fail
  refine H3.out.mono ?_
  rintro e w' ⟨rfl, rfl⟩
  go_wp2_with fail
  refine H4.out.mono ?_
  rintro e w' ⟨rfl, rfl⟩
  go_wp2_with fail
  refine H5.out.mono ?_
  rintro e w' ⟨rfl, rfl⟩
  go_wp2
  go_ret3
  exact ⟨GramRes.yes hu.out rfl (by simp), rfl⟩

end Go.Proofs.YthpchfbjnhdcdaaFmt
