/-
  The walk of the statement that unescapeChar accepts exactly its grammar. Condition: utf8's two tables hold what their initialisers lay.
-/
import Derived.Test.YthpchfbjnhdcdaaFmtGramE
import Derived.Test.YthpchfbjnhdcdaaFmtEncE
import Derived.RegionTactic
import Derived.Deep.RegionWith
namespace Go.Proofs.YthpchfbjnhdcdaaFmt
open Go.RowKit Go.Lib Go.Shelf Go.Proofs
set_option linter.unusedVariables false
set_option linter.unusedSimpArgs false

theorem zz19 (a : ByteArray) (W : World) (h : a.size ≤ 1048576) : Calls Tryf.prog 19 #[.string a] W fun e w' => e = .returned (.bool true) ∧ W = w' := by
  have h' : (a.size : Int) ≤ 1048576 := by omega
  go_enter Tryf.func19, Tryf.ntmps19
  go_wp2
  go_ret
  exact ⟨rfl, rfl⟩
theorem zz19b (a : ByteArray) (W : World) (h : 1048576 < a.size) : Calls Tryf.prog 19 #[.string a] W fun e w' => e = .returned (.bool false) ∧ W = w' := by
  have h' : (1048576 : Int) < (a.size : Int) := by omega
  go_enter Tryf.func19, Tryf.ntmps19
  go_wp2
  go_ret
  exact ⟨rfl, rfl⟩
theorem big7 (s : ByteArray) (w : World) (hs : 1048576 < s.size) :
    Calls Tryf.prog 7 #[.string s] w fun e w' => e = .returned (.bool true) ∧ Below w.heap.size w w' := by
  have Z := hide (zz19b s w hs)
  go_enter Tryf.func7, Tryf.ntmps7
  go_wp2_with fail
  refine Z.out.mono ?_
  rintro e w' ⟨rfl, rfl⟩
  go_wp2
  go_ret
  exact ⟨rfl, Below.refl _ _⟩
theorem nil7 (s : ByteArray) (w : World) (hs : s.size = 0) :
    Calls Tryf.prog 7 #[.string s] w fun e w' => e = .returned (.bool true) ∧ Below w.heap.size w w' := by
  have Z := hide (zz19 s w (by omega))
  have hs' : (s.size : Int) = 0 := by omega
  go_enter Tryf.func7, Tryf.ntmps7
  go_wp2_with fail
  refine Z.out.mono ?_
  rintro e w' ⟨rfl, rfl⟩
  go_wp2
  go_ret
  exact ⟨rfl, Below.refl _ _⟩
theorem gram_some {s : ByteArray} {v : Int} {mb : Bool} {n : Nat} {b : Bool} (w : World) (hs0 : 0 < s.size) (hs : s.size ≤ 1048576) (hu : unesc s = some (v, mb, n)) (hb : decide (v < 0) = b) :
    Calls Tryf.prog 20 #[.string s] w fun e w' => e = .returned (.tuple #[.int .i64 (n : Int), .bool true, .bool b]) ∧ w = w' := by
  refine (gram_any s w hs0 hs).mono ?_
  rintro e w' ⟨he, hw⟩
  unfold GramRes at he
  rw [hu] at he
  simp only [hb] at he
  exact ⟨he, hw⟩
theorem gram_none {s : ByteArray} (w : World) (hs0 : 0 < s.size) (hs : s.size ≤ 1048576) (hu : unesc s = none) :
    Calls Tryf.prog 20 #[.string s] w fun e w' => e = .returned (.tuple #[.int .i64 0, .bool false, .bool false]) ∧ w = w' := by
  refine (gram_any s w hs0 hs).mono ?_
  rintro e w' ⟨he, hw⟩
  unfold GramRes at he
  rw [hu] at he
  exact ⟨he, hw⟩
theorem read_some {s : ByteArray} {v : Int} {mb : Bool} {n : Nat} (w : World) (hs0 : 0 < s.size) (hs : s.size ≤ 1048576) (hT : TU w) (hu : unesc s = some (v, mb, n)) :
    Calls Tryf.prog 10 #[.string s] w fun e w' => e = .returned (.tuple #[.int .i32 v, .bool mb, .string (s.extract n s.size), .nilIface]) ∧ Below w.heap.size w w' := by
  refine (zz10 s w hs0 (by omega) hT).mono ?_
  rintro e w' ⟨he, hw⟩
  rw [hu] at he
  exact ⟨he, hw⟩
theorem read_none {s : ByteArray} (w : World) (hs0 : 0 < s.size) (hs : s.size ≤ 1048576) (hT : TU w) (hu : unesc s = none) :
    Calls Tryf.prog 10 #[.string s] w fun e w' => (∃ v mb t a, e = .returned (.tuple #[.int .i32 v, .bool mb, .string t, .iface 61 (.pointer (some a))])) ∧ Below w.heap.size w w' := by
  refine (zz10 s w hs0 (by omega) hT).mono ?_
  rintro e w' ⟨he, hw⟩
  rw [hu] at he
  exact ⟨he, hw⟩
theorem dec_one (s : ByteArray) (h : 128 ≤ byteAt s 0) (h1 : (Utf8.decode s 0).2 = 1) : (Utf8.decode s 0).1 = 65533 := by
  have h2 := decode_bytes s 0
  obtain ⟨r, k, e⟩ : ∃ r k, Utf8.decode s 0 = (r, k) := ⟨_, _, rfl⟩
  rw [e] at h1 h2 ⊢
  simp only at h1 ⊢
  subst h1
  unfold decodeN at h2
  repeat' split at h2
  all_goals (simp only [Prod.mk.injEq] at h2; omega)
theorem dec_scalar (s : ByteArray) : (Utf8.decode s 0).1 ≤ 1114111 ∧ ¬ (55296 ≤ (Utf8.decode s 0).1 ∧ (Utf8.decode s 0).1 ≤ 57343) := by
  rw [decode_bytes]
  have l0 := byteAt_le s 0
  unfold decodeN
  repeat' split
  all_goals (simp only []; omega)
theorem enc_back (s : ByteArray) (hs0 : 0 < s.size) (h1 : (Utf8.decode s 0).2 ≠ 1) : (⟨(encodeRune ((Utf8.decode s 0).1 : Int)).toArray⟩ : ByteArray) = s.extract 0 (Utf8.decode s 0).2 := by
  have hd : Utf8.decode s 0 = decodeL s.data.toList := by
    rw [← decodeL_drop]
    rfl
  have hne : s.data.toList ≠ [] := by
    intro e
    have h3 : s.data.toList.length = 0 := by rw [e]; rfl
    rw [← Lib.size_eq] at h3
    omega
  rw [hd] at h1 ⊢
  rw [encode_decode _ hne (by intro e; exact h1 e.2)]
  apply ba_ext
  simp only [ByteArray.data_extract, Array.toList_extract, List.extract_eq_take_drop, List.drop_zero, Nat.sub_zero]
set_option maxRecDepth 20000 in
set_option maxHeartbeats 2000000 in
theorem w7_none (s : ByteArray) (w : World) (hs0 : 0 < s.size) (hs : s.size ≤ 1048576) (hT : TU w) (hu : unesc s = none) :
    Calls Tryf.prog 7 #[.string s] w fun e w' => e = .returned (.bool true) ∧ Below w.heap.size w w' := by
  have Z := hide (zz19 s w hs)
  have hs0' : (0 : Int) < (s.size : Int) := by omega
  have hs' : (s.size : Int) ≤ 1048576 := by omega
  have HG := hide (gram_none w hs0 hs hu)
  have HC := hide (read_none w hs0 hs hT hu)
  clear hu hT hs0 hs
  go_enter Tryf.func7, Tryf.ntmps7
  go_wp2_with fail
  refine Z.out.mono ?_
  rintro e w' ⟨rfl, rfl⟩
  go_wp2_with fail
  refine HG.out.mono ?_
  rintro e w' ⟨rfl, rfl⟩
  go_wp2_with fail
  refine HC.out.mono ?_
  rintro e w1 ⟨⟨v, mb, t, a, rfl⟩, hb1⟩
  go_wp2
  go_ret
  exact ⟨by simp, hb1⟩

set_option maxRecDepth 20000 in
set_option maxHeartbeats 2000000 in
theorem w7_plain (s : ByteArray) (w : World) (hs0 : 0 < s.size) (hs : s.size ≤ 1048576) (hT : TU w) (h0 : byteAt s 0 < 128) (h1 : byteAt s 0 ≠ 92) (hu : unesc s = some ((byteAt s 0 : Int), false, 1)) :
    Calls Tryf.prog 7 #[.string s] w fun e w' => e = .returned (.bool true) ∧ Below w.heap.size w w' := by
  have Z := hide (zz19 s w hs)
  have hs0' : (0 : Int) < (s.size : Int) := by omega
  have hs' : (s.size : Int) ≤ 1048576 := by omega
  have HG := hide (gram_some (b := false) w hs0 hs hu (by simp))
  have HC := hide (read_some w hs0 hs hT hu)
  have g0 : ∀ h : 0 < s.size, ((s[0]'h).toNat : Int) = (byteAt s 0 : Int) := fun h => byteAt_get s 0 h
  have h0' : (byteAt s 0 : Int) < 128 := by omega
  have h1' : ((byteAt s 0 : Int) != 92) = true := by simp; omega
  have h1s : (1 : Int) ≤ (s.size : Int) := by omega
  clear hu hT hs0 hs h0 h1
  go_enter Tryf.func7, Tryf.ntmps7
  go_wp2_with fail
  refine Z.out.mono ?_
  rintro e w' ⟨rfl, rfl⟩
  go_wp2_with fail
  refine HG.out.mono ?_
  rintro e w' ⟨rfl, rfl⟩
  go_wp2_with fail
  refine HC.out.mono ?_
  rintro e w1 ⟨rfl, hb1⟩
  go_wp2
  go_ret
  exact ⟨by simp, hb1⟩

set_option maxRecDepth 20000 in
set_option maxHeartbeats 2000000 in
theorem w7_bad (s : ByteArray) (w : World) (hs0 : 0 < s.size) (hs : s.size ≤ 1048576) (hT : TU w) (h0 : 128 ≤ byteAt s 0) (hu : unesc s = some (65533, true, 1)) :
    Calls Tryf.prog 7 #[.string s] w fun e w' => e = .returned (.bool true) ∧ Below w.heap.size w w' := by
  have Z := hide (zz19 s w hs)
  have hs0' : (0 : Int) < (s.size : Int) := by omega
  have hs' : (s.size : Int) ≤ 1048576 := by omega
  have HG := hide (gram_some (b := false) w hs0 hs hu (by simp))
  have HC := hide (read_some w hs0 hs hT hu)
  have g0 : ∀ h : 0 < s.size, ((s[0]'h).toNat : Int) = (byteAt s 0 : Int) := fun h => byteAt_get s 0 h
  have h0' : (128 : Int) ≤ (byteAt s 0 : Int) := by omega
  have h1' : ((byteAt s 0 : Int) != 92) = true := by simp; omega
  have h1s : (1 : Int) ≤ (s.size : Int) := by omega
  clear hu hT hs0 hs h0
  go_enter Tryf.func7, Tryf.ntmps7
  go_wp2_with fail
  refine Z.out.mono ?_
  rintro e w' ⟨rfl, rfl⟩
  go_wp2_with fail
  refine HG.out.mono ?_
  rintro e w' ⟨rfl, rfl⟩
  go_wp2_with fail
  refine HC.out.mono ?_
  rintro e w1 ⟨rfl, hb1⟩
  go_wp2
  go_ret
  exact ⟨by simp, hb1⟩

set_option maxRecDepth 20000 in
set_option maxHeartbeats 2000000 in
theorem w7_high (s : ByteArray) (w : World) (hs0 : 0 < s.size) (hs : s.size ≤ 1048576) (hT : TU w) (h0 : 128 ≤ byteAt s 0) (R n : Nat) (hn : n ≤ s.size) (hn1 : n ≠ 1) (hn10 : n ≤ 10) (hR : R ≤ 1114111) (hR2 : ¬ (55296 ≤ R ∧ R ≤ 57343)) (hE : (⟨(encodeRune (R : Int)).toArray⟩ : ByteArray) = s.extract 0 n) (hu : unesc s = some ((R : Int), true, n)) :
    Calls Tryf.prog 7 #[.string s] w fun e w' => e = .returned (.bool true) ∧ Below w.heap.size w w' := by
  have Z := hide (zz19 s w hs)
  have hs0' : (0 : Int) < (s.size : Int) := by omega
  have hs' : (s.size : Int) ≤ 1048576 := by omega
  have HG := hide (gram_some (b := false) w hs0 hs hu (by simp))
  have HC := hide (read_some w hs0 hs hT hu)
  have HE := fun w => hide (show Calls Tryf.prog 12 #[.int .i32 (R : Int)] w fun e w' => e = .returned (.string (s.extract 0 n)) ∧ Below w.heap.size w w' by
    have h := enc_any R w hR hR2
    rw [hE] at h
    exact h)
  have g0 : ∀ h : 0 < s.size, ((s[0]'h).toNat : Int) = (byteAt s 0 : Int) := fun h => byteAt_get s 0 h
  have h0' : (128 : Int) ≤ (byteAt s 0 : Int) := by omega
  have h1' : ((byteAt s 0 : Int) != 92) = true := by simp; omega
  have hn' : (n : Int) ≤ (s.size : Int) := by omega
  have hn1' : ((n : Int) == 1) = false := by simp only [beq_eq_false_iff_ne]; omega
  have hn0' : (0 : Int) ≤ (n : Int) := by omega
  clear hu hT hs0 hs h0 hE hn hn1 hn10 hR hR2
  go_enter Tryf.func7, Tryf.ntmps7
  go_wp2_with fail
  refine Z.out.mono ?_
  rintro e w' ⟨rfl, rfl⟩
  go_wp2_with fail
  refine HG.out.mono ?_
  rintro e w' ⟨rfl, rfl⟩
  go_wp2_with fail
  refine HC.out.mono ?_
  rintro e w1 ⟨rfl, hb1⟩
  go_wp2_with fail
  go_region_with (go_at_call 12; refine (HE _).out.mono ?_; rintro e w2 ⟨rfl, hb2⟩)
  all_goals (try go_wp2)
  all_goals
    go_ret
    have hbb := Below.refl w.heap.size w
    exact ⟨by first | rfl | (simp; done) | (simp [Act.put]; done), by first | exact hb1.trans (hb2.mono hb1.size) | exact (hb1.trans (Below.drew (hb2.mono hb1.size))) | exact hb1.drew.trans (hb2.mono hb1.drew.size)⟩

set_option maxRecDepth 20000 in
set_option maxHeartbeats 2000000 in
theorem w7_simple (s : ByteArray) (w : World) (hs0 : 0 < s.size) (hs : s.size ≤ 1048576) (hT : TU w) (h0 : byteAt s 0 = 92) (h1 : 1 < s.size) (c : Nat) (hc : simpleV (byteAt s 1) = some c) (hu : unesc s = some ((c : Int), false, 2)) :
    Calls Tryf.prog 7 #[.string s] w fun e w' => e = .returned (.bool true) ∧ Below w.heap.size w w' := by
  have Z := hide (zz19 s w hs)
  have hs0' : (0 : Int) < (s.size : Int) := by omega
  have hs' : (s.size : Int) ≤ 1048576 := by omega
  have HG := hide (gram_some (b := false) w hs0 hs hu (by simp))
  have HC := hide (read_some w hs0 hs hT hu)
  have HS := fun w => hide (show Calls Tryf.prog 21 #[.int .u8 (byteAt s 1 : Int)] w fun e w' => e = .returned (.tuple #[.int .i32 (c : Int), .bool true]) ∧ w = w' by
    have h := simpleValue_any (byteAt s 1) w (byteAt_le s 1)
    rw [hc] at h
    exact h)
  have g0 : ∀ h : 0 < s.size, ((s[0]'h).toNat : Int) = 92 := fun h => by rw [byteAt_get s 0 h]; omega
  have g1 : ∀ h : 1 < s.size, ((s[1]'h).toNat : Int) = (byteAt s 1 : Int) := fun h => byteAt_get s 1 h
  have h1' : (1 : Int) < (s.size : Int) := by omega
  have h1s : (2 : Int) ≤ (s.size : Int) := by omega
  clear hu hT hs0 hs h0 h1 hc
  go_enter Tryf.func7, Tryf.ntmps7
  go_wp2_with fail
  refine Z.out.mono ?_
  rintro e w' ⟨rfl, rfl⟩
  go_wp2_with fail
  refine HG.out.mono ?_
  rintro e w' ⟨rfl, rfl⟩
  go_wp2_with fail
  refine HC.out.mono ?_
  rintro e w1 ⟨rfl, hb1⟩
  go_wp2_with fail
  refine (HS _).out.mono ?_
  rintro e w' ⟨rfl, rfl⟩
  go_wp2
  go_ret
  exact ⟨by simp, hb1⟩

set_option maxRecDepth 20000 in
set_option maxHeartbeats 2000000 in
theorem w7_pos (s : ByteArray) (w : World) (hs0 : 0 < s.size) (hs : s.size ≤ 1048576) (hT : TU w) (h0 : byteAt s 0 = 92) (h1 : 1 < s.size) (hc : simpleV (byteAt s 1) = none) (v : Int) (n : Nat) (hn : n ≤ s.size) (hv1 : v ≤ 1114111) (hv0 : 0 ≤ v) (hu : unesc s = some (v, true, n)) :
    Calls Tryf.prog 7 #[.string s] w fun e w' => e = .returned (.bool true) ∧ Below w.heap.size w w' := by
  have Z := hide (zz19 s w hs)
  have hs0' : (0 : Int) < (s.size : Int) := by omega
  have hs' : (s.size : Int) ≤ 1048576 := by omega
  have HG := hide (gram_some (b := false) w hs0 hs hu (by simp; omega))
  have HC := hide (read_some w hs0 hs hT hu)
  have HS := fun w => hide (show Calls Tryf.prog 21 #[.int .u8 (byteAt s 1 : Int)] w fun e w' => e = .returned (.tuple #[.int .i32 0, .bool false]) ∧ w = w' by
    have h := simpleValue_any (byteAt s 1) w (byteAt_le s 1)
    rw [hc] at h
    exact h)
  have g0 : ∀ h : 0 < s.size, ((s[0]'h).toNat : Int) = 92 := fun h => by rw [byteAt_get s 0 h]; omega
  have g1 : ∀ h : 1 < s.size, ((s[1]'h).toNat : Int) = (byteAt s 1 : Int) := fun h => byteAt_get s 1 h
  have hv0' : ¬ v < 0 := by omega
  have h1' : (1 : Int) < (s.size : Int) := by omega
  have hn' : (n : Int) ≤ (s.size : Int) := by omega
  have hn0' : (0 : Int) ≤ (n : Int) := by omega
  clear hu hT hs0 hs h0 h1 hc hn
  go_enter Tryf.func7, Tryf.ntmps7
  go_wp2_with fail
  refine Z.out.mono ?_
  rintro e w' ⟨rfl, rfl⟩
  go_wp2_with fail
  refine HG.out.mono ?_
  rintro e w' ⟨rfl, rfl⟩
  go_wp2_with fail
  refine HC.out.mono ?_
  rintro e w1 ⟨rfl, hb1⟩
  go_wp2_with fail
  refine (HS _).out.mono ?_
  rintro e w' ⟨rfl, rfl⟩
  go_wp2
  go_ret
  exact ⟨by simp, hb1⟩

set_option maxRecDepth 20000 in
set_option maxHeartbeats 2000000 in
theorem w7_neg (s : ByteArray) (w : World) (hs0 : 0 < s.size) (hs : s.size ≤ 1048576) (hT : TU w) (h0 : byteAt s 0 = 92) (h1 : 1 < s.size) (hc : simpleV (byteAt s 1) = none) (v : Int) (n : Nat) (hn : n ≤ s.size) (hv1 : v ≤ 1114111) (hv0 : v < 0) (hu : unesc s = some (v, true, n)) :
    Calls Tryf.prog 7 #[.string s] w fun e w' => e = .returned (.bool true) ∧ Below w.heap.size w w' := by
  have Z := hide (zz19 s w hs)
  have hs0' : (0 : Int) < (s.size : Int) := by omega
  have hs' : (s.size : Int) ≤ 1048576 := by omega
  have HG := hide (gram_some (b := true) w hs0 hs hu (by simp; omega))
  have HC := hide (read_some w hs0 hs hT hu)
  have HS := fun w => hide (show Calls Tryf.prog 21 #[.int .u8 (byteAt s 1 : Int)] w fun e w' => e = .returned (.tuple #[.int .i32 0, .bool false]) ∧ w = w' by
    have h := simpleValue_any (byteAt s 1) w (byteAt_le s 1)
    rw [hc] at h
    exact h)
  have g0 : ∀ h : 0 < s.size, ((s[0]'h).toNat : Int) = 92 := fun h => by rw [byteAt_get s 0 h]; omega
  have g1 : ∀ h : 1 < s.size, ((s[1]'h).toNat : Int) = (byteAt s 1 : Int) := fun h => byteAt_get s 1 h
  have h1' : (1 : Int) < (s.size : Int) := by omega
  have hn' : (n : Int) ≤ (s.size : Int) := by omega
  have hn0' : (0 : Int) ≤ (n : Int) := by omega
  clear hu hT hs0 hs h0 h1 hc hn
  go_enter Tryf.func7, Tryf.ntmps7
  go_wp2_with fail
  refine Z.out.mono ?_
  rintro e w' ⟨rfl, rfl⟩
  go_wp2_with fail
  refine HG.out.mono ?_
  rintro e w' ⟨rfl, rfl⟩
  go_wp2_with fail
  refine HC.out.mono ?_
  rintro e w1 ⟨rfl, hb1⟩
  go_wp2_with fail
  refine (HS _).out.mono ?_
  rintro e w' ⟨rfl, rfl⟩
  go_wp2
  go_ret
  exact ⟨by simp, hb1⟩

theorem law7 (s : ByteArray) (w : World) (hs0 : 0 < s.size) (hs : s.size ≤ 1048576) (hT : TU w) :
    Calls Tryf.prog 7 #[.string s] w fun e w' => e = .returned (.bool true) ∧ Below w.heap.size w w' := by
  rcases hu : unesc s with _ | ⟨v, mb, n⟩
  · exact w7_none s w hs0 hs hT hu
  obtain ⟨f1, f2, f3, ⟨a1, rfl, rfl, rfl⟩ | ⟨a1, a2, rfl, rfl, rfl⟩ | ⟨a1, a2, c, hc, rfl, rfl, rfl⟩ | ⟨a1, a2, hc, rfl, hv⟩⟩ := unesc_facts hs0 hu
  · by_cases h1 : (Utf8.decode s 0).2 = 1
    · have h2 := dec_one s a1 h1
      rw [h1, h2] at hu
      exact w7_bad s w hs0 hs hT a1 hu
    · have h3 := dec_scalar s
      exact w7_high s w hs0 hs hT a1 _ _ f1 h1 f3 h3.1 h3.2 (enc_back s hs0 h1) hu
  · exact w7_plain s w hs0 hs hT a1 a2 hu
  · exact w7_simple s w hs0 hs hT a1 a2 c hc hu
  · rcases Int.lt_or_le v 0 with h | h
    · exact w7_neg s w hs0 hs hT a1 a2 hc v n f1 hv h hu
    · exact w7_pos s w hs0 hs hT a1 a2 hc v n f1 hv h hu
theorem all7 (s : ByteArray) (w : World) (hm : s.size ≤ maxLen) (hT : TU w) :
    Calls Tryf.prog 7 #[.string s] w fun e w' => e = .returned (.bool true) ∧ Below w.heap.size w w' := by
  by_cases h : s.size ≤ 1048576
  · by_cases h0 : s.size = 0
    · exact nil7 s w h0
    · exact law7 s w (by omega) h hT
  · exact big7 s w (by omega)
end Go.Proofs.YthpchfbjnhdcdaaFmt
