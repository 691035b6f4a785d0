/-
  The walk of the statement that a byte written in any of its forms is read back as that byte. Condition: utf8's two tables hold what their initialisers lay.
-/
import Derived.Test.YthpchfbjnhdcdaaFmtWalkTripC
namespace Go.Proofs.YthpchfbjnhdcdaaFmt
open Go.RowKit Go.Lib Go.Shelf Go.Proofs
set_option linter.unusedVariables false
set_option linter.unusedSimpArgs false

set_option maxRecDepth 20000 in
set_option maxHeartbeats 2000000 in
theorem law6_2s (b f : Nat) (up : Bool) (s : ByteArray) (w : World) (hs : s.size ≤ 1048576) (hb : b ≤ 255) (hf : f ≤ 255) (hT : TU w) (c : Nat) (hm : f % 4 = 2) (hn : nameV b = some c) :
    Calls Tryf.prog 6 #[.int .u8 (b : Int), .int .u8 (f : Int), .bool up, .string s] w fun e w' => e = .returned (.bool true) ∧ Below w.heap.size w w' := by
  have Z := hide (zz15 b f up s w hs)
  have hs' : (s.size : Int) ≤ 1048576 := by omega
  have hb' : (b : Int) ≤ 255 := by omega
  have hb0 : (0 : Int) ≤ (b : Int) := by omega
  have hf' : (f : Int) ≤ 255 := by omega
  have hTh := hide hT
  have hmod : (f : Int).tmod 4 = 2 := by
    have : (f : Int) % 4 = 2 := by omega
    rw [Int.tmod_eq_emod_of_nonneg (by omega)]
    exact this
  have HN := hide (simpleName_any b w hb)
  obtain ⟨hsv, hc⟩ := nameV_ok hb hn
  have HR := fun w hT => hide (read14 (bytes8 [92, c]) s w b 2 hT (read_name c b s hsv hc) (by rw [bytes8_size]; rfl) (by decide) (by decide) hs)
  have hcv := conv8 w [92, c] (by simp; omega) (by unfold maxLen; simp)
  simp only [cells8, List.map_cons, List.map_nil, List.length_cons, List.length_nil, Nat.zero_add, Nat.reduceAdd, Int.cast_ofNat_Int] at hcv
  obtain ⟨x, hx⟩ : ∃ x, bytes8 [92, c] = x := ⟨_, rfl⟩
  have hxs : x.size = 2 := by rw [← hx, bytes8_size]; rfl
  rw [hx] at hcv HR
  have hxs' : (x.size : Int) = 2 := by omega
  clear hx hxs
  rw [hn] at HN
  have HN2 := hide (show Calls Tryf.prog 18 #[.int .u8 (b : Int)] w fun e w' => e = .returned (.tuple #[.int .u8 (c : Int), .bool true]) ∧ w = w' from HN.out)
  clear hm hs hn hsv hc HN
  clear hT
  go_enter Tryf.func6, Tryf.ntmps6
  go_wp2_with fail
  refine Z.out.mono ?_
  rintro e w' ⟨rfl, rfl⟩
  go_wp2_with fail
  refine HN2.out.mono ?_
  rintro e w' ⟨rfl, rfl⟩
  have hb1 : Below w.heap.size w (w.alloc (.cells #[.int .u8 92, .int .u8 (c : Int)] 5)) := (Below.refl _ _).alloc (Nat.le_refl _) _
  go_wp2_with fail
  refine (HR _ (hTh.out.below hb1)).out.mono ?_
  rintro e w9 ⟨rfl, hb9⟩
  go_wp2
  go_ret
  exact ⟨by simp, hb1.trans (hb9.mono hb1.size)⟩

set_option maxRecDepth 20000 in
set_option maxHeartbeats 2000000 in
theorem law6_3p (b f : Nat) (up : Bool) (s : ByteArray) (w : World) (hs : s.size ≤ 1048576) (hb : b ≤ 255) (hf : f ≤ 255) (hT : TU w) (hm : f % 4 = 3) (h1 : b < 128) (h2 : b ≠ 92) :
    Calls Tryf.prog 6 #[.int .u8 (b : Int), .int .u8 (f : Int), .bool up, .string s] w fun e w' => e = .returned (.bool true) ∧ Below w.heap.size w w' := by
  have Z := hide (zz15 b f up s w hs)
  have hs' : (s.size : Int) ≤ 1048576 := by omega
  have hb' : (b : Int) ≤ 255 := by omega
  have hb0 : (0 : Int) ≤ (b : Int) := by omega
  have hf' : (f : Int) ≤ 255 := by omega
  have hTh := hide hT
  have hmod : (f : Int).tmod 4 = 3 := by
    have : (f : Int) % 4 = 3 := by omega
    rw [Int.tmod_eq_emod_of_nonneg (by omega)]
    exact this
  have HR := fun w hT => hide (read14 (bytes8 [b]) s w b 1 hT (read_plain b s h1 h2) (by rw [bytes8_size]; rfl) (by decide) (by decide) hs)
  have hcv := conv8 w [b] (by simp; omega) (by unfold maxLen; simp)
  simp only [cells8, List.map_cons, List.map_nil, List.length_cons, List.length_nil, Nat.zero_add, Nat.reduceAdd, Int.cast_ofNat_Int] at hcv
  obtain ⟨x, hx⟩ : ∃ x, bytes8 [b] = x := ⟨_, rfl⟩
  have hxs : x.size = 1 := by rw [← hx, bytes8_size]; rfl
  rw [hx] at hcv HR
  have hxs' : (x.size : Int) = 1 := by omega
  clear hx hxs
  have h1' : (b : Int) < 128 := by omega
  have h2' : ((b : Int) != 92) = true := by simp; omega
  clear hm hs h1 h2
  clear hT
  go_enter Tryf.func6, Tryf.ntmps6
  go_wp2_with fail
  refine Z.out.mono ?_
  rintro e w' ⟨rfl, rfl⟩
  have hb1 : Below w.heap.size w (w.alloc (.cells #[.int .u8 (b : Int)] 5)) := (Below.refl _ _).alloc (Nat.le_refl _) _
  go_wp2_with fail
  refine (HR _ (hTh.out.below hb1)).out.mono ?_
  rintro e w9 ⟨rfl, hb9⟩
  go_wp2
  go_ret
  exact ⟨by simp, hb1.trans (hb9.mono hb1.size)⟩

end Go.Proofs.YthpchfbjnhdcdaaFmt
