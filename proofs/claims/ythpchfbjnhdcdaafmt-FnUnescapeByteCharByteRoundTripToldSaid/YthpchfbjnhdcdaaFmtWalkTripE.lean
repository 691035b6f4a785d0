/-
  The walk of the statement that a byte written in any of its forms is read back as that byte. Condition: utf8's two tables hold what their initialisers lay.
-/
import Derived.Test.YthpchfbjnhdcdaaFmtWalkTripA
namespace Go.Proofs.YthpchfbjnhdcdaaFmt
open Go.RowKit Go.Lib Go.Shelf Go.Proofs
set_option linter.unusedVariables false
set_option linter.unusedSimpArgs false

set_option maxRecDepth 20000 in
set_option maxHeartbeats 2000000 in
theorem law6_1 (b f : Nat) (up : Bool) (s : ByteArray) (w : World) (hs : s.size ≤ 1048576) (hb : b ≤ 255) (hf : f ≤ 255) (hT : TU w) (hm : f % 4 = 1) :
    Calls Tryf.prog 6 #[.int .u8 (b : Int), .int .u8 (f : Int), .bool up, .string s] w fun e w' => e = .returned (.bool true) ∧ Below w.heap.size w w' := by
  have Z := hide (zz15 b f up s w hs)
  have hs' : (s.size : Int) ≤ 1048576 := by omega
  have hb' : (b : Int) ≤ 255 := by omega
  have hb0 : (0 : Int) ≤ (b : Int) := by omega
  have hf' : (f : Int) ≤ 255 := by omega
  have hTh := hide hT
  have hmod : (f : Int).tmod 4 = 1 := by
    have : (f : Int) % 4 = 1 := by omega
    rw [Int.tmod_eq_emod_of_nonneg (by omega)]
    exact this
  have HO := hide (oct3_any b w hb)
  have HR := fun w hT => hide (read14 (⟨#[92]⟩ ++ bytes8 (octL b)) s w b 4 hT (by rw [lit1, bytes8_app]; exact read_oct b s hb) (by rw [size_app, bytes8_size]; rfl) (by decide) (by decide) hs)
  obtain ⟨x, hx⟩ : ∃ x, bytes8 (octL b) = x := ⟨_, rfl⟩
  have hxs : x.size = 3 := by rw [← hx, bytes8_size]; rfl
  rw [hx] at HO HR
  have hxs' : (x.size : Int) = 3 := by omega
  clear hx hxs
  clear hm hs
  clear hT
  go_enter Tryf.func6, Tryf.ntmps6
  go_wp2_with fail
  refine Z.out.mono ?_
  rintro e w' ⟨rfl, rfl⟩
  go_wp2_with fail
  refine HO.out.mono ?_
  rintro e w1 ⟨rfl, hb1⟩
  go_wp2_with fail
  refine (HR w1 (hTh.out.below hb1)).out.mono ?_
  rintro e w9 ⟨rfl, hb9⟩
  go_wp2
  go_ret
  exact ⟨by simp, hb1.trans (hb9.mono hb1.size)⟩

set_option maxRecDepth 20000 in
set_option maxHeartbeats 2000000 in
theorem law6_3o (b f : Nat) (up : Bool) (s : ByteArray) (w : World) (hs : s.size ≤ 1048576) (hb : b ≤ 255) (hf : f ≤ 255) (hT : TU w) (hm : f % 4 = 3) (h1 : 128 ≤ b) :
    Calls Tryf.prog 6 #[.int .u8 (b : Int), .int .u8 (f : Int), .bool up, .string s] w fun e w' => e = .returned (.bool true) ∧ Below w.heap.size w w' := by
  have Z := hide (zz15 b f up s w hs)
  have hs' : (s.size : Int) ≤ 1048576 := by omega
  have hb' : (b : Int) ≤ 255 := by omega
  have hb0 : (0 : Int) ≤ (b : Int) := by omega
  have hf' : (f : Int) ≤ 255 := by omega
  have hTh := hide hT
  have hmod : (f : Int).tmod 4 = 3 := by
    have : (f : Int) % 4 = 3 := by omega
    rw [Int.tmod_eq_emod_of_nonneg (by omega)]
    exact this
  have HO := hide (oct3_any b w hb)
  have HR := fun w hT => hide (read14 (⟨#[92]⟩ ++ bytes8 (octL b)) s w b 4 hT (by rw [lit1, bytes8_app]; exact read_oct b s hb) (by rw [size_app, bytes8_size]; rfl) (by decide) (by decide) hs)
  obtain ⟨x, hx⟩ : ∃ x, bytes8 (octL b) = x := ⟨_, rfl⟩
  have hxs : x.size = 3 := by rw [← hx, bytes8_size]; rfl
  rw [hx] at HO HR
  have hxs' : (x.size : Int) = 3 := by omega
  clear hx hxs
  have h1' : (128 : Int) ≤ (b : Int) := by omega
  clear hm hs h1
  clear hT
  go_enter Tryf.func6, Tryf.ntmps6
  go_wp2_with fail
  refine Z.out.mono ?_
  rintro e w' ⟨rfl, rfl⟩
  go_wp2_with fail
  refine HO.out.mono ?_
  rintro e w1 ⟨rfl, hb1⟩
  go_wp2_with fail
  refine (HR w1 (hTh.out.below hb1)).out.mono ?_
  rintro e w9 ⟨rfl, hb9⟩
  go_wp2
  go_ret
  exact ⟨by simp, hb1.trans (hb9.mono hb1.size)⟩

set_option maxRecDepth 20000 in
set_option maxHeartbeats 2000000 in
theorem law6_3q (b f : Nat) (up : Bool) (s : ByteArray) (w : World) (hs : s.size ≤ 1048576) (hb : b ≤ 255) (hf : f ≤ 255) (hT : TU w) (hm : f % 4 = 3) (h1 : b = 92) :
    Calls Tryf.prog 6 #[.int .u8 (b : Int), .int .u8 (f : Int), .bool up, .string s] w fun e w' => e = .returned (.bool true) ∧ Below w.heap.size w w' := by
  have Z := hide (zz15 b f up s w hs)
  have hs' : (s.size : Int) ≤ 1048576 := by omega
  have hb' : (b : Int) ≤ 255 := by omega
  have hb0 : (0 : Int) ≤ (b : Int) := by omega
  have hf' : (f : Int) ≤ 255 := by omega
  have hTh := hide hT
  have hmod : (f : Int).tmod 4 = 3 := by
    have : (f : Int) % 4 = 3 := by omega
    rw [Int.tmod_eq_emod_of_nonneg (by omega)]
    exact this
  have HO := hide (oct3_any b w hb)
  have HR := fun w hT => hide (read14 (⟨#[92]⟩ ++ bytes8 (octL b)) s w b 4 hT (by rw [lit1, bytes8_app]; exact read_oct b s hb) (by rw [size_app, bytes8_size]; rfl) (by decide) (by decide) hs)
  obtain ⟨x, hx⟩ : ∃ x, bytes8 (octL b) = x := ⟨_, rfl⟩
  have hxs : x.size = 3 := by rw [← hx, bytes8_size]; rfl
  rw [hx] at HO HR
  have hxs' : (x.size : Int) = 3 := by omega
  clear hx hxs
  have h1' : (b : Int) < 128 := by omega
  have h2' : ((b : Int) != 92) = false := by rw [bne_eq_false_iff_eq]; omega
  clear hm hs h1
  clear hT
  go_enter Tryf.func6, Tryf.ntmps6
  go_wp2_with fail
  refine Z.out.mono ?_
  rintro e w' ⟨rfl, rfl⟩
  go_wp2_with fail
  refine HO.out.mono ?_
  rintro e w1 ⟨rfl, hb1⟩
  go_wp2_with fail
  refine (HR w1 (hTh.out.below hb1)).out.mono ?_
  rintro e w9 ⟨rfl, hb9⟩
  go_wp2
  go_ret
  exact ⟨by simp, hb1.trans (hb9.mono hb1.size)⟩

end Go.Proofs.YthpchfbjnhdcdaaFmt
