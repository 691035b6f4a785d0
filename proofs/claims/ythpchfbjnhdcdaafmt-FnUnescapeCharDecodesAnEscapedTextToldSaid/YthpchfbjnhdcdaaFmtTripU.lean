/-
  The walk of the statement that a code point written in any escape form is read back as that code point. Condition: utf8's two tables hold what their initialisers lay.
-/
import Derived.Test.YthpchfbjnhdcdaaFmtEscC
namespace Go.Proofs.YthpchfbjnhdcdaaFmt
open Go.RowKit Go.Lib Go.Shelf Go.Proofs
set_option linter.unusedVariables false
set_option linter.unusedSimpArgs false

theorem zz8 (r f : Int) (up : Bool) (a : ByteArray) (W : World) (h : a.size ≤ 1048576) : Calls Tryf.prog 8 #[.int .i32 r, .int .u8 f, .bool up, .string a] W fun e w' => e = .returned (.bool true) ∧ W = w' := by
  have h' : (a.size : Int) ≤ 1048576 := by omega
  go_enter Tryf.func8, Tryf.ntmps8
  go_wp2
  go_ret
  exact ⟨rfl, rfl⟩
theorem zz8b (r f : Int) (up : Bool) (a : ByteArray) (W : World) (h : 1048576 < a.size) : Calls Tryf.prog 8 #[.int .i32 r, .int .u8 f, .bool up, .string a] W fun e w' => e = .returned (.bool false) ∧ W = w' := by
  have h' : (1048576 : Int) < (a.size : Int) := by omega
  go_enter Tryf.func8, Tryf.ntmps8
  go_wp2
  go_ret
  exact ⟨rfl, rfl⟩
theorem big3 (r f : Int) (up : Bool) (s : ByteArray) (w : World) (hs : 1048576 < s.size) :
    Calls Tryf.prog 3 #[.int .i32 r, .int .u8 f, .bool up, .string s] w fun e w' => e = .returned (.bool true) ∧ Below w.heap.size w w' := by
  have Z := hide (zz8b r f up s w hs)
  go_enter Tryf.func3, Tryf.ntmps3
  go_wp2_with fail
  refine Z.out.mono ?_
  rintro e w' ⟨rfl, rfl⟩
  go_wp2
  go_ret
  exact ⟨rfl, Below.refl _ _⟩
theorem neg3 (r f : Int) (up : Bool) (s : ByteArray) (w : World) (hs : s.size ≤ 1048576) (hr : r < 0) :
    Calls Tryf.prog 3 #[.int .i32 r, .int .u8 f, .bool up, .string s] w fun e w' => e = .returned (.bool true) ∧ Below w.heap.size w w' := by
  have Z := hide (zz8 r f up s w hs)
  have hs' : (s.size : Int) ≤ 1048576 := by omega
  go_enter Tryf.func3, Tryf.ntmps3
  go_wp2_with fail
  refine Z.out.mono ?_
  rintro e w' ⟨rfl, rfl⟩
  go_wp2
  go_ret
  exact ⟨rfl, Below.refl _ _⟩
theorem far3 (r f : Int) (up : Bool) (s : ByteArray) (w : World) (hs : s.size ≤ 1048576) (hr : 1114111 < r) :
    Calls Tryf.prog 3 #[.int .i32 r, .int .u8 f, .bool up, .string s] w fun e w' => e = .returned (.bool true) ∧ Below w.heap.size w w' := by
  have Z := hide (zz8 r f up s w hs)
  have hs' : (s.size : Int) ≤ 1048576 := by omega
  have hr0 : ¬ r < 0 := by omega
  go_enter Tryf.func3, Tryf.ntmps3
  go_wp2_with fail
  refine Z.out.mono ?_
  rintro e w' ⟨rfl, rfl⟩
  go_wp2
  go_ret
  exact ⟨rfl, Below.refl _ _⟩
set_option maxRecDepth 20000 in
set_option maxHeartbeats 2000000 in
theorem fit3 (r f k : Nat) (up : Bool) (s : ByteArray) (w : World) (hs : s.size ≤ 1048576) (hr : r ≤ 1114111) (hf : f ≤ 255) (hT : TU w) (hm : f % 6 = k) :
    Calls Tryf.prog 3 #[.int .i32 (r : Int), .int .u8 (f : Int), .bool up, .string s] w fun e w' => e = .returned (.bool true) ∧ Below w.heap.size w w' := by
  have Z := hide (zz8 r f up s w hs)
  have hs' : (s.size : Int) ≤ 1048576 := by omega
  have hr' : (r : Int) ≤ 1114111 := by omega
  have hr0 : (0 : Int) ≤ (r : Int) := by omega
  have hf' : (f : Int) ≤ 255 := by omega
  have hf0 : (0 : Int) ≤ (f : Int) := by omega
  have hk5 : (k : Int) ≤ 5 := by omega
  have hk0 : (0 : Int) ≤ (k : Int) := by omega
  have hTh := hide hT
  have hmod : (f : Int).tmod 6 = (k : Int) := by
    rw [Int.tmod_eq_emod_of_nonneg (by omega)]
    omega
  have HE := hide (esc_any r k up w hr (by omega))
  have hsh := hide hs
  clear hm hs hT hr hf
  go_enter Tryf.func3, Tryf.ntmps3
  go_wp2_with fail
  refine Z.out.mono ?_
  rintro e w' ⟨rfl, rfl⟩
  go_wp2_with fail
  refine HE.out.mono ?_
  rintro e w1 ⟨⟨E, rfl, hR⟩, hb1⟩
  have hE10 : (E.size : Int) ≤ 10 := by have := hR.2.1; omega
  have HX := hide (read10 E s w1 r (hTh.out.below hb1) hR hsh.out)
  clear hR
  go_wp2_with fail
  refine HX.out.mono ?_
  rintro e w9 ⟨rfl, hb9⟩
  go_wp2
  go_ret
  exact ⟨by simp, hb1.trans (hb9.mono hb1.size)⟩
theorem all3 (r f : Int) (up : Bool) (s : ByteArray) (w : World) (hm : s.size ≤ maxLen) (f0 : 0 ≤ f) (f1 : f ≤ 255) (hT : TU w) :
    Calls Tryf.prog 3 #[.int .i32 r, .int .u8 f, .bool up, .string s] w fun e w' => e = .returned (.bool true) ∧ Below w.heap.size w w' := by
  by_cases h : s.size ≤ 1048576
  · by_cases h0 : r < 0
    · exact neg3 r f up s w h h0
    · by_cases h1 : 1114111 < r
      · exact far3 r f up s w h h1
      · obtain ⟨r, rfl⟩ := Int.eq_ofNat_of_zero_le (show 0 ≤ r by omega)
        obtain ⟨f, rfl⟩ := Int.eq_ofNat_of_zero_le f0
        exact fit3 r f (f % 6) up s w h (by omega) (by omega) hT rfl
  · exact big3 r f up s w (by omega)
end Go.Proofs.YthpchfbjnhdcdaaFmt
