/-
  The law's own escaper (zzEscape) by contract, the last arms; all forms together; and the exported reader on its text. No condition beyond the bounds.
-/
import Derived.Test.YthpchfbjnhdcdaaFmtEscB
namespace Go.Proofs.YthpchfbjnhdcdaaFmt
open Go.RowKit Go.Lib Go.Shelf Go.Proofs
set_option linter.unusedVariables false
set_option linter.unusedSimpArgs false

set_option maxRecDepth 20000 in
set_option maxHeartbeats 1000000 in
theorem esc4true (r : Nat) (w : World) (hr : r ≤ 255) :
    Calls Tryf.prog 9 #[.int .i32 (r : Int), .int .i64 4, .bool true] w fun e w' => (∃ E, e = .returned (.string E) ∧ Reads r E) ∧ Below w.heap.size w w' := by
  have hr' : (r : Int) ≤ 255 := by omega
  have hr0 : (0 : Int) ≤ (r : Int) := by omega
  have H := hide (hexFixed_any r 2 true w (by decide) (by omega))
  have hR := hide (reads_item 88 2 r true (by omega) (by omega) (by omega))
  have hsz := bytes8_size (hexL r true 2)
  rw [hexL_length] at hsz
  generalize bytes8 (hexL r true 2) = x at *
  have hsz' : (x.size : Int) = 2 := by omega
  clear hr hsz
  go_enter Tryf.func9, Tryf.ntmps9
  go_wp2_with fail
  refine H.out.mono ?_
  rintro e w1 ⟨rfl, hb1⟩
  go_wp2
  go_ret
  exact ⟨⟨_, rfl, hR.out⟩, hb1⟩

set_option maxRecDepth 20000 in
set_option maxHeartbeats 1000000 in
theorem esc4false (r : Nat) (w : World) (hr : r ≤ 255) :
    Calls Tryf.prog 9 #[.int .i32 (r : Int), .int .i64 4, .bool false] w fun e w' => (∃ E, e = .returned (.string E) ∧ Reads r E) ∧ Below w.heap.size w w' := by
  have hr' : (r : Int) ≤ 255 := by omega
  have hr0 : (0 : Int) ≤ (r : Int) := by omega
  have H := hide (hexFixed_any r 2 false w (by decide) (by omega))
  have hR := hide (reads_item 120 2 r false (by omega) (by omega) (by omega))
  have hsz := bytes8_size (hexL r false 2)
  rw [hexL_length] at hsz
  generalize bytes8 (hexL r false 2) = x at *
  have hsz' : (x.size : Int) = 2 := by omega
  clear hr hsz
  go_enter Tryf.func9, Tryf.ntmps9
  go_wp2_with fail
  refine H.out.mono ?_
  rintro e w1 ⟨rfl, hb1⟩
  go_wp2
  go_ret
  exact ⟨⟨_, rfl, hR.out⟩, hb1⟩

theorem esc_any (r f : Nat) (up : Bool) (w : World) (hr : r ≤ 1114111) (hf : f ≤ 5) :
    Calls Tryf.prog 9 #[.int .i32 (r : Int), .int .i64 (f : Int), .bool up] w fun e w' => (∃ E, e = .returned (.string E) ∧ Reads r E) ∧ Below w.heap.size w w' := by
  rcases (show f = 0 ∨ f = 1 ∨ f = 2 ∨ f = 3 ∨ f = 4 ∨ f = 5 by omega) with rfl | rfl | rfl | rfl | rfl | rfl
  · exact esc0 r up w hr
  · exact esc1 r up w hr
  · exact esc2 r up w hr
  · by_cases h : r ≤ 65535
    · exact esc3a r up w hr h
    · exact esc3b r up w hr (by omega)
  · by_cases h : r ≤ 255
    · cases up
      · exact esc4false r w h
      · exact esc4true r w h
    · exact esc4b r up w hr (by omega)
  · by_cases h : r ≤ 255
    · exact esc5a r up w hr h
    · exact esc5b r up w hr (by omega)
theorem read10 (E T : ByteArray) (w : World) (r : Nat) (hT : TU w) (hR : Reads r E) (hs : T.size ≤ 1048576) :
    Calls Tryf.prog 10 #[.string (E ++ T)] w fun e w' => e = .returned (.tuple #[.int .i32 r, .bool true, .string T, .nilIface]) ∧ Below w.heap.size w w' := by
  have hsz := size_app E T
  obtain ⟨h2, h10, hu⟩ := hR
  refine (zz10 (E ++ T) w (by omega) (by omega) hT).mono ?_
  rintro e w' ⟨he, hb⟩
  rw [hu T] at he
  refine ⟨?_, hb⟩
  have he' : e = .returned (.tuple #[.int .i32 (r : Int), .bool true, .string ((E ++ T).extract E.size (E ++ T).size), .nilIface]) := he
  rw [he', cut_app]
end Go.Proofs.YthpchfbjnhdcdaaFmt
