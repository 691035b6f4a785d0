/-
  The law's own escaper (zzEscape) by contract: in each form its text is read back as the code point. No condition beyond the bounds.
-/
import Derived.Test.YthpchfbjnhdcdaaFmtEsc
namespace Go.Proofs.YthpchfbjnhdcdaaFmt
open Go.RowKit Go.Lib Go.Shelf Go.Proofs
set_option linter.unusedVariables false
set_option linter.unusedSimpArgs false

set_option maxRecDepth 20000 in
set_option maxHeartbeats 1000000 in
theorem esc0 (r : Nat) (up : Bool) (w : World) (hr : r ≤ 1114111)  :
    Calls Tryf.prog 9 #[.int .i32 (r : Int), .int .i64 0, .bool up] w fun e w' => (∃ E, e = .returned (.string E) ∧ Reads r E) ∧ Below w.heap.size w w' := by
  have hr' : (r : Int) ≤ 1114111 := by omega
  have hr0 : (0 : Int) ≤ (r : Int) := by omega
  have H := hide (hexFixed_any r 8 up w (by decide) (by omega))
  have hR := hide (reads_item 85 8 r up (by omega) (by omega) hr)
  have hsz := bytes8_size (hexL r up 8)
  rw [hexL_length] at hsz
  generalize bytes8 (hexL r up 8) = x at *
  have hsz' : (x.size : Int) = 8 := by omega
  clear hr hsz
  go_enter Tryf.func9, Tryf.ntmps9
  go_wp2_with fail
  refine H.out.mono ?_
  rintro e w1 ⟨rfl, hb1⟩
  go_wp2
  go_ret
  exact ⟨⟨_, rfl, hR.out⟩, hb1⟩

set_option maxRecDepth 20000 in
set_option maxHeartbeats 1000000 in
theorem esc3a (r : Nat) (up : Bool) (w : World) (hr : r ≤ 1114111) (h3 : r ≤ 65535) :
    Calls Tryf.prog 9 #[.int .i32 (r : Int), .int .i64 3, .bool up] w fun e w' => (∃ E, e = .returned (.string E) ∧ Reads r E) ∧ Below w.heap.size w w' := by
  have hr' : (r : Int) ≤ 1114111 := by omega
  have hr0 : (0 : Int) ≤ (r : Int) := by omega
  have H := hide (hexFixed_any r 4 up w (by decide) (by omega))
  have hR := hide (reads_item 117 4 r up (by omega) (by omega) hr)
  have hsz := bytes8_size (hexL r up 4)
  rw [hexL_length] at hsz
  generalize bytes8 (hexL r up 4) = x at *
  have hsz' : (x.size : Int) = 4 := by omega
  have h3' : (r : Int) ≤ 65535 := by omega
  clear h3
  clear hr hsz
  go_enter Tryf.func9, Tryf.ntmps9
  go_wp2_with fail
  refine H.out.mono ?_
  rintro e w1 ⟨rfl, hb1⟩
  go_wp2
  go_ret
  exact ⟨⟨_, rfl, hR.out⟩, hb1⟩

set_option maxRecDepth 20000 in
set_option maxHeartbeats 1000000 in
theorem esc3b (r : Nat) (up : Bool) (w : World) (hr : r ≤ 1114111) (h3 : 65535 < r) :
    Calls Tryf.prog 9 #[.int .i32 (r : Int), .int .i64 3, .bool up] w fun e w' => (∃ E, e = .returned (.string E) ∧ Reads r E) ∧ Below w.heap.size w w' := by
  have hr' : (r : Int) ≤ 1114111 := by omega
  have hr0 : (0 : Int) ≤ (r : Int) := by omega
  have H := hide (hexFixed_any r 8 up w (by decide) (by omega))
  have hR := hide (reads_item 85 8 r up (by omega) (by omega) hr)
  have hsz := bytes8_size (hexL r up 8)
  rw [hexL_length] at hsz
  generalize bytes8 (hexL r up 8) = x at *
  have hsz' : (x.size : Int) = 8 := by omega
  have h3' : (65535 : Int) < (r : Int) := by omega
  clear h3
  clear hr hsz
  go_enter Tryf.func9, Tryf.ntmps9
  go_wp2_with fail
  refine H.out.mono ?_
  rintro e w1 ⟨rfl, hb1⟩
  go_wp2
  go_ret
  exact ⟨⟨_, rfl, hR.out⟩, hb1⟩

set_option maxRecDepth 20000 in
set_option maxHeartbeats 1000000 in
theorem esc4b (r : Nat) (up : Bool) (w : World) (hr : r ≤ 1114111) (h3 : 255 < r) :
    Calls Tryf.prog 9 #[.int .i32 (r : Int), .int .i64 4, .bool up] w fun e w' => (∃ E, e = .returned (.string E) ∧ Reads r E) ∧ Below w.heap.size w w' := by
  have hr' : (r : Int) ≤ 1114111 := by omega
  have hr0 : (0 : Int) ≤ (r : Int) := by omega
  have H := hide (hexFixed_any r 8 up w (by decide) (by omega))
  have hR := hide (reads_item 85 8 r up (by omega) (by omega) hr)
  have hsz := bytes8_size (hexL r up 8)
  rw [hexL_length] at hsz
  generalize bytes8 (hexL r up 8) = x at *
  have hsz' : (x.size : Int) = 8 := by omega
  have h3' : (255 : Int) < (r : Int) := by omega
  clear h3
  clear hr hsz
  go_enter Tryf.func9, Tryf.ntmps9
  go_wp2_with fail
  refine H.out.mono ?_
  rintro e w1 ⟨rfl, hb1⟩
  go_wp2
  go_ret
  exact ⟨⟨_, rfl, hR.out⟩, hb1⟩

set_option maxRecDepth 20000 in
set_option maxHeartbeats 1000000 in
theorem esc5b (r : Nat) (up : Bool) (w : World) (hr : r ≤ 1114111) (h3 : 255 < r) :
    Calls Tryf.prog 9 #[.int .i32 (r : Int), .int .i64 5, .bool up] w fun e w' => (∃ E, e = .returned (.string E) ∧ Reads r E) ∧ Below w.heap.size w w' := by
  have hr' : (r : Int) ≤ 1114111 := by omega
  have hr0 : (0 : Int) ≤ (r : Int) := by omega
  have H := hide (hexFixed_any r 8 up w (by decide) (by omega))
  have hR := hide (reads_item 85 8 r up (by omega) (by omega) hr)
  have hsz := bytes8_size (hexL r up 8)
  rw [hexL_length] at hsz
  generalize bytes8 (hexL r up 8) = x at *
  have hsz' : (x.size : Int) = 8 := by omega
  have h3' : (255 : Int) < (r : Int) := by omega
  clear h3
  clear hr hsz
  go_enter Tryf.func9, Tryf.ntmps9
  go_wp2_with fail
  refine H.out.mono ?_
  rintro e w1 ⟨rfl, hb1⟩
  go_wp2
  go_ret
  exact ⟨⟨_, rfl, hR.out⟩, hb1⟩

set_option maxRecDepth 20000 in
set_option maxHeartbeats 1000000 in
theorem esc2 (r : Nat) (up : Bool) (w : World) (hr : r ≤ 1114111)  :
    Calls Tryf.prog 9 #[.int .i32 (r : Int), .int .i64 2, .bool up] w fun e w' => (∃ E, e = .returned (.string E) ∧ Reads r E) ∧ Below w.heap.size w w' := by
  have hr' : (r : Int) ≤ 1114111 := by omega
  have hr0 : (0 : Int) ≤ (r : Int) := by omega
  have H := hide (hexFixed_any r 6 up w (by decide) (by omega))
  have hR := hide (reads_brace r 6 up (by decide) (by decide) (by omega) hr)
  have hsz := bytes8_size (hexL r up 6)
  rw [hexL_length] at hsz
  generalize bytes8 (hexL r up 6) = x at *
  have hsz' : (x.size : Int) = 6 := by omega
  clear hr hsz
  go_enter Tryf.func9, Tryf.ntmps9
  go_wp2_with fail
  refine H.out.mono ?_
  rintro e w1 ⟨rfl, hb1⟩
  go_wp2
  go_ret
  exact ⟨⟨_, rfl, hR.out⟩, hb1⟩

set_option maxRecDepth 20000 in
set_option maxHeartbeats 1000000 in
theorem esc1 (r : Nat) (up : Bool) (w : World) (hr : r ≤ 1114111)  :
    Calls Tryf.prog 9 #[.int .i32 (r : Int), .int .i64 1, .bool up] w fun e w' => (∃ E, e = .returned (.string E) ∧ Reads r E) ∧ Below w.heap.size w w' := by
  have hr' : (r : Int) ≤ 1114111 := by omega
  have hr0 : (0 : Int) ≤ (r : Int) := by omega
  have H := hide (hexMin_any r up w (by omega))
  have hR := fun n h1 h2 h3 => hide (reads_brace r n up h1 h2 h3 hr)
  clear hr
  go_enter Tryf.func9, Tryf.ntmps9
  go_wp2_with fail
  refine H.out.mono ?_
  rintro e w1 ⟨⟨n, rfl, h1, h6, hlt⟩, hb1⟩
  have hR1 := hR n h1 h6 hlt
  have hsz := bytes8_size (hexL r up n)
  rw [hexL_length] at hsz
  generalize bytes8 (hexL r up n) = x at *
  have hsz' : (x.size : Int) ≤ 6 := by omega
  clear hsz hlt hR
  go_wp2
  go_ret
  exact ⟨⟨_, rfl, hR1.out⟩, hb1⟩

set_option maxRecDepth 20000 in
set_option maxHeartbeats 1000000 in
theorem esc5a (r : Nat) (up : Bool) (w : World) (hr : r ≤ 1114111) (h3 : r ≤ 255) :
    Calls Tryf.prog 9 #[.int .i32 (r : Int), .int .i64 5, .bool up] w fun e w' => (∃ E, e = .returned (.string E) ∧ Reads r E) ∧ Below w.heap.size w w' := by
  have hr' : (r : Int) ≤ 1114111 := by omega
  have hr0 : (0 : Int) ≤ (r : Int) := by omega
  have H := hide (oct3_any r w h3)
  have hR := hide (reads_oct r h3)
  have hsz := bytes8_size (octL r)
  rw [show (octL r).length = 3 from rfl] at hsz
  generalize bytes8 (octL r) = x at *
  have hsz' : (x.size : Int) = 3 := by omega
  have h3' : (r : Int) ≤ 255 := by omega
  clear hr hsz h3
  go_enter Tryf.func9, Tryf.ntmps9
  go_wp2_with fail
  refine H.out.mono ?_
  rintro e w1 ⟨rfl, hb1⟩
  go_wp2
  go_ret
  exact ⟨⟨_, rfl, hR.out⟩, hb1⟩

end Go.Proofs.YthpchfbjnhdcdaaFmt
