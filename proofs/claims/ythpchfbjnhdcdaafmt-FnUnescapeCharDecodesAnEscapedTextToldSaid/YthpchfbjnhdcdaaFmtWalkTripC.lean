/-
  The walk of the statement that a byte written in any of its forms is read back as that byte. Condition: utf8's two tables hold what their initialisers lay.
-/
import Derived.Test.YthpchfbjnhdcdaaFmtTrip
namespace Go.Proofs.YthpchfbjnhdcdaaFmt
open Go.RowKit Go.Lib Go.Shelf Go.Proofs
set_option linter.unusedVariables false
set_option linter.unusedSimpArgs false

theorem conv8 (w : World) (l : List Nat) (hl : ∀ x ∈ l, x < 256) (hm : l.length ≤ maxLen) :
    (convert 29 9 (.slice (some ⟨w.heap.size, 0, none⟩) l.length l.length)).run Tryf.prog (w.alloc (.cells (cells8 l).toArray 5)) = .ok (.string (bytes8 l)) (w.alloc (.cells (cells8 l).toArray 5)) := by
  have h := World.ownsRow_lit (e := 5) (size := 1) (base := 0) w (cells8 l).toArray l.length (Nat.zero_le _) hm (by simp [cells8])
  exact own_conv l hl rfl (by simpa using h)
theorem bytes8_app (a b : List Nat) : bytes8 a ++ bytes8 b = bytes8 (a ++ b) := by
  apply ba_ext
  rw [ByteArray.data_append]
  simp [bytes8]
theorem lit1 : (⟨#[92]⟩ : ByteArray) = bytes8 [92] := rfl
theorem lit88 : (⟨#[92, 88]⟩ : ByteArray) = bytes8 [92, 88] := rfl
theorem lit120 : (⟨#[92, 120]⟩ : ByteArray) = bytes8 [92, 120] := rfl
theorem zz15 (b f : Nat) (up : Bool) (a : ByteArray) (W : World) (h : a.size ≤ 1048576) : Calls Tryf.prog 15 #[.int .u8 (b : Int), .int .u8 (f : Int), .bool up, .string a] W fun e w' => e = .returned (.bool true) ∧ W = w' := by
  have h' : (a.size : Int) ≤ 1048576 := by omega
  go_enter Tryf.func15, Tryf.ntmps15
  go_wp2
  go_ret
  exact ⟨rfl, rfl⟩
theorem zz15b (b f : Nat) (up : Bool) (a : ByteArray) (W : World) (h : 1048576 < a.size) : Calls Tryf.prog 15 #[.int .u8 (b : Int), .int .u8 (f : Int), .bool up, .string a] W fun e w' => e = .returned (.bool false) ∧ W = w' := by
  have h' : (1048576 : Int) < (a.size : Int) := by omega
  go_enter Tryf.func15, Tryf.ntmps15
  go_wp2
  go_ret
  exact ⟨rfl, rfl⟩
theorem read14 (E T : ByteArray) (w : World) (b n : Nat) (hT : TU w) (hu : unescB (E ++ T) = some ((b : Int), false, n)) (hn : E.size = n) (hn0 : 0 < n) (hn4 : n ≤ 4) (hs : T.size ≤ 1048576) :
    Calls Tryf.prog 14 #[.string (E ++ T)] w fun e w' => e = .returned (.tuple #[.int .i32 b, .bool false, .string T, .nilIface]) ∧ Below w.heap.size w w' := by
  have hsz := size_app E T
  refine (zz14 (E ++ T) w (by omega) (by omega) hT).mono ?_
  rintro e w' ⟨he, hb⟩
  rw [hu] at he
  refine ⟨?_, hb⟩
  have he' : e = .returned (.tuple #[.int .i32 (b : Int), .bool false, .string ((E ++ T).extract n (E ++ T).size), .nilIface]) := he
  rw [he', ← hn, cut_app]
theorem big6 (b f : Nat) (up : Bool) (s : ByteArray) (w : World) (hs : 1048576 < s.size) :
    Calls Tryf.prog 6 #[.int .u8 (b : Int), .int .u8 (f : Int), .bool up, .string s] w fun e w' => e = .returned (.bool true) ∧ Below w.heap.size w w' := by
  have Z := hide (zz15b b f up s w hs)
  go_enter Tryf.func6, Tryf.ntmps6
  go_wp2_with fail
  refine Z.out.mono ?_
  rintro e w' ⟨rfl, rfl⟩
  go_wp2
  go_ret
  exact ⟨rfl, Below.refl _ _⟩
end Go.Proofs.YthpchfbjnhdcdaaFmt
