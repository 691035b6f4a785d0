/-
  The lexer's small functions by contract: where the lexer's cells lie and what next, peek, backup, commit and word do to them. Conditions: utf8's two tables hold what their initialisers lay.
-/
import Derived.Test.YtklkbalbmeefjaaDoorShelf
import Derived.WalkKit
import Derived.WalkSpells
import Derived.Handy
import Derived.Deep.RegionHeld3
import Derived.Lib.MapLaws
import Derived.KernelRfl
namespace Go.Proofs.YtklkbalbmeefjaaDoor
open Go.RowKit Go.Lib Go.Shelf Go.Proofs
set_option linter.unusedVariables false

theorem hide {p : Prop} (h : p) : Hid p := h
theorem ret_b {a b : Bool} (h : a = b) : Ending.returned (.bool a) = .returned (.bool b) := by rw [h]

/-- utf8's two tables. -/
def TU (w : World) : Prop := Utf8Tabs (Tryd.lays197_ren.g 3) (Tryd.lays197_ren.g 4) w
theorem TU.below {w w' : World} (h : TU w) (hb : Below w.heap.size w w') : TU w' := Utf8Tabs_below h hb

/-- Block b is a lexer over s with these places. -/
def Lx (w : World) (b : Nat) (s : ByteArray) (sb sr eb er : Int) (ef : Bool) : Prop :=
  w.heap[b]? = some (.cells #[.nilFunc, .string s, .pointer none, .pointer none, .int .i64 sb, .int .i64 sr, .int .i64 eb, .int .i64 er, .bool ef, .bool false] 44 (0, 0))

theorem Lx.lt {w : World} {b : Nat} {s : ByteArray} {sb sr eb er : Int} {ef : Bool} (h : Lx w b s sb sr eb er ef) : b < w.heap.size := (Array.getElem?_eq_some_iff.1 h).1
theorem Lx.cell {w : World} {b : Nat} {s : ByteArray} {sb sr eb er : Int} {ef : Bool} (h : Lx w b s sb sr eb er ef) (i : Nat) :
    w.cell? ⟨b, i, none⟩ = (#[Value.nilFunc, .string s, .pointer none, .pointer none, .int .i64 sb, .int .i64 sr, .int .i64 eb, .int .i64 er, .bool ef, .bool false] : Array Value)[i]? := cell_of_row w b i _ 44 (0, 0) h
theorem Lx.frozen {w : World} {b : Nat} {s : ByteArray} {sb sr eb er : Int} {ef : Bool} (h : Lx w b s sb sr eb er ef) (i : Nat) : w.frozen? ⟨b, i, none⟩ = false := by
  unfold Lx at h
  simp [World.frozen?, h]
theorem Lx.below {w w' : World} {b : Nat} {s : ByteArray} {sb sr eb er : Int} {ef : Bool} (h : Lx w b s sb sr eb er ef) (hb : Below w.heap.size w w') : Lx w' b s sb sr eb er ef := (hb.block b h.lt).trans h

/-- file.Source.String. -/
theorem string_any (s : ByteArray) (w : World) : Calls Tryd.prog 37 #[.agg #[.string s]] w fun e w' => e = .returned (.string s) ∧ Below w.heap.size w w' := by
  go_enter Tryd.func37, Tryd.ntmps37
  go_wp2
  go_ret
  exact ⟨rfl, (Below.refl _ _).alloc (Nat.le_refl _) _⟩

/-- lexer.ZZnewLexer. -/
theorem new_any (s : ByteArray) (w : World) : Calls Tryd.prog 12 #[.string s] w fun e w' => ∃ b, e = .returned (.pointer (some ⟨b, 0, none⟩)) ∧ w.heap.size ≤ b ∧ Lx w' b s 0 0 0 0 false ∧ Below w.heap.size w w' := by
  go_enter Tryd.func12, Tryd.ntmps12
  go_wp2
  go_ret
  refine ⟨w.heap.size + 1, rfl, by omega, ?_, ((Below.refl _ _).alloc (Nat.le_refl _) _).alloc (by simp) _⟩
  have h := heap_alloc_new (w.alloc (.cells #[.string s] 36)) (.cells #[.nilFunc, .string s, .pointer none, .pointer none, .int .i64 0, .int .i64 0, .int .i64 0, .int .i64 0, .bool false, .bool false] 44)
  simpa [Lx] using h

theorem cell_below {w w' : World} (hb : Below w.heap.size w w') {a : Addr} {v : Value} (hc : w.cell? a = some v) : w'.cell? a = some v := (hb.cell (World.block_lt_of_cell? w a hc)).trans hc
theorem keep2 {w w' : World} {a1 a2 : Addr} {v1 v2 : Value} (hb : Below w.heap.size w w') (h1 : w.cell? a1 = some v1) (h2 : w.cell? a2 = some v2) : w'.cell? a1 = some v1 ∧ w'.cell? a2 = some v2 :=
  ⟨cell_below hb h1, cell_below hb h2⟩

theorem keep3 {w0 w w' : World} {a1 a2 : Addr} {v1 v2 : Value} (hb : Below w.heap.size w w') (h : w.cell? a1 = some v1 ∧ w.cell? a2 = some v2 ∧ Below w0.heap.size w0 w) : w'.cell? a1 = some v1 ∧ w'.cell? a2 = some v2 ∧ Below w0.heap.size w0 w' :=
  ⟨cell_below hb h.1, cell_below hb h.2.1, h.2.2.trans (hb.mono h.2.2.size)⟩
theorem start3 {w : World} {a1 a2 : Addr} {v1 v2 : Value} (h1 : w.cell? a1 = some v1) (h2 : w.cell? a2 = some v2) : w.drew.cell? a1 = some v1 ∧ w.drew.cell? a2 = some v2 ∧ Below w.heap.size w w.drew := ⟨h1, h2, (Below.refl _ _).drew⟩
theorem start3b {w0 w : World} {a1 a2 : Addr} {v1 v2 : Value} (h : w.cell? a1 = some v1 ∧ w.cell? a2 = some v2 ∧ Below w0.heap.size w0 w) : w.drew.cell? a1 = some v1 ∧ w.drew.cell? a2 = some v2 ∧ Below w0.heap.size w0 w.drew := ⟨h.1, h.2.1, h.2.2.drew⟩

theorem decodeGo_at (s : ByteArray) (k : Nat) (h : k < s.size) : decodeGo (s.extract k s.size) = Utf8.decode s k := by
  unfold decodeGo
  rw [if_neg (by simp; omega), ← decodeL_drop (s.extract k s.size) 0, ← decodeL_drop s k, List.drop_zero]
  congr 1
  simp [ByteArray.data_extract]
  rw [List.take_of_length_le (by rw [List.length_drop, Lib.size_eq]; omega)]

/-- Lexer.peek, before the end. -/
theorem peek_in (w : World) (b : Nat) (s : ByteArray) (sb sr er : Int) (eb : Nat) (ef : Bool) (h : Lx w b s sb sr eb er ef) (hlt : eb < s.size) (hs : s.size ≤ 1048576) (hU : TU w) :
    Calls Tryd.prog 32 #[.pointer (some ⟨b, 0, none⟩)] w fun e w' => e = .returned (.int .i32 (Utf8.decode s eb).1) ∧ Below w.heap.size w w' := by
  have c1 := h.cell 1
  have c6 := h.cell 6
  simp at c1 c6
  have hlt' : (eb : Int) < (s.size : Int) := by omega
  have hd := decodeGo_at s eb hlt
  have HD := fun w hU => hide (Any.utf8_DecodeRuneInString Tryd.lays197 (s.extract eb s.size) w hU)
  rw [hd] at HD
  obtain ⟨R, hR⟩ : ∃ R, (Utf8.decode s eb).1 = R := ⟨_, rfl⟩
  obtain ⟨K, hK⟩ : ∃ K, (Utf8.decode s eb).2 = K := ⟨_, rfl⟩
  rw [hR, hK] at HD
  rw [hR]
  have h0 : (0 : Int) ≤ (eb : Int) := by omega
  have hle : (eb : Int) ≤ (s.size : Int) := by omega
  clear hd hR hK
  go_enter Tryd.func32, Tryd.ntmps32
  go_wp2_with fail
  go_region_held3 (fun w' => w'.cell? ⟨b, 1, none⟩ = some (.string s) ∧ w'.cell? ⟨b, 6, none⟩ = some (.int .i64 eb) ∧ Below w.heap.size w w') (first | exact start3 c1 c6 | exact keep3 (by assumption) (by assumption) | exact start3b (by assumption))
    (first | (go_at_call 37; refine (string_any s _).mono ?_; rintro e w' ⟨rfl, hb⟩))
  go_wp2_with fail
  go_region_held3 (fun w' => w'.cell? ⟨b, 1, none⟩ = some (.string s) ∧ w'.cell? ⟨b, 6, none⟩ = some (.int .i64 eb) ∧ Below w.heap.size w w') (first | exact keep3 (by assumption) (by assumption) | exact start3b (by assumption) | exact start3 (by assumption) (by assumption))
    (first | (go_at_call 37; refine (string_any s _).mono ?_; rintro e w' ⟨rfl, hb⟩) | (go_at_call 38; refine (HD _ (hU.below (And.right (And.right (by assumption))))).out.mono ?_; rintro e w' ⟨rfl, hb⟩))
  go_wp2
  go_ret
  exact ⟨rfl, And.right (And.right (by assumption))⟩

/-- Lexer.peek, at the end. -/
theorem peek_end (w : World) (b : Nat) (s : ByteArray) (sb sr er : Int) (eb : Nat) (ef : Bool) (h : Lx w b s sb sr eb er ef) (hge : s.size ≤ eb) (hs : s.size ≤ 1048576) :
    Calls Tryd.prog 32 #[.pointer (some ⟨b, 0, none⟩)] w fun e w' => e = .returned (.int .i32 (-1)) ∧ Below w.heap.size w w' := by
  have c1 := h.cell 1
  have c6 := h.cell 6
  simp at c1 c6
  have hge' : (s.size : Int) ≤ (eb : Int) := by omega
  clear hge
  go_enter Tryd.func32, Tryd.ntmps32
  go_wp2_with fail
  go_region_held3 (fun w' => w'.cell? ⟨b, 1, none⟩ = some (.string s) ∧ w'.cell? ⟨b, 6, none⟩ = some (.int .i64 eb) ∧ Below w.heap.size w w') (first | exact start3 c1 c6 | exact keep3 (by assumption) (by assumption) | exact start3b (by assumption))
    (first | (go_at_call 37; refine (string_any s _).mono ?_; rintro e w' ⟨rfl, hb⟩))
  go_wp2
  go_ret
  exact ⟨rfl, And.right (And.right (by assumption))⟩

/-! ### stores into the lexer's own block -/
theorem only_of_below {a w : World} (h : Below a.heap.size a w) (row : Option Nat) : a.grownBy w row := ⟨h.os, h.tape, h.output, h.size, fun i hi _ => h.block i hi⟩
theorem only_setCell {a w : World} {g : Nat} (h : a.grownBy w (some g)) (k : Nat) (u : Value) : a.grownBy (w.setCell ⟨g, k, none⟩ u) (some g) :=
  ⟨h.os, h.tape, h.output, by simpa [World.setCell] using h.size, fun i hi hne => (Below.heap_setCell w ⟨g, k, none⟩ u i (by
    rintro rfl
    exact hne rfl)).trans (h.block i hi hne)⟩
theorem blk_set {w : World} {g : Nat} {t : TypeId} {cs : Array Value} (h : w.heap[g]? = some (.cells cs t (0, 0))) (i : Nat) (u : Value) : (w.setCell ⟨g, i, none⟩ u).heap[g]? = some (.cells (cs.setIfInBounds i u) t (0, 0)) := by
  simp [World.setCell, Array.getElem?_modify, h]
theorem Lx.set6 {w : World} {b : Nat} {s : ByteArray} {sb sr eb er : Int} {ef : Bool} (h : Lx w b s sb sr eb er ef) (n : Int) : Lx (w.setCell ⟨b, 6, none⟩ (.int .i64 n)) b s sb sr n er ef := by
  have := blk_set h 6 (.int .i64 n)
  simpa [Lx] using this
theorem Lx.set7 {w : World} {b : Nat} {s : ByteArray} {sb sr eb er : Int} {ef : Bool} (h : Lx w b s sb sr eb er ef) (n : Int) : Lx (w.setCell ⟨b, 7, none⟩ (.int .i64 n)) b s sb sr eb n ef := by
  have := blk_set h 7 (.int .i64 n)
  simpa [Lx] using this
theorem Lx.set8 {w : World} {b : Nat} {s : ByteArray} {sb sr eb er : Int} {ef : Bool} (h : Lx w b s sb sr eb er ef) (n : Bool) : Lx (w.setCell ⟨b, 8, none⟩ (.bool n)) b s sb sr eb er n := by
  have := blk_set h 8 (.bool n)
  simpa [Lx] using this

/-- Lexer.next, at the end. -/
theorem next_end (w : World) (b : Nat) (s : ByteArray) (sb sr er : Int) (eb : Nat) (ef : Bool) (h : Lx w b s sb sr eb er ef) (hge : s.size ≤ eb) (hs : s.size ≤ 1048576) :
    Calls Tryd.prog 33 #[.pointer (some ⟨b, 0, none⟩)] w fun e w' => e = .returned (.int .i32 (-1)) ∧ Lx w' b s sb sr eb er true ∧ w.grownBy w' (some b) := by
  have c1 := h.cell 1
  have c6 := h.cell 6
  simp at c1 c6
  have hge' : (s.size : Int) ≤ (eb : Int) := by omega
  have hh := hide h
  clear hge h
  go_enter Tryd.func33, Tryd.ntmps33
  go_wp2_with fail
  go_region_held3 (fun w' => w'.cell? ⟨b, 1, none⟩ = some (.string s) ∧ w'.cell? ⟨b, 6, none⟩ = some (.int .i64 eb) ∧ Below w.heap.size w w') (first | exact start3 c1 c6 | exact keep3 (by assumption) (by assumption) | exact start3b (by assumption))
    (first | (go_at_call 37; refine (string_any s _).mono ?_; rintro e w' ⟨rfl, hb⟩))
  rename_i w3 hb3 hS
  obtain ⟨k1, k6, hbb⟩ := hS
  have h3 := hide (hh.out.below hbb)
  have c8 := h3.out.cell 8
  have f8 := h3.out.frozen 8
  simp at c8
  go_wp2
  go_ret
  exact ⟨rfl, h3.out.set8 true, only_setCell (only_of_below hbb _) 8 _⟩

/-- Lexer.next, before the end. -/
theorem next_in (w : World) (b : Nat) (s : ByteArray) (sb sr : Int) (eb er : Nat) (ef : Bool) (h : Lx w b s sb sr eb er ef) (hlt : eb < s.size) (hs : s.size ≤ 1048576) (her : er ≤ 1048576) (hU : TU w) :
    Calls Tryd.prog 33 #[.pointer (some ⟨b, 0, none⟩)] w fun e w' => e = .returned (.int .i32 (Utf8.decode s eb).1) ∧ Lx w' b s sb sr ((eb + (Utf8.decode s eb).2 : Nat) : Int) ((er + 1 : Nat) : Int) ef ∧ w.grownBy w' (some b) := by
  have c1 := h.cell 1
  have c6 := h.cell 6
  simp at c1 c6
  have hlt' : (eb : Int) < (s.size : Int) := by omega
  have hd := decodeGo_at s eb hlt
  have HD := fun w hU => hide (Any.utf8_DecodeRuneInString Tryd.lays197 (s.extract eb s.size) w hU)
  rw [hd] at HD
  have hK4 : (Utf8.decode s eb).2 ≤ s.size := by
    rw [← decodeL_drop]
    have := decodeL_le (s.data.toList.drop eb) (fun e => by have h := congrArg List.length e; rw [List.length_drop, ← Lib.size_eq] at h; simp at h; omega)
    rw [List.length_drop, ← Lib.size_eq] at this
    omega
  obtain ⟨R, hR⟩ : ∃ R, (Utf8.decode s eb).1 = R := ⟨_, rfl⟩
  obtain ⟨K, hK⟩ : ∃ K, (Utf8.decode s eb).2 = K := ⟨_, rfl⟩
  rw [hR, hK] at HD
  rw [hK] at hK4
  rw [hR, hK]
  have h0 : (0 : Int) ≤ (eb : Int) := by omega
  have hle : (eb : Int) ≤ (s.size : Int) := by omega
  have hh := hide h
  have heq := hide (show ((eb + K : Nat) : Int) = (eb : Int) + (K : Int) ∧ ((er + 1 : Nat) : Int) = (er : Int) + 1 from ⟨by omega, by omega⟩)
  clear hd hR hK h
  go_enter Tryd.func33, Tryd.ntmps33
  go_wp2_with fail
  go_region_held3 (fun w' => w'.cell? ⟨b, 1, none⟩ = some (.string s) ∧ w'.cell? ⟨b, 6, none⟩ = some (.int .i64 eb) ∧ Below w.heap.size w w') (first | exact start3 c1 c6 | exact keep3 (by assumption) (by assumption) | exact start3b (by assumption))
    (first | (go_at_call 37; refine (string_any s _).mono ?_; rintro e w' ⟨rfl, hb⟩))
  go_wp2_with fail
  go_region_held3 (fun w' => w'.cell? ⟨b, 1, none⟩ = some (.string s) ∧ w'.cell? ⟨b, 6, none⟩ = some (.int .i64 eb) ∧ Below w.heap.size w w') (first | exact keep3 (by assumption) (by assumption) | exact start3b (by assumption) | exact start3 (by assumption) (by assumption))
    (first | (go_at_call 37; refine (string_any s _).mono ?_; rintro e w' ⟨rfl, hb⟩) | (go_at_call 38; refine (HD _ (hU.below (And.right (And.right (by assumption))))).out.mono ?_; rintro e w' ⟨rfl, hb⟩))
  rename_i w3 hb3 hS
  obtain ⟨k1, k6, hbb⟩ := hS
  have h3 := hide (hh.out.below hbb)
  have c7 := h3.out.cell 7
  have f6 := h3.out.frozen 6
  have f7 := h3.out.frozen 7
  simp at c7
  go_wp2
  go_ret
  refine ⟨rfl, ?_, only_setCell (only_setCell (only_of_below hbb _) 7 _) 6 _⟩
  rw [heq.out.1, heq.out.2]
  exact (h3.out.set7 _).set6 _
end Go.Proofs.YtklkbalbmeefjaaDoor
