/-
  The law's own copy of a row of runes by contract. No condition beyond the bounds.
-/
import Derived.Test.YtncoodplmpgnbaaFmtGrC
namespace Go.Proofs.YtncoodplmpgnbaaFmt
open Go.RowKit Go.Lib Go.Shelf Go.Proofs
set_option linter.unusedVariables false
set_option linter.unusedSimpArgs false

theorem info21 : (Tryf.prog.info? 21).map (fun i => (i.zero, i.size, i.bytes)) = some (some (.int .i32 0), 1, 4) := by kernel_rfl
def cells32 (l : List Int) : List Value := l.map fun x => Value.int .i32 x
theorem made32 (n : Nat) : (madeCells (Value.int .i32 0).cells (n * 1)).toList = List.replicate n (Value.int .i32 0) := by
  apply List.ext_getElem?
  intro i
  by_cases h : i < n
  · simp [madeCells, Value.cells, h, Nat.mod_one]
  · simp [madeCells, Value.cells, h]
/-- A row of runes half filled. -/
structure Fill32 (l : List Int) (n i g base : Nat) (w wr : World) : Prop where
  len : l.length = i
  le : i ≤ n
  own : wr.ownsRow base 21 1 (.slice (some ⟨g, 0, none⟩) n n) n (cells32 l ++ List.replicate (n - i) (Value.int .i32 0))
  bel : Below base w wr
theorem cells32_length (l : List Int) : (cells32 l).length = l.length := by simp [cells32]
theorem Fill32.facts {l : List Int} {n i g base : Nat} {w wr : World} (h : Fill32 l n i g base w wr) (hi : i < n) : wr.cell? ⟨g, i, none⟩ = some (.int .i32 0) ∧ wr.frozen? ⟨g, i, none⟩ = false := by
  refine ⟨?_, h.own.frozenAt i⟩
  rw [h.own.cellAt i (by omega), List.getElem?_append_right (by rw [cells32_length, h.len]; exact Nat.le_refl _), cells32_length, h.len, Nat.sub_self, show n - i = (n - i - 1) + 1 by omega, List.replicate_succ]
  rfl
theorem Fill32.put {l : List Int} {n i g base : Nat} {w wr : World} (h : Fill32 l n i g base w wr) (hi : i < n) (x : Int) (hg : base ≤ g) (hb : base ≤ wr.heap.size) : Fill32 (l ++ [x]) n (i + 1) g base w (wr.setCell ⟨g, i, none⟩ (.int .i32 x)) := by
  have hst := h.own.stored i (.int .i32 x)
  refine ⟨by rw [List.length_append, h.len]; rfl, hi, ?_, h.bel.grown hst.2 hb (fun k hk => by cases hk; exact hg)⟩
  have h1 := hst.1
  have e := set_next (cells32 l) (n - (i + 1)) (.int .i32 x) (.int .i32 0)
  rw [cells32_length, h.len, show n - (i + 1) + 1 = n - i by omega] at e
  rw [e] at h1
  rw [show cells32 (l ++ [x]) = cells32 l ++ [.int .i32 x] by simp [cells32]]
  exact h1
/-- Runes that lie from an address on. -/
def Src32 (w : World) (x : Addr) (rs : List Int) : Prop := ∀ (i : Nat) (h : i < rs.length), w.cell? (x.add i) = some (.int .i32 rs[i])
theorem Src32.below {w w' : World} {x : Addr} {rs : List Int} (h : Src32 w x rs) (hb : Below w.heap.size w w') : Src32 w' x rs := fun i hi => by
  have h1 := h i hi
  have hlt : (x.add i).block < w.heap.size := by
    rcases Nat.lt_or_ge (x.add i).block w.heap.size with h2 | h2
    · exact h2
    · exfalso
      unfold World.cell? at h1
      simp [h2] at h1
  rw [World.cell?_of_block (hb.block _ hlt)]
  exact h1
theorem IsRow.src32 {w : World} {x : Addr} {len cap : Nat} {zs : List Int} (h : IsRow .i32 w (some x) len cap zs) : (zs.take len).length = len ∧ Src32 w x (zs.take len) := by
  rcases h with ⟨h, _⟩ | ⟨x', h, hl, hm, hz, hc, hw⟩
  · cases h
  · cases h
    refine ⟨by simp; omega, fun i hi => ?_⟩
    have hi' : i < len := by simp at hi; omega
    have hiz : i < zs.length := by omega
    rw [hc i hiz]
    simp [List.getD, hiz]
/-- The copy: all its own. -/
def Own32 (base : Nat) (v : Value) (rs : List Int) (w : World) : Prop := w.ownsRow base 21 1 v rs.length (cells32 rs)
set_option maxRecDepth 20000 in
set_option maxHeartbeats 2000000 in
theorem clone32_any (x : Addr) (len cap : Nat) (rs : List Int) (w : World) (hy : rs.length = len) (hsrc : Src32 w x rs) (hn : len ≤ 1048576) :
    Calls Tryf.prog 15 #[.slice (some x) len cap] w fun e w' => ∃ v', e = .returned v' ∧ Own32 w.heap.size v' rs w' ∧ Below w.heap.size w w' := by
  have hs' : (len : Int) ≤ 1048576 := by omega
  have hn0 : (0 : Int) ≤ (len : Int) := by omega
  obtain ⟨i0, hi, hz0, hz1, hz2⟩ := info_parts info21
  have hsh := hide hn
  have hsrch := hide hsrc
  have he : (binOp .eql 32 (.slice (some x) len cap) (.slice none 0 0)).run Tryf.prog w = .ok (.bool false) w := run_eql_slice_nil w 32 21 (some x) len cap 0 0 Tryf.underlying32
  clear hn hsrc
  go_enter Tryf.func15, Tryf.ntmps15
  go_wp2_with (at_make; refine wpList_make_full _ rfl _ _ 32 rfl w.heap.size 21 i0 (.int .i32 0) 1 Tryf.underlying32 hi hz0 hz1 .i64 .i64 _ _ len rfl rfl rfl rfl (by rw [hz2]; have := hsh.out; omega) (by have := hsh.out; unfold maxLen; omega) (Nat.le_refl _) ?_; intro w2 hown2 hg2)
  have hF := hide (show Fill32 [] len 0 w.heap.size w.heap.size w w2 from ⟨rfl, Nat.zero_le _, by rw [made32] at hown2; simpa [cells32] using hown2, (Below.refl _ _).grown hg2 (Nat.le_refl _) (fun k hk => by cases hk)⟩)
  clear hown2 hg2
  go_loopw [4] (fun iv wr => ∃ i : Nat, iv = .int .i64 i ∧ i ≤ len ∧ Hid (Fill32 (rs.take i) len i w.heap.size w.heap.size w wr)) (fun iv _ => len - (RowKit.intOf iv).toNat)
  case atStart => exact ⟨0, rfl, by omega, by rw [List.take_zero]; exact hF⟩
  case round =>
    clear hF
    obtain ⟨i, rfl, hi2, hF⟩ := hrel
    have hi0 : (0 : Int) ≤ (i : Int) := by omega
    have hbs := hF.out.bel.size
    by_cases h : i < len
    · have h' : (i : Int) < (len : Int) := by omega
      obtain ⟨hc, hf⟩ := hF.out.facts h
      have hcs := hsrch.out.below hF.out.bel i (by omega)
      have hp := hide (hF.out.put h (rs[i]'(by omega)) (Nat.le_refl _) hbs)
      rw [← List.take_succ_eq_append_getElem (by omega)] at hp
      generalize (rs[i]'(by omega)) = z at *
      go_wp2
      go_roundw
      case rel => exact ⟨i + 1, by go_num, by omega, hp⟩
      case measure => simp [RowKit.intOf]; omega
    · obtain rfl : i = len := by omega
      have hFh := hide hF
      clear hF
      go_wp2
      go_ret
      refine ⟨_, rfl, ?_, hFh.out.out.bel⟩
      have ho := hFh.out.out.own
      rw [List.take_of_length_le (by omega), Nat.sub_self, List.replicate_zero, List.append_nil] at ho
      unfold Own32
      rw [hy]
      exact ho
theorem clone32_nil (w : World) : Calls Tryf.prog 15 #[.slice none 0 0] w fun e w' => ∃ v', e = .returned v' ∧ Own32 w.heap.size v' [] w' ∧ Below w.heap.size w w' := by
  have he : (binOp .eql 32 (.slice none 0 0) (.slice none 0 0)).run Tryf.prog w = .ok (.bool true) w := run_eql_slice_nil w 32 21 none 0 0 0 0 Tryf.underlying32
  go_enter Tryf.func15, Tryf.ntmps15
  go_wp2
  go_ret
  exact ⟨_, rfl, World.ownsRow_nil _ _ _ _, Below.refl _ _⟩
theorem zz14_yes (a : Option Addr) (n c : Nat) (b : Option Addr) (len cap : Nat) (q : Int) (W : World) (h : n + len ≤ 1048576) : Calls Tryf.prog 14 #[.slice a n c, .slice b len cap, .int .u8 q] W fun e w' => e = .returned (.bool true) ∧ W = w' := by
  have h' : (n : Int) + (len : Int) ≤ 1048576 := by omega
  have h_0 : (n : Int) ≤ 1048576 := by omega
  have h_1 : (len : Int) ≤ 1048576 := by omega
  clear h
  go_enter Tryf.func14, Tryf.ntmps14
  go_wp2
  go_ret
  exact ⟨rfl, rfl⟩
set_option maxRecDepth 20000 in
theorem zz14_no (a : Option Addr) (n c : Nat) (b : Option Addr) (len cap : Nat) (q : Int) (W : World) (h : 1048576 < n + len) (hm : n ≤ maxLen ∧ len ≤ maxLen) : Calls Tryf.prog 14 #[.slice a n c, .slice b len cap, .int .u8 q] W fun e w' => e = .returned (.bool false) ∧ W = w' := by
  have h' : 1048576 < (n : Int) + (len : Int) := by omega
  have n_0 : (n : Int) ≤ 9223372036854775807 := by unfold maxLen at hm; omega
  have n_1 : (len : Int) ≤ 9223372036854775807 := by unfold maxLen at hm; omega
  clear h hm
  go_enter Tryf.func14, Tryf.ntmps14
  go_wp2
  all_goals (first | (go_ret; exact ⟨rfl, rfl⟩) | (exfalso; omega))
end Go.Proofs.YtncoodplmpgnbaaFmt
