/-
  The law's own copy of a row of bytes, and its choice of a style, by contract. No condition beyond the bounds.
-/
import Derived.Test.YtncoodplmpgnbaaFmtGrA
import Derived.Below
import Derived.Lib.SliceRun
namespace Go.Proofs.YtncoodplmpgnbaaFmt
open Go.RowKit Go.Lib Go.Shelf Go.Proofs
set_option linter.unusedVariables false
set_option linter.unusedSimpArgs false

theorem set_next (l : List Value) (k : Nat) (x z : Value) : (l ++ List.replicate (k + 1) z).set l.length x = (l ++ [x]) ++ List.replicate k z := by
  rw [List.set_append_right _ _ (Nat.le_refl _)]
  simp [List.replicate_succ]
theorem made1 (n : Nat) : (madeCells (Value.int .u8 0).cells (n * 1)).toList = List.replicate n (Value.int .u8 0) := by
  apply List.ext_getElem?
  intro i
  by_cases h : i < n
  · simp [madeCells, Value.cells, h, Nat.mod_one]
  · simp [madeCells, Value.cells, h]
/-- A row half filled. -/
structure Fill (l : List UInt8) (n i g base : Nat) (w wr : World) : Prop where
  len : l.length = i
  le : i ≤ n
  own : wr.ownsRow base 5 1 (.slice (some ⟨g, 0, none⟩) n n) n (byteCells l ++ List.replicate (n - i) (Value.int .u8 0))
  bel : Below base w wr
theorem Fill.facts {l : List UInt8} {n i g base : Nat} {w wr : World} (h : Fill l n i g base w wr) (hi : i < n) : wr.cell? ⟨g, i, none⟩ = some (.int .u8 0) ∧ wr.frozen? ⟨g, i, none⟩ = false := by
  refine ⟨?_, h.own.frozenAt i⟩
  rw [h.own.cellAt i (by omega), List.getElem?_append_right (by rw [byteCells_length, h.len]; exact Nat.le_refl _), byteCells_length, h.len, Nat.sub_self, show n - i = (n - i - 1) + 1 by omega, List.replicate_succ]
  rfl
theorem Fill.put {l : List UInt8} {n i g base : Nat} {w wr : World} (h : Fill l n i g base w wr) (hi : i < n) (x : UInt8) (hg : base ≤ g) (v : Value) (hv : v = .int .u8 (x.toNat : Int)) (hb : base ≤ wr.heap.size) : Fill (l ++ [x]) n (i + 1) g base w (wr.setCell ⟨g, i, none⟩ v) := by
  subst hv
  have hst := h.own.stored i (.int .u8 (x.toNat : Int))
  refine ⟨by rw [List.length_append, h.len]; rfl, hi, ?_, h.bel.grown hst.2 hb (fun k hk => by cases hk; exact hg)⟩
  have h1 := hst.1
  have e := set_next (byteCells l) (n - (i + 1)) (.int .u8 (x.toNat : Int)) (.int .u8 0)
  rw [byteCells_length, h.len, show n - (i + 1) + 1 = n - i by omega] at e
  rw [e] at h1
  rw [byteCells_append]
  exact h1
/-- A row of numbers as a caller hands it in: the empty one, or cells. -/
def IsRow (k : IntKind) (w : World) (a : Option Addr) (len cap : Nat) (zs : List Int) : Prop :=
  (a = none ∧ len = 0 ∧ cap = 0 ∧ zs = []) ∨ ∃ x, a = some x ∧ len ≤ cap ∧ cap ≤ maxLen ∧ zs.length = cap ∧ (∀ i, i < zs.length → w.cell? (x.add i) = some (.int k (zs.getD i 0))) ∧ ∀ n ∈ zs, (Lit.int k n).wf = true
/-- Bytes that lie from an address on. -/
def Src8 (w : World) (x : Addr) (ys : List UInt8) : Prop := ∀ (i : Nat) (h : i < ys.length), w.cell? (x.add i) = some (.int .u8 (ys[i].toNat : Int))
theorem Src8.below {w w' : World} {x : Addr} {ys : List UInt8} (h : Src8 w x ys) (hb : Below w.heap.size w w') : Src8 w' x ys := fun i hi => by
  have h1 := h i hi
  have hlt : (x.add i).block < w.heap.size := by
    rcases Nat.lt_or_ge (x.add i).block w.heap.size with h2 | h2
    · exact h2
    · exfalso
      unfold World.cell? at h1
      simp [h2] at h1
  rw [World.cell?_of_block (hb.block _ hlt)]
  exact h1
theorem IsRow.src {w : World} {x : Addr} {len cap : Nat} {zs : List Int} (h : IsRow .u8 w (some x) len cap zs) : ∃ ys : List UInt8, ys.length = len ∧ Src8 w x ys := by
  rcases h with ⟨h, _⟩ | ⟨x', h, hl, hm, hz, hc, hw⟩
  · cases h
  · cases h
    refine ⟨(zs.take len).map (fun z => z.toNat.toUInt8), by simp; omega, fun i hi => ?_⟩
    have hi' : i < len := by simp at hi; omega
    have hiz : i < zs.length := by omega
    rw [hc i hiz]
    have hb : 0 ≤ zs[i] ∧ zs[i] ≤ 255 := by
      have := hw zs[i] (List.getElem_mem hiz)
      simpa [Lit.wf, IntKind.min, IntKind.max, IntKind.signed, IntKind.bits] using this
    simp [List.getD, hiz]
    omega
set_option maxRecDepth 20000 in
set_option maxHeartbeats 2000000 in
theorem clone8_any (a : Option Addr) (len cap : Nat) (zs : List Int) (w : World) (hr : IsRow .u8 w a len cap zs) (hn : len ≤ 1048576) :
    Calls Tryf.prog 11 #[.slice a len cap] w fun e w' => ∃ ys : List UInt8, ys.length = len ∧ (∃ v', e = .returned v' ∧ Own w.heap.size v' ys w' ∧ Below w.heap.size w w') := by
  cases a with
  | none =>
    have h0 : len = 0 ∧ cap = 0 := by
      rcases hr with ⟨_, h1, h2, _⟩ | ⟨x, h, _⟩
      · exact ⟨h1, h2⟩
      · cases h
    obtain ⟨rfl, rfl⟩ := h0
    clear hr
    have he : (binOp .eql 27 (.slice none 0 0) (.slice none 0 0)).run Tryf.prog w = .ok (.bool true) w := run_eql_slice_nil w 27 5 none 0 0 0 0 Tryf.underlying27
    go_enter Tryf.func11, Tryf.ntmps11
    go_wp2
    go_ret
    exact ⟨[], rfl, _, rfl, World.ownsRow_nil _ _ _ _, Below.refl _ _⟩
  | some x =>
    obtain ⟨ys, hy, hsrc⟩ := hr.src
    clear hr
    have hs' : (len : Int) ≤ 1048576 := by omega
    have hn0 : (0 : Int) ≤ (len : Int) := by omega
    obtain ⟨i0, hi, hz0, hz1, hz2⟩ := info_parts info5
    have hsh := hide hn
    have hsrch := hide hsrc
    have he : (binOp .eql 27 (.slice (some x) len cap) (.slice none 0 0)).run Tryf.prog w = .ok (.bool false) w := run_eql_slice_nil w 27 5 (some x) len cap 0 0 Tryf.underlying27
    clear hn hsrc
    go_enter Tryf.func11, Tryf.ntmps11
    go_wp2_with (at_make; refine wpList_make_full _ rfl _ _ 27 rfl w.heap.size 5 i0 (.int .u8 0) 1 Tryf.underlying27 hi hz0 hz1 .i64 .i64 _ _ len rfl rfl rfl rfl (by rw [hz2]; have := hsh.out; omega) (by have := hsh.out; unfold maxLen; omega) (Nat.le_refl _) ?_; intro w2 hown2 hg2)
    have hF := hide (show Fill [] len 0 w.heap.size w.heap.size w w2 from ⟨rfl, Nat.zero_le _, by rw [made1] at hown2; simpa [byteCells] using hown2, (Below.refl _ _).grown hg2 (Nat.le_refl _) (fun k hk => by cases hk)⟩)
    clear hown2 hg2
    go_loopw [4] (fun iv wr => ∃ i : Nat, iv = .int .i64 i ∧ i ≤ len ∧ Hid (Fill (ys.take i) len i w.heap.size w.heap.size w wr)) (fun iv _ => len - (RowKit.intOf iv).toNat)
    case atStart => exact ⟨0, rfl, by omega, by rw [List.take_zero]; exact hF⟩
    case round =>
      clear hF
      obtain ⟨i, rfl, hi2, hF⟩ := hrel
      have hi0 : (0 : Int) ≤ (i : Int) := by omega
      have hbs := hF.out.bel.size
      by_cases h : i < len
      · have h' : (i : Int) < (len : Int) := by omega
        obtain ⟨hc, hf⟩ := hF.out.facts h
        have hcs := hsrch.out.below hF.out.bel i (by omega)
        have hp := hide (hF.out.put h (ys[i]'(by omega)) (Nat.le_refl _) (.int .u8 ((ys[i]'(by omega)).toNat : Int)) rfl hbs)
        rw [← List.take_succ_eq_append_getElem (by omega)] at hp
        generalize ((ys[i]'(by omega)).toNat : Int) = z at *
        go_wp2
        go_roundw
        case rel => exact ⟨i + 1, by go_num, by omega, hp⟩
        case measure => simp [RowKit.intOf]; omega
      · obtain rfl : i = len := by omega
        have hFh := hide hF
        clear hF
        go_wp2
        go_ret
        refine ⟨ys, hy, _, rfl, ?_, hFh.out.out.bel⟩
        have ho := hFh.out.out.own
        rw [List.take_of_length_le (by omega), Nat.sub_self, List.replicate_zero, List.append_nil] at ho
        unfold Own
        rw [hy]
        exact ho
set_option maxRecDepth 20000 in
theorem spellAt_any (base : Nat) (v : Value) (ys : List UInt8) (i st : Nat) (w : World) (own : Own base v ys w) (hi : i ≤ 65536) (hst : st ≤ 255) (hys : ys.length ≤ 1048576) :
    Calls Tryf.prog 13 #[v, .int .i64 (i : Int), .int .u8 (st : Int)] w fun e w' => (∃ b : Nat, b ≤ 255 ∧ e = .returned (.int .u8 (b : Int))) ∧ w = w' := by
  have hi' : (i : Int) ≤ 65536 := by omega
  have hi0 : (0 : Int) ≤ (i : Int) := by omega
  have hs' : (st : Int) ≤ 255 := by omega
  have hs0 : (0 : Int) ≤ (st : Int) := by omega
  have key : ∀ z : Int, 0 ≤ z → z ≤ 255 → ∃ b : Nat, b ≤ 255 ∧ (Ending.returned (.int .u8 z)) = .returned (.int .u8 (b : Int)) := fun z h0 h1 => ⟨z.toNat, by omega, by rw [Int.toNat_of_nonneg h0]⟩
  rcases own.2 with ⟨rfl, h0⟩ | ⟨g, cap, cur, rfl, hb, hg, hc, hm, hsz, ht⟩
  · clear own
    go_enter Tryf.func13, Tryf.ntmps13
    go_wp2
    go_ret
    refine ⟨key _ ?_ ?_, rfl⟩
    · first | omega | (simp only [IntKind.wrap_u8]; omega)
    · first | omega | (simp only [IntKind.wrap_u8]; omega)
  · by_cases h0 : ys.length = 0
    · have h0' : (ys.length : Int) = 0 := by omega
      clear own hg ht
      go_enter Tryf.func13, Tryf.ntmps13
      go_wp2
      go_ret
      refine ⟨key _ ?_ ?_, rfl⟩
      · first | omega | (simp only [IntKind.wrap_u8]; omega)
      · first | omega | (simp only [IntKind.wrap_u8]; omega)
    · have hlt := Nat.mod_lt i (show 0 < ys.length by omega)
      have hcell := own.cellAt (i % ys.length) (by omega)
      have hget : (byteCells ys)[i % ys.length]? = some (.int .u8 ((ys[i % ys.length]).toNat : Int)) := by simp [byteCells, hlt]
      rw [hget] at hcell
      have hz0 : (0 : Int) ≤ ((ys[i % ys.length]).toNat : Int) := by omega
      have hz1 : ((ys[i % ys.length]).toNat : Int) ≤ 255 := by have := (ys[i % ys.length]).toNat_lt; omega
      generalize ((ys[i % ys.length]).toNat : Int) = z at *
      have hrem : (i : Int).tmod (ys.length : Int) = ((i % ys.length : Nat) : Int) := by rw [Int.tmod_eq_emod_of_nonneg (by omega)]; omega
      have hlt' : ((i % ys.length : Nat) : Int) < (ys.length : Int) := by omega
      have hne : ((ys.length : Int) == 0) = false := by rw [beq_eq_false_iff_ne]; omega
      have hge : (0 : Int) ≤ ((i % ys.length : Nat) : Int) := by omega
      have hlen : (ys.length : Int) ≤ 1048576 := by omega
      have hpos : (1 : Int) ≤ (ys.length : Int) := by omega
      generalize i % ys.length = r at *
      clear own hg ht hget
      generalize ys.length = n at *
      go_enter Tryf.func13, Tryf.ntmps13
      go_wp2
      go_ret
      exact ⟨key _ hz0 hz1, rfl⟩
theorem zz10_yes (s : ByteArray) (a : Option Addr) (len cap : Nat) (q : Int) (W : World) (h : s.size + len ≤ 1048576) : Calls Tryf.prog 10 #[.string s, .slice a len cap, .int .u8 q] W fun e w' => e = .returned (.bool true) ∧ W = w' := by
  have h' : (s.size : Int) + (len : Int) ≤ 1048576 := by omega
  have h_0 : (s.size : Int) ≤ 1048576 := by omega
  have h_1 : (len : Int) ≤ 1048576 := by omega
  clear h
  go_enter Tryf.func10, Tryf.ntmps10
  go_wp2
  go_ret
  exact ⟨rfl, rfl⟩
set_option maxRecDepth 20000 in
theorem zz10_no (s : ByteArray) (a : Option Addr) (len cap : Nat) (q : Int) (W : World) (h : 1048576 < s.size + len) (hm : s.size ≤ maxLen ∧ len ≤ maxLen) : Calls Tryf.prog 10 #[.string s, .slice a len cap, .int .u8 q] W fun e w' => e = .returned (.bool false) ∧ W = w' := by
  have h' : 1048576 < (s.size : Int) + (len : Int) := by omega
  have n_0 : (s.size : Int) ≤ 9223372036854775807 := by unfold maxLen at hm; omega
  have n_1 : (len : Int) ≤ 9223372036854775807 := by unfold maxLen at hm; omega
  clear h hm
  go_enter Tryf.func10, Tryf.ntmps10
  go_wp2
  all_goals (first | (go_ret; exact ⟨rfl, rfl⟩) | (exfalso; omega))
end Go.Proofs.YtncoodplmpgnbaaFmt
