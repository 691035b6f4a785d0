/-
  The module's own replaceAll of tabs by spaces, by contract; and its index of one byte. No condition beyond the bounds.
-/
import Derived.Test.YtlfgaikcdelknaaPlain
import Derived.Test.YtlfgaikcdelknaaBuilder
namespace Go.Proofs.Ytlfgaikcdelknaa
open Go.RowKit Go.Lib Go.Shelf Go.Proofs
set_option linter.unusedVariables false
set_option linter.unusedSimpArgs false

theorem info5 : (Try.prog.info? 5).map (fun i => (i.zero, i.size, i.bytes)) = some (some (.int .u8 0), 1, 1) := by kernel_rfl
set_option maxRecDepth 20000 in
set_option maxHeartbeats 1000000 in
theorem index9 (s : ByteArray) (w : World) (hs : s.size ≤ 1048576) :
    Calls Try.prog 30 #[.string s, .string ⟨#[9]⟩] w fun e w' => e = .returned (.int .i64 (indexByte s.data.toList 9)) ∧ w = w' := by
  have hs' : (s.size : Int) ≤ 1048576 := by omega
  go_enter Try.func30, Try.ntmps30
  go_wp2_with fail
  go_loopw [5] (fun iv wr => ∃ i : Nat, iv = .int .i64 i ∧ i ≤ s.size ∧ Hid (∀ k, k < i → s.data.toList[k]? ≠ some 9) ∧ w = wr) (fun iv _ => s.size + 1 - (RowKit.intOf iv).toNat)
  case atStart => exact ⟨0, rfl, by omega, hide (fun k hk => by omega), rfl⟩
  case round =>
    obtain ⟨i, rfl, hi, hno, rfl⟩ := hrel
    have hi0 : (0 : Int) ≤ (i : Int) := by omega
    by_cases h1 : i < s.size
    · have h1' : (i : Int) + 1 ≤ (s.size : Int) := by omega
      have h1n : i + 1 ≤ s.size := by omega
      have hq := one_cut s i 9 h1
      have hqh := hide hq
      clear hq
      rcases hc : ((s.extract i (i + 1)).toList == [9]) with _ | _
      · have hno2 := hide (show ∀ k, k < i + 1 → s.data.toList[k]? ≠ some 9 by
          intro k hk e
          by_cases hki : k = i
          · subst hki
            rw [(hqh.out).2 e] at hc
            cases hc
          · exact hno.out k (by omega) e)
        go_wp2
        go_roundw
        case rel => exact ⟨i + 1, by go_num, by omega, hno2, by first | rfl | trivial⟩
        case measure => simp [RowKit.intOf]; omega
      · have hres := hide (show indexByte s.data.toList 9 = (i : Int) from ib_eq ((hqh.out).1 hc) hno.out)
        go_wp2
        go_ret
        exact ⟨by rw [hres.out]; rfl, rfl⟩
    · obtain rfl : i = s.size := by omega
      have hres := hide (show indexByte s.data.toList 9 = -1 from ib_none (fun k e => by
        by_cases hk : k < s.size
        · exact hno.out k hk e
        · rw [List.getElem?_eq_none (by rw [len_data]; omega)] at e
          cases e))
      go_wp2
      go_ret
      exact ⟨by rw [hres.out]; rfl, rfl⟩
/-- What has been turned so far, and what is left. -/
structure RepAt (s : ByteArray) (p : Nat) (r : ByteArray) (ov : Value) (base : Nat) (w wr : World) : Prop where
  le : p ≤ s.size
  sv : r = s.extract p s.size
  own : wr.ownsRow base 5 1 ov p (byteCells ((tabsL s.data.toList).take p))
  bel : Below base w wr
theorem byteCells_str (s : ByteArray) : byteCells s.data.toList = strCells s := by
  simp [byteCells, strCells]
theorem rep_piece (s : ByteArray) (p i : Nat) (h : p + i ≤ s.size) (hno : ∀ k, k < i → s.data.toList[p + k]? ≠ some 9) :
    byteCells ((tabsL s.data.toList).take p) ++ strCells ((s.extract p s.size).extract 0 i) = byteCells ((tabsL s.data.toList).take (p + i)) := by
  rw [← byteCells_str, ← byteCells_append]
  congr 1
  have e : ((s.extract p s.size).extract 0 i).data.toList = (s.data.toList.drop p).take i := by
    rw [cut_data, cut_data, List.drop_zero, Nat.sub_zero, List.take_take]
    congr 1
    omega
  rw [e, List.take_add]
  congr 1
  have e2 : (tabsL s.data.toList).drop p = tabsL (s.data.toList.drop p) := by simp [tabsL]
  rw [e2]
  have e3 : (tabsL (s.data.toList.drop p)).take i = tabsL ((s.data.toList.drop p).take i) := by simp [tabsL]
  rw [e3, tabsL_none]
  intro k hk
  by_cases hki : k < i
  · rw [List.getElem?_take_of_lt hki, List.getElem?_drop] at hk
    exact hno k hki hk
  · rw [List.getElem?_eq_none (by rw [List.length_take]; omega)] at hk
    cases hk
theorem own_text {w : World} {base n : Nat} {v : Value} (l : List UInt8) (hn : l.length = n) (h : w.ownsRow base 5 1 v n (byteCells l)) :
    (convert 48 9 v).run Try.prog w = .ok (.string (bytesB l)) w := by
  obtain ⟨hlen, ⟨rfl, h0⟩ | ⟨g, cap, cur, rfl, hb, hg, hc, hm, hs, ht⟩⟩ := h
  · subst h0
    obtain rfl : l = [] := List.length_eq_zero_iff.1 hn
    rw [run_convert_bytes_string (P := Try.prog) w 48 9 5 none 0 0 Try.underlying48 Try.underlying5 Try.underlying9]
    rfl
  · subst hn
    exact run_convert_bytes_back (P := Try.prog) w 48 9 5 ⟨g, 0, none⟩ cap l Try.underlying48 Try.underlying5 Try.underlying9 (fun j hj => by
      have ha : (⟨g, 0, none⟩ : Addr).add j = ⟨g, j, none⟩ := by unfold Addr.add; split <;> simp_all
      rw [ha, World.ownsRow.cellAt ⟨hlen, .inr ⟨g, cap, cur, rfl, hb, hg, hc, hm, hs, ht⟩⟩ j (by omega)]
      simp [byteCells, hj])
theorem cut_size (s : ByteArray) (p : Nat) (h : p ≤ s.size) : (s.extract p s.size).size = s.size - p := by
  simp
theorem cut_get (s : ByteArray) (p k : Nat) : (s.extract p s.size).data.toList[k]? = s.data.toList[p + k]? := by
  rw [cut_data, List.take_of_length_le (by rw [List.length_drop, len_data]; exact Nat.le_refl _), List.getElem?_drop]
theorem tabs_nine (s : ByteArray) (p : Nat) (h : s.data.toList[p]? = some 9) : byteCells ((tabsL s.data.toList).take p) ++ strCells ⟨#[32]⟩ = byteCells ((tabsL s.data.toList).take (p + 1)) := by
  rw [← byteCells_str, ← byteCells_append]
  congr 1
  rw [List.take_add_one]
  congr 1
  simp [tabsL, h]
theorem RepAt.last {s : ByteArray} {p : Nat} {r : ByteArray} {ov : Value} {base : Nat} {w wr : World} (h : RepAt s p r ov base w wr) (hn : indexByte r.data.toList 9 = -1) {v' : Value} {w1 : World}
    (ho : w1.ownsRow base 5 1 v' (p + r.size) (byteCells ((tabsL s.data.toList).take p) ++ strCells r)) : (convert 48 9 v').run Try.prog w1 = .ok (.string (bytesB (tabsL s.data.toList))) w1 := by
  have hr : r.size = s.size - p := by rw [h.sv]; exact cut_size s p h.le
  have hle := h.le
  have e : byteCells ((tabsL s.data.toList).take p) ++ strCells r = byteCells (tabsL s.data.toList) := by
    have h1 := rep_piece s p (s.size - p) (by omega) (fun k hk e => by
      rw [← cut_get s p k, ← h.sv] at e
      exact indexByte_none hn k e)
    rw [← h.sv] at h1
    have e2 : r.extract 0 (s.size - p) = r := by
      apply ba_ext
      rw [cut_data, List.drop_zero, Nat.sub_zero, List.take_of_length_le (by rw [len_data]; omega)]
    rw [e2] at h1
    rw [h1, show p + (s.size - p) = s.size by omega, List.take_of_length_le (by rw [tabsL_length, len_data]; exact Nat.le_refl _)]
  rw [e] at ho
  exact own_text _ (by rw [tabsL_length, len_data]; omega) ho
theorem RepAt.next {s : ByteArray} {p i : Nat} {r : ByteArray} {ov : Value} {base : Nat} {w wr : World} (h : RepAt s p r ov base w wr) (hi : i < r.size) (hn : indexByte r.data.toList 9 = (i : Int)) {v1 v2 : Value} {w1 w2 : World} {row1 row2 : Option Nat}
    (hg1 : wr.grownBy w1 row1) (hr1 : ∀ k, row1 = some k → base ≤ k) (hg2 : w1.grownBy w2 row2) (hr2 : ∀ k, row2 = some k → base ≤ k) (hbs : base ≤ wr.heap.size)
    (ho : w2.ownsRow base 5 1 v2 (p + (r.extract 0 i).size + (⟨#[32]⟩ : ByteArray).size) ((byteCells ((tabsL s.data.toList).take p) ++ strCells (r.extract 0 i)) ++ strCells ⟨#[32]⟩)) : RepAt s (p + (i + 1)) (r.extract (i + 1) r.size) v2 base w w2 := by
  have hr : r.size = s.size - p := by rw [h.sv]; exact cut_size s p h.le
  have hle := h.le
  obtain ⟨a1, a2⟩ := indexByte_some hn
  have e1 : (r.extract 0 i).size = i := by simp; omega
  have h1 := rep_piece s p i (by omega) (fun k hk e => by
    rw [← cut_get s p k, ← h.sv] at e
    exact a2 k hk e)
  rw [← h.sv] at h1
  have h2 : s.data.toList[p + i]? = some 9 := by rw [← cut_get s p i, ← h.sv]; exact a1
  refine ⟨by omega, ?_, ?_, (h.bel.grown hg1 hbs hr1).grown hg2 (Nat.le_trans hbs hg1.size) hr2⟩
  · apply ba_ext
    rw [cut_data, cut_data]
    have e3 : r.data.toList = s.data.toList.drop p := by
      rw [h.sv, cut_data, List.take_of_length_le (by rw [List.length_drop, len_data]; exact Nat.le_refl _)]
    rw [e3, List.drop_drop, List.take_of_length_le (by rw [List.length_drop, len_data]; omega), List.take_of_length_le (by rw [List.length_drop, len_data]; omega)]
  · rw [h1, tabs_nine s (p + i) h2, e1] at ho
    exact ho
set_option maxRecDepth 20000 in
set_option maxHeartbeats 2000000 in
theorem rep_any (s : ByteArray) (w : World) (hs : s.size ≤ 1048576) :
    Calls Try.prog 22 #[.string s, .string ⟨#[9]⟩, .string ⟨#[32]⟩] w fun e w' => e = .returned (.string (bytesB (tabsL s.data.toList))) ∧ Below w.heap.size w w' := by
  have hsh := hide hs
  have HX := fun r w hr => hide (index9 r w hr)
  obtain ⟨i0, hi, hz0, hz1, hz2⟩ := info_parts info5
  clear hs
  go_enter Try.func22, Try.ntmps22
  go_wp2_with fail
  go_loopw [0, 7] (fun sv ov wr => ∃ (p : Nat) (r : ByteArray), sv = .string r ∧ Hid (RepAt s p r ov w.heap.size w wr)) (fun sv _ _ => strLen sv)
  case atStart => exact ⟨0, _, rfl, hide ⟨Nat.zero_le _, by simp, by rw [List.take_zero]; exact World.ownsRow_nil _ _ _ _, Below.refl _ _⟩⟩
  case round =>
    obtain ⟨p, r, rfl, hR⟩ := hrel
    have hrz : r.size + p ≤ 1048576 := by
      have h1 := hR.out.le
      have h2 := cut_size s p h1
      rw [← hR.out.sv] at h2
      have := hsh.out
      omega
    have hbs : w.heap.size ≤ wr.heap.size := hR.out.bel.size
    have own := hide hR.out.own
    have HI := HX r wr (by omega)
    have hrzi : (r.size : Int) ≤ 1048576 := by omega
    rcases Int.lt_or_le (indexByte r.data.toList 9) 0 with hneg | hpos
    · have hm1 : indexByte r.data.toList 9 = -1 := by have := indexByte_ge r.data.toList 9; omega
      have hlast := fun v' w1 ho => hide (hR.out.last hm1 (v' := v') (w1 := w1) ho)
      have HI2 := hide (show Calls Try.prog 30 #[.string r, .string ⟨#[9]⟩] wr fun e w' => e = .returned (.int .i64 (-1)) ∧ wr = w' by have h := HI.out; rw [hm1] at h; exact h)
      have hR' := hide hR.out.bel
      clear hneg hm1 HI HX hR
      go_wp2_with fail
      refine HI2.out.mono ?_
      rintro e w' ⟨rfl, rfl⟩
      go_wp2_with (at_builtin; refine wpList_append_own_string _ rfl _ _ 48 9 rfl w.heap.size 5 i0 Try.underlying48 Try.underlying9 hi hz0 hz1 hz2 _ _ _ rfl own.out r rfl (by unfold maxLen; omega) (by omega) hbs ?_; intro v' w1 hown1 hg1 _; have hcv := (hlast v' w1 hown1).out; have hown1' := hide hown1; clear hown1)
      go_ret
      exact ⟨rfl, hR'.out.grown hg1 hbs (fun k hk => (own.out.lt k hk).1)⟩
    · obtain ⟨i, hio⟩ := Int.eq_ofNat_of_zero_le hpos
      have hio' : indexByte r.data.toList 9 = (i : Int) := hio
      have hir : i < r.size := by
        obtain ⟨a1, _⟩ := indexByte_some hio'
        have := (List.getElem?_eq_some_iff.1 a1).1
        rw [len_data] at this
        exact this
      have HI2 := hide (show Calls Try.prog 30 #[.string r, .string ⟨#[9]⟩] wr fun e w' => e = .returned (.int .i64 (i : Int)) ∧ wr = w' by have h := HI.out; rw [hio'] at h; exact h)
      have hcs : (r.extract 0 i).size = i := by simp; omega
      have hcsh := hide hcs
      have hnx := fun v1 v2 w1 w2 row1 row2 hg1 hr1 hg2 hr2 ho => hide (hR.out.next hir hio' (v1 := v1) (v2 := v2) (w1 := w1) (w2 := w2) (row1 := row1) (row2 := row2) hg1 hr1 hg2 hr2 hbs ho)
      have hiri : (i : Int) < (r.size : Int) := by omega
      have hi0 : (0 : Int) ≤ (i : Int) := by omega
      clear hio hio' hpos HI HX hR hcs
      go_wp2_with fail
      refine HI2.out.mono ?_
      rintro e w' ⟨rfl, rfl⟩
      go_wp2_with (first | (at_builtin; refine wpList_append_own_string _ rfl (.tmp 18) (.tmp 21) 48 9 rfl w.heap.size 5 i0 Try.underlying48 Try.underlying9 hi hz0 hz1 hz2 _ _ _ rfl own.out (r.extract 0 i) rfl (by rw [hcsh.out]; unfold maxLen; omega) (by rw [hcsh.out]; omega) hbs ?_; intro v1 w1 hown1 hg1 _; have hown1' := hide hown1; have hg1' := hide hg1; clear hown1 hg1) | (at_builtin; refine wpList_append_own_string _ rfl (.tmp 22) (.tmp 23) 48 9 rfl w.heap.size 5 i0 Try.underlying48 Try.underlying9 hi hz0 hz1 hz2 _ _ _ rfl hown1'.out ⟨#[32]⟩ rfl (by rw [hcsh.out]; unfold maxLen; show p + i + 1 ≤ _; omega) (by rw [hcsh.out]; show p + i + 1 ≤ _; omega) (Nat.le_trans hbs hg1'.out.size) ?_; intro v2 w2 hown2 hg2 _; have hR2 := hnx v1 v2 w1 w2 _ _ hg1'.out (fun k hk => (own.out.lt k hk).1) hg2 (fun k hk => (hown1'.out.lt k hk).1) hown2; clear hown2 hg2))
      go_roundw
      case rel => exact ⟨p + (i + 1), _, rfl, hR2⟩
      case measure => simp [strLen]; omega
end Go.Proofs.Ytlfgaikcdelknaa
