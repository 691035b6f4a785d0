/-
  Source.Snippet by contract: it hands out the line that Bind found. No condition beyond the size.
-/
import Derived.Test.YtlfgaikcdelknaaPic
import Derived.Test.YtlfgaikcdelknaaChain
import Derived.Test.YtlfgaikcdelknaaLines
namespace Go.Proofs.Ytlfgaikcdelknaa
open Go.RowKit Go.Lib Go.Shelf Go.Proofs
set_option linter.unusedVariables false
set_option linter.unusedSimpArgs false

theorem results_tmp2' {fn : Func} {t u : Tmp} (h : fn.results = #[.tmp t, .tmp u]) (tmps : Array Value) (P : Program) (w : World) :
    (results fn tmps).run P w = .ok (.tuple #[tmps.getD t undef, tmps.getD u undef]) w := by
  simp [results, h]
theorem ib_at (src : ByteArray) (ls : Nat) (h : ls ≤ src.size) : (indexByte (src.extract ls src.size).data.toList 10 = -1 ∧ lineEnd src ls = src.size) ∨ ∃ o : Nat, indexByte (src.extract ls src.size).data.toList 10 = (o : Int) ∧ lineEnd src ls = ls + o ∧ ls + o < src.size := by
  have hge := indexByte_ge (src.extract ls src.size).data.toList 10
  unfold lineEnd
  by_cases c : indexByte (src.extract ls src.size).data.toList 10 < 0
  · left
    rw [if_pos c]
    exact ⟨by omega, rfl⟩
  · right
    rw [if_neg c]
    obtain ⟨o, ho⟩ := Int.eq_ofNat_of_zero_le (show 0 ≤ indexByte (src.extract ls src.size).data.toList 10 by omega)
    rw [ho]
    have hlt := (List.getElem?_eq_some_iff.1 (indexByte_some ho).1).1
    rw [len_data, cut_size src ls h] at hlt
    exact ⟨o, rfl, by simp, by omega⟩
theorem snip_empty (src : ByteArray) (l : Int) (w : World) (h : src = ByteArray.empty) :
    Calls Try.prog 15 #[.agg #[.string src], .int .i64 l] w fun e w' => e = .returned (.tuple #[.string ⟨#[]⟩, .bool false]) ∧ Below w.heap.size w w' := by
  subst h
  go_enter Try.func15, Try.ntmps15
  go_wp2
  go_ret2
  exact ⟨rfl, (Below.refl _ _).alloc (Nat.le_refl _) _⟩
set_option maxRecDepth 20000 in
set_option maxHeartbeats 2000000 in
theorem snip_any (src : ByteArray) (l ls : Nat) (w : World) (hne : ¬ src = ByteArray.empty) (hs : src.size ≤ 1048576) (hl : l ≤ src.size + 1) (hL : Lines src l ls) (hls : ls ≤ src.size) :
    Calls Try.prog 15 #[.agg #[.string src], .int .i64 (l : Int)] w fun e w' => e = .returned (.tuple #[.string (src.extract ls (lineEnd src ls)), .bool true]) ∧ Below w.heap.size w w' := by
  have hLh := hide hL
  have hem : src.toList.isEmpty = false := by
    rw [toList_data]
    rcases h : src.data.toList with _ | ⟨a, m⟩
    · exact absurd (ba_ext (a := src) (b := ByteArray.empty) (by rw [h]; rfl)) hne
    · rfl
  have hemb : (src.toList == []) = false := by
    rw [toList_data]
    rcases h : src.data.toList with _ | ⟨a, m⟩
    · exact absurd (ba_ext (a := src) (b := ByteArray.empty) (by rw [h]; rfl)) hne
    · rfl
  have hs' : (src.size : Int) ≤ 1048576 := by omega
  have hl' : (l : Int) ≤ (src.size : Int) + 1 := by omega
  have hsh := hide hs
  have hlsh := hide hls
  clear hL hs hls
  go_enter Try.func15, Try.ntmps15
  go_wp2_with fail
  have hcell : (w.alloc (.cells #[.string src] 32)).cell? ⟨w.heap.size, 0, none⟩ = some (.string src) := by rw [cell_of_row _ w.heap.size 0 _ 32 (0, 0) (heap_alloc_new w _)]; rfl
  have hb0 := hide ((Below.refl w.heap.size w).alloc (Nat.le_refl _) (.cells #[.string src] 32))
  generalize w.alloc (.cells #[.string src] 32) = W0 at *
  go_loopw [6, 7] (fun sv iv wr => ∃ i st : Nat, sv = .int .i64 st ∧ iv = .int .i64 ((i : Int) + 1) ∧ i + 1 ≤ l ∧ Hid (st = lineStart src i) ∧ st ≤ src.size ∧ W0 = wr) (fun _ iv _ => l + 1 - (RowKit.intOf iv).toNat)
  case atStart => exact ⟨0, 0, rfl, rfl, hLh.out.one, hide rfl, Nat.zero_le _, rfl⟩
  case round =>
    obtain ⟨i, st, rfl, rfl, hil, hst, hsz, rfl⟩ := hrel
    have hi0 : (0 : Int) ≤ (i : Int) := by omega
    have hil' : (i : Int) + 1 ≤ (l : Int) := by omega
    have hst0 : (0 : Int) ≤ (st : Int) := by omega
    have hst1 : (st : Int) ≤ (src.size : Int) := by omega
    have HI := b_index' (src.extract st src.size) W0
    rcases ib_at src st hsz with ⟨e1, e2⟩ | ⟨o, e1, e2, e3⟩
    · have hlast : i + 1 = l := by
        by_cases c : i + 1 < l
        · have := (hLh.out.full i c).2
          rw [← hst.out, e2] at this
          omega
        · omega
      have hls2 : st = ls := by rw [hst.out, ← hLh.out.here, ← hlast]; rfl
      rw [e1] at HI
      have HI2 := hide HI
      have he := hide (show src.extract st src.size = src.extract ls (lineEnd src ls) by rw [← hls2, e2])
      have hlast' : ¬ (i : Int) + 1 < (l : Int) := by omega
      clear HI hls2 e1 e2 hlast
      go_wp2_with fail
      refine HI2.out.mono ?_
      rintro e w' ⟨rfl, rfl⟩
      go_wp2
      go_ret2
      exact ⟨by rw [← he.out]; rfl, hb0.out⟩
    · have o0 : (0 : Int) ≤ (o : Int) := by omega
      have o1 : (st : Int) + (o : Int) < (src.size : Int) := by omega
      rw [e1] at HI
      have HI2 := hide HI
      by_cases c : i + 1 < l
      · have c' : (i : Int) + 1 < (l : Int) := by omega
        have hst2 := hide (show st + (o + 1) = lineStart src (i + 1) by
          show st + (o + 1) = lineEnd src (lineStart src i) + 1
          rw [← hst.out, e2]
          rfl)
        clear HI e1 e2 c
        go_wp2_with fail
        refine HI2.out.mono ?_
        rintro e w' ⟨rfl, rfl⟩
        go_wp2
        go_roundw
        case rel => exact ⟨i + 1, st + (o + 1), by go_num, by go_num, by omega, hst2, by omega, by first | rfl | trivial⟩
        case measure => simp [RowKit.intOf]; omega
      · have hlast : i + 1 = l := by omega
        have hls2 : st = ls := by rw [hst.out, ← hLh.out.here, ← hlast]; rfl
        have he := hide (show src.extract st (st + o) = src.extract ls (lineEnd src ls) by rw [← hls2, e2])
        have hlast' : ¬ (i : Int) + 1 < (l : Int) := by omega
        clear HI e1 e2 c hls2 hlast
        go_wp2_with fail
        refine HI2.out.mono ?_
        rintro e w' ⟨rfl, rfl⟩
        go_wp2
        go_ret2
        exact ⟨by rw [← he.out]; rfl, hb0.out⟩
end Go.Proofs.Ytlfgaikcdelknaa
