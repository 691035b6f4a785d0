/-
  The walk of the statement on the whole effect of Bind. No condition.
-/
import Derived.Test.YtlfgaikcdelknaaPic
import Derived.Test.YtlfgaikcdelknaaChain
import Derived.Test.YtlfgaikcdelknaaLines
namespace Go.Proofs.Ytlfgaikcdelknaa
open Go.RowKit Go.Lib Go.Shelf Go.Proofs
set_option linter.unusedVariables false
set_option linter.unusedSimpArgs false

theorem zz6_yes (src : ByteArray) (f t l0 c0 : Int) (m sn : ByteArray) (W : World) (h : src.size + m.size + sn.size ≤ 1048576) : Calls Try.prog 6 #[.string src, .int .i64 f, .int .i64 t, .int .i64 l0, .int .i64 c0, .string m, .string sn] W fun e w' => e = .returned (.bool true) ∧ W = w' := by
  have h' : (src.size : Int) + (m.size : Int) + (sn.size : Int) ≤ 1048576 := by omega
  have h_src : (src.size : Int) ≤ 1048576 := by omega
  have h_m : (m.size : Int) ≤ 1048576 := by omega
  have h_sn : (sn.size : Int) ≤ 1048576 := by omega
  clear h
  go_enter Try.func6, Try.ntmps6
  go_wp2
  go_ret
  exact ⟨rfl, rfl⟩
set_option maxRecDepth 20000 in
theorem zz6_no (src : ByteArray) (f t l0 c0 : Int) (m sn : ByteArray) (W : World) (h : 1048576 < src.size + m.size + sn.size) (hm : src.size ≤ maxLen ∧ m.size ≤ maxLen ∧ sn.size ≤ maxLen) : Calls Try.prog 6 #[.string src, .int .i64 f, .int .i64 t, .int .i64 l0, .int .i64 c0, .string m, .string sn] W fun e w' => e = .returned (.bool false) ∧ W = w' := by
  have h' : 1048576 < (src.size : Int) + (m.size : Int) + (sn.size : Int) := by omega
  have n_src : (src.size : Int) ≤ 9223372036854775807 := by unfold maxLen at hm; omega
  have n_m : (m.size : Int) ≤ 9223372036854775807 := by unfold maxLen at hm; omega
  have n_sn : (sn.size : Int) ≤ 9223372036854775807 := by unfold maxLen at hm; omega
  clear h hm
  go_enter Try.func6, Try.ntmps6
  go_wp2
  all_goals (first | (go_ret; exact ⟨rfl, rfl⟩) | (exfalso; omega))
theorem neq_ptr (a : Addr) (w : World) : (binOp .neq 23 (.pointer (some a)) (.pointer (some a))).run Try.prog w = .ok (.bool false) w := by
  obtain ⟨j, hj⟩ := Option.isSome_iff_exists.1 info29
  exact Lib.run_neq_ptr_same w a Try.underlying23 hj
set_option maxRecDepth 20000 in
set_option maxHeartbeats 4000000 in
theorem whole_same (src : ByteArray) (f t l0 c0 : Int) (m sn : ByteArray) (w : World) (h : src.size + m.size + sn.size ≤ 1048576) (S : Nat × Nat × Nat) (hS : scanB src f src.size 0 0 0 1 0 = S) (hq : S.1 = lineEnd src S.1) :
    Calls Try.prog 3 #[.string src, .int .i64 f, .int .i64 t, .int .i64 l0, .int .i64 c0, .string m, .string sn] w fun e w' => e = .returned (.bool true) ∧ Below w.heap.size w w' := by
  have Z := hide (zz6_yes src f t l0 c0 m sn w h)
  have h' : (src.size : Int) + (m.size : Int) + (sn.size : Int) ≤ 1048576 := by omega
  have n_src : (src.size : Int) ≤ 1048576 := by omega
  have n_m : (m.size : Int) ≤ 1048576 := by omega
  have n_sn : (sn.size : Int) ≤ 1048576 := by omega
  have hs := hide (show src.size ≤ 1048576 by omega)
  have HB := fun b w hE => hide (bind_any b src f t l0 c0 m sn .nilIface w hs.out hE)
  have HM := fun w => hide (model_any src f w hs.out)
  have hso := scan_facts src f
  have hbm := bind_model src f
  rw [hS] at hso hbm HB
  rw [hbm] at HM
  obtain ⟨ls, l, c⟩ := S
  simp only [BindRes] at HB hq
  simp only [ModelRes] at HM
  obtain ⟨z1, z2, z3, _, _⟩ := hso
  obtain ⟨z4, z5, _, _⟩ := lineEnd_spec src ls z1
  simp only at z1 z2 z3
  have HP := fun w => hide (snippet_any (src.extract ls (lineEnd src ls)) c w (by simp; omega) (by omega))
  generalize lineEnd src ls = le at *
  have x1 : (ls : Int) ≤ (le : Int) := by omega
  have x2 : (le : Int) ≤ (src.size : Int) := by omega
  have x3 : (0 : Int) ≤ (ls : Int) := by omega
  have hq' : (ls : Int) = (le : Int) := by omega
  have hqh := hide hq
  clear h hS hbm z1 z2 z3 z4 z5 hq
  go_enter Try.func3, Try.ntmps3
  go_wp2_with fail
  refine Z.out.mono ?_
  rintro e w' ⟨rfl, rfl⟩
  have hE0 := hide (new_err w f t l0 c0 m sn .nilIface)
  have hb0 := hide ((Below.refl w.heap.size w).alloc (Nat.le_refl _) (.cells #[.int .i64 f, .int .i64 t, .int .i64 l0, .int .i64 c0, .string m, .string sn, .nilIface] 29))
  go_wp2_with fail
  generalize w.alloc (.cells #[.int .i64 f, .int .i64 t, .int .i64 l0, .int .i64 c0, .string m, .string sn, .nilIface] 29) = W1 at *
  refine (source_any src W1).mono ?_
  rintro e W2 ⟨rfl, hb2⟩
  have hE2 := hide (hE0.out.same (hb2.block _ hE0.out.lt))
  have hb2h := hide (hb0.out.trans (hb2.mono hb0.out.size))
  clear hE0 hb0 hb2
  go_wp2_with fail
  refine (HB _ W2 hE2.out).out.mono ?_
  rintro e W3 ⟨rfl, hE3, hg3⟩
  rw [if_pos hqh.out] at hE3
  have hb3 := hide (hb2h.out.grown hg3 hb2h.out.size (fun k hk => by cases hk; omega))
  have hE3h := hide hE3
  have hnp := neq_ptr ⟨w.heap.size, 0, none⟩ W3
  obtain ⟨ca0, ca1, ca2, ca3, ca4, ca5, ca6⟩ := hE3.cells
  clear hE2 hb2h hg3 hE3 HB
  go_wp2_with fail
  refine (HM W3).out.mono ?_
  rintro e w' ⟨rfl, rfl⟩
  go_wp2
  go_ret
  exact ⟨by simp, hb3.out⟩
set_option maxRecDepth 20000 in
set_option maxHeartbeats 4000000 in
theorem whole_pic (src : ByteArray) (f t l0 c0 : Int) (m sn : ByteArray) (w : World) (h : src.size + m.size + sn.size ≤ 1048576) (S : Nat × Nat × Nat) (hS : scanB src f src.size 0 0 0 1 0 = S) (hq : S.1 ≠ lineEnd src S.1) :
    Calls Try.prog 3 #[.string src, .int .i64 f, .int .i64 t, .int .i64 l0, .int .i64 c0, .string m, .string sn] w fun e w' => e = .returned (.bool true) ∧ Below w.heap.size w w' := by
  have Z := hide (zz6_yes src f t l0 c0 m sn w h)
  have h' : (src.size : Int) + (m.size : Int) + (sn.size : Int) ≤ 1048576 := by omega
  have n_src : (src.size : Int) ≤ 1048576 := by omega
  have n_m : (m.size : Int) ≤ 1048576 := by omega
  have n_sn : (sn.size : Int) ≤ 1048576 := by omega
  have hs := hide (show src.size ≤ 1048576 by omega)
  have HB := fun b w hE => hide (bind_any b src f t l0 c0 m sn .nilIface w hs.out hE)
  have HM := fun w => hide (model_any src f w hs.out)
  have hso := scan_facts src f
  have hbm := bind_model src f
  rw [hS] at hso hbm HB
  rw [hbm] at HM
  obtain ⟨ls, l, c⟩ := S
  simp only [BindRes] at HB hq
  simp only [ModelRes] at HM
  obtain ⟨z1, z2, z3, _, _⟩ := hso
  obtain ⟨z4, z5, _, _⟩ := lineEnd_spec src ls z1
  simp only at z1 z2 z3
  have HP := fun w => hide (snippet_any (src.extract ls (lineEnd src ls)) c w (by simp; omega) (by omega))
  have hpic : bytesB (pic src ls (lineEnd src ls) c) = bytesB ([10, 32, 124, 32] ++ tabsL (src.extract ls (lineEnd src ls)).data.toList ++ [10, 32, 124, 32] ++ List.replicate c 46 ++ [94]) := rfl
  rw [← hpic] at HP
  clear hpic
  generalize bytesB (pic src ls (lineEnd src ls) c) = PB at *
  generalize lineEnd src ls = le at *
  have x1 : (ls : Int) ≤ (le : Int) := by omega
  have x2 : (le : Int) ≤ (src.size : Int) := by omega
  have x3 : (0 : Int) ≤ (ls : Int) := by omega
  have hq' : ((ls : Int) == (le : Int)) = false := by rw [beq_eq_false_iff_ne]; omega
  have hq2 := hide hq
  clear h hS hbm z1 z2 z3 z4 z5 hq
  go_enter Try.func3, Try.ntmps3
  go_wp2_with fail
  refine Z.out.mono ?_
  rintro e w' ⟨rfl, rfl⟩
  have hE0 := hide (new_err w f t l0 c0 m sn .nilIface)
  have hb0 := hide ((Below.refl w.heap.size w).alloc (Nat.le_refl _) (.cells #[.int .i64 f, .int .i64 t, .int .i64 l0, .int .i64 c0, .string m, .string sn, .nilIface] 29))
  go_wp2_with fail
  generalize w.alloc (.cells #[.int .i64 f, .int .i64 t, .int .i64 l0, .int .i64 c0, .string m, .string sn, .nilIface] 29) = W1 at *
  refine (source_any src W1).mono ?_
  rintro e W2 ⟨rfl, hb2⟩
  have hE2 := hide (hE0.out.same (hb2.block _ hE0.out.lt))
  have hb2h := hide (hb0.out.trans (hb2.mono hb0.out.size))
  clear hE0 hb0 hb2
  go_wp2_with fail
  refine (HB _ W2 hE2.out).out.mono ?_
  rintro e W3 ⟨rfl, hE3, hg3⟩
  rw [if_neg hq2.out] at hE3
  have hb3 := hide (hb2h.out.grown hg3 hb2h.out.size (fun k hk => by cases hk; omega))
  have hE3h := hide hE3
  have hnp := neq_ptr ⟨w.heap.size, 0, none⟩ W3
  obtain ⟨ca0, ca1, ca2, ca3, ca4, ca5, ca6⟩ := hE3.cells
  clear hE2 hb2h hg3 hE3 HB
  go_wp2_with fail
  refine (HM W3).out.mono ?_
  rintro e w' ⟨rfl, rfl⟩
  go_wp2_with fail
  refine (HP W3).out.mono ?_
  rintro e W4 ⟨rfl, hb4⟩
  have hE4 := hE3h.out.same (hb4.block _ hE3h.out.lt)
  obtain ⟨cb0, cb1, cb2, cb3, cb4, cb5, cb6⟩ := hE4.cells
  have hb5 := hide (hb3.out.trans (hb4.mono hb3.out.size))
  clear hE4 hb4
  go_wp2
  go_ret
  exact ⟨by simp, hb5.out⟩
set_option maxRecDepth 20000 in
theorem all3 (src : ByteArray) (f t l0 c0 : Int) (m sn : ByteArray) (w : World) (h0 : src.size ≤ maxLen) (h1 : m.size ≤ maxLen) (h2 : sn.size ≤ maxLen) :
    Calls Try.prog 3 #[.string src, .int .i64 f, .int .i64 t, .int .i64 l0, .int .i64 c0, .string m, .string sn] w fun e w' => e = .returned (.bool true) ∧ Below w.heap.size w w' := by
  by_cases h : src.size + m.size + sn.size ≤ 1048576
  · by_cases hq : (scanB src f src.size 0 0 0 1 0).1 = lineEnd src (scanB src f src.size 0 0 0 1 0).1
    · exact whole_same src f t l0 c0 m sn w h _ rfl hq
    · exact whole_pic src f t l0 c0 m sn w h _ rfl hq
  · have Z := hide (zz6_no src f t l0 c0 m sn w (by omega) ⟨h0, h1, h2⟩)
    clear h h0 h1 h2
    go_enter Try.func3, Try.ntmps3
    go_wp2_with fail
    refine Z.out.mono ?_
    rintro e w' ⟨rfl, rfl⟩
    go_wp2
    go_ret
    exact ⟨rfl, Below.refl _ _⟩
end Go.Proofs.Ytlfgaikcdelknaa
