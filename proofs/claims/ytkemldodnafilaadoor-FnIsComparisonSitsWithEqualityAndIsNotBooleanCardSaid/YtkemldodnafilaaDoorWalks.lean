/-
  The walks of the three statements on operators. Condition: the precedence map reads as the row lists it.
-/
import Derived.Test.YtkemldodnafilaaDoorLaid
namespace Go.Proofs.YtkemldodnafilaaDoor
open Go.RowKit
set_option linter.unusedVariables false
set_option linter.unusedSimpArgs false

theorem zz6 (a : ByteArray) (W : World) (h : a.size ≤ 1048576) : Calls Tryd.prog 6 #[.string a] W fun e w' => e = .returned (.bool true) ∧ W = w' := by
  have h' : (a.size : Int) ≤ 1048576 := by omega
  go_enter Tryd.func6, Tryd.ntmps6
  go_wp2
  go_ret
  exact ⟨rfl, rfl⟩
theorem zz6b (a : ByteArray) (W : World) (h : 1048576 < a.size) : Calls Tryd.prog 6 #[.string a] W fun e w' => e = .returned (.bool false) ∧ W = w' := by
  have h' : (1048576 : Int) < (a.size : Int) := by omega
  go_enter Tryd.func6, Tryd.ntmps6
  go_wp2
  go_ret
  exact ⟨rfl, rfl⟩
theorem zz9 (a : ByteArray) (W : World) (h : a.size ≤ 1048576) : Calls Tryd.prog 9 #[.string a] W fun e w' => e = .returned (.bool true) ∧ W = w' := by
  have h' : (a.size : Int) ≤ 1048576 := by omega
  go_enter Tryd.func9, Tryd.ntmps9
  go_wp2
  go_ret
  exact ⟨rfl, rfl⟩
theorem zz9b (a : ByteArray) (W : World) (h : 1048576 < a.size) : Calls Tryd.prog 9 #[.string a] W fun e w' => e = .returned (.bool false) ∧ W = w' := by
  have h' : (1048576 : Int) < (a.size : Int) := by omega
  go_enter Tryd.func9, Tryd.ntmps9
  go_wp2
  go_ret
  exact ⟨rfl, rfl⟩
abbrev pipeS : ByteArray := { data := #[124] }
abbrev eqS : ByteArray := { data := #[61, 61] }
abbrev andS : ByteArray := { data := #[97, 110, 100] }
abbrev dotsS : ByteArray := { data := #[46, 46] }

theorem all3 (a : ByteArray) (W : World) (hm : a.size ≤ maxLen) (hB : Bin W) : Calls Tryd.prog 3 #[.string a] W fun e w' => e = .returned (.bool true) ∧ W = w' := by
  by_cases h : a.size ≤ 1048576
  · have h' : (a.size : Int) ≤ 1048576 := by omega
    have Z := hide (zz6 a W h)
    have B := hide (isBool_any a W)
    have L1 := hide (less_any pipeS a W hB (by decide) hm)
    have L2 := hide (less_any a eqS W hB hm (by decide))
    have band := hide (bool_band a.data.toList)
    rw [show (pipeS.data.toList : List UInt8) = [124] from rfl, prec_pipe] at L1
    rw [show (eqS.data.toList : List UInt8) = [61, 61] from rfl, prec_eq] at L2
    generalize prec a.data.toList = x at *
    generalize boolSet.contains a.data.toList = y at *
    clear h hm hB
    go_enter Tryd.func3, Tryd.ntmps3
    go_wp2_with fail
    refine Z.out.mono ?_
    rintro e w' ⟨rfl, rfl⟩
    go_wp2_with fail
    refine B.out.mono ?_
    rintro e w' ⟨rfl, rfl⟩
    go_wp2_with fail
    refine L1.out.mono ?_
    rintro e w' ⟨rfl, rfl⟩
    go_wp2_with fail
    · refine L2.out.mono ?_
      rintro e w' ⟨rfl, rfl⟩
      go_wp2
      go_ret
      refine ⟨ret_b ?_, rfl⟩
      rw [band.out]
      simp [*]
    · go_ret
      refine ⟨ret_b ?_, rfl⟩
      rw [band.out]
      simp [*]
  · have Z := hide (zz6b a W (by omega))
    go_enter Tryd.func3, Tryd.ntmps3
    go_wp2_with (first | (go_at_call 6; refine Z.out.mono ?_; rintro e w' ⟨rfl, rfl⟩))
    go_ret
    exact ⟨rfl, rfl⟩

theorem all4 (a : ByteArray) (W : World) (hm : a.size ≤ maxLen) (hB : Bin W) : Calls Tryd.prog 4 #[.string a] W fun e w' => e = .returned (.bool true) ∧ W = w' := by
  by_cases h : a.size ≤ 1048576
  · have h' : (a.size : Int) ≤ 1048576 := by omega
    have Z := hide (zz9 a W h)
    have C := hide (isCmp_any a W)
    rcases hc : cmpSet.contains a.data.toList with _ | _
    · rw [hc] at C
      clear h hm hB hc
      go_enter Tryd.func4, Tryd.ntmps4
      go_wp2_with fail
      refine Z.out.mono ?_
      rintro e w' ⟨rfl, rfl⟩
      go_wp2_with fail
      refine C.out.mono ?_
      rintro e w' ⟨rfl, rfl⟩
      go_wp2
      go_ret
      exact ⟨rfl, rfl⟩
    · obtain ⟨hp, hb⟩ := cmp_prec _ hc
      have B := hide (isBool_any a W)
      have L1 := hide (less_any a eqS W hB hm (by decide))
      have L2 := hide (less_any eqS a W hB (by decide) hm)
      have L3 := hide (less_any andS a W hB (by decide) hm)
      have L4 := hide (less_any a dotsS W hB hm (by decide))
      rw [show (eqS.data.toList : List UInt8) = [61, 61] from rfl, prec_eq, hp] at L1 L2
      rw [show (andS.data.toList : List UInt8) = [97, 110, 100] from rfl, prec_and, hp] at L3
      rw [show (dotsS.data.toList : List UInt8) = [46, 46] from rfl, prec_dots, hp] at L4
      rw [hc] at C
      rw [hb] at B
      clear h hm hB hc hp hb
      go_enter Tryd.func4, Tryd.ntmps4
      go_wp2_with fail
      refine Z.out.mono ?_
      rintro e w' ⟨rfl, rfl⟩
      go_wp2_with fail
      refine C.out.mono ?_
      rintro e w' ⟨rfl, rfl⟩
      go_wp2_with fail
      refine B.out.mono ?_
      rintro e w' ⟨rfl, rfl⟩
      go_wp2_with fail
      refine L1.out.mono ?_
      rintro e w' ⟨rfl, rfl⟩
      go_wp2_with fail
      refine L2.out.mono ?_
      rintro e w' ⟨rfl, rfl⟩
      go_wp2_with fail
      refine L3.out.mono ?_
      rintro e w' ⟨rfl, rfl⟩
      go_wp2_with fail
      refine L4.out.mono ?_
      rintro e w' ⟨rfl, rfl⟩
      go_wp2
      go_ret
      exact ⟨rfl, rfl⟩
  · have Z := hide (zz9b a W (by omega))
    go_enter Tryd.func4, Tryd.ntmps4
    go_wp2_with (first | (go_at_call 9; refine Z.out.mono ?_; rintro e w' ⟨rfl, rfl⟩))
    go_ret
    exact ⟨rfl, rfl⟩

theorem zz11 (a b c : ByteArray) (W : World) (ha : a.size ≤ 9223372036854775807) (hb : b.size ≤ 9223372036854775807) (hc : c.size ≤ 9223372036854775807) :
    Calls Tryd.prog 11 #[.string a, .string b, .string c] W fun e w' => e = .returned (.bool (decide ((a.size : Int) + b.size + c.size ≤ 1048576))) ∧ W = w' := by
  have ha' : (a.size : Int) ≤ 9223372036854775807 := by omega
  have hb' : (b.size : Int) ≤ 9223372036854775807 := by omega
  have hc' : (c.size : Int) ≤ 9223372036854775807 := by omega
  have ha0 : (0 : Int) ≤ (a.size : Int) := by omega
  have hb0 : (0 : Int) ≤ (b.size : Int) := by omega
  have hc0 : (0 : Int) ≤ (c.size : Int) := by omega
  go_enter Tryd.func11, Tryd.ntmps11
  go_wp2
  all_goals go_ret
  all_goals (refine ⟨ret_b ?_, rfl⟩; simp; omega)

theorem all5 (a b c : ByteArray) (W : World) (ha : a.size ≤ maxLen) (hb : b.size ≤ maxLen) (hc : c.size ≤ maxLen) (hB : Bin W) :
    Calls Tryd.prog 5 #[.string a, .string b, .string c] W fun e w' => e = .returned (.bool true) ∧ W = w' := by
  have Z := hide (zz11 a b c W (by simpa [maxLen] using ha) (by simpa [maxLen] using hb) (by simpa [maxLen] using hc))
  by_cases h : (a.size : Int) + b.size + c.size ≤ 1048576
  · rw [decide_eq_true h] at Z
    have ha' : (a.size : Int) ≤ 1048576 := by omega
    have hb' : (b.size : Int) ≤ 1048576 := by omega
    have hc' : (c.size : Int) ≤ 1048576 := by omega
    have ha0 : (0 : Int) ≤ (a.size : Int) := by omega
    have hb0 : (0 : Int) ≤ (b.size : Int) := by omega
    have hc0 : (0 : Int) ≤ (c.size : Int) := by omega
    have Lab := hide (less_any a b W hB ha hb)
    have Lba := hide (less_any b a W hB hb ha)
    have Lbc := hide (less_any b c W hB hb hc)
    have Lcb := hide (less_any c b W hB hc hb)
    have Lac := hide (less_any a c W hB ha hc)
    have Lca := hide (less_any c a W hB hc ha)
    have Laa := hide (less_any a a W hB ha ha)
    generalize prec a.data.toList = x at *
    generalize prec b.data.toList = y at *
    generalize prec c.data.toList = z at *
    clear ha hb hc hB
    go_enter Tryd.func5, Tryd.ntmps5
    go_wp2_with fail
    refine Z.out.mono ?_
    rintro e w' ⟨rfl, rfl⟩
    go_wp2_with fail
    refine Lab.out.mono ?_
    rintro e w' ⟨rfl, rfl⟩
    go_wp2_with fail
    refine Lba.out.mono ?_
    rintro e w' ⟨rfl, rfl⟩
    go_wp2_with fail
    refine Lbc.out.mono ?_
    rintro e w' ⟨rfl, rfl⟩
    go_wp2_with fail
    refine Lcb.out.mono ?_
    rintro e w' ⟨rfl, rfl⟩
    go_wp2_with fail
    refine Lac.out.mono ?_
    rintro e w' ⟨rfl, rfl⟩
    go_wp2_with fail
    refine Lca.out.mono ?_
    rintro e w' ⟨rfl, rfl⟩
    go_wp2_with fail
    refine Laa.out.mono ?_
    rintro e w' ⟨rfl, rfl⟩
    go_wp2
    all_goals go_ret
    all_goals (refine ⟨ret_b ?_, rfl⟩)
    all_goals first | rfl | (exfalso; omega) | (exfalso; (try simp only [Bool.not_eq_true', decide_eq_false_iff_not, Bool.and_eq_true, Bool.or_eq_true, decide_eq_true_eq] at *); omega)
  · rw [decide_eq_false h] at Z
    go_enter Tryd.func5, Tryd.ntmps5
    go_wp2_with (first | (go_at_call 11; refine Z.out.mono ?_; rintro e w' ⟨rfl, rfl⟩))
    go_ret
    exact ⟨rfl, rfl⟩
end Go.Proofs.YtkemldodnafilaaDoor
