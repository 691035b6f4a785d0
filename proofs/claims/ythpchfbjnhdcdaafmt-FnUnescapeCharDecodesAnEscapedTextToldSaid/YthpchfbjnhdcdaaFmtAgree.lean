/-
  The statement that the two escape readers agree: the plain law and the walk. Condition: utf8's two tables hold what their initialisers lay.
-/
import Derived.Test.YthpchfbjnhdcdaaFmtUcE
import Derived.Test.YthpchfbjnhdcdaaFmtUbB
namespace Go.Proofs.YthpchfbjnhdcdaaFmt
open Go.RowKit Go.Lib Go.Shelf Go.Proofs
set_option linter.unusedVariables false
set_option linter.unusedSimpArgs false

/-! ### the plain law -/
theorem hexItem2 (s : ByteArray) : (hexItem s 2 = none ∧ hexB s = none) ∨ ∃ v : Nat, v ≤ 255 ∧ hexItem s 2 = some ((v : Int), true, 4) ∧ hexB s = some ((v : Int), false, 4) := by
  unfold hexItem hexB
  by_cases h : s.size < 4
  · left; rw [if_pos h, if_pos h]; exact ⟨rfl, rfl⟩
  · rw [if_neg h, if_neg h]
    rcases hn : hexN s 2 2 with _ | v
    · left; exact ⟨rfl, rfl⟩
    · right
      have hv := hexN_lt hn
      have h1 : w32 v = (v : Int) := w32_small (by omega)
      refine ⟨v, by omega, ?_, rfl⟩
      simp only []
      rw [h1, if_neg (by omega)]
theorem octItem2 (s : ByteArray) (h : 48 ≤ byteAt s 1 ∧ byteAt s 1 ≤ 51) : (octItem s = none ∧ octB s = none) ∨ ∃ v : Nat, v ≤ 255 ∧ octItem s = some ((v : Int), true, 4) ∧ octB s = some ((v : Int), false, 4) := by
  unfold octItem octB
  by_cases hs : s.size < 4
  · left; rw [if_pos hs, if_pos hs]; exact ⟨rfl, rfl⟩
  · rw [if_neg hs, if_neg hs]
    by_cases ho : (isOct (byteAt s 2) && isOct (byteAt s 3)) = true
    · right
      rw [if_pos ho, if_pos ho]
      simp [isOct] at ho
      exact ⟨_, by omega, rfl, rfl⟩
    · left; rw [if_neg ho, if_neg ho]; exact ⟨rfl, rfl⟩
theorem simpleV_tab : ∀ c : Fin 128, (match simpleV c.val with | some v => decide (v ≤ 255 ∧ c.val ≠ 117 ∧ c.val ≠ 85) | none => true) = true := by decide +kernel
theorem simpleV_big {c : Nat} (h : 128 ≤ c) : simpleV c = none := by
  unfold simpleV
  rw [if_neg (by omega), if_neg (by omega), if_neg (by omega), if_neg (by omega), if_neg (by omega), if_neg (by omega), if_neg (by omega), if_neg (by omega), if_neg (by omega), if_neg (by omega), if_neg (by omega), if_neg (by omega)]
theorem simpleV_le {c v : Nat} (h : simpleV c = some v) : v ≤ 255 ∧ c ≠ 117 ∧ c ≠ 85 := by
  rcases Nat.lt_or_ge c 128 with hc | hc
  · have := simpleV_tab ⟨c, hc⟩
    simp only [h] at this
    simpa using this
  · rw [simpleV_big hc] at h
    cases h
theorem agree (s : ByteArray) (h0 : 0 < s.size) :
    (byteAt s 0 = 92 ∧ 1 < s.size ∧ (byteAt s 1 = 117 ∨ byteAt s 1 = 85) ∧ unescB s = none) ∨
    ¬ (byteAt s 0 = 92 ∧ 1 < s.size ∧ (byteAt s 1 = 117 ∨ byteAt s 1 = 85)) ∧
      ((unesc s = none ∧ unescB s = none) ∨ (byteAt s 0 ≠ 92 ∧ ∃ v mb n, unesc s = some (v, mb, n) ∧ unescB s = some (v, mb, n)) ∨
       (byteAt s 0 = 92 ∧ ∃ (v : Nat) (mb : Bool) (n : Nat), v ≤ 255 ∧ unesc s = some ((v : Int), mb, n) ∧ unescB s = some ((v : Int), false, n))) := by
  by_cases a1 : 128 ≤ byteAt s 0
  · refine .inr ⟨by omega, .inr (.inl ⟨by omega, ((Utf8.decode s 0).1 : Int), true, (Utf8.decode s 0).2, ?_, ?_⟩)⟩
    · unfold unesc; rw [if_pos a1]
    · unfold unescB; rw [if_pos a1]
  by_cases a2 : byteAt s 0 ≠ 92
  · refine .inr ⟨by omega, .inr (.inl ⟨a2, (byteAt s 0 : Int), false, 1, ?_, ?_⟩)⟩
    · unfold unesc; rw [if_neg a1, if_pos a2]
    · unfold unescB; rw [if_neg a1, if_pos a2]
  by_cases a3 : s.size ≤ 1
  · refine .inr ⟨by omega, .inl ⟨?_, ?_⟩⟩
    · unfold unesc; rw [if_neg a1, if_neg a2, if_pos a3]
    · unfold unescB; rw [if_neg a1, if_neg a2, if_pos a3]
  have e0 : byteAt s 0 = 92 := by omega
  rcases hc : simpleV (byteAt s 1) with _ | v
  · have hu : unesc s = if byteAt s 1 = 120 ∨ byteAt s 1 = 88 then hexItem s 2
      else if byteAt s 1 = 117 then (if 2 < s.size ∧ byteAt s 2 = 123 then scan s 7 0 0 else hexItem s 4)
      else if byteAt s 1 = 85 then hexItem s 8
      else if 48 ≤ byteAt s 1 ∧ byteAt s 1 ≤ 51 then octItem s
      else none := by
        unfold unesc
        rw [if_neg a1, if_neg a2, if_neg a3, hc]
    have hb : unescB s = if byteAt s 1 = 120 ∨ byteAt s 1 = 88 then hexB s
      else if 48 ≤ byteAt s 1 ∧ byteAt s 1 ≤ 51 then octB s
      else none := by
        unfold unescB
        rw [if_neg a1, if_neg a2, if_neg a3, hc]
    by_cases b1 : byteAt s 1 = 120 ∨ byteAt s 1 = 88
    · rw [if_pos b1] at hu hb
      right
      refine ⟨by omega, ?_⟩
      rw [hu, hb]
      rcases hexItem2 s with ⟨x, y⟩ | ⟨v, hv, x, y⟩
      · exact .inl ⟨x, y⟩
      · exact .inr (.inr ⟨e0, v, true, 4, hv, x, y⟩)
    · rw [if_neg b1] at hu hb
      by_cases b2 : byteAt s 1 = 117 ∨ byteAt s 1 = 85
      · left
        refine ⟨e0, by omega, b2, ?_⟩
        rw [hb, if_neg (by omega)]
      · rw [if_neg (by omega), if_neg (by omega)] at hu
        right
        refine ⟨by omega, ?_⟩
        by_cases b5 : 48 ≤ byteAt s 1 ∧ byteAt s 1 ≤ 51
        · rw [if_pos b5] at hu hb
          rw [hu, hb]
          rcases octItem2 s b5 with ⟨x, y⟩ | ⟨v, hv, x, y⟩
          · exact .inl ⟨x, y⟩
          · exact .inr (.inr ⟨e0, v, true, 4, hv, x, y⟩)
        · rw [if_neg b5] at hu hb
          exact .inl ⟨hu, hb⟩
  · obtain ⟨hv, n1, n2⟩ := simpleV_le hc
    refine .inr ⟨by omega, .inr (.inr ⟨e0, v, false, 2, hv, ?_, ?_⟩)⟩
    · unfold unesc; rw [if_neg a1, if_neg a2, if_neg a3, hc]
    · unfold unescB; rw [if_neg a1, if_neg a2, if_neg a3, hc]

/-! ### the exported wrappers -/
theorem zz10 (s : ByteArray) (w : World) (hs0 : 0 < s.size) (hs : s.size ≤ 9223372036854775807) (hT : TU w) :
    Calls Tryf.prog 10 #[.string s] w fun e w' => UcRes s (unesc s) e ∧ Below w.heap.size w w' := by
  have H := hide (uc_any s w hs0 hs hT)
  generalize unesc s = r at *
  clear hs0 hs hT
  rcases r with _ | ⟨v, mb, n⟩
  · go_enter Tryf.func10, Tryf.ntmps10
    go_wp2_with fail
    refine H.out.mono ?_
    rintro e w1 ⟨⟨v, mb, t, a, rfl⟩, hb1⟩
    go_wp2
    refine bodyPost_ret (results_tmp4 rfl _ _ _) rfl ?_
    exact ⟨⟨v, mb, t, a, rfl⟩, hb1⟩
  · go_enter Tryf.func10, Tryf.ntmps10
    go_wp2_with fail
    refine H.out.mono ?_
    rintro e w1 ⟨rfl, hb1⟩
    go_wp2
    refine bodyPost_ret (results_tmp4 rfl _ _ _) rfl ?_
    exact ⟨rfl, hb1⟩
theorem zz14 (s : ByteArray) (w : World) (hs0 : 0 < s.size) (hs : s.size ≤ 9223372036854775807) (hT : TU w) :
    Calls Tryf.prog 14 #[.string s] w fun e w' => UbRes s (unescB s) e ∧ Below w.heap.size w w' := by
  have H := hide (ub_any s w hs0 hs hT)
  generalize unescB s = r at *
  clear hs0 hs hT
  rcases r with _ | ⟨v, mb, n⟩
  · go_enter Tryf.func14, Tryf.ntmps14
    go_wp2_with fail
    refine H.out.mono ?_
    rintro e w1 ⟨⟨a, rfl⟩, hb1⟩
    go_wp2
    refine bodyPost_ret (results_tmp4 rfl _ _ _) rfl ?_
    exact ⟨⟨a, rfl⟩, hb1⟩
  · go_enter Tryf.func14, Tryf.ntmps14
    go_wp2_with fail
    refine H.out.mono ?_
    rintro e w1 ⟨rfl, hb1⟩
    go_wp2
    refine bodyPost_ret (results_tmp4 rfl _ _ _) rfl ?_
    exact ⟨rfl, hb1⟩
theorem zz13 (a : ByteArray) (W : World) (h : a.size ≤ 1048576) : Calls Tryf.prog 13 #[.string a] W fun e w' => e = .returned (.bool true) ∧ W = w' := by
  have h' : (a.size : Int) ≤ 1048576 := by omega
  go_enter Tryf.func13, Tryf.ntmps13
  go_wp2
  go_ret
  exact ⟨rfl, rfl⟩
theorem zz13b (a : ByteArray) (W : World) (h : 1048576 < a.size) : Calls Tryf.prog 13 #[.string a] W fun e w' => e = .returned (.bool false) ∧ W = w' := by
  have h' : (1048576 : Int) < (a.size : Int) := by omega
  go_enter Tryf.func13, Tryf.ntmps13
  go_wp2
  go_ret
  exact ⟨rfl, rfl⟩

theorem ret_b' {a b : Bool} (h : a = b) : Ending.returned (.bool a) = .returned (.bool b) := by rw [h]
theorem big5 (s : ByteArray) (w : World) (hs : 1048576 < s.size) :
    Calls Tryf.prog 5 #[.string s] w fun e w' => e = .returned (.bool true) ∧ Below w.heap.size w w' := by
  have Z := hide (zz13b s w hs)
  go_enter Tryf.func5, Tryf.ntmps5
  go_wp2_with fail
  refine Z.out.mono ?_
  rintro e w' ⟨rfl, rfl⟩
  go_wp2
  go_ret
  exact ⟨rfl, Below.refl _ _⟩
theorem nil5 (s : ByteArray) (w : World) (hs : s.size = 0) :
    Calls Tryf.prog 5 #[.string s] w fun e w' => e = .returned (.bool true) ∧ Below w.heap.size w w' := by
  have Z := hide (zz13 s w (by omega))
  have hs' : (s.size : Int) = 0 := by omega
  go_enter Tryf.func5, Tryf.ntmps5
  go_wp2_with fail
  refine Z.out.mono ?_
  rintro e w' ⟨rfl, rfl⟩
  go_wp2
  go_ret
  exact ⟨rfl, Below.refl _ _⟩
set_option maxRecDepth 20000 in
set_option maxHeartbeats 4000000 in
theorem law5 (s : ByteArray) (w : World) (hs0 : 0 < s.size) (hs : s.size ≤ 1048576) (hT : TU w) :
    Calls Tryf.prog 5 #[.string s] w fun e w' => e = .returned (.bool true) ∧ Below w.heap.size w w' := by
  have hag := agree s hs0
  have Z := hide (zz13 s w hs)
  have HB := hide (zz14 s w hs0 (by omega) hT)
  have HC := fun w hT => hide (zz10 s w hs0 (by omega) hT)
  have hTh := hide hT
  have hs0' : (0 : Int) < (s.size : Int) := by omega
  have hs' : (s.size : Int) ≤ 1048576 := by omega
  have g0 : ∀ h : 0 < s.size, ((s[0]'h).toNat : Int) = (byteAt s 0 : Int) := fun h => byteAt_get s 0 h
  have g1 : ∀ h : 1 < s.size, ((s[1]'h).toNat : Int) = (byteAt s 1 : Int) := fun h => byteAt_get s 1 h
  generalize byteAt s 0 = b0 at *
  generalize byteAt s 1 = b1 at *
  clear hs0 hs hT
  rcases hag with ⟨e0, e1, e2, hb⟩ | ⟨hne, ⟨hc, hb⟩ | ⟨e0, v, mb, n, hc, hb⟩ | ⟨e0, v, mb, n, hv, hc, hb⟩⟩
  · rw [hb] at HB
    have e0' : (b0 : Int) = 92 := by omega
    have e1' : (1 : Int) < (s.size : Int) := by omega
    have e2' : (b1 : Int) = 117 ∨ (b1 : Int) = 85 := by omega
    clear hb e0 e1 e2
    generalize unesc s = r at *
    rcases e2' with e2 | e2
    · rcases r with _ | ⟨v, mb, n⟩
      · go_enter Tryf.func5, Tryf.ntmps5
        go_wp2_with fail
        refine Z.out.mono ?_
        rintro e w' ⟨rfl, rfl⟩
        go_wp2_with fail
        refine HB.out.mono ?_
        rintro e w1 ⟨⟨a, rfl⟩, hb1⟩
        go_wp2_with fail
        refine (HC w1 (hTh.out.below hb1)).out.mono ?_
        rintro e w2 ⟨⟨v2, mb2, t2, a2, rfl⟩, hb2⟩
        have hbb := hb1.trans (hb2.mono hb1.size)
        go_wp2_with fail
        go_ret
        exact ⟨by simp, hbb⟩
      · go_enter Tryf.func5, Tryf.ntmps5
        go_wp2_with fail
        refine Z.out.mono ?_
        rintro e w' ⟨rfl, rfl⟩
        go_wp2_with fail
        refine HB.out.mono ?_
        rintro e w1 ⟨⟨a, rfl⟩, hb1⟩
        go_wp2_with fail
        refine (HC w1 (hTh.out.below hb1)).out.mono ?_
        rintro e w2 ⟨rfl, hb2⟩
        have hbb := hb1.trans (hb2.mono hb1.size)
        go_wp2_with fail
        go_ret
        exact ⟨by simp, hbb⟩
    · rcases r with _ | ⟨v, mb, n⟩
      · go_enter Tryf.func5, Tryf.ntmps5
        go_wp2_with fail
        refine Z.out.mono ?_
        rintro e w' ⟨rfl, rfl⟩
        go_wp2_with fail
        refine HB.out.mono ?_
        rintro e w1 ⟨⟨a, rfl⟩, hb1⟩
        go_wp2_with fail
        refine (HC w1 (hTh.out.below hb1)).out.mono ?_
        rintro e w2 ⟨⟨v2, mb2, t2, a2, rfl⟩, hb2⟩
        have hbb := hb1.trans (hb2.mono hb1.size)
        go_wp2_with fail
        go_ret
        exact ⟨by simp, hbb⟩
      · go_enter Tryf.func5, Tryf.ntmps5
        go_wp2_with fail
        refine Z.out.mono ?_
        rintro e w' ⟨rfl, rfl⟩
        go_wp2_with fail
        refine HB.out.mono ?_
        rintro e w1 ⟨⟨a, rfl⟩, hb1⟩
        go_wp2_with fail
        refine (HC w1 (hTh.out.below hb1)).out.mono ?_
        rintro e w2 ⟨rfl, hb2⟩
        have hbb := hb1.trans (hb2.mono hb1.size)
        go_wp2_with fail
        go_ret
        exact ⟨by simp, hbb⟩
  · rw [hb] at HB
    rw [hc] at HC
    clear hb hc
    have hsub : ((b0 : Int) == 92) = false ∨ ((b0 : Int) = 92 ∧ (s.size : Int) ≤ 1) ∨ ((b0 : Int) = 92 ∧ (1 : Int) < (s.size : Int) ∧ ((b1 : Int) == 117) = false ∧ ((b1 : Int) == 85) = false) := by
      simp only [beq_eq_false_iff_ne]
      omega
    clear hne
    rcases hsub with k0 | ⟨k0, k1⟩ | ⟨k0, k1, k2, k3⟩
    · go_enter Tryf.func5, Tryf.ntmps5
      go_wp2_with fail
      refine Z.out.mono ?_
      rintro e w' ⟨rfl, rfl⟩
      go_wp2_with fail
      refine HB.out.mono ?_
      rintro e w1 ⟨⟨a, rfl⟩, hb1⟩
      go_wp2_with fail
      refine (HC w1 (hTh.out.below hb1)).out.mono ?_
      rintro e w2 ⟨⟨v2, mb2, t2, a2, rfl⟩, hb2⟩
      have hbb := hb1.trans (hb2.mono hb1.size)
      go_wp2_with fail
      go_quiet (fail)
      go_wp2
      go_ret
      exact ⟨by simp, below_drewN' hbb _⟩
    · go_enter Tryf.func5, Tryf.ntmps5
      go_wp2_with fail
      refine Z.out.mono ?_
      rintro e w' ⟨rfl, rfl⟩
      go_wp2_with fail
      refine HB.out.mono ?_
      rintro e w1 ⟨⟨a, rfl⟩, hb1⟩
      go_wp2_with fail
      refine (HC w1 (hTh.out.below hb1)).out.mono ?_
      rintro e w2 ⟨⟨v2, mb2, t2, a2, rfl⟩, hb2⟩
      have hbb := hb1.trans (hb2.mono hb1.size)
      go_wp2_with fail
      go_quiet (fail)
      go_wp2
      go_ret
      exact ⟨by simp, below_drewN' hbb _⟩
    · go_enter Tryf.func5, Tryf.ntmps5
      go_wp2_with fail
      refine Z.out.mono ?_
      rintro e w' ⟨rfl, rfl⟩
      go_wp2_with fail
      refine HB.out.mono ?_
      rintro e w1 ⟨⟨a, rfl⟩, hb1⟩
      go_wp2_with fail
      refine (HC w1 (hTh.out.below hb1)).out.mono ?_
      rintro e w2 ⟨⟨v2, mb2, t2, a2, rfl⟩, hb2⟩
      have hbb := hb1.trans (hb2.mono hb1.size)
      go_wp2_with fail
      go_quiet (fail)
      go_wp2
      go_ret
      exact ⟨by simp, below_drewN' hbb _⟩
  · rw [hb] at HB
    rw [hc] at HC
    clear hb hc
    have k0 : ((b0 : Int) == 92) = false := by
      simp only [beq_eq_false_iff_ne]
      omega
    clear hne e0
    go_enter Tryf.func5, Tryf.ntmps5
    go_wp2_with fail
    refine Z.out.mono ?_
    rintro e w' ⟨rfl, rfl⟩
    go_wp2_with fail
    refine HB.out.mono ?_
    rintro e w1 ⟨rfl, hb1⟩
    go_wp2_with fail
    refine (HC w1 (hTh.out.below hb1)).out.mono ?_
    rintro e w2 ⟨rfl, hb2⟩
    have hbb := hb1.trans (hb2.mono hb1.size)
    go_wp2_with fail
    go_quiet (fail)
    go_wp2
    go_ret
    exact ⟨by simp, below_drewN' hbb _⟩
  · rw [hb] at HB
    rw [hc] at HC
    have v0 : (0 : Int) ≤ (v : Int) := by omega
    have v1 : (v : Int) ≤ 255 := by omega
    clear hb hc hv
    have hsub : ((b0 : Int) = 92 ∧ (s.size : Int) ≤ 1) ∨ ((b0 : Int) = 92 ∧ (1 : Int) < (s.size : Int) ∧ ((b1 : Int) == 117) = false ∧ ((b1 : Int) == 85) = false) := by
      simp only [beq_eq_false_iff_ne]
      omega
    clear hne e0
    rcases hsub with ⟨k0, k1⟩ | ⟨k0, k1, k2, k3⟩
    · go_enter Tryf.func5, Tryf.ntmps5
      go_wp2_with fail
      refine Z.out.mono ?_
      rintro e w' ⟨rfl, rfl⟩
      go_wp2_with fail
      refine HB.out.mono ?_
      rintro e w1 ⟨rfl, hb1⟩
      go_wp2_with fail
      refine (HC w1 (hTh.out.below hb1)).out.mono ?_
      rintro e w2 ⟨rfl, hb2⟩
      have hbb := hb1.trans (hb2.mono hb1.size)
      go_wp2_with fail
      go_quiet (fail)
      go_wp2
      go_ret
      exact ⟨by simp, below_drewN' hbb _⟩
    · go_enter Tryf.func5, Tryf.ntmps5
      go_wp2_with fail
      refine Z.out.mono ?_
      rintro e w' ⟨rfl, rfl⟩
      go_wp2_with fail
      refine HB.out.mono ?_
      rintro e w1 ⟨rfl, hb1⟩
      go_wp2_with fail
      refine (HC w1 (hTh.out.below hb1)).out.mono ?_
      rintro e w2 ⟨rfl, hb2⟩
      have hbb := hb1.trans (hb2.mono hb1.size)
      go_wp2_with fail
      go_quiet (fail)
      go_wp2
      go_ret
      exact ⟨by simp, below_drewN' hbb _⟩

theorem all5 (s : ByteArray) (w : World) (hm : s.size ≤ maxLen) (hT : TU w) :
    Calls Tryf.prog 5 #[.string s] w fun e w' => e = .returned (.bool true) ∧ Below w.heap.size w w' := by
  by_cases h : s.size ≤ 1048576
  · by_cases h0 : s.size = 0
    · exact nil5 s w h0
    · exact law5 s w (by omega) h hT
  · exact big5 s w (by omega)
end Go.Proofs.YthpchfbjnhdcdaaFmt
