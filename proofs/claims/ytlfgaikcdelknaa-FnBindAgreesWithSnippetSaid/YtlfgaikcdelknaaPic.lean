/-
  The law's own picture of a line, by contract: it is the picture that Bind draws. No condition beyond the size.
-/
import Derived.Test.YtlfgaikcdelknaaModelC
namespace Go.Proofs.Ytlfgaikcdelknaa
open Go.RowKit Go.Lib Go.Shelf Go.Proofs
set_option linter.unusedVariables false
set_option linter.unusedSimpArgs false

theorem set_next (l : List Value) (k : Nat) (x z : Value) : (l ++ List.replicate (k + 1) z).set l.length x = (l ++ [x]) ++ List.replicate k z := by
  rw [List.set_append_right _ _ (Nat.le_refl _)]
  simp [List.replicate_succ]
theorem made1 (n : Nat) : (madeCells (Value.int .u8 0).cells (n * 1)).toList = List.replicate n (Value.int .u8 0) := by
  apply List.ext_getElem?
  intro i
  by_cases h : i < n
  · simp [madeCells, Value.cells, h, Nat.mod_one]
  · simp [madeCells, Value.cells, h]
theorem und48 : Try.prog.underlying 48 = some (.slice 5) := by kernel_rfl
/-- A row half filled. -/
structure Fill (l : List UInt8) (n i g base : Nat) (w wr : World) : Prop where
  len : l.length = i
  le : i ≤ n
  own : wr.ownsRow base 5 1 (.slice (some ⟨g, 0, none⟩) n n) n (byteCells l ++ List.replicate (n - i) (Value.int .u8 0))
  bel : Below base w wr
theorem Fill.facts {l : List UInt8} {n i g base : Nat} {w wr : World} (h : Fill l n i g base w wr) (hi : i < n) : wr.cell? ⟨g, i, none⟩ = some (.int .u8 0) ∧ wr.frozen? ⟨g, i, none⟩ = false := by
  refine ⟨?_, h.own.frozenAt i⟩
  rw [h.own.cellAt i (by omega), List.getElem?_append_right (by rw [byteCells_length, h.len]; exact Nat.le_refl _), byteCells_length, h.len, Nat.sub_self, show n - i = (n - i - 1) + 1 by omega, List.replicate_succ]
  rfl
theorem Fill.put {l : List UInt8} {n i g base : Nat} {w wr : World} (h : Fill l n i g base w wr) (hi : i < n) (x : UInt8) (hg : base ≤ g) (v : Value) (hv : v = .int .u8 (x.toNat : Int)) (hb : base ≤ wr.heap.size) : Fill (l ++ [x]) n (i + 1) g base w (wr.setCell ⟨g, i, none⟩ v) := by
  subst hv
  have hst := h.own.stored i (.int .u8 (x.toNat : Int))
  refine ⟨by rw [List.length_append, h.len]; rfl, hi, ?_, h.bel.grown hst.2 hb (fun k hk => by cases hk; exact hg)⟩
  have h1 := hst.1
  have e := set_next (byteCells l) (n - (i + 1)) (.int .u8 (x.toNat : Int)) (.int .u8 0)
  rw [byteCells_length, h.len, show n - (i + 1) + 1 = n - i by omega] at e
  rw [e] at h1
  rw [byteCells_append]
  exact h1
theorem Fill.text {l : List UInt8} {n g base : Nat} {w wr : World} (h : Fill l n n g base w wr) : (convert 48 9 (.slice (some ⟨g, 0, none⟩) n n)).run Try.prog wr = .ok (.string (bytesB l)) wr := by
  have h1 := h.own
  rw [Nat.sub_self, List.replicate_zero, List.append_nil] at h1
  exact own_text l h.len h1
theorem tabs_more (s : ByteArray) (i : Nat) (h : i < s.size) : (tabsL s.data.toList).take (i + 1) = (tabsL s.data.toList).take i ++ [if byteAt s i = 9 then 32 else (byteAt s i).toUInt8] := by
  rw [List.take_add_one]
  congr 1
  have hb : i < s.data.size := h
  have e : s.data.toList[i]? = some (s.data[i]'hb) := by rw [Array.getElem?_toList, Array.getElem?_eq_getElem hb]
  have e2 : byteAt s i = (s.data[i]'hb).toNat := by
    unfold byteAt
    simp [List.getD]
    rw [Array.getElem?_eq_getElem hb]
    rfl
  simp only [tabsL, List.getElem?_map, e, Option.map_some, Option.toList_some, List.cons.injEq, and_true]
  rw [e2]
  by_cases c : s.data[i]'hb = 9
  · have c2 : (s.data[i]'hb).toNat = 9 := by rw [c]; rfl
    rw [if_pos c, if_pos c2]
  · have c2 : ¬ (s.data[i]'hb).toNat = 9 := fun q => c (UInt8.toNat_inj.1 q)
    rw [if_neg c, if_neg c2]
    simp
set_option maxRecDepth 20000 in
set_option maxHeartbeats 2000000 in
theorem tabs_any (s : ByteArray) (w : World) (hs : s.size ≤ 1048576) :
    Calls Try.prog 17 #[.string s] w fun e w' => e = .returned (.string (bytesB (tabsL s.data.toList))) ∧ Below w.heap.size w w' := by
  have hs' : (s.size : Int) ≤ 1048576 := by omega
  obtain ⟨i0, hi, hz0, hz1, hz2⟩ := info_parts info5
  have hsh := hide hs
  clear hs
  go_enter Try.func17, Try.ntmps17
  go_wp2_with (at_make; refine wpList_make_full _ rfl _ _ 48 rfl w.heap.size 5 i0 (.int .u8 0) 1 und48 hi hz0 hz1 .i64 .i64 _ _ s.size rfl rfl rfl rfl (by rw [hz2]; have := hsh.out; omega) (by have := hsh.out; unfold maxLen; omega) (Nat.le_refl _) ?_; intro w2 hown2 hg2)
  have hF := hide (show Fill [] s.size 0 w.heap.size w.heap.size w w2 from ⟨rfl, Nat.zero_le _, by rw [made1] at hown2; simpa [byteCells] using hown2, (Below.refl _ _).grown hg2 (Nat.le_refl _) (fun k hk => by cases hk)⟩)
  clear hown2 hg2
  go_loopw [4] (fun iv wr => ∃ i : Nat, iv = .int .i64 i ∧ i ≤ s.size ∧ Hid (Fill ((tabsL s.data.toList).take i) s.size i w.heap.size w.heap.size w wr)) (fun iv _ => s.size - (RowKit.intOf iv).toNat)
  case atStart => exact ⟨0, rfl, by omega, by rw [List.take_zero]; exact hF⟩
  case round =>
    clear hF
    obtain ⟨i, rfl, hi2, hF⟩ := hrel
    have hi0 : (0 : Int) ≤ (i : Int) := by omega
    have hbs := hF.out.bel.size
    by_cases h : i < s.size
    · have h' : (i : Int) < (s.size : Int) := by omega
      obtain ⟨hc, hf⟩ := hF.out.facts h
      have gi : ∀ h : i < s.size, ((s[i]'h).toNat : Int) = (byteAt s i : Int) := fun h => byteAt_get s i h
      have hle := byteAt_le s i
      have hput := fun v hv => hide (hF.out.put h (if byteAt s i = 9 then 32 else (byteAt s i).toUInt8) (Nat.le_refl _) v hv hbs)
      rw [← tabs_more s i h] at hput
      by_cases h9 : byteAt s i = 9
      · have hp := hput (.int .u8 32) (by rw [if_pos h9]; rfl)
        have h9' : (byteAt s i : Int) = 9 := by omega
        clear hput h9 hle
        go_wp2
        go_roundw
        case rel => exact ⟨i + 1, by go_num, by omega, hp⟩
        case measure => simp [RowKit.intOf]; omega
      · have hp := hput (.int .u8 (byteAt s i : Int)) (by rw [if_neg h9]; simp; omega)
        have h9' : ((byteAt s i : Int) == 9) = false := by rw [beq_eq_false_iff_ne]; omega
        clear hput h9 hle
        go_wp2
        go_roundw
        case rel => exact ⟨i + 1, by go_num, by omega, hp⟩
        case measure => simp [RowKit.intOf]; omega
    · obtain rfl : i = s.size := by omega
      have hbel := hide hF.out.bel
      have hcv := hF.out.text
      rw [List.take_of_length_le (by rw [tabsL_length, len_data]; exact Nat.le_refl _)] at hcv
      clear hF
      go_wp2
      go_ret
      exact ⟨rfl, hbel.out⟩
set_option maxRecDepth 20000 in
set_option maxHeartbeats 2000000 in
theorem dots_any (n : Nat) (w : World) (hn : n ≤ 1048576) :
    Calls Try.prog 25 #[.int .i64 (n : Int)] w fun e w' => e = .returned (.string (bytesB (List.replicate n 46))) ∧ Below w.heap.size w w' := by
  have hs' : (n : Int) ≤ 1048576 := by omega
  have hn0 : (0 : Int) ≤ (n : Int) := by omega
  obtain ⟨i0, hi, hz0, hz1, hz2⟩ := info_parts info5
  have hsh := hide hn
  clear hn
  go_enter Try.func25, Try.ntmps25
  go_wp2_with (at_make; refine wpList_make_full _ rfl _ _ 48 rfl w.heap.size 5 i0 (.int .u8 0) 1 und48 hi hz0 hz1 .i64 .i64 _ _ n rfl rfl rfl rfl (by rw [hz2]; have := hsh.out; omega) (by have := hsh.out; unfold maxLen; omega) (Nat.le_refl _) ?_; intro w2 hown2 hg2)
  have hF := hide (show Fill [] n 0 w.heap.size w.heap.size w w2 from ⟨rfl, Nat.zero_le _, by rw [made1] at hown2; simpa [byteCells] using hown2, (Below.refl _ _).grown hg2 (Nat.le_refl _) (fun k hk => by cases hk)⟩)
  clear hown2 hg2
  go_loopw [4] (fun iv wr => ∃ i : Nat, iv = .int .i64 i ∧ i ≤ n ∧ Hid (Fill (List.replicate i 46) n i w.heap.size w.heap.size w wr)) (fun iv _ => n - (RowKit.intOf iv).toNat)
  case atStart => exact ⟨0, rfl, by omega, by rw [List.replicate_zero]; exact hF⟩
  case round =>
    clear hF
    obtain ⟨i, rfl, hi2, hF⟩ := hrel
    have hi0 : (0 : Int) ≤ (i : Int) := by omega
    have hbs := hF.out.bel.size
    by_cases h : i < n
    · have h' : (i : Int) < (n : Int) := by omega
      obtain ⟨hc, hf⟩ := hF.out.facts h
      have hp := hide (hF.out.put h 46 (Nat.le_refl _) (.int .u8 46) rfl hbs)
      rw [← List.replicate_succ'] at hp
      go_wp2
      go_roundw
      case rel => exact ⟨i + 1, by go_num, by omega, hp⟩
      case measure => simp [RowKit.intOf]; omega
    · obtain rfl : i = n := by omega
      have hbel := hide hF.out.bel
      have hcv := hF.out.text
      clear hF
      go_wp2
      go_ret
      exact ⟨rfl, hbel.out⟩
theorem snip_bytes (ln : ByteArray) (c : Nat) (T D : ByteArray) (hT : bytesB (tabsL ln.data.toList) = T) (hD : bytesB (List.replicate c 46) = D) :
    (((⟨#[10, 32, 124, 32]⟩ ++ T) ++ ⟨#[10, 32, 124, 32]⟩) ++ D) ++ ⟨#[94]⟩ = bytesB ([10, 32, 124, 32] ++ tabsL ln.data.toList ++ [10, 32, 124, 32] ++ List.replicate c 46 ++ [94]) := by
  subst hT
  subst hD
  apply ba_ext
  simp only [ByteArray.data_append, Array.toList_append, bytesB_data]
theorem snippet_any (ln : ByteArray) (c : Nat) (w : World) (hl : ln.size ≤ 1048576) (hc : c ≤ 1048576) :
    Calls Try.prog 10 #[.string ln, .int .i64 (c : Int)] w fun e w' => e = .returned (.string (bytesB ([10, 32, 124, 32] ++ tabsL ln.data.toList ++ [10, 32, 124, 32] ++ List.replicate c 46 ++ [94]))) ∧ Below w.heap.size w w' := by
  have HT := fun w => hide (tabs_any ln w hl)
  have HD := fun w => hide (dots_any c w hc)
  have hb := fun T D hT hD => hide (snip_bytes ln c T D hT hD)
  have zT : (bytesB (tabsL ln.data.toList)).size = ln.size := by rw [bytesB_size, tabsL_length, len_data]
  have zD : (bytesB (List.replicate c 46)).size = c := by rw [bytesB_size, List.length_replicate]
  obtain ⟨T, hT⟩ : ∃ T, bytesB (tabsL ln.data.toList) = T := ⟨_, rfl⟩
  obtain ⟨D, hD⟩ : ∃ D, bytesB (List.replicate c 46) = D := ⟨_, rfl⟩
  have hbb := hb T D hT hD
  rw [hT] at HT zT
  rw [hD] at HD zD
  have zT' : (T.size : Int) ≤ 1048576 := by omega
  have zD' : (D.size : Int) ≤ 1048576 := by omega
  rw [← hbb.out]
  clear hT hD hb zT zD hbb hl hc
  go_enter Try.func10, Try.ntmps10
  go_wp2_with fail
  refine (HT w).out.mono ?_
  rintro e w1 ⟨rfl, hb1⟩
  go_wp2_with fail
  refine (HD w1).out.mono ?_
  rintro e w2 ⟨rfl, hb2⟩
  have hbb := hide (hb1.trans (hb2.mono hb1.size))
  go_wp2
  go_ret
  exact ⟨rfl, hbb.out⟩
end Go.Proofs.Ytlfgaikcdelknaa
