/-
  The walk of the statement that Bind agrees with Snippet, where the line is not empty. No condition.
-/
import Derived.Test.YtlfgaikcdelknaaPict
import Derived.Outline
namespace Go.Proofs.Ytlfgaikcdelknaa
open Go.RowKit Go.Lib Go.Shelf Go.Proofs
set_option linter.unusedVariables false
set_option linter.unusedSimpArgs false

theorem pic_size (src : ByteArray) (ls le c : Nat) (LN : ByteArray) (h : src.extract ls le = LN) : (bytesB (pic src ls le c)).size = 4 + (bytesB (tabsL LN.data.toList)).size + 4 + c + 1 := by
  rw [bytesB_size, bytesB_size]
  unfold pic
  rw [h]
  simp
  omega
theorem pic_head (src : ByteArray) (ls le c : Nat) (LN : ByteArray) (h : src.extract ls le = LN) : (bytesB (pic src ls le c)).extract 0 (4 + (bytesB (tabsL LN.data.toList)).size + 4) = (⟨#[10, 32, 124, 32]⟩ ++ bytesB (tabsL LN.data.toList)) ++ ⟨#[10, 32, 124, 32]⟩ := by
  apply ba_ext
  rw [cut_data, bytesB_data, List.drop_zero, Nat.sub_zero, bytesB_size]
  simp only [ByteArray.data_append, Array.toList_append, bytesB_data]
  unfold pic
  rw [h]
  have e : 4 + (tabsL LN.data.toList).length + 4 = ([10, 32, 124, 32] ++ tabsL LN.data.toList ++ [10, 32, 124, 32]).length := by simp; omega
  rw [List.append_assoc (_ ++ _ ++ _), e, List.take_left]
theorem pic_dot (src : ByteArray) (ls le c : Nat) (LN : ByteArray) (h : src.extract ls le = LN) (i : Nat) (h1 : 4 + (bytesB (tabsL LN.data.toList)).size + 4 ≤ i) (h2 : i < 4 + (bytesB (tabsL LN.data.toList)).size + 4 + c) : byteAt (bytesB (pic src ls le c)) i = 46 := by
  rw [bytesB_size] at h1 h2
  unfold byteAt
  rw [bytesB_data]
  unfold pic
  rw [h]
  have e : ([10, 32, 124, 32] ++ tabsL LN.data.toList ++ [10, 32, 124, 32]).length = 4 + (tabsL LN.data.toList).length + 4 := by simp; omega
  rw [List.append_assoc (_ ++ _ ++ _)]
  simp only [List.getD]
  rw [List.getElem?_append_right (by omega), e, List.getElem?_append_left (by simp; omega), List.getElem?_replicate, if_pos (by omega)]
  rfl
theorem pic_last (src : ByteArray) (ls le c : Nat) (LN : ByteArray) (h : src.extract ls le = LN) : byteAt (bytesB (pic src ls le c)) (4 + (bytesB (tabsL LN.data.toList)).size + 4 + c) = 94 := by
  rw [bytesB_size]
  unfold byteAt
  rw [bytesB_data]
  unfold pic
  rw [h]
  have e : ([10, 32, 124, 32] ++ tabsL LN.data.toList ++ [10, 32, 124, 32] ++ List.replicate c 46).length = 4 + (tabsL LN.data.toList).length + 4 + c := by simp; omega
  simp only [List.getD]
  rw [List.getElem?_append_right (by omega), e, Nat.sub_self]
  rfl
set_option maxRecDepth 20000 in
set_option maxHeartbeats 4000000 in
theorem pict_pic (src : ByteArray) (f : Int) (m : ByteArray) (w : World) (h : src.size + m.size ≤ 1048576) (h0 : ¬ src = ByteArray.empty) (hq : ¬ (scanB src f src.size 0 0 0 1 0).1 = lineEnd src (scanB src f src.size 0 0 0 1 0).1) :
    Calls Try.prog 5 #[.string src, .int .i64 f, .string m] w fun e w' => e = .returned (.bool true) ∧ Below w.heap.size w w' := by
  have Z := hide (zz14_yes src f m w h)
  have h' : (src.size : Int) + (m.size : Int) ≤ 1048576 := by omega
  have n_src : (src.size : Int) ≤ 1048576 := by omega
  have n_m : (m.size : Int) ≤ 1048576 := by omega
  have hs := hide (show src.size ≤ 1048576 by omega)
  have HB := fun b w hE => hide (bind_any b src f 0 0 0 m ⟨#[]⟩ .nilIface w hs.out hE)
  have hso := scan_facts src f
  generalize scanB src f src.size 0 0 0 1 0 = S at *
  obtain ⟨ls, l, c⟩ := S
  simp only [BindRes] at HB hq
  obtain ⟨z1, z2, z3, z6, z7⟩ := hso
  obtain ⟨z4, z5, _, _⟩ := lineEnd_spec src ls z1
  simp only at z1 z2 z3 z6 z7
  have HN := fun w => hide (snip_any src l ls w h0 hs.out z2 z6 z1)
  have z8 := z6.one
  have HC := fun w => hide (cnt_any (src.extract ls (lineEnd src ls)) w (by simp; omega))
  have hem : (src.toList == []) = false := by
    rw [toList_data]
    rcases h : src.data.toList with _ | ⟨a, m⟩
    · exact absurd (ba_ext (a := src) (b := ByteArray.empty) (by rw [h]; rfl)) h0
    · rfl
  have hem2 : src.toList.isEmpty = false := by
    rw [toList_data]
    rcases h : src.data.toList with _ | ⟨a, m⟩
    · exact absurd (ba_ext (a := src) (b := ByteArray.empty) (by rw [h]; rfl)) h0
    · rfl
  have x1 : (1 : Int) ≤ (l : Int) := by omega
  have x0 : (0 : Int) ≤ (c : Int) := by omega
  have x2 : (c : Int) ≤ 1048576 := by omega
  have hln : ls < lineEnd src ls := by omega
  obtain ⟨LN, hLN⟩ : ∃ LN, src.extract ls (lineEnd src ls) = LN := ⟨_, rfl⟩
  have zL : LN.size = lineEnd src ls - ls := by rw [← hLN]; simp; omega
  have q1 := pic_size src ls (lineEnd src ls) c LN hLN
  have q2 := pic_head src ls (lineEnd src ls) c LN hLN
  have q3 := fun i a b => hide (pic_dot src ls (lineEnd src ls) c LN hLN i a b)
  have q4 := hide (pic_last src ls (lineEnd src ls) c LN hLN)
  rw [hLN] at HN HC z7
  have hzl : LN.size ≤ 1048576 := by omega
  have HT := fun w => hide (tabs_any LN w hzl)
  have zT : (bytesB (tabsL LN.data.toList)).size = LN.size := by rw [bytesB_size, tabsL_length, len_data]
  have hnn : LN.data.toList ≠ [] := by
    intro e
    have := congrArg List.length e
    rw [len_data, List.length_nil] at this
    omega
  have hel : (LN.toList == []) = false := by
    rw [toList_data]
    rcases h : LN.data.toList with _ | ⟨a, m⟩
    · exact absurd h hnn
    · rfl
  have hel2 : LN.toList.isEmpty = false := by
    rw [toList_data]
    rcases h : LN.data.toList with _ | ⟨a, m⟩
    · exact absurd h hnn
    · rfl
  have hel3 : ¬ LN = ByteArray.empty := by
    intro e
    apply hnn
    rw [e]
    rfl
  have hqh := hide hq
  generalize cnt LN.data.toList = CN at *
  have z7' : (c : Int) ≤ (CN : Int) := by omega
  generalize bytesB (tabsL LN.data.toList) = T at *
  generalize bytesB (pic src ls (lineEnd src ls) c) = PB at *
  have t1 : (T.size : Int) ≤ 1048576 := by omega
  have t2 : (PB.size : Int) = 4 + (T.size : Int) + 4 + (c : Int) + 1 := by omega
  have t2h := hide t2
  have t3 : PB.size = 4 + T.size + 4 + c + 1 := q1
  clear z1 z2 z3 z4 z5 z6 z7 z8 hq h0 hLN zL q1 hzl zT hnn hln
  clear h
  go_enter Try.func5, Try.ntmps5
  go_wp2_with fail
  refine Z.out.mono ?_
  rintro e w' ⟨rfl, rfl⟩
  have hE0 := hide (new_err w f 0 0 0 m ⟨#[]⟩ .nilIface)
  have hb0 := hide ((Below.refl w.heap.size w).alloc (Nat.le_refl _) (.cells #[.int .i64 f, .int .i64 0, .int .i64 0, .int .i64 0, .string m, .string ⟨#[]⟩, .nilIface] 29))
  go_wp2_with fail
  generalize w.alloc (.cells #[.int .i64 f, .int .i64 0, .int .i64 0, .int .i64 0, .string m, .string ⟨#[]⟩, .nilIface] 29) = W1 at *
  refine (source_any src W1).mono ?_
  rintro e W2 ⟨rfl, hb2⟩
  have hE2 := hide (hE0.out.same (hb2.block _ hE0.out.lt))
  have hb2h := hide (hb0.out.trans (hb2.mono hb0.out.size))
  clear hE0 hb0 hb2
  go_wp2_with fail
  refine (HB _ W2 hE2.out).out.mono ?_
  rintro e W3 ⟨rfl, hE3, hg3⟩
  rw [if_neg hqh.out] at hE3
  have hb3 := hide (hb2h.out.grown hg3 hb2h.out.size (fun k hk => by cases hk; omega))
  have hE3h := hide hE3
  obtain ⟨ca0, ca1, ca2, ca3, ca4, ca5, ca6⟩ := hE3.cells
  clear hE2 hb2h hg3 hE3 HB
  go_wp2_with fail
  have cl := ca2
  clear ca0 ca1 ca2 ca3 ca4 ca5 ca6
  go_region_held3 (fun w' => w'.cell? ⟨w.heap.size, 2, none⟩ = some (.int .i64 l) ∧ Below W3.heap.size W3 w') (first | exact start2 cl | exact keep2 (by assumption) (by assumption) | exact start2b (by assumption) | exact same2 cl)
    (first | (go_at_call 8; refine (source_any src _).mono ?_; rintro e w4 ⟨rfl, hb4⟩) | (go_at_call 15; refine ((HN _).out).mono ?_; rintro e w5 ⟨rfl, hb55⟩))
  rename_i hS5
  obtain ⟨_, hb5⟩ := hS5
  have hE5 := hide (hE3h.out.same (hb5.block _ hE3h.out.lt))
  have hbb5 := hide (hb3.out.trans (hb5.mono hb3.out.size))
  obtain ⟨ca0, ca1, ca2, ca3, ca4, ca5, ca6⟩ := hE5.out.cells
  clear hE3h hb3 hb5 cl
  go_wp2_with fail
  have cc := ca3
  clear ca0 ca1 ca2 ca3 ca4 ca5 ca6
  go_region_held3 (fun w' => w'.cell? ⟨w.heap.size, 3, none⟩ = some (.int .i64 c) ∧ Below w5.heap.size w5 w') (first | exact start2 cc | exact keep2 (by assumption) (by assumption) | exact start2b (by assumption) | exact same2 cc)
    (first | (go_at_call 16; refine (HC _).out.mono ?_; rintro e w' ⟨rfl, rfl⟩))
  rename_i hS6
  obtain ⟨_, hb6⟩ := hS6
  have hE6 := hide (hE5.out.same (hb6.block _ hE5.out.lt))
  have hbb6 := hide (hbb5.out.trans (hb6.mono hbb5.out.size))
  obtain ⟨ca0, ca1, ca2, ca3, ca4, ca5, ca6⟩ := hE6.out.cells
  clear hE5 hbb5 hb6 cc
  go_wp2_with fail
  refine (HT _).out.mono ?_
  rintro e w8 ⟨rfl, hb8⟩
  have hE8 := hide (hE6.out.same (hb8.block _ hE6.out.lt))
  have hbb8 := hide (hbb6.out.trans (hb8.mono hbb6.out.size))
  obtain ⟨ca0, ca1, ca2, ca3, ca4, ca5, ca6⟩ := hE8.out.cells
  clear hE6 hbb6 hb8
  go_wp2_with fail
  clear ca0 ca1 ca2 ca3 ca4 ca5 ca6 hE8 HN HC HT hel hel2 hel3 hem hem2
  go_loopw [12] (fun iv wv => ∃ i : Nat, iv = .int .i64 (i : Int) ∧ 4 + T.size + 4 ≤ i ∧ i ≤ 4 + T.size + 4 + c ∧ w8 = wv) (fun iv _ => 4 + T.size + 4 + c - (RowKit.intOf iv).toNat)
  case atStart => exact ⟨4 + T.size + 4, by go_num, Nat.le_refl _, by omega, rfl⟩
  case round =>
    obtain ⟨i, rfl, h1, h2, rfl⟩ := hrel
    have i0 : (0 : Int) ≤ (i : Int) := by omega
    by_cases h3 : i < 4 + T.size + 4 + c
    · have gi : ∀ h : i < PB.size, ((PB[i]'h).toNat : Int) = 46 := fun h => by rw [byteAt_get PB i h, (q3 i h1 h3).out]; rfl
      have hip : (i : Int) < (PB.size : Int) := by have := t2h.out; omega
      have hip2 : (i : Int) < 4 + (T.size : Int) + 4 + (c : Int) := by omega
      have h3h := hide (And.intro h1 (And.intro h2 h3))
      clear h1 h2 h3 q3
      go_wp2
      go_roundw
      case rel => exact ⟨i + 1, by go_num, by have := h3h.out; omega, by have := h3h.out; omega, by first | rfl | trivial⟩
      case measure => have := h3h.out; simp [RowKit.intOf]; omega
    · obtain rfl : i = 4 + T.size + 4 + c := by omega
      have gi : ∀ h : 4 + T.size + 4 + c < PB.size, ((PB[4 + T.size + 4 + c]'h).toNat : Int) = 94 := fun h => by rw [byteAt_get PB _ h, q4.out]; rfl
      have hlt : 4 + T.size + 4 + c < PB.size := by have := t2h.out; omega
      clear h1 h2 h3 q3
      go_wp2
      go_ret
      exact ⟨by simp, hbb8.out⟩
set_option maxRecDepth 20000 in
theorem all5 (src : ByteArray) (f : Int) (m : ByteArray) (w : World) (h0 : src.size ≤ maxLen) (h1 : m.size ≤ maxLen) :
    Calls Try.prog 5 #[.string src, .int .i64 f, .string m] w fun e w' => e = .returned (.bool true) ∧ Below w.heap.size w w' := by
  by_cases h : src.size + m.size ≤ 1048576
  · by_cases he : src = ByteArray.empty
    · exact pict_nil src f m w h he
    · by_cases hq : (scanB src f src.size 0 0 0 1 0).1 = lineEnd src (scanB src f src.size 0 0 0 1 0).1
      · exact pict_same src f m w h he hq
      · exact pict_pic src f m w h he hq
  · have Z := hide (zz14_no src f m w (by omega) ⟨h0, h1⟩)
    clear h h0 h1
    go_enter Try.func5, Try.ntmps5
    go_wp2_with fail
    refine Z.out.mono ?_
    rintro e w' ⟨rfl, rfl⟩
    go_wp2
    go_ret
    exact ⟨rfl, Below.refl _ _⟩
end Go.Proofs.Ytlfgaikcdelknaa
