/-
  Error.Bind by contract: the walk. No condition beyond the size.
-/
import Derived.Test.YtlfgaikcdelknaaBindA
import Derived.Outline
namespace Go.Proofs.Ytlfgaikcdelknaa
open Go.RowKit Go.Lib Go.Shelf Go.Proofs
set_option linter.unusedVariables false
set_option linter.unusedSimpArgs false

/-- What Bind leaves. -/
def BindRes (b : Nat) (src : ByteArray) (f t : Int) (msg snip : ByteArray) (prev : Value) (w w' : World) (S : Nat × Nat × Nat) : Prop :=
  Err b f t (S.2.1 : Int) (S.2.2 : Int) msg (if S.1 = lineEnd src S.1 then snip else bytesB (pic src S.1 (lineEnd src S.1) S.2.2)) prev w' ∧ w.grownBy w' (some b)
section
variable {src : ByteArray} {f t : Int} {b : Nat} {msg snip : ByteArray} {prev : Value} {w W : World} {ls l c : Nat} {S : Nat × Nat × Nat}
theorem end_same (hS : S = (ls, l, c)) (hE : Err b f t l c msg snip prev W) (hg : w.grownBy W (some b)) (hl : ls = lineEnd src ls) : BindRes b src f t msg snip prev w W S := by
  subst hS
  refine ⟨?_, hg⟩
  rw [if_pos hl]
  exact hE
theorem end_pic {W5 : World} {le : Nat} (hS : S = (ls, l, c)) (hE : Err b f t l c msg snip prev W) (hg : w.grownBy W (some b)) (hb : w.heap.size ≤ W.heap.size) (hl : ls ≠ le) (hle : lineEnd src ls = le) (hW : Below W.heap.size W W5) :
    BindRes b src f t msg snip prev w (W5.setCell ⟨b, 5, none⟩ (.string (bytesB (pic src ls le c)))) S := by
  subst hS
  have hbl := hE.lt
  refine ⟨?_, gb_set (gb_below hg hW hb) _ _⟩
  rw [if_neg (by rw [hle]; exact hl), hle]
  exact (hE.same (hW.block b hbl)).setSnip _
end
theorem bytesB_size (l : List UInt8) : (bytesB l).size = l.length := by
  show l.toArray.size = l.length
  simp
theorem bytesB_data (l : List UInt8) : (bytesB l).data.toList = l := by simp [bytesB]
theorem pre_size : (⟨#[10, 32, 124, 32]⟩ : ByteArray).size = 4 := rfl
theorem acc_pic (src : ByteArray) (ls le c : Nat) (ln : ByteArray) (h : src.extract ls le = ln) :
    ((([] ++ strCells ⟨#[10, 32, 124, 32]⟩) ++ strCells (bytesB (tabsL ln.data.toList))) ++ strCells ⟨#[10, 32, 124, 32]⟩) ++ List.replicate c (Value.int .u8 46) ++ [Value.int .u8 94] = byteCells (pic src ls le c) := by
  unfold pic
  rw [h]
  simp only [byteCells_append, strCells_eq, bytesB_data, List.nil_append]
  congr 1
  congr 1
  simp [byteCells]
theorem ptr_below {T e B b : Nat} {p : Value} {bs : List Value} {w w' : World} (h : BuilderAt T e B b p bs w) (k : Below w.heap.size w w') : BuilderAt T e B b p bs w' := by
  have hl := h.lt
  obtain ⟨h1, v, h2, h3, h4⟩ := h
  refine ⟨h1, v, (k.block b hl).trans h2, h3.kept (row := none) ⟨k.os, k.tape, k.output, k.size, fun i hi _ => k.block i hi⟩ ?_, h4⟩
  cases v.ownBlock with
  | none => exact .inl rfl
  | some x => exact .inr (by simp)
theorem b_grow' (B b : Nat) (x : Int) (w : World) (hB : B ≤ b) (hbk : w.heap[b]? = some (.cells #[.pointer none, .slice none 0 0] 50 (0, 0))) (hBw : B ≤ w.heap.size) (h0 : 0 ≤ x) (hx : x ≤ 4194304) :
    Calls Try.prog 20 #[.pointer (some ⟨b, 0, none⟩), .int .i64 x] w fun e w' => e = .returned (.tuple #[]) ∧ (Lib.BuilderAt 50 5 B b (.pointer (some ⟨b, 0, none⟩)) [] w' ∧ Below B w w') := by
  obtain ⟨n, rfl⟩ := Int.eq_ofNat_of_zero_le h0
  exact b_grow B b n w hB hbk hBw (by omega)
theorem b_index' (s : ByteArray) (w : World) :
    Calls Try.prog 19 #[.string s, .int .u8 10] w fun e w' => e = .returned (.int .i64 (Lib.indexByte s.data.toList 10)) ∧ w = w' :=
  (b_index s 10 w).mono fun e w' ⟨he, hw⟩ => ⟨he, hw.symm⟩
set_option maxRecDepth 20000 in
set_option maxHeartbeats 4000000 in
theorem bind_any (b : Nat) (src : ByteArray) (f t l0 c0 : Int) (msg snip : ByteArray) (prev : Value) (w : World) (hs : src.size ≤ 1048576) (hE : Err b f t l0 c0 msg snip prev w) :
    Calls Try.prog 7 #[.pointer (some ⟨b, 0, none⟩), .agg #[.string src]] w fun e w' => e = .returned (.pointer (some ⟨b, 0, none⟩)) ∧ BindRes b src f t msg snip prev w w' (scanB src f src.size 0 0 0 1 0) := by
  have hb := hE.lt
  have hE1 := hide hE
  have hsh := hide hs
  have hfr : ∀ (j : Nat), w.frozen? ⟨b, j, none⟩ = false := hE.free
  have hc2 := hE.cells.2.2.1
  have hc3 := hE.cells.2.2.2.1
  clear hs hE
  go_enter Try.func7, Try.ntmps7
  go_wp2
  go_loopw [6, 7] (fun rv lv wr => ∃ (n pos rc ls l c : Nat), rv = .int .i64 rc ∧ lv = .int .i64 ls ∧ Hid (BindAt src f b (w.heap.size + 2) t msg snip prev w wr n pos rc ls l c)) (fun _ _ wr => src.size - wr.iterPos (w.heap.size + 2))
  case atStart => exact ⟨src.size, 0, 0, 0, 1, 0, rfl, rfl, hide (BindAt.start hE1.out _ _)⟩
  case round =>
    clear hfr hc2 hc3 hE1
    obtain ⟨n, pos, rc, ls, l, c, rfl, rfl, hB⟩ := hrel
    have z1 := hB.out.rc_le
    have z2 := hB.out.pos_le
    have z3 := hB.out.l_le
    have z4 := hB.out.c_le
    have z5 := hB.out.ls_le
    have z6 := hsh.out
    have y1 : (rc : Int) ≤ 1048576 := by omega
    have y2 : (l : Int) ≤ 1048577 := by omega
    have y3 : (c : Int) ≤ 1048576 := by omega
    have y4 : (pos : Int) ≤ 1048576 := by omega
    have y5 : (ls : Int) ≤ (src.size : Int) := by omega
    have hzs := hide (And.intro z1 (And.intro z2 (And.intro z3 (And.intro z4 (And.intro z5 z6)))))
    by_cases hp : pos < src.size
    · have hnx : ∀ ty, (Instr.next (.pointer (some ⟨w.heap.size + 2, 0, none⟩)) true ty).run Try.prog wr = _ := fun ty => Lib.run_next_any_at wr (w.heap.size + 2) src pos ty hB.out.it hp
      have hE2 := hB.out.nextErr (by omega) (pos + (Utf8.decode src pos).2)
      have hc0 := hE2.cells.1
      have hc2 := hE2.cells.2.2.1
      have hc3 := hE2.cells.2.2.2.1
      have hfr : ∀ (j : Nat), (wr.iterAt (w.heap.size + 2) src (pos + (Utf8.decode src pos).2)).frozen? ⟨b, j, none⟩ = false := hE2.free
      have hE2h := hide hE2
      clear hE2 z1 z2 z3 z4 z5 z6
      by_cases hf : (rc : Int) = f
      · have hS := hide (hB.out.stop (.inr hf))
        have hGW0 := hide (gb_iter hB.out.grown (k := w.heap.size + 2) (by omega) src (pos + (Utf8.decode src pos).2))
        go_wp2_with fail
        clear hB hc0 hc2 hc3 hfr hnx hp
        generalize wr.iterAt (w.heap.size + 2) src (pos + (Utf8.decode src pos).2) = W at *
        have hEW : Hid (Err b f t l c msg snip prev W) := hE2h
        have hgW : Hid (w.grownBy W (some b)) := hGW0
        have hzW : w.heap.size ≤ W.heap.size := hgW.out.size
        have hbW0 := hEW.out.lt
        obtain ⟨y7, y8⟩ : ls ≤ src.size ∧ c ≤ 1048576 := by have := hzs.out; omega
        have hszn : src.size ≤ 1048576 := hsh.out
        have HI := b_index' (src.extract ls src.size) W
        rcases Int.lt_or_le (indexByte (src.extract ls src.size).data.toList 10) 0 with hX | hX
        · have hm1 : indexByte (src.extract ls src.size).data.toList 10 = -1 := by have := indexByte_ge (src.extract ls src.size).data.toList 10; omega
          have hle : Hid (lineEnd src ls = src.size) := by unfold lineEnd; rw [if_pos hX]; rfl
          rw [hm1] at HI
          have HI2 := hide HI
          clear hX hm1 HI
          by_cases hq : ls = src.size
          · have hend := hide (end_same (src := src) hS.out hEW.out hgW.out (hq.trans hle.out.symm))
            have hq' : (ls : Int) = (src.size : Int) := by omega
            clear hq
            refine HI2.out.mono ?_
            rintro e w' ⟨rfl, rfl⟩
            go_wp2
            go_ret
            exact ⟨rfl, hend.out⟩
          · have hne : Hid (ls ≠ src.size) := hq
            have hq' : ((ls : Int) == (src.size : Int)) = false := by rw [beq_eq_false_iff_ne]; omega
            have hq2 : (ls : Int) ≤ (src.size : Int) := by omega
            clear hq
            refine HI2.out.mono ?_
            rintro e w' ⟨rfl, rfl⟩
            obtain ⟨ln, hln⟩ : ∃ ln, src.extract ls src.size = ln := ⟨_, rfl⟩
            have hlz : ln.size ≤ 1048576 := by
              rw [← hln]
              simp
              omega
            have hlzi : (ln.size : Int) ≤ 1048576 := by omega
            have hlnh := hide hln
            have hcW := hEW.out.cells.2.2.2.1
            have hbW := hEW.out.lt
            go_wp2_with fail
            refine (b_grow' W.heap.size W.heap.size _ _ (Nat.le_refl _) (heap_alloc_new _ _) (by simp) (by omega) (by omega)).mono ?_
            rintro e W1 ⟨rfl, hB1, hb1⟩
            have hx1 : W.heap.size ≤ W1.heap.size := Nat.le_of_lt hB1.lt
            go_wp2_with fail
            refine (b_string W.heap.size W.heap.size _ ⟨#[10, 32, 124, 32]⟩ _ (.inr hB1) (by simp only [List.length_nil, pre_size]; omega) hx1).mono ?_
            rintro e W2 ⟨rfl, hB2, hb2⟩
            go_wp2_with fail
            refine (rep_any ln W2 hlz).mono ?_
            rintro e W3 ⟨rfl, hb3⟩
            have hx2 : W.heap.size ≤ W2.heap.size := Nat.le_of_lt hB2.lt
            have hB3 := ptr_below hB2 hb3
            have hx3 : W.heap.size ≤ W3.heap.size := Nat.le_of_lt hB3.lt
            go_wp2_with fail
            refine (b_string W.heap.size W.heap.size _ (bytesB (tabsL ln.data.toList)) _ (.inr hB3) (by simp only [List.length_append, List.length_nil, strCells_length, pre_size, bytesB_size, tabsL_length, len_data]; omega) hx3).mono ?_
            rintro e W4 ⟨rfl, hB4, hb4⟩
            have hx4 : W.heap.size ≤ W4.heap.size := Nat.le_of_lt hB4.lt
            go_wp2_with fail
            refine (b_string W.heap.size W.heap.size _ ⟨#[10, 32, 124, 32]⟩ _ (.inr hB4) (by simp only [List.length_append, List.length_nil, strCells_length, pre_size, bytesB_size, tabsL_length, len_data]; omega) hx4).mono ?_
            rintro e W5 ⟨rfl, hB5, hb5⟩
            have hall : Below W.heap.size W W5 := (((((Below.refl W.heap.size W).alloc (Nat.le_refl _) _).trans hb1).trans hb2).trans (hb3.mono hx2)).trans (hb4.trans hb5)
            have hallh := hide hall
            have hB5h := hide hB5
            clear hB1 hb1 hB2 hb2 hB3 hb3 hB4 hb4 hB5 hb5 hall hx1 hx2 hx3 hx4 hln
            go_wp2_with fail
            go_loopw [13] (fun iv wv => ∃ i : Nat, iv = .int .i64 i ∧ i ≤ c ∧ Hid (BuilderAt 50 5 W.heap.size W.heap.size (.pointer (some ⟨W.heap.size, 0, none⟩)) (((([] ++ strCells ⟨#[10, 32, 124, 32]⟩) ++ strCells (bytesB (tabsL ln.data.toList))) ++ strCells ⟨#[10, 32, 124, 32]⟩) ++ List.replicate i (Value.int .u8 46)) wv) ∧ Hid (Below W.heap.size W wv)) (fun iv _ => c - (RowKit.intOf iv).toNat)
            case atStart => exact ⟨0, rfl, by omega, by rw [List.replicate_zero, List.append_nil]; exact hB5h, hallh⟩
            case round =>
              obtain ⟨i, rfl, hic, hBi, hbi⟩ := hrel
              obtain ⟨wv, hwv⟩ : ∃ x, x = wr := ⟨_, rfl⟩
              have hcv : wr.cell? ⟨b, 3, none⟩ = some (.int .i64 c) := (hbi.out.cell (p := ⟨b, 3, none⟩) hbW).trans hcW
              have hi0 : (0 : Int) ≤ (i : Int) := by omega
              have hii : (i : Int) ≤ (c : Int) := by omega
              have hxv : W.heap.size ≤ wr.heap.size := Nat.le_of_lt hBi.out.lt
              clear hwv
              by_cases hlt : i < c
              · have hlt' : (i : Int) < (c : Int) := by omega
                have HB := hide (b_byte W.heap.size W.heap.size _ 46 wr (.inr hBi.out) (by simp only [List.length_append, List.length_nil, List.length_replicate, strCells_length, pre_size, bytesB_size, tabsL_length, len_data]; omega) hxv)
                go_wp2_with fail
                refine HB.out.mono ?_
                rintro e W6 ⟨rfl, hB6, hb6⟩
                go_wp2
                go_roundw
                case rel => exact ⟨i + 1, by go_num, by omega, by rw [List.replicate_succ', ← List.append_assoc]; exact hB6, hbi.out.trans hb6⟩
                case measure => simp [RowKit.intOf]; omega
              · obtain rfl : i = c := by omega
                have HB := hide (b_byte W.heap.size W.heap.size _ 94 wr (.inr hBi.out) (by simp only [List.length_append, List.length_nil, List.length_replicate, strCells_length, pre_size, bytesB_size, tabsL_length, len_data]; omega) hxv)
                go_wp2_with fail
                refine HB.out.mono ?_
                rintro e W6 ⟨rfl, hB6, hb6⟩
                rw [acc_pic src ls src.size i ln hlnh.out] at hB6
                have hx6 : W.heap.size ≤ W6.heap.size := Nat.le_of_lt hB6.lt
                have HS := hide (b_text W.heap.size W.heap.size _ W6 (.inr hB6) hx6)
                clear hB6 HB
                go_wp2_with fail
                refine HS.out.mono ?_
                rintro e W8 ⟨rfl, hb8⟩
                have hb9 : Below W.heap.size W W8 := (hbi.out.trans hb6).trans hb8
                have hE8 := hEW.out.same (hb9.block b hbW)
                have hc5 := hE8.cells.2.2.2.2.2.1
                have hf5 := hE8.free 5
                have hfin := hide (end_pic hS.out hEW.out hgW.out hzW hne.out hle.out hb9)
                clear hE8
                go_wp2
                go_ret
                exact ⟨rfl, hfin.out⟩
        · obtain ⟨o, ho⟩ := Int.eq_ofNat_of_zero_le hX
          have ho' : indexByte (src.extract ls src.size).data.toList 10 = (o : Int) := ho
          have hle : Hid (lineEnd src ls = ls + o) := by unfold lineEnd; rw [if_neg (by omega), ho']; rfl
          have hol : ls + o < src.size := by
            have h1 := (List.getElem?_eq_some_iff.1 (indexByte_some ho').1).1
            rw [len_data, cut_size src ls y7] at h1
            omega
          rw [ho'] at HI
          have HI2 := hide HI
          clear hX ho ho' HI
          have ho0 : (0 : Int) ≤ (o : Int) := by omega
          have hol' : (ls : Int) + (o : Int) ≤ (src.size : Int) := by omega
          by_cases hq : o = 0
          · have hend := hide (end_same (src := src) hS.out hEW.out hgW.out (by rw [hle.out, hq]; rfl))
            subst hq
            refine HI2.out.mono ?_
            rintro e w' ⟨rfl, rfl⟩
            go_wp2
            go_ret
            exact ⟨rfl, hend.out⟩
          · have hne : Hid (ls ≠ ls + o) := by intro e; omega
            have hq' : ((o : Int) == 0) = false := by rw [beq_eq_false_iff_ne]; omega
            have hq2 : ((ls : Int) == (ls : Int) + (o : Int)) = false := by rw [beq_eq_false_iff_ne]; omega
            clear hq
            refine HI2.out.mono ?_
            rintro e w' ⟨rfl, rfl⟩
            obtain ⟨ln, hln⟩ : ∃ ln, src.extract ls (ls + o) = ln := ⟨_, rfl⟩
            have hlz : ln.size ≤ 1048576 := by
              rw [← hln]
              simp
              omega
            have hlzi : (ln.size : Int) ≤ 1048576 := by omega
            have hlnh := hide hln
            have hcW := hEW.out.cells.2.2.2.1
            have hbW := hEW.out.lt
            go_wp2_with fail
            refine (b_grow' W.heap.size W.heap.size _ _ (Nat.le_refl _) (heap_alloc_new _ _) (by simp) (by omega) (by omega)).mono ?_
            rintro e W1 ⟨rfl, hB1, hb1⟩
            have hx1 : W.heap.size ≤ W1.heap.size := Nat.le_of_lt hB1.lt
            go_wp2_with fail
            refine (b_string W.heap.size W.heap.size _ ⟨#[10, 32, 124, 32]⟩ _ (.inr hB1) (by simp only [List.length_nil, pre_size]; omega) hx1).mono ?_
            rintro e W2 ⟨rfl, hB2, hb2⟩
            go_wp2_with fail
            refine (rep_any ln W2 hlz).mono ?_
            rintro e W3 ⟨rfl, hb3⟩
            have hx2 : W.heap.size ≤ W2.heap.size := Nat.le_of_lt hB2.lt
            have hB3 := ptr_below hB2 hb3
            have hx3 : W.heap.size ≤ W3.heap.size := Nat.le_of_lt hB3.lt
            go_wp2_with fail
            refine (b_string W.heap.size W.heap.size _ (bytesB (tabsL ln.data.toList)) _ (.inr hB3) (by simp only [List.length_append, List.length_nil, strCells_length, pre_size, bytesB_size, tabsL_length, len_data]; omega) hx3).mono ?_
            rintro e W4 ⟨rfl, hB4, hb4⟩
            have hx4 : W.heap.size ≤ W4.heap.size := Nat.le_of_lt hB4.lt
            go_wp2_with fail
            refine (b_string W.heap.size W.heap.size _ ⟨#[10, 32, 124, 32]⟩ _ (.inr hB4) (by simp only [List.length_append, List.length_nil, strCells_length, pre_size, bytesB_size, tabsL_length, len_data]; omega) hx4).mono ?_
            rintro e W5 ⟨rfl, hB5, hb5⟩
            have hall : Below W.heap.size W W5 := (((((Below.refl W.heap.size W).alloc (Nat.le_refl _) _).trans hb1).trans hb2).trans (hb3.mono hx2)).trans (hb4.trans hb5)
            have hallh := hide hall
            have hB5h := hide hB5
            clear hB1 hb1 hB2 hb2 hB3 hb3 hB4 hb4 hB5 hb5 hall hx1 hx2 hx3 hx4 hln
            go_wp2_with fail
            go_loopw [13] (fun iv wv => ∃ i : Nat, iv = .int .i64 i ∧ i ≤ c ∧ Hid (BuilderAt 50 5 W.heap.size W.heap.size (.pointer (some ⟨W.heap.size, 0, none⟩)) (((([] ++ strCells ⟨#[10, 32, 124, 32]⟩) ++ strCells (bytesB (tabsL ln.data.toList))) ++ strCells ⟨#[10, 32, 124, 32]⟩) ++ List.replicate i (Value.int .u8 46)) wv) ∧ Hid (Below W.heap.size W wv)) (fun iv _ => c - (RowKit.intOf iv).toNat)
            case atStart => exact ⟨0, rfl, by omega, by rw [List.replicate_zero, List.append_nil]; exact hB5h, hallh⟩
            case round =>
              obtain ⟨i, rfl, hic, hBi, hbi⟩ := hrel
              obtain ⟨wv, hwv⟩ : ∃ x, x = wr := ⟨_, rfl⟩
              have hcv : wr.cell? ⟨b, 3, none⟩ = some (.int .i64 c) := (hbi.out.cell (p := ⟨b, 3, none⟩) hbW).trans hcW
              have hi0 : (0 : Int) ≤ (i : Int) := by omega
              have hii : (i : Int) ≤ (c : Int) := by omega
              have hxv : W.heap.size ≤ wr.heap.size := Nat.le_of_lt hBi.out.lt
              clear hwv
              by_cases hlt : i < c
              · have hlt' : (i : Int) < (c : Int) := by omega
                have HB := hide (b_byte W.heap.size W.heap.size _ 46 wr (.inr hBi.out) (by simp only [List.length_append, List.length_nil, List.length_replicate, strCells_length, pre_size, bytesB_size, tabsL_length, len_data]; omega) hxv)
                go_wp2_with fail
                refine HB.out.mono ?_
                rintro e W6 ⟨rfl, hB6, hb6⟩
                go_wp2
                go_roundw
                case rel => exact ⟨i + 1, by go_num, by omega, by rw [List.replicate_succ', ← List.append_assoc]; exact hB6, hbi.out.trans hb6⟩
                case measure => simp [RowKit.intOf]; omega
              · obtain rfl : i = c := by omega
                have HB := hide (b_byte W.heap.size W.heap.size _ 94 wr (.inr hBi.out) (by simp only [List.length_append, List.length_nil, List.length_replicate, strCells_length, pre_size, bytesB_size, tabsL_length, len_data]; omega) hxv)
                go_wp2_with fail
                refine HB.out.mono ?_
                rintro e W6 ⟨rfl, hB6, hb6⟩
                rw [acc_pic src ls (ls + o) i ln hlnh.out] at hB6
                have hx6 : W.heap.size ≤ W6.heap.size := Nat.le_of_lt hB6.lt
                have HS := hide (b_text W.heap.size W.heap.size _ W6 (.inr hB6) hx6)
                clear hB6 HB
                go_wp2_with fail
                refine HS.out.mono ?_
                rintro e W8 ⟨rfl, hb8⟩
                have hb9 : Below W.heap.size W W8 := (hbi.out.trans hb6).trans hb8
                have hE8 := hEW.out.same (hb9.block b hbW)
                have hc5 := hE8.cells.2.2.2.2.2.1
                have hf5 := hE8.free 5
                have hfin := hide (end_pic hS.out hEW.out hgW.out hzW hne.out hle.out hb9)
                clear hE8
                go_wp2
                go_ret
                exact ⟨rfl, hfin.out⟩
      · have hf' : ((rc : Int) == f) = false := by rw [beq_eq_false_iff_ne]; exact hf
        by_cases h10 : (Utf8.decode src pos).1 = 10
        · have hn := hide (hB.out.nl (by omega) (by omega) hp hf h10)
          have hit := hide (hn.out.it)
          have h10' : ((Utf8.decode src pos).1 : Int) = 10 := by omega
          have hw1 := hide (width_pos src pos hp)
          clear hf h10
          go_wp2
          go_roundw
          case rel => exact ⟨_, _, _, _, _, _, by go_num, by go_num, hn⟩
          case measure =>
            have hit := hn.out.it
            have hit0 := hB.out.it
            have hwp := width_pos src pos hp
            simp only [World.iterPos, hit0]
            simp only [Int.natCast_add, Int.cast_ofNat_Int] at hit
            rw [hit]
            simp only []
            omega
        · have hn := hide (hB.out.on (by omega) (by omega) hp hf h10)
          have h10' : (((Utf8.decode src pos).1 : Int) == 10) = false := by rw [beq_eq_false_iff_ne]; omega
          clear hf h10
          go_wp2
          go_roundw
          case rel => exact ⟨_, _, _, _, _, _, by go_num, rfl, hn⟩
          case measure =>
            have hit := hn.out.it
            have hit0 := hB.out.it
            have hwp := width_pos src pos hp
            simp only [World.iterPos, hit0]
            simp only [Int.natCast_add, Int.cast_ofNat_Int] at hit
            rw [hit]
            simp only []
            omega
    · have hnx : ∀ ty, (Instr.next (.pointer (some ⟨w.heap.size + 2, 0, none⟩)) true ty).run Try.prog wr = _ := fun ty => Lib.run_next_end_at wr (w.heap.size + 2) src pos ty hB.out.it hp
      have hS := hide (hB.out.stop (.inl (by omega)))
      have hE0 := hide hB.out.err
      have hG0 := hide hB.out.grown
      clear z1 z2 z3 z4 z5 z6
      go_wp2_with fail
      clear hB hnx hp
      generalize wr = W at *
      have hEW : Hid (Err b f t l c msg snip prev W) := hE0
      have hgW : Hid (w.grownBy W (some b)) := hG0
      have hzW : w.heap.size ≤ W.heap.size := hgW.out.size
      have hbW0 := hEW.out.lt
      obtain ⟨y7, y8⟩ : ls ≤ src.size ∧ c ≤ 1048576 := by have := hzs.out; omega
      have hszn : src.size ≤ 1048576 := hsh.out
      have HI := b_index' (src.extract ls src.size) W
      rcases Int.lt_or_le (indexByte (src.extract ls src.size).data.toList 10) 0 with hX | hX
      · have hm1 : indexByte (src.extract ls src.size).data.toList 10 = -1 := by have := indexByte_ge (src.extract ls src.size).data.toList 10; omega
        have hle : Hid (lineEnd src ls = src.size) := by unfold lineEnd; rw [if_pos hX]; rfl
        rw [hm1] at HI
        have HI2 := hide HI
        clear hX hm1 HI
        by_cases hq : ls = src.size
        · have hend := hide (end_same (src := src) hS.out hEW.out hgW.out (hq.trans hle.out.symm))
          have hq' : (ls : Int) = (src.size : Int) := by omega
          clear hq
          refine HI2.out.mono ?_
          rintro e w' ⟨rfl, rfl⟩
          go_wp2
          go_ret
          exact ⟨rfl, hend.out⟩
        · have hne : Hid (ls ≠ src.size) := hq
          have hq' : ((ls : Int) == (src.size : Int)) = false := by rw [beq_eq_false_iff_ne]; omega
          have hq2 : (ls : Int) ≤ (src.size : Int) := by omega
          clear hq
          refine HI2.out.mono ?_
          rintro e w' ⟨rfl, rfl⟩
          obtain ⟨ln, hln⟩ : ∃ ln, src.extract ls src.size = ln := ⟨_, rfl⟩
          have hlz : ln.size ≤ 1048576 := by
            rw [← hln]
            simp
            omega
          have hlzi : (ln.size : Int) ≤ 1048576 := by omega
          have hlnh := hide hln
          have hcW := hEW.out.cells.2.2.2.1
          have hbW := hEW.out.lt
          go_wp2_with fail
          refine (b_grow' W.heap.size W.heap.size _ _ (Nat.le_refl _) (heap_alloc_new _ _) (by simp) (by omega) (by omega)).mono ?_
          rintro e W1 ⟨rfl, hB1, hb1⟩
          have hx1 : W.heap.size ≤ W1.heap.size := Nat.le_of_lt hB1.lt
          go_wp2_with fail
          refine (b_string W.heap.size W.heap.size _ ⟨#[10, 32, 124, 32]⟩ _ (.inr hB1) (by simp only [List.length_nil, pre_size]; omega) hx1).mono ?_
          rintro e W2 ⟨rfl, hB2, hb2⟩
          go_wp2_with fail
          refine (rep_any ln W2 hlz).mono ?_
          rintro e W3 ⟨rfl, hb3⟩
          have hx2 : W.heap.size ≤ W2.heap.size := Nat.le_of_lt hB2.lt
          have hB3 := ptr_below hB2 hb3
          have hx3 : W.heap.size ≤ W3.heap.size := Nat.le_of_lt hB3.lt
          go_wp2_with fail
          refine (b_string W.heap.size W.heap.size _ (bytesB (tabsL ln.data.toList)) _ (.inr hB3) (by simp only [List.length_append, List.length_nil, strCells_length, pre_size, bytesB_size, tabsL_length, len_data]; omega) hx3).mono ?_
          rintro e W4 ⟨rfl, hB4, hb4⟩
          have hx4 : W.heap.size ≤ W4.heap.size := Nat.le_of_lt hB4.lt
          go_wp2_with fail
          refine (b_string W.heap.size W.heap.size _ ⟨#[10, 32, 124, 32]⟩ _ (.inr hB4) (by simp only [List.length_append, List.length_nil, strCells_length, pre_size, bytesB_size, tabsL_length, len_data]; omega) hx4).mono ?_
          rintro e W5 ⟨rfl, hB5, hb5⟩
          have hall : Below W.heap.size W W5 := (((((Below.refl W.heap.size W).alloc (Nat.le_refl _) _).trans hb1).trans hb2).trans (hb3.mono hx2)).trans (hb4.trans hb5)
          have hallh := hide hall
          have hB5h := hide hB5
          clear hB1 hb1 hB2 hb2 hB3 hb3 hB4 hb4 hB5 hb5 hall hx1 hx2 hx3 hx4 hln
          go_wp2_with fail
          go_loopw [13] (fun iv wv => ∃ i : Nat, iv = .int .i64 i ∧ i ≤ c ∧ Hid (BuilderAt 50 5 W.heap.size W.heap.size (.pointer (some ⟨W.heap.size, 0, none⟩)) (((([] ++ strCells ⟨#[10, 32, 124, 32]⟩) ++ strCells (bytesB (tabsL ln.data.toList))) ++ strCells ⟨#[10, 32, 124, 32]⟩) ++ List.replicate i (Value.int .u8 46)) wv) ∧ Hid (Below W.heap.size W wv)) (fun iv _ => c - (RowKit.intOf iv).toNat)
          case atStart => exact ⟨0, rfl, by omega, by rw [List.replicate_zero, List.append_nil]; exact hB5h, hallh⟩
          case round =>
            obtain ⟨i, rfl, hic, hBi, hbi⟩ := hrel
            obtain ⟨wv, hwv⟩ : ∃ x, x = wr := ⟨_, rfl⟩
            have hcv : wr.cell? ⟨b, 3, none⟩ = some (.int .i64 c) := (hbi.out.cell (p := ⟨b, 3, none⟩) hbW).trans hcW
            have hi0 : (0 : Int) ≤ (i : Int) := by omega
            have hii : (i : Int) ≤ (c : Int) := by omega
            have hxv : W.heap.size ≤ wr.heap.size := Nat.le_of_lt hBi.out.lt
            clear hwv
            by_cases hlt : i < c
            · have hlt' : (i : Int) < (c : Int) := by omega
              have HB := hide (b_byte W.heap.size W.heap.size _ 46 wr (.inr hBi.out) (by simp only [List.length_append, List.length_nil, List.length_replicate, strCells_length, pre_size, bytesB_size, tabsL_length, len_data]; omega) hxv)
              go_wp2_with fail
              refine HB.out.mono ?_
              rintro e W6 ⟨rfl, hB6, hb6⟩
              go_wp2
              go_roundw
              case rel => exact ⟨i + 1, by go_num, by omega, by rw [List.replicate_succ', ← List.append_assoc]; exact hB6, hbi.out.trans hb6⟩
              case measure => simp [RowKit.intOf]; omega
            · obtain rfl : i = c := by omega
              have HB := hide (b_byte W.heap.size W.heap.size _ 94 wr (.inr hBi.out) (by simp only [List.length_append, List.length_nil, List.length_replicate, strCells_length, pre_size, bytesB_size, tabsL_length, len_data]; omega) hxv)
              go_wp2_with fail
              refine HB.out.mono ?_
              rintro e W6 ⟨rfl, hB6, hb6⟩
              rw [acc_pic src ls src.size i ln hlnh.out] at hB6
              have hx6 : W.heap.size ≤ W6.heap.size := Nat.le_of_lt hB6.lt
              have HS := hide (b_text W.heap.size W.heap.size _ W6 (.inr hB6) hx6)
              clear hB6 HB
              go_wp2_with fail
              refine HS.out.mono ?_
              rintro e W8 ⟨rfl, hb8⟩
              have hb9 : Below W.heap.size W W8 := (hbi.out.trans hb6).trans hb8
              have hE8 := hEW.out.same (hb9.block b hbW)
              have hc5 := hE8.cells.2.2.2.2.2.1
              have hf5 := hE8.free 5
              have hfin := hide (end_pic hS.out hEW.out hgW.out hzW hne.out hle.out hb9)
              clear hE8
              go_wp2
              go_ret
              exact ⟨rfl, hfin.out⟩
      · obtain ⟨o, ho⟩ := Int.eq_ofNat_of_zero_le hX
        have ho' : indexByte (src.extract ls src.size).data.toList 10 = (o : Int) := ho
        have hle : Hid (lineEnd src ls = ls + o) := by unfold lineEnd; rw [if_neg (by omega), ho']; rfl
        have hol : ls + o < src.size := by
          have h1 := (List.getElem?_eq_some_iff.1 (indexByte_some ho').1).1
          rw [len_data, cut_size src ls y7] at h1
          omega
        rw [ho'] at HI
        have HI2 := hide HI
        clear hX ho ho' HI
        have ho0 : (0 : Int) ≤ (o : Int) := by omega
        have hol' : (ls : Int) + (o : Int) ≤ (src.size : Int) := by omega
        by_cases hq : o = 0
        · have hend := hide (end_same (src := src) hS.out hEW.out hgW.out (by rw [hle.out, hq]; rfl))
          subst hq
          refine HI2.out.mono ?_
          rintro e w' ⟨rfl, rfl⟩
          go_wp2
          go_ret
          exact ⟨rfl, hend.out⟩
        · have hne : Hid (ls ≠ ls + o) := by intro e; omega
          have hq' : ((o : Int) == 0) = false := by rw [beq_eq_false_iff_ne]; omega
          have hq2 : ((ls : Int) == (ls : Int) + (o : Int)) = false := by rw [beq_eq_false_iff_ne]; omega
          clear hq
          refine HI2.out.mono ?_
          rintro e w' ⟨rfl, rfl⟩
          obtain ⟨ln, hln⟩ : ∃ ln, src.extract ls (ls + o) = ln := ⟨_, rfl⟩
          have hlz : ln.size ≤ 1048576 := by
            rw [← hln]
            simp
            omega
          have hlzi : (ln.size : Int) ≤ 1048576 := by omega
          have hlnh := hide hln
          have hcW := hEW.out.cells.2.2.2.1
          have hbW := hEW.out.lt
          go_wp2_with fail
          refine (b_grow' W.heap.size W.heap.size _ _ (Nat.le_refl _) (heap_alloc_new _ _) (by simp) (by omega) (by omega)).mono ?_
          rintro e W1 ⟨rfl, hB1, hb1⟩
          have hx1 : W.heap.size ≤ W1.heap.size := Nat.le_of_lt hB1.lt
          go_wp2_with fail
          refine (b_string W.heap.size W.heap.size _ ⟨#[10, 32, 124, 32]⟩ _ (.inr hB1) (by simp only [List.length_nil, pre_size]; omega) hx1).mono ?_
          rintro e W2 ⟨rfl, hB2, hb2⟩
          go_wp2_with fail
          refine (rep_any ln W2 hlz).mono ?_
          rintro e W3 ⟨rfl, hb3⟩
          have hx2 : W.heap.size ≤ W2.heap.size := Nat.le_of_lt hB2.lt
          have hB3 := ptr_below hB2 hb3
          have hx3 : W.heap.size ≤ W3.heap.size := Nat.le_of_lt hB3.lt
          go_wp2_with fail
          refine (b_string W.heap.size W.heap.size _ (bytesB (tabsL ln.data.toList)) _ (.inr hB3) (by simp only [List.length_append, List.length_nil, strCells_length, pre_size, bytesB_size, tabsL_length, len_data]; omega) hx3).mono ?_
          rintro e W4 ⟨rfl, hB4, hb4⟩
          have hx4 : W.heap.size ≤ W4.heap.size := Nat.le_of_lt hB4.lt
          go_wp2_with fail
          refine (b_string W.heap.size W.heap.size _ ⟨#[10, 32, 124, 32]⟩ _ (.inr hB4) (by simp only [List.length_append, List.length_nil, strCells_length, pre_size, bytesB_size, tabsL_length, len_data]; omega) hx4).mono ?_
          rintro e W5 ⟨rfl, hB5, hb5⟩
          have hall : Below W.heap.size W W5 := (((((Below.refl W.heap.size W).alloc (Nat.le_refl _) _).trans hb1).trans hb2).trans (hb3.mono hx2)).trans (hb4.trans hb5)
          have hallh := hide hall
          have hB5h := hide hB5
          clear hB1 hb1 hB2 hb2 hB3 hb3 hB4 hb4 hB5 hb5 hall hx1 hx2 hx3 hx4 hln
          go_wp2_with fail
          go_loopw [13] (fun iv wv => ∃ i : Nat, iv = .int .i64 i ∧ i ≤ c ∧ Hid (BuilderAt 50 5 W.heap.size W.heap.size (.pointer (some ⟨W.heap.size, 0, none⟩)) (((([] ++ strCells ⟨#[10, 32, 124, 32]⟩) ++ strCells (bytesB (tabsL ln.data.toList))) ++ strCells ⟨#[10, 32, 124, 32]⟩) ++ List.replicate i (Value.int .u8 46)) wv) ∧ Hid (Below W.heap.size W wv)) (fun iv _ => c - (RowKit.intOf iv).toNat)
          case atStart => exact ⟨0, rfl, by omega, by rw [List.replicate_zero, List.append_nil]; exact hB5h, hallh⟩
          case round =>
            obtain ⟨i, rfl, hic, hBi, hbi⟩ := hrel
            obtain ⟨wv, hwv⟩ : ∃ x, x = wr := ⟨_, rfl⟩
            have hcv : wr.cell? ⟨b, 3, none⟩ = some (.int .i64 c) := (hbi.out.cell (p := ⟨b, 3, none⟩) hbW).trans hcW
            have hi0 : (0 : Int) ≤ (i : Int) := by omega
            have hii : (i : Int) ≤ (c : Int) := by omega
            have hxv : W.heap.size ≤ wr.heap.size := Nat.le_of_lt hBi.out.lt
            clear hwv
            by_cases hlt : i < c
            · have hlt' : (i : Int) < (c : Int) := by omega
              have HB := hide (b_byte W.heap.size W.heap.size _ 46 wr (.inr hBi.out) (by simp only [List.length_append, List.length_nil, List.length_replicate, strCells_length, pre_size, bytesB_size, tabsL_length, len_data]; omega) hxv)
              go_wp2_with fail
              refine HB.out.mono ?_
              rintro e W6 ⟨rfl, hB6, hb6⟩
              go_wp2
              go_roundw
              case rel => exact ⟨i + 1, by go_num, by omega, by rw [List.replicate_succ', ← List.append_assoc]; exact hB6, hbi.out.trans hb6⟩
              case measure => simp [RowKit.intOf]; omega
            · obtain rfl : i = c := by omega
              have HB := hide (b_byte W.heap.size W.heap.size _ 94 wr (.inr hBi.out) (by simp only [List.length_append, List.length_nil, List.length_replicate, strCells_length, pre_size, bytesB_size, tabsL_length, len_data]; omega) hxv)
              go_wp2_with fail
              refine HB.out.mono ?_
              rintro e W6 ⟨rfl, hB6, hb6⟩
              rw [acc_pic src ls (ls + o) i ln hlnh.out] at hB6
              have hx6 : W.heap.size ≤ W6.heap.size := Nat.le_of_lt hB6.lt
              have HS := hide (b_text W.heap.size W.heap.size _ W6 (.inr hB6) hx6)
              clear hB6 HB
              go_wp2_with fail
              refine HS.out.mono ?_
              rintro e W8 ⟨rfl, hb8⟩
              have hb9 : Below W.heap.size W W8 := (hbi.out.trans hb6).trans hb8
              have hE8 := hEW.out.same (hb9.block b hbW)
              have hc5 := hE8.cells.2.2.2.2.2.1
              have hf5 := hE8.free 5
              have hfin := hide (end_pic hS.out hEW.out hgW.out hzW hne.out hle.out hb9)
              clear hE8
              go_wp2
              go_ret
              exact ⟨rfl, hfin.out⟩
end Go.Proofs.Ytlfgaikcdelknaa
