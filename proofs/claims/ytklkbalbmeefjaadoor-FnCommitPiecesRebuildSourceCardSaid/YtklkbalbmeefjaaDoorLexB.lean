/-
  The lexer's remaining small functions by contract: the getters, commit, word and backup, and the exported wrappers. Conditions: utf8's two tables hold what their initialisers lay.
-/
import Derived.Test.YtklkbalbmeefjaaDoorLex
namespace Go.Proofs.YtklkbalbmeefjaaDoor
open Go.RowKit Go.Lib Go.Shelf Go.Proofs
set_option linter.unusedVariables false

theorem endByte_any (w : World) (b : Nat) (s : ByteArray) (sb sr eb er : Int) (ef : Bool) (h : Lx w b s sb sr eb er ef) :
    Calls Tryd.prog 15 #[.pointer (some ⟨b, 0, none⟩)] w fun e w' => e = .returned (.int .i64 eb) ∧ w = w' := by
  have c := h.cell 6
  simp at c
  go_enter Tryd.func15, Tryd.ntmps15
  go_wp2
  go_ret
  exact ⟨rfl, rfl⟩
theorem endRune_any (w : World) (b : Nat) (s : ByteArray) (sb sr eb er : Int) (ef : Bool) (h : Lx w b s sb sr eb er ef) :
    Calls Tryd.prog 17 #[.pointer (some ⟨b, 0, none⟩)] w fun e w' => e = .returned (.int .i64 er) ∧ w = w' := by
  have c := h.cell 7
  simp at c
  go_enter Tryd.func17, Tryd.ntmps17
  go_wp2
  go_ret
  exact ⟨rfl, rfl⟩
theorem eof_any (w : World) (b : Nat) (s : ByteArray) (sb sr eb er : Int) (ef : Bool) (h : Lx w b s sb sr eb er ef) :
    Calls Tryd.prog 19 #[.pointer (some ⟨b, 0, none⟩)] w fun e w' => e = .returned (.bool ef) ∧ w = w' := by
  have c := h.cell 8
  simp at c
  go_enter Tryd.func19, Tryd.ntmps19
  go_wp2
  go_ret
  exact ⟨rfl, rfl⟩
theorem startByte_any (w : World) (b : Nat) (s : ByteArray) (sb sr eb er : Int) (ef : Bool) (h : Lx w b s sb sr eb er ef) :
    Calls Tryd.prog 22 #[.pointer (some ⟨b, 0, none⟩)] w fun e w' => e = .returned (.int .i64 sb) ∧ w = w' := by
  have c := h.cell 4
  simp at c
  go_enter Tryd.func22, Tryd.ntmps22
  go_wp2
  go_ret
  exact ⟨rfl, rfl⟩
theorem startRune_any (w : World) (b : Nat) (s : ByteArray) (sb sr eb er : Int) (ef : Bool) (h : Lx w b s sb sr eb er ef) :
    Calls Tryd.prog 23 #[.pointer (some ⟨b, 0, none⟩)] w fun e w' => e = .returned (.int .i64 sr) ∧ w = w' := by
  have c := h.cell 5
  simp at c
  go_enter Tryd.func23, Tryd.ntmps23
  go_wp2
  go_ret
  exact ⟨rfl, rfl⟩

theorem zpeek_in (w : World) (b : Nat) (s : ByteArray) (sb sr er : Int) (eb : Nat) (ef : Bool) (h : Lx w b s sb sr eb er ef) (hlt : eb < s.size) (hs : s.size ≤ 1048576) (hU : TU w) :
    Calls Tryd.prog 13 #[.pointer (some ⟨b, 0, none⟩)] w fun e w' => e = .returned (.int .i32 (Utf8.decode s eb).1) ∧ Below w.heap.size w w' := by
  have H := hide (peek_in w b s sb sr er eb ef h hlt hs hU)
  obtain ⟨R, hR⟩ : ∃ R, (Utf8.decode s eb).1 = R := ⟨_, rfl⟩
  rw [hR] at H ⊢
  clear hR
  go_enter Tryd.func13, Tryd.ntmps13
  go_wp2_with fail
  refine H.out.mono ?_
  rintro e w' ⟨rfl, hb⟩
  go_wp2
  go_ret
  exact ⟨rfl, hb⟩
theorem zpeek_end (w : World) (b : Nat) (s : ByteArray) (sb sr er : Int) (eb : Nat) (ef : Bool) (h : Lx w b s sb sr eb er ef) (hge : s.size ≤ eb) (hs : s.size ≤ 1048576) :
    Calls Tryd.prog 13 #[.pointer (some ⟨b, 0, none⟩)] w fun e w' => e = .returned (.int .i32 (-1)) ∧ Below w.heap.size w w' := by
  have H := hide (peek_end w b s sb sr er eb ef h hge hs)
  go_enter Tryd.func13, Tryd.ntmps13
  go_wp2_with fail
  refine H.out.mono ?_
  rintro e w' ⟨rfl, hb⟩
  go_wp2
  go_ret
  exact ⟨rfl, hb⟩
theorem znext_end (w : World) (b : Nat) (s : ByteArray) (sb sr er : Int) (eb : Nat) (ef : Bool) (h : Lx w b s sb sr eb er ef) (hge : s.size ≤ eb) (hs : s.size ≤ 1048576) :
    Calls Tryd.prog 14 #[.pointer (some ⟨b, 0, none⟩)] w fun e w' => e = .returned (.int .i32 (-1)) ∧ Lx w' b s sb sr eb er true ∧ w.grownBy w' (some b) := by
  have H := hide (next_end w b s sb sr er eb ef h hge hs)
  go_enter Tryd.func14, Tryd.ntmps14
  go_wp2_with fail
  refine H.out.mono ?_
  rintro e w' ⟨rfl, hx, hb⟩
  have hx' := hide hx
  clear hx
  go_wp2
  go_ret
  exact ⟨rfl, hx'.out, hb⟩
theorem znext_in (w : World) (b : Nat) (s : ByteArray) (sb sr : Int) (eb er : Nat) (ef : Bool) (h : Lx w b s sb sr eb er ef) (hlt : eb < s.size) (hs : s.size ≤ 1048576) (her : er ≤ 1048576) (hU : TU w) :
    Calls Tryd.prog 14 #[.pointer (some ⟨b, 0, none⟩)] w fun e w' => e = .returned (.int .i32 (Utf8.decode s eb).1) ∧ Lx w' b s sb sr ((eb + (Utf8.decode s eb).2 : Nat) : Int) ((er + 1 : Nat) : Int) ef ∧ w.grownBy w' (some b) := by
  have H := hide (next_in w b s sb sr eb er ef h hlt hs her hU)
  obtain ⟨R, hR⟩ : ∃ R, (Utf8.decode s eb).1 = R := ⟨_, rfl⟩
  obtain ⟨M, hM⟩ : ∃ M : Int, ((eb + (Utf8.decode s eb).2 : Nat) : Int) = M := ⟨_, rfl⟩
  obtain ⟨M', hM'⟩ : ∃ M : Int, ((er + 1 : Nat) : Int) = M := ⟨_, rfl⟩
  rw [hR, hM, hM'] at H ⊢
  clear hR hM hM'
  go_enter Tryd.func14, Tryd.ntmps14
  go_wp2_with fail
  refine H.out.mono ?_
  rintro e w' ⟨rfl, hx, hb⟩
  have hx' := hide hx
  clear hx
  go_wp2
  go_ret
  exact ⟨rfl, hx'.out, hb⟩

theorem Lx.set4 {w : World} {b : Nat} {s : ByteArray} {sb sr eb er : Int} {ef : Bool} (h : Lx w b s sb sr eb er ef) (n : Int) : Lx (w.setCell ⟨b, 4, none⟩ (.int .i64 n)) b s n sr eb er ef := by
  have := blk_set h 4 (.int .i64 n)
  simpa [Lx] using this
theorem Lx.set5 {w : World} {b : Nat} {s : ByteArray} {sb sr eb er : Int} {ef : Bool} (h : Lx w b s sb sr eb er ef) (n : Int) : Lx (w.setCell ⟨b, 5, none⟩ (.int .i64 n)) b s sb n eb er ef := by
  have := blk_set h 5 (.int .i64 n)
  simpa [Lx] using this

/-- Lexer.commit. -/
theorem commit_any (w : World) (b : Nat) (s : ByteArray) (sb sr eb er : Int) (ef : Bool) (h : Lx w b s sb sr eb er ef) :
    Calls Tryd.prog 35 #[.pointer (some ⟨b, 0, none⟩)] w fun e w' => e = .returned (.tuple #[]) ∧ Lx w' b s eb er eb er ef ∧ w.grownBy w' (some b) := by
  have c4 := h.cell 4
  have c5 := h.cell 5
  have c6 := h.cell 6
  have c7 := h.cell 7
  have f4 := h.frozen 4
  have f5 := h.frozen 5
  simp at c4 c5 c6 c7
  have hh := hide h
  clear h
  go_enter Tryd.func35, Tryd.ntmps35
  go_wp2
  go_end0
  exact ⟨rfl, (hh.out.set4 _).set5 _, only_setCell (only_setCell (World.grownBy.refl w _) 4 _) 5 _⟩
theorem keep4 {w0 w w' : World} {a1 a2 a3 : Addr} {v1 v2 v3 : Value} (hb : Below w.heap.size w w') (h : (w.cell? a1 = some v1 ∧ w.cell? a2 = some v2) ∧ w.cell? a3 = some v3 ∧ Below w0.heap.size w0 w) :
    (w'.cell? a1 = some v1 ∧ w'.cell? a2 = some v2) ∧ w'.cell? a3 = some v3 ∧ Below w0.heap.size w0 w' :=
  ⟨⟨cell_below hb h.1.1, cell_below hb h.1.2⟩, cell_below hb h.2.1, h.2.2.trans (hb.mono h.2.2.size)⟩
/-- Lexer.word. -/
theorem word_any (w : World) (b : Nat) (s : ByteArray) (sr er : Int) (sb eb : Nat) (ef : Bool) (h : Lx w b s sb sr eb er ef) (h1 : sb ≤ eb) (h2 : eb ≤ s.size) :
    Calls Tryd.prog 36 #[.pointer (some ⟨b, 0, none⟩)] w fun e w' => e = .returned (.string (s.extract sb eb)) ∧ Below w.heap.size w w' := by
  have c1 := h.cell 1
  have c4 := h.cell 4
  have c6 := h.cell 6
  simp at c1 c4 c6
  have g1 : (0 : Int) ≤ (sb : Int) := by omega
  have g2 : (sb : Int) ≤ (eb : Int) := by omega
  have g3 : (eb : Int) ≤ (s.size : Int) := by omega
  have g4 : (0 : Int) ≤ (eb : Int) := by omega
  go_enter Tryd.func36, Tryd.ntmps36
  go_wp2_with fail
  go_region_held3 (fun w' => (w'.cell? ⟨b, 1, none⟩ = some (.string s) ∧ w'.cell? ⟨b, 4, none⟩ = some (.int .i64 sb)) ∧ w'.cell? ⟨b, 6, none⟩ = some (.int .i64 eb) ∧ Below w.heap.size w w') (first | exact ⟨⟨c1, c4⟩, c6, (Below.refl _ _).drew⟩ | exact keep4 (by assumption) (by assumption))
    (first | (go_at_call 37; refine (string_any s _).mono ?_; rintro e w' ⟨rfl, hb⟩))
  go_wp2
  go_ret
  exact ⟨rfl, And.right (And.right (by assumption))⟩
theorem zcommit_any (w : World) (b : Nat) (s : ByteArray) (sb sr eb er : Int) (ef : Bool) (h : Lx w b s sb sr eb er ef) :
    Calls Tryd.prog 26 #[.pointer (some ⟨b, 0, none⟩)] w fun e w' => e = .returned (.tuple #[]) ∧ Lx w' b s eb er eb er ef ∧ w.grownBy w' (some b) := by
  have H := hide (commit_any w b s sb sr eb er ef h)
  clear h
  go_enter Tryd.func26, Tryd.ntmps26
  go_wp2_with fail
  refine H.out.mono ?_
  rintro e w' ⟨rfl, hx, hb⟩
  have hx' := hide hx
  clear hx
  go_wp2
  go_end0
  exact ⟨rfl, hx'.out, hb⟩
theorem zword_any (w : World) (b : Nat) (s : ByteArray) (sr er : Int) (sb eb : Nat) (ef : Bool) (h : Lx w b s sb sr eb er ef) (h1 : sb ≤ eb) (h2 : eb ≤ s.size) :
    Calls Tryd.prog 27 #[.pointer (some ⟨b, 0, none⟩)] w fun e w' => e = .returned (.string (s.extract sb eb)) ∧ Below w.heap.size w w' := by
  have H := hide (word_any w b s sr er sb eb ef h h1 h2)
  clear h
  go_enter Tryd.func27, Tryd.ntmps27
  go_wp2_with fail
  refine H.out.mono ?_
  rintro e w' ⟨rfl, hb⟩
  go_wp2
  go_ret
  exact ⟨rfl, hb⟩

/-! ### backup -/
theorem backup_eof (w : World) (b : Nat) (s : ByteArray) (sb sr eb er : Int) (h : Lx w b s sb sr eb er true) :
    Calls Tryd.prog 34 #[.pointer (some ⟨b, 0, none⟩)] w fun e w' => e = .returned (.tuple #[]) ∧ Lx w' b s sb sr eb er false ∧ w.grownBy w' (some b) := by
  have c8 := h.cell 8
  have f8 := h.frozen 8
  simp at c8
  have hh := hide h
  clear h
  go_enter Tryd.func34, Tryd.ntmps34
  go_wp2
  go_end0
  exact ⟨rfl, hh.out.set8 _, only_setCell (World.grownBy.refl w _) 8 _⟩
theorem backup_zero (w : World) (b : Nat) (s : ByteArray) (sb sr eb : Int) (h : Lx w b s sb sr eb 0 false) :
    Calls Tryd.prog 34 #[.pointer (some ⟨b, 0, none⟩)] w fun e w' => e = .returned (.tuple #[]) ∧ Lx w' b s sb sr eb 0 false ∧ w.grownBy w' (some b) := by
  have c8 := h.cell 8
  have c7 := h.cell 7
  simp at c8 c7
  have hh := hide h
  clear h
  go_enter Tryd.func34, Tryd.ntmps34
  go_wp2
  go_end0
  exact ⟨rfl, hh.out, World.grownBy.refl w _⟩
theorem backup_back (w : World) (b : Nat) (s : ByteArray) (sb sr : Int) (eb er : Nat) (h : Lx w b s sb sr eb er false) (h1 : 1 ≤ er) (h2 : er ≤ 1048576) (h3 : eb ≤ s.size) (hs : s.size ≤ 1048576) (hU : TU w)
    (hle : (decodeLastL (s.data.toList.take eb)).2 ≤ eb) :
    Calls Tryd.prog 34 #[.pointer (some ⟨b, 0, none⟩)] w fun e w' => e = .returned (.tuple #[]) ∧ Lx w' b s sb sr ((eb - (decodeLastL (s.data.toList.take eb)).2 : Nat) : Int) ((er - 1 : Nat) : Int) false ∧ w.grownBy w' (some b) := by
  have c1 := h.cell 1
  have c8 := h.cell 8
  have c7 := h.cell 7
  have c6 := h.cell 6
  simp at c1 c8 c7 c6
  have HD := fun w hU => hide (Any.utf8_DecodeLastRuneInString Tryd.lays271 (s.extract 0 eb) w (by simp; omega) hU)
  have ht : (s.extract 0 eb).data.toList = s.data.toList.take eb := by simp [ByteArray.data_extract]
  rw [ht] at HD
  obtain ⟨R, hR⟩ : ∃ R, (decodeLastL (s.data.toList.take eb)).1 = R := ⟨_, rfl⟩
  obtain ⟨K, hK⟩ : ∃ K, (decodeLastL (s.data.toList.take eb)).2 = K := ⟨_, rfl⟩
  rw [hR, hK] at HD
  rw [hK] at hle ⊢
  have g0 : (0 : Int) ≤ (eb : Int) := by omega
  have g1 : (eb : Int) ≤ (s.size : Int) := by omega
  have g2 : (0 : Int) < (er : Int) := by omega
  have g3 : (K : Int) ≤ (eb : Int) := by omega
  have heq := hide (show ((eb - K : Nat) : Int) = (eb : Int) - (K : Int) ∧ ((er - 1 : Nat) : Int) = (er : Int) - 1 from ⟨by omega, by omega⟩)
  have hh := hide h
  clear h ht hR hK
  go_enter Tryd.func34, Tryd.ntmps34
  go_wp2_with fail
  go_region_held3 (fun w' => w'.cell? ⟨b, 1, none⟩ = some (.string s) ∧ w'.cell? ⟨b, 6, none⟩ = some (.int .i64 eb) ∧ Below w.heap.size w w') (first | exact start3 c1 c6 | exact keep3 (by assumption) (by assumption) | exact start3b (by assumption))
    (first | (go_at_call 37; refine (string_any s _).mono ?_; rintro e w' ⟨rfl, hb⟩) | (go_at_call 39; refine (HD _ (hU.below (And.right (And.right (by assumption))))).out.mono ?_; rintro e w' ⟨rfl, hb⟩))
  rename_i w3 hb3 hS
  obtain ⟨k1, k6, hbb⟩ := hS
  have h3 := hide (hh.out.below hbb)
  have d7 := h3.out.cell 7
  have f6 := h3.out.frozen 6
  have f7 := h3.out.frozen 7
  simp at d7
  go_wp2
  go_end0
  refine ⟨rfl, ?_, only_setCell (only_setCell (only_of_below hbb _) 6 _) 7 _⟩
  rw [heq.out.1, heq.out.2]
  exact (h3.out.set6 _).set7 _

theorem zbackup_of {w : World} {b : Nat} {Q : World → Prop} (h : Calls Tryd.prog 34 #[.pointer (some ⟨b, 0, none⟩)] w fun e w' => e = .returned (.tuple #[]) ∧ Q w') :
    Calls Tryd.prog 18 #[.pointer (some ⟨b, 0, none⟩)] w fun e w' => e = .returned (.tuple #[]) ∧ Q w' := by
  have H := hide h
  clear h
  go_enter Tryd.func18, Tryd.ntmps18
  go_wp2_with fail
  refine H.out.mono ?_
  rintro e w' ⟨rfl, hb⟩
  go_wp2
  go_end0
  exact ⟨rfl, hb⟩
end Go.Proofs.YtklkbalbmeefjaaDoor
