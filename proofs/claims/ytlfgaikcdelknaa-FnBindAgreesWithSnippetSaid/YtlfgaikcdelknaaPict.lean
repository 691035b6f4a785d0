/-
  The walk of the statement that Bind agrees with Snippet. No condition.
-/
import Derived.Test.YtlfgaikcdelknaaSnip
import Derived.Test.YtlfgaikcdelknaaWhole
import Derived.Deep.RegionHeld3
namespace Go.Proofs.Ytlfgaikcdelknaa
open Go.RowKit Go.Lib Go.Shelf Go.Proofs
set_option linter.unusedVariables false
set_option linter.unusedSimpArgs false

theorem zz14_yes (src : ByteArray) (f : Int) (m : ByteArray) (W : World) (h : src.size + m.size ≤ 1048576) : Calls Try.prog 14 #[.string src, .int .i64 f, .string m] W fun e w' => e = .returned (.bool true) ∧ W = w' := by
  have h' : (src.size : Int) + (m.size : Int) ≤ 1048576 := by omega
  have h_src : (src.size : Int) ≤ 1048576 := by omega
  have h_m : (m.size : Int) ≤ 1048576 := by omega
  clear h
  go_enter Try.func14, Try.ntmps14
  go_wp2
  go_ret
  exact ⟨rfl, rfl⟩
set_option maxRecDepth 20000 in
theorem zz14_no (src : ByteArray) (f : Int) (m : ByteArray) (W : World) (h : 1048576 < src.size + m.size) (hm : src.size ≤ maxLen ∧ m.size ≤ maxLen) : Calls Try.prog 14 #[.string src, .int .i64 f, .string m] W fun e w' => e = .returned (.bool false) ∧ W = w' := by
  have h' : 1048576 < (src.size : Int) + (m.size : Int) := by omega
  have n_src : (src.size : Int) ≤ 9223372036854775807 := by unfold maxLen at hm; omega
  have n_m : (m.size : Int) ≤ 9223372036854775807 := by unfold maxLen at hm; omega
  clear h hm
  go_enter Try.func14, Try.ntmps14
  go_wp2
  all_goals (first | (go_ret; exact ⟨rfl, rfl⟩) | (exfalso; omega))
theorem cellB {w w' : World} {a : Addr} {v : Value} (hb : Below w.heap.size w w') (h : w.cell? a = some v) : w'.cell? a = some v := (hb.cell (World.block_lt_of_cell? w a h)).trans h
theorem keep2 {w0 w w' : World} {a1 : Addr} {v1 : Value} (hb : Below w.heap.size w w') (h : w.cell? a1 = some v1 ∧ Below w0.heap.size w0 w) : w'.cell? a1 = some v1 ∧ Below w0.heap.size w0 w' :=
  ⟨cellB hb h.1, h.2.trans (hb.mono h.2.size)⟩
theorem start2 {w : World} {a1 : Addr} {v1 : Value} (h1 : w.cell? a1 = some v1) : w.drew.cell? a1 = some v1 ∧ Below w.heap.size w w.drew := ⟨h1, (Below.refl _ _).drew⟩
theorem start2b {w0 w : World} {a1 : Addr} {v1 : Value} (h : w.cell? a1 = some v1 ∧ Below w0.heap.size w0 w) : w.drew.cell? a1 = some v1 ∧ Below w0.heap.size w0 w.drew := ⟨h.1, h.2.drew⟩
theorem same2 {w : World} {a1 : Addr} {v1 : Value} (h1 : w.cell? a1 = some v1) : w.cell? a1 = some v1 ∧ Below w.heap.size w w := ⟨h1, Below.refl _ _⟩
theorem scan_nil (src : ByteArray) (f : Int) (h : src.size = 0) : scanB src f src.size 0 0 0 1 0 = (0, 1, 0) := by
  rw [h]
  rfl
set_option maxRecDepth 20000 in
set_option maxHeartbeats 4000000 in
theorem pict_nil (src : ByteArray) (f : Int) (m : ByteArray) (w : World) (h : src.size + m.size ≤ 1048576) (h0 : src = ByteArray.empty) :
    Calls Try.prog 5 #[.string src, .int .i64 f, .string m] w fun e w' => e = .returned (.bool true) ∧ Below w.heap.size w w' := by
  have Z := hide (zz14_yes src f m w h)
  have h' : (src.size : Int) + (m.size : Int) ≤ 1048576 := by omega
  have n_src : (src.size : Int) ≤ 1048576 := by omega
  have n_m : (m.size : Int) ≤ 1048576 := by omega
  have hs := hide (show src.size ≤ 1048576 by omega)
  have HB := fun b w hE => hide (bind_any b src f 0 0 0 m ⟨#[]⟩ .nilIface w hs.out hE)
  have hsz : src.size = 0 := by rw [h0]; rfl
  rw [scan_nil src f hsz] at HB
  simp only [BindRes] at HB
  have hle : (0 : Nat) = lineEnd src 0 := by
    obtain ⟨_, a2, _, _⟩ := lineEnd_spec src 0 (Nat.zero_le _)
    omega
  rw [if_pos hle] at HB
  have HN := fun l w => hide (snip_empty src l w h0)
  have hem : (src.toList == []) = true := by rw [h0, toList_data]; rfl
  have hem2 : src.toList.isEmpty = true := by rw [h0, toList_data]; rfl
  clear hle hsz h0
  clear h
  go_enter Try.func5, Try.ntmps5
  go_wp2_with fail
  refine Z.out.mono ?_
  rintro e w' ⟨rfl, rfl⟩
  have hE0 := hide (new_err w f 0 0 0 m ⟨#[]⟩ .nilIface)
  have hb0 := hide ((Below.refl w.heap.size w).alloc (Nat.le_refl _) (.cells #[.int .i64 f, .int .i64 0, .int .i64 0, .int .i64 0, .string m, .string ⟨#[]⟩, .nilIface] 29))
  go_wp2_with fail
  generalize w.alloc (.cells #[.int .i64 f, .int .i64 0, .int .i64 0, .int .i64 0, .string m, .string ⟨#[]⟩, .nilIface] 29) = W1 at *
  refine (source_any src W1).mono ?_
  rintro e W2 ⟨rfl, hb2⟩
  have hE2 := hide (hE0.out.same (hb2.block _ hE0.out.lt))
  have hb2h := hide (hb0.out.trans (hb2.mono hb0.out.size))
  clear hE0 hb0 hb2
  go_wp2_with fail
  refine (HB _ W2 hE2.out).out.mono ?_
  rintro e W3 ⟨rfl, hE3, hg3⟩
  have hb3 := hide (hb2h.out.grown hg3 hb2h.out.size (fun k hk => by cases hk; omega))
  have hE3h := hide hE3
  obtain ⟨ca0, ca1, ca2, ca3, ca4, ca5, ca6⟩ := hE3.cells
  clear hE2 hb2h hg3 hE3 HB
  go_wp2_with fail
  have cl := ca2
  clear ca0 ca1 ca2 ca3 ca4 ca5 ca6
  go_region_held3 (fun w' => w'.cell? ⟨w.heap.size, 2, none⟩ = some (.int .i64 1) ∧ Below W3.heap.size W3 w') (first | exact start2 cl | exact keep2 (by assumption) (by assumption) | exact start2b (by assumption) | exact same2 cl)
    (first | (go_at_call 8; refine (source_any src _).mono ?_; rintro e w4 ⟨rfl, hb4⟩) | (go_at_call 15; refine ((HN _ _).out).mono ?_; rintro e w5 ⟨rfl, hb55⟩))
  rename_i hS5
  obtain ⟨_, hb5⟩ := hS5
  have hE5 := hide (hE3h.out.same (hb5.block _ hE3h.out.lt))
  have hbb5 := hide (hb3.out.trans (hb5.mono hb3.out.size))
  obtain ⟨ca0, ca1, ca2, ca3, ca4, ca5, ca6⟩ := hE5.out.cells
  clear hE3h hb3 hb5 cl
  go_wp2
  go_ret
  exact ⟨by simp, hbb5.out⟩
set_option maxRecDepth 20000 in
set_option maxHeartbeats 4000000 in
theorem pict_same (src : ByteArray) (f : Int) (m : ByteArray) (w : World) (h : src.size + m.size ≤ 1048576) (h0 : ¬ src = ByteArray.empty) (hq : (scanB src f src.size 0 0 0 1 0).1 = lineEnd src (scanB src f src.size 0 0 0 1 0).1) :
    Calls Try.prog 5 #[.string src, .int .i64 f, .string m] w fun e w' => e = .returned (.bool true) ∧ Below w.heap.size w w' := by
  have Z := hide (zz14_yes src f m w h)
  have h' : (src.size : Int) + (m.size : Int) ≤ 1048576 := by omega
  have n_src : (src.size : Int) ≤ 1048576 := by omega
  have n_m : (m.size : Int) ≤ 1048576 := by omega
  have hs := hide (show src.size ≤ 1048576 by omega)
  have HB := fun b w hE => hide (bind_any b src f 0 0 0 m ⟨#[]⟩ .nilIface w hs.out hE)
  have hso := scan_facts src f
  generalize scanB src f src.size 0 0 0 1 0 = S at *
  obtain ⟨ls, l, c⟩ := S
  simp only [BindRes] at HB hq
  obtain ⟨z1, z2, z3, z6, z7⟩ := hso
  obtain ⟨z4, z5, _, _⟩ := lineEnd_spec src ls z1
  simp only at z1 z2 z3 z6 z7
  have HN := fun w => hide (snip_any src l ls w h0 hs.out z2 z6 z1)
  have z8 := z6.one
  have HC := fun w => hide (cnt_any (src.extract ls (lineEnd src ls)) w (by simp; omega))
  have hem : (src.toList == []) = false := by
    rw [toList_data]
    rcases h : src.data.toList with _ | ⟨a, m⟩
    · exact absurd (ba_ext (a := src) (b := ByteArray.empty) (by rw [h]; rfl)) h0
    · rfl
  have hem2 : src.toList.isEmpty = false := by
    rw [toList_data]
    rcases h : src.data.toList with _ | ⟨a, m⟩
    · exact absurd (ba_ext (a := src) (b := ByteArray.empty) (by rw [h]; rfl)) h0
    · rfl
  have x1 : (1 : Int) ≤ (l : Int) := by omega
  have x0 : (0 : Int) ≤ (c : Int) := by omega
  have x2 : (c : Int) ≤ 1048576 := by omega
  have he : src.extract ls (lineEnd src ls) = ⟨#[]⟩ := by
    apply ba_ext
    rw [cut_data, ← hq, Nat.sub_self, List.take_zero]
  rw [he] at HN HC z7
  have hc0 : c = 0 := by
    have : cnt (⟨#[]⟩ : ByteArray).data.toList = 0 := rfl
    omega
  have HC2 := fun w => hide (show Calls Try.prog 16 #[.string ⟨#[]⟩] w fun e w' => e = .returned (.int .i64 0) ∧ w = w' from (HC w).out)
  clear HC
  subst hc0
  have hqh := hide hq
  clear z1 z2 z3 z4 z5 z6 z7 z8 he hq h0
  clear h
  go_enter Try.func5, Try.ntmps5
  go_wp2_with fail
  refine Z.out.mono ?_
  rintro e w' ⟨rfl, rfl⟩
  have hE0 := hide (new_err w f 0 0 0 m ⟨#[]⟩ .nilIface)
  have hb0 := hide ((Below.refl w.heap.size w).alloc (Nat.le_refl _) (.cells #[.int .i64 f, .int .i64 0, .int .i64 0, .int .i64 0, .string m, .string ⟨#[]⟩, .nilIface] 29))
  go_wp2_with fail
  generalize w.alloc (.cells #[.int .i64 f, .int .i64 0, .int .i64 0, .int .i64 0, .string m, .string ⟨#[]⟩, .nilIface] 29) = W1 at *
  refine (source_any src W1).mono ?_
  rintro e W2 ⟨rfl, hb2⟩
  have hE2 := hide (hE0.out.same (hb2.block _ hE0.out.lt))
  have hb2h := hide (hb0.out.trans (hb2.mono hb0.out.size))
  clear hE0 hb0 hb2
  go_wp2_with fail
  refine (HB _ W2 hE2.out).out.mono ?_
  rintro e W3 ⟨rfl, hE3, hg3⟩
  rw [if_pos hqh.out] at hE3
  have hb3 := hide (hb2h.out.grown hg3 hb2h.out.size (fun k hk => by cases hk; omega))
  have hE3h := hide hE3
  obtain ⟨ca0, ca1, ca2, ca3, ca4, ca5, ca6⟩ := hE3.cells
  clear hE2 hb2h hg3 hE3 HB
  go_wp2_with fail
  have cl := ca2
  clear ca0 ca1 ca2 ca3 ca4 ca5 ca6
  go_region_held3 (fun w' => w'.cell? ⟨w.heap.size, 2, none⟩ = some (.int .i64 l) ∧ Below W3.heap.size W3 w') (first | exact start2 cl | exact keep2 (by assumption) (by assumption) | exact start2b (by assumption) | exact same2 cl)
    (first | (go_at_call 8; refine (source_any src _).mono ?_; rintro e w4 ⟨rfl, hb4⟩) | (go_at_call 15; refine ((HN _).out).mono ?_; rintro e w5 ⟨rfl, hb55⟩))
  rename_i hS5
  obtain ⟨_, hb5⟩ := hS5
  have hE5 := hide (hE3h.out.same (hb5.block _ hE3h.out.lt))
  have hbb5 := hide (hb3.out.trans (hb5.mono hb3.out.size))
  obtain ⟨ca0, ca1, ca2, ca3, ca4, ca5, ca6⟩ := hE5.out.cells
  clear hE3h hb3 hb5 cl
  go_wp2_with fail
  have cc := ca3
  clear ca0 ca1 ca2 ca3 ca4 ca5 ca6
  go_region_held3 (fun w' => w'.cell? ⟨w.heap.size, 3, none⟩ = some (.int .i64 0) ∧ Below w5.heap.size w5 w') (first | exact start2 cc | exact keep2 (by assumption) (by assumption) | exact start2b (by assumption) | exact same2 cc)
    (first | (go_at_call 16; refine (HC2 _).out.mono ?_; rintro e w' ⟨rfl, rfl⟩))
  rename_i hS6
  obtain ⟨_, hb6⟩ := hS6
  have hE6 := hide (hE5.out.same (hb6.block _ hE5.out.lt))
  have hbb6 := hide (hbb5.out.trans (hb6.mono hbb5.out.size))
  obtain ⟨ca0, ca1, ca2, ca3, ca4, ca5, ca6⟩ := hE6.out.cells
  clear hE5 hbb5 hb6 cc
  go_wp2
  go_ret
  exact ⟨by simp, hbb6.out⟩
end Go.Proofs.Ytlfgaikcdelknaa
