/-
  The walk of the statement on chains of errors. No condition.
-/
import Derived.Test.YtlfgaikcdelknaaBindB
namespace Go.Proofs.Ytlfgaikcdelknaa
open Go.RowKit Go.Lib Go.Shelf Go.Proofs
set_option linter.unusedVariables false
set_option linter.unusedSimpArgs false

theorem zz11_yes (src : ByteArray) (f : Int) (m a b : ByteArray) (W : World) (h : src.size + m.size + a.size + b.size ≤ 1048576) : Calls Try.prog 11 #[.string src, .int .i64 f, .string m, .string a, .string b] W fun e w' => e = .returned (.bool true) ∧ W = w' := by
  have h' : (src.size : Int) + (m.size : Int) + (a.size : Int) + (b.size : Int) ≤ 1048576 := by omega
  have h_src : (src.size : Int) ≤ 1048576 := by omega
  have h_m : (m.size : Int) ≤ 1048576 := by omega
  have h_a : (a.size : Int) ≤ 1048576 := by omega
  have h_b : (b.size : Int) ≤ 1048576 := by omega
  clear h
  go_enter Try.func11, Try.ntmps11
  go_wp2
  go_ret
  exact ⟨rfl, rfl⟩
theorem zz11_no (src : ByteArray) (f : Int) (m a b : ByteArray) (W : World) (h : 1048576 < src.size + m.size + a.size + b.size) (hm : src.size ≤ maxLen ∧ m.size ≤ maxLen ∧ a.size ≤ maxLen ∧ b.size ≤ maxLen) : Calls Try.prog 11 #[.string src, .int .i64 f, .string m, .string a, .string b] W fun e w' => e = .returned (.bool false) ∧ W = w' := by
  have h' : 1048576 < (src.size : Int) + (m.size : Int) + (a.size : Int) + (b.size : Int) := by omega
  have n_src : (src.size : Int) ≤ 9223372036854775807 := by unfold maxLen at hm; omega
  have n_m : (m.size : Int) ≤ 9223372036854775807 := by unfold maxLen at hm; omega
  have n_a : (a.size : Int) ≤ 9223372036854775807 := by unfold maxLen at hm; omega
  have n_b : (b.size : Int) ≤ 9223372036854775807 := by unfold maxLen at hm; omega
  clear h hm
  go_enter Try.func11, Try.ntmps11
  go_wp2
  all_goals (first | (go_ret; exact ⟨rfl, rfl⟩) | (exfalso; omega))
theorem unwrap_any {b : Nat} {f t l c : Int} {msg snip : ByteArray} {prev : Value} {w : World} (h : Err b f t l c msg snip prev w) :
    Calls Try.prog 12 #[.pointer (some ⟨b, 0, none⟩)] w fun e w' => e = .returned prev ∧ w = w' := by
  have h6 := h.cells.2.2.2.2.2.2
  clear h
  go_enter Try.func12, Try.ntmps12
  go_wp2
  go_ret
  exact ⟨rfl, rfl⟩
theorem wrap_any {b : Nat} {f t l c : Int} {msg snip : ByteArray} {prev : Value} {w : World} (u : TypeId) (x : Value) (h : Err b f t l c msg snip prev w) :
    Calls Try.prog 13 #[.pointer (some ⟨b, 0, none⟩), .iface u x] w fun e w' => e = .returned (.tuple #[]) ∧ Err b f t l c msg snip (.iface u x) w' ∧ w.grownBy w' (some b) := by
  have h6 := h.cells.2.2.2.2.2.2
  have hf := h.free 6
  have hp := hide (And.intro (h.setPrev (.iface u x)) (gb_set (gb_refl w (some b)) 6 (.iface u x)))
  clear h
  go_enter Try.func13, Try.ntmps13
  go_wp2
  first | (go_end0; exact ⟨rfl, hp.out⟩) | (refine bodyPost_ret (results_none rfl _ _ _) rfl ?_; exact ⟨rfl, hp.out⟩) | trace_state
theorem results_cell {fn : Func} {p : Tmp} {ty : TypeId} (h : fn.results = #[.cell p ty]) (tmps : Array Value) (P : Program) (w : World) :
    (results fn tmps).run P w = ((asAddr (tmps.getD p undef)).run P w).andThen fun a w₁ => (loadVar ty a).run P w₁ := by
  simp only [results, h]
  simp [Sem.run_bind, Result.andThen]
theorem source_any (s : ByteArray) (w : World) : Calls Try.prog 8 #[.string s] w fun e w' => e = .returned (.agg #[.string s]) ∧ Below w.heap.size w w' := by
  go_enter Try.func8, Try.ntmps8
  go_wp2
  refine bodyPost_ret (v := .agg #[.string s]) ?_ rfl ?_
  · rw [results_cell rfl]
    show (((loadVar 32 ⟨w.heap.size, 0, none⟩).run Try.prog (w.alloc (.cells #[.string s] 32)))) = _
    go_simp
  · exact ⟨rfl, (Below.refl _ _).alloc (Nat.le_refl _) _⟩
theorem run_neq_iface_ptr_same {ti tp te : TypeId} {ms : Array (String × TypeId)} {i j : TypeInfo} (a : Addr) (w : World)
    (hi : Try.prog.underlying ti = some (.interface ms)) (hp : Try.prog.underlying tp = some (.pointer te)) (hinfo : Try.prog.info? tp = some i) (hcomp : i.comparable = true) (hte : Try.prog.info? te = some j) :
    (binOp .neq ti (.iface tp (.pointer (some a))) (.iface tp (.pointer (some a)))).run Try.prog w = .ok (.bool false) w := by
  simp only [binOp]
  simp [Op.equal, Op.maxDepth, run_equalIn_iface_ptr_same w 9998 a hi hp hinfo hcomp hte]
theorem info23 : (Try.prog.info? 23).map (·.comparable) = some true := by kernel_rfl
theorem info29 : (Try.prog.info? 29).isSome = true := by kernel_rfl
theorem neq_same (a : Addr) (w : World) : (binOp .neq 27 (.iface 23 (.pointer (some a))) (.iface 23 (.pointer (some a)))).run Try.prog w = .ok (.bool false) w := by
  obtain ⟨i, hi, hc⟩ := Option.map_eq_some_iff.1 info23
  obtain ⟨j, hj⟩ := Option.isSome_iff_exists.1 info29
  exact run_neq_iface_ptr_same a w Try.underlying27 Try.underlying23 hi hc hj
theorem new_err (w : World) (f t l c : Int) (msg snip : ByteArray) (prev : Value) : Err w.heap.size f t l c msg snip prev (w.alloc (.cells #[.int .i64 f, .int .i64 t, .int .i64 l, .int .i64 c, .string msg, .string snip, prev] 29)) := heap_alloc_new _ _
theorem Err.alloc {b : Nat} {f t l c : Int} {msg snip : ByteArray} {prev : Value} {w : World} (h : Err b f t l c msg snip prev w) (o : Obj) : Err b f t l c msg snip prev (w.alloc o) := h.same (Below.heap_alloc w o b h.lt)
theorem Err.kept {b k : Nat} {f t l c : Int} {msg snip : ByteArray} {prev : Value} {w w' : World} (h : Err b f t l c msg snip prev w) (hg : w.grownBy w' (some k)) (hn : b ≠ k) : Err b f t l c msg snip prev w' :=
  h.same (hg.block b h.lt (fun e => hn (by injection e)))
set_option maxRecDepth 20000 in
set_option maxHeartbeats 2000000 in
theorem law4 (src : ByteArray) (f : Int) (m a b : ByteArray) (w : World) (h : src.size + m.size + a.size + b.size ≤ 1048576) :
    Calls Try.prog 4 #[.string src, .int .i64 f, .string m, .string a, .string b] w fun e w' => e = .returned (.bool true) ∧ Below w.heap.size w w' := by
  have Z := hide (zz11_yes src f m a b w h)
  have h' : (src.size : Int) + (m.size : Int) + (a.size : Int) + (b.size : Int) ≤ 1048576 := by omega
  have n_src : (src.size : Int) ≤ 1048576 := by omega
  have n_m : (m.size : Int) ≤ 1048576 := by omega
  have n_a : (a.size : Int) ≤ 1048576 := by omega
  have n_b : (b.size : Int) ≤ 1048576 := by omega
  have hs := hide (show src.size ≤ 1048576 by omega)
  clear h
  go_enter Try.func4, Try.ntmps4
  go_wp2_with fail
  refine Z.out.mono ?_
  rintro e w' ⟨rfl, rfl⟩
  go_wp2_with fail
  refine (unwrap_any (new_err w f 0 0 0 m ⟨#[]⟩ .nilIface)).mono ?_
  rintro e w' ⟨rfl, rfl⟩
  have hE0 := hide (((new_err w f 0 0 0 m ⟨#[]⟩ .nilIface).alloc (.cells #[.int .i64 0, .int .i64 0, .int .i64 0, .int .i64 0, .string a, .string ⟨#[]⟩, .nilIface] 29)).alloc (.cells #[.int .i64 0, .int .i64 0, .int .i64 0, .int .i64 0, .string b, .string ⟨#[]⟩, .nilIface] 29))
  have hA0 := hide ((new_err (w.alloc (.cells #[.int .i64 f, .int .i64 0, .int .i64 0, .int .i64 0, .string m, .string ⟨#[]⟩, .nilIface] 29)) 0 0 0 0 a ⟨#[]⟩ .nilIface).alloc (.cells #[.int .i64 0, .int .i64 0, .int .i64 0, .int .i64 0, .string b, .string ⟨#[]⟩, .nilIface] 29))
  have hB0 := hide (new_err ((w.alloc (.cells #[.int .i64 f, .int .i64 0, .int .i64 0, .int .i64 0, .string m, .string ⟨#[]⟩, .nilIface] 29)).alloc (.cells #[.int .i64 0, .int .i64 0, .int .i64 0, .int .i64 0, .string a, .string ⟨#[]⟩, .nilIface] 29)) 0 0 0 0 b ⟨#[]⟩ .nilIface)
  have hb0 := hide ((((Below.refl w.heap.size w).alloc (Nat.le_refl _) (.cells #[.int .i64 f, .int .i64 0, .int .i64 0, .int .i64 0, .string m, .string ⟨#[]⟩, .nilIface] 29)).alloc (by simp) (.cells #[.int .i64 0, .int .i64 0, .int .i64 0, .int .i64 0, .string a, .string ⟨#[]⟩, .nilIface] 29)).alloc (by simp; omega) (.cells #[.int .i64 0, .int .i64 0, .int .i64 0, .int .i64 0, .string b, .string ⟨#[]⟩, .nilIface] 29))
  simp only [World.size_alloc] at hA0 hB0
  go_wp2_with fail
  generalize ((w.alloc (.cells #[.int .i64 f, .int .i64 0, .int .i64 0, .int .i64 0, .string m, .string ⟨#[]⟩, .nilIface] 29)).alloc (.cells #[.int .i64 0, .int .i64 0, .int .i64 0, .int .i64 0, .string a, .string ⟨#[]⟩, .nilIface] 29)).alloc (.cells #[.int .i64 0, .int .i64 0, .int .i64 0, .int .i64 0, .string b, .string ⟨#[]⟩, .nilIface] 29) = W1 at *
  refine (wrap_any _ _ hA0.out).mono ?_
  rintro e W2 ⟨rfl, hA2, hg2⟩
  have hE2 := hide (hE0.out.kept hg2 (by omega))
  have hB2 := hide (hB0.out.kept hg2 (by omega))
  have hA2h := hide hA2
  have hb2 := hide (hb0.out.grown hg2 hb0.out.size (fun k hk => by cases hk; omega))
  clear hA2 hg2 hA0 hB0 hE0 hb0
  go_wp2_with fail
  refine (wrap_any _ _ hE2.out).mono ?_
  rintro e W3 ⟨rfl, hE3, hg3⟩
  have hA3 := hide (hA2h.out.kept hg3 (by omega))
  have hB3 := hide (hB2.out.kept hg3 (by omega))
  have hE3h := hide hE3
  have hb3 := hide (hb2.out.grown hg3 hb2.out.size (fun k hk => by cases hk; omega))
  clear hE3 hg3 hA2h hB2 hE2 hb2
  go_wp2_with fail
  refine (source_any src W3).mono ?_
  rintro e W9 ⟨rfl, hb9⟩
  have hE9 := hide (hE3h.out.same (hb9.block _ hE3h.out.lt))
  have hA9 := hide (hA3.out.same (hb9.block _ hA3.out.lt))
  have hB9 := hide (hB3.out.same (hb9.block _ hB3.out.lt))
  have hb39 := hide (hb3.out.trans (hb9.mono hb3.out.size))
  clear hE3h hA3 hB3 hb3 hb9
  go_wp2_with fail
  refine (bind_any _ src f 0 0 0 m ⟨#[]⟩ _ W9 hs.out hE9.out).mono ?_
  rintro e W4 ⟨rfl, hE4, hg4⟩
  have hA4 := hide (hA9.out.kept hg4 (by omega))
  have hB4 := hide (hB9.out.kept hg4 (by omega))
  have hE4h := hide hE4
  have hb4 := hide (hb39.out.grown hg4 hb39.out.size (fun k hk => by cases hk; omega))
  have hna := neq_same ⟨w.heap.size + 1, 0, none⟩ W4
  have hnb := neq_same ⟨w.heap.size + 1 + 1, 0, none⟩ W4
  have hAc := hA4.out.cells
  obtain ⟨ca0, ca1, ca2, ca3, ca4, ca5, ca6⟩ := hAc
  have hBc := hB4.out.cells
  obtain ⟨cb0, cb1, cb2, cb3, cb4, cb5, cb6⟩ := hBc
  clear hE4 hg4 hE9 hA9 hB9 hb39
  go_wp2_with fail
  refine (unwrap_any hE4h.out).mono ?_
  rintro e w' ⟨rfl, rfl⟩
  go_wp2_with fail
  refine (unwrap_any hA4.out).mono ?_
  rintro e w' ⟨rfl, rfl⟩
  go_wp2_with fail
  refine (unwrap_any hB4.out).mono ?_
  rintro e w' ⟨rfl, rfl⟩
  go_wp2
  go_ret
  exact ⟨by simp, hb4.out⟩
set_option maxRecDepth 20000 in
theorem all4 (src : ByteArray) (f : Int) (m a b : ByteArray) (w : World) (h0 : src.size ≤ maxLen) (h1 : m.size ≤ maxLen) (h2 : a.size ≤ maxLen) (h3 : b.size ≤ maxLen) :
    Calls Try.prog 4 #[.string src, .int .i64 f, .string m, .string a, .string b] w fun e w' => e = .returned (.bool true) ∧ Below w.heap.size w w' := by
  by_cases h : src.size + m.size + a.size + b.size ≤ 1048576
  · exact law4 src f m a b w h
  · have Z := hide (zz11_no src f m a b w (by omega) ⟨h0, h1, h2, h3⟩)
    clear h h0 h1 h2 h3
    go_enter Try.func4, Try.ntmps4
    go_wp2_with fail
    refine Z.out.mono ?_
    rintro e w' ⟨rfl, rfl⟩
    go_wp2
    go_ret
    exact ⟨rfl, Below.refl _ _⟩
end Go.Proofs.Ytlfgaikcdelknaa
