/-
  Error.Bind by contract: the line and the column that it finds, the picture that it draws, and what it leaves alone. No condition beyond the size.
-/
import Derived.Test.YtlfgaikcdelknaaRep
import Derived.Lib.OthersKept
import Derived.Lib.DecodeN
import Derived.Lib.RuneBytes
import Derived.Lib.TrimU
import Derived.Lib.MapLaws
import Derived.Lib.TrimUEq
namespace Go.Proofs.Ytlfgaikcdelknaa
open Go.RowKit Go.Lib Go.Shelf Go.Proofs
set_option linter.unusedVariables false
set_option linter.unusedSimpArgs false

/-- An Error's seven cells. -/
def Err (b : Nat) (f t l c : Int) (msg snip : ByteArray) (prev : Value) (w : World) : Prop :=
  w.heap[b]? = some (.cells #[.int .i64 f, .int .i64 t, .int .i64 l, .int .i64 c, .string msg, .string snip, prev] 29 (0, 0))
section
variable {b : Nat} {f t l c : Int} {msg snip : ByteArray} {prev : Value} {w : World}
theorem Err.lt (h : Err b f t l c msg snip prev w) : b < w.heap.size := (Array.getElem?_eq_some_iff.1 h).1
theorem Err.cells (h : Err b f t l c msg snip prev w) : w.cell? ⟨b, 0, none⟩ = some (.int .i64 f) ∧ w.cell? ⟨b, 1, none⟩ = some (.int .i64 t) ∧ w.cell? ⟨b, 2, none⟩ = some (.int .i64 l) ∧ w.cell? ⟨b, 3, none⟩ = some (.int .i64 c) ∧
    w.cell? ⟨b, 4, none⟩ = some (.string msg) ∧ w.cell? ⟨b, 5, none⟩ = some (.string snip) ∧ w.cell? ⟨b, 6, none⟩ = some prev := by
  unfold Err at h
  simp [World.cell?, h]
theorem Err.free (h : Err b f t l c msg snip prev w) (j : Nat) : w.frozen? ⟨b, j, none⟩ = false := by
  unfold Err at h
  simp [World.frozen?, h]
theorem Err.setLine (h : Err b f t l c msg snip prev w) (l' : Int) : Err b f t l' c msg snip prev (w.setCell ⟨b, 2, none⟩ (.int .i64 l')) := by
  unfold Err at *
  simp [World.setCell, Array.getElem?_modify, h]
theorem Err.setCol (h : Err b f t l c msg snip prev w) (c' : Int) : Err b f t l c' msg snip prev (w.setCell ⟨b, 3, none⟩ (.int .i64 c')) := by
  unfold Err at *
  simp [World.setCell, Array.getElem?_modify, h]
theorem Err.setSnip (h : Err b f t l c msg snip prev w) (s' : ByteArray) : Err b f t l c msg s' prev (w.setCell ⟨b, 5, none⟩ (.string s')) := by
  unfold Err at *
  simp [World.setCell, Array.getElem?_modify, h]
theorem Err.setPrev (h : Err b f t l c msg snip prev w) (p' : Value) : Err b f t l c msg snip p' (w.setCell ⟨b, 6, none⟩ p') := by
  unfold Err at *
  simp [World.setCell, Array.getElem?_modify, h]
theorem Err.same {w' : World} (h : Err b f t l c msg snip prev w) (hs : w'.heap[b]? = w.heap[b]?) : Err b f t l c msg snip prev w' := by
  unfold Err at *
  rw [hs, h]
end
/-! ### frames -/
theorem gb_refl (w : World) (r : Option Nat) : w.grownBy w r := ⟨rfl, rfl, rfl, Nat.le_refl _, fun _ _ _ => rfl⟩
theorem gb_trans {a w w' : World} {r : Option Nat} (h : a.grownBy w r) (k : w.grownBy w' r) : a.grownBy w' r :=
  ⟨k.os.trans h.os, k.tape.trans h.tape, k.output.trans h.output, Nat.le_trans h.size k.size, fun i hi hn => (k.block i (Nat.lt_of_lt_of_le hi h.size) hn).trans (h.block i hi hn)⟩
theorem gb_set {a w : World} {b : Nat} (h : a.grownBy w (some b)) (j : Nat) (v : Value) : a.grownBy (w.setCell ⟨b, j, none⟩ v) (some b) :=
  gb_trans h ⟨rfl, rfl, rfl, by simp [World.setCell], fun i hi hn => Below.heap_setCell w _ v i (fun e => hn (by rw [e]))⟩
theorem gb_below {a w w' : World} {r : Option Nat} {B : Nat} (h : a.grownBy w r) (k : Below B w w') (hB : a.heap.size ≤ B) : a.grownBy w' r :=
  ⟨k.os.trans h.os, k.tape.trans h.tape, k.output.trans h.output, Nat.le_trans h.size k.size, fun i hi hn => (k.block i (Nat.lt_of_lt_of_le hi hB)).trans (h.block i hi hn)⟩
theorem gb_alloc {a w : World} {r : Option Nat} (h : a.grownBy w r) (o : Obj) : a.grownBy (w.alloc o) r := gb_trans h (World.grownBy_alloc w o r)
theorem gb_iter {a w : World} {r : Option Nat} (h : a.grownBy w r) {k : Nat} (hk : a.heap.size ≤ k) (s : ByteArray) (p : Nat) : a.grownBy (w.iterAt k s p) r :=
  ⟨h.os, h.tape, h.output, by rw [iterAt_size]; exact h.size, fun i hi hn => (iterAt_other w k i s p (by omega)).trans (h.block i hi hn)⟩
/-! ### the plain loop -/
/-- Where the line begins, which line, which column: from place pos on, rc runes read so far. -/
def scanB (src : ByteArray) (f : Int) : Nat → Nat → Nat → Nat → Nat → Nat → Nat × Nat × Nat
  | 0, _, _, ls, l, c => (ls, l, c)
  | n + 1, pos, rc, ls, l, c =>
    if src.size ≤ pos then (ls, l, c) else if (rc : Int) = f then (ls, l, c) else
    if (Utf8.decode src pos).1 = 10 then scanB src f n (pos + (Utf8.decode src pos).2) (rc + 1) (pos + 1) (l + 1) 0
    else scanB src f n (pos + (Utf8.decode src pos).2) (rc + 1) ls l (c + 1)
def lineEnd (src : ByteArray) (ls : Nat) : Nat := if indexByte (src.extract ls src.size).data.toList 10 < 0 then src.size else ls + (indexByte (src.extract ls src.size).data.toList 10).toNat
def pic (src : ByteArray) (ls le c : Nat) : List UInt8 := [10, 32, 124, 32] ++ tabsL (src.extract ls le).data.toList ++ [10, 32, 124, 32] ++ List.replicate c 46 ++ [94]
theorem width_pos (s : ByteArray) (pos : Nat) (h : pos < s.size) : 1 ≤ (Utf8.decode s pos).2 ∧ (Utf8.decode s pos).2 ≤ s.size - pos := by
  constructor
  · by_cases ha : (s[pos]'h).toNat < 128
    · rw [decode_ascii s pos h ha]
      exact Nat.le_refl _
    · exact (decode_high s pos h (by omega)).2
  · rw [← decodeL_drop]
    have := decodeL_le (s.data.toList.drop pos) (fun e => by have h2 := congrArg List.length e; rw [List.length_drop, len_data, List.length_nil] at h2; omega)
    rw [List.length_drop, len_data] at this
    exact this
theorem ten_one (s : ByteArray) (pos : Nat) (h : pos < s.size) (h10 : (Utf8.decode s pos).1 = 10) : (Utf8.decode s pos).2 = 1 := by
  by_cases ha : (s[pos]'h).toNat < 128
  · rw [decode_ascii s pos h ha]
  · have := (decode_high s pos h (by omega)).1
    omega
/-- What the loop carries. -/
structure BindAt (src : ByteArray) (f : Int) (b k : Nat) (t : Int) (msg snip : ByteArray) (prev : Value) (w wr : World) (n pos rc ls l c : Nat) : Prop where
  err : Err b f t (l : Int) (c : Int) msg snip prev wr
  it : wr.heap[k]? = some (.stringIter src pos)
  grown : w.grownBy wr (some b)
  fin : scanB src f n pos rc ls l c = scanB src f src.size 0 0 0 1 0
  fuel : src.size ≤ pos + n
  pos_le : pos ≤ src.size
  rc_le : rc ≤ pos
  ls_le : ls ≤ pos
  l_le : l ≤ rc + 1
  c_le : c ≤ rc
theorem BindAt.start {src : ByteArray} {b : Nat} {f t l0 c0 : Int} {msg snip : ByteArray} {prev : Value} {w : World} (hE : Err b f t l0 c0 msg snip prev w) (o1 o2 : Obj) :
    BindAt src f b (w.heap.size + 2) t msg snip prev w (((((w.setCell ⟨b, 2, none⟩ (.int .i64 1)).setCell ⟨b, 3, none⟩ (.int .i64 0)).alloc o1).alloc o2).alloc (.stringIter src 0)) src.size 0 0 0 1 0 := by
  have hb := hE.lt
  have h2 : Err b f t 1 0 msg snip prev ((w.setCell ⟨b, 2, none⟩ (.int .i64 1)).setCell ⟨b, 3, none⟩ (.int .i64 0)) := (hE.setLine 1).setCol 0
  have hg2 := gb_set (gb_set (gb_refl w (some b)) 2 (.int .i64 1)) 3 (.int .i64 0)
  have hz : ((w.setCell ⟨b, 2, none⟩ (.int .i64 1)).setCell ⟨b, 3, none⟩ (.int .i64 0)).heap.size = w.heap.size := by simp [World.setCell]
  generalize (w.setCell ⟨b, 2, none⟩ (.int .i64 1)).setCell ⟨b, 3, none⟩ (.int .i64 0) = w2 at *
  refine ⟨?_, ?_, gb_alloc (gb_alloc (gb_alloc hg2 _) _) _, rfl, by omega, by omega, by omega, by omega, by omega, by omega⟩
  · refine h2.same ?_
    rw [Below.heap_alloc _ _ _ (by simp; omega), Below.heap_alloc _ _ _ (by simp; omega), Below.heap_alloc _ _ _ (by omega)]
  · have e : w.heap.size + 2 = ((w2.alloc o1).alloc o2).heap.size := by simp; omega
    rw [e]
    generalize (w2.alloc o1).alloc o2 = wx
    show (wx.heap.push (.stringIter src 0))[wx.heap.size]? = _
    exact Array.getElem?_push_size
section
variable {src : ByteArray} {f : Int} {b k : Nat} {t : Int} {msg snip : ByteArray} {prev : Value} {w wr : World} {n pos rc ls l c : Nat}
theorem BindAt.nextErr (h : BindAt src f b k t msg snip prev w wr n pos rc ls l c) (hbk : b < k) (p : Nat) : Err b f t (l : Int) (c : Int) msg snip prev (wr.iterAt k src p) :=
  h.err.same (iterAt_other _ _ _ _ _ (by omega))
theorem BindAt.stop (h : BindAt src f b k t msg snip prev w wr n pos rc ls l c) (hs : src.size ≤ pos ∨ (rc : Int) = f) : scanB src f src.size 0 0 0 1 0 = (ls, l, c) := by
  rw [← h.fin]
  have hfu := h.fuel
  cases n with
  | zero => rfl
  | succ n =>
    unfold scanB
    by_cases h1 : src.size ≤ pos
    · rw [if_pos h1]
    · rw [if_neg h1, if_pos (by rcases hs with hs | hs; exact absurd hs h1; exact hs)]
theorem BindAt.nl (h : BindAt src f b k t msg snip prev w wr n pos rc ls l c) (hbk : b < k) (hwk : w.heap.size ≤ k) (hp : pos < src.size) (hf : (rc : Int) ≠ f) (h10 : (Utf8.decode src pos).1 = 10) :
    BindAt src f b k t msg snip prev w (((wr.iterAt k src (pos + (Utf8.decode src pos).2)).setCell ⟨b, 2, none⟩ (.int .i64 ((l + 1 : Nat) : Int))).setCell ⟨b, 3, none⟩ (.int .i64 0)) (n - 1) (pos + (Utf8.decode src pos).2) (rc + 1) (pos + 1) (l + 1) 0 := by
  have hfu := h.fuel
  have hw := width_pos src pos hp
  have h1 := ten_one src pos hp h10
  obtain ⟨m, rfl⟩ : ∃ m, n = m + 1 := ⟨n - 1, by omega⟩
  have hr := h.rc_le
  have hl := h.l_le
  refine ⟨((h.nextErr hbk _).setLine _).setCol _, ?_, gb_set (gb_set (gb_iter h.grown hwk _ _) _ _) _ _, ?_, by simp; omega, by omega, by omega, by omega, by omega, by omega⟩
  · rw [Below.heap_setCell _ _ _ _ (by simp; omega), Below.heap_setCell _ _ _ _ (by simp; omega)]
    exact iterAt_heap wr k src pos _ h.it
  · rw [← h.fin]
    conv => rhs; unfold scanB
    rw [if_neg (by omega), if_neg hf, if_pos h10]
    rfl
theorem BindAt.on (h : BindAt src f b k t msg snip prev w wr n pos rc ls l c) (hbk : b < k) (hwk : w.heap.size ≤ k) (hp : pos < src.size) (hf : (rc : Int) ≠ f) (h10 : (Utf8.decode src pos).1 ≠ 10) :
    BindAt src f b k t msg snip prev w ((wr.iterAt k src (pos + (Utf8.decode src pos).2)).setCell ⟨b, 3, none⟩ (.int .i64 ((c + 1 : Nat) : Int))) (n - 1) (pos + (Utf8.decode src pos).2) (rc + 1) ls l (c + 1) := by
  have hfu := h.fuel
  have hw := width_pos src pos hp
  obtain ⟨m, rfl⟩ : ∃ m, n = m + 1 := ⟨n - 1, by omega⟩
  have hr := h.rc_le
  have hl := h.l_le
  have hc := h.c_le
  have hls := h.ls_le
  refine ⟨(h.nextErr hbk _).setCol _, ?_, gb_set (gb_iter h.grown hwk _ _) _ _, ?_, by simp; omega, by omega, by omega, by omega, by omega, by omega⟩
  · rw [Below.heap_setCell _ _ _ _ (by simp; omega)]
    exact iterAt_heap wr k src pos _ h.it
  · rw [← h.fin]
    conv => rhs; unfold scanB
    rw [if_neg (by omega), if_neg hf, if_neg h10]
    rfl
end
end Go.Proofs.Ytlfgaikcdelknaa
