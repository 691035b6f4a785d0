/-
  What the unescapers make of a whole text, item by item; and what their loop carries. No program's run in sight.
-/
import Derived.Test.YtncoodplmpgnbaaFmtFacts
import Derived.Test.YtncoodplmpgnbaaFmtNl
import Derived.Test.YtncoodplmpgnbaaFmtBuilder
import Derived.Lib.RuneBytes
import Derived.Laws.IdiomCopy
namespace Go.Proofs.YtncoodplmpgnbaaFmt
open Go.RowKit Go.Lib Go.Shelf Go.Proofs
set_option linter.unusedVariables false
set_option linter.unusedSimpArgs false

abbrev Reader := ByteArray → Option (Int × Bool × Nat)
/-- An item's bytes. -/
def piece (v : Int) (mb : Bool) : List UInt8 := if v < 128 ∨ mb = false then [(IntKind.u8.wrap v).toNat.toUInt8] else encodeRune v
def unAll (rd : Reader) : Nat → ByteArray → Option (List UInt8)
  | 0, t => if t.size = 0 then some [] else none
  | n + 1, t => if t.size = 0 then some [] else match rd t with
    | none => none
    | some (v, mb, k) => (unAll rd n (t.extract k t.size)).map (piece v mb ++ ·)
/-- A reader that eats something, and not more than there is. -/
structure Good (rd : Reader) : Prop where
  eats : ∀ {t : ByteArray} {v : Int} {mb : Bool} {k : Nat}, 0 < t.size → rd t = some (v, mb, k) → 1 ≤ k ∧ k ≤ t.size ∧ v ≤ 1114111
theorem good_unesc : Good unesc := ⟨fun h0 h => by
  have := unesc_facts h0 h
  exact ⟨this.2.1, this.1, unesc_value h0 h⟩⟩
theorem good_unescB : Good unescB := ⟨fun h0 h => by
  have := unescB_facts h0 h
  exact ⟨this.2.1, this.1, this.2.2.2.2⟩⟩
theorem unAll_nil (rd : Reader) (n : Nat) (t : ByteArray) (h : t.size = 0) : unAll rd n t = some [] := by
  cases n <;> simp [unAll, h]
theorem unAll_more (rd : Reader) (hg : Good rd) : ∀ (n m : Nat) (t : ByteArray), t.size ≤ n → t.size ≤ m → unAll rd n t = unAll rd m t
  | 0, m, t, h, _ => by rw [unAll_nil rd 0 t (by omega), unAll_nil rd m t (by omega)]
  | n + 1, 0, t, _, h => by rw [unAll_nil rd (n + 1) t (by omega), unAll_nil rd 0 t (by omega)]
  | n + 1, m + 1, t, h1, h2 => by
    unfold unAll
    by_cases e : t.size = 0
    · rw [if_pos e, if_pos e]
    · rw [if_neg e, if_neg e]
      rcases hr : rd t with _ | ⟨v, mb, k⟩
      · rfl
      · have hk := hg.eats (by omega) hr
        simp only []
        rw [unAll_more rd hg n m (t.extract k t.size) (by simp; omega) (by simp; omega)]
theorem piece_len (v : Int) (mb : Bool) : (piece v mb).length ≤ 4 := by
  unfold piece
  split
  · simp
  · have := runeCells_le v
    rw [← byteCells_encodeRune, byteCells_length] at this
    exact this.2
theorem piece_one (v : Int) (mb : Bool) (h : v < 128 ∨ mb = false) : byteCells (piece v mb) = [Value.int .u8 (IntKind.u8.wrap v)] := by
  unfold piece
  rw [if_pos h]
  have h1 := IntKind.wrap_u8 v
  simp only [byteCells, List.map_cons, List.map_nil, List.cons.injEq, and_true]
  congr 1
  rw [h1]
  simp
  omega
theorem piece_rune (v : Int) (mb : Bool) (h : ¬ (v < 128 ∨ mb = false)) : byteCells (piece v mb) = runeCells v := by
  unfold piece
  rw [if_neg h]
  exact byteCells_encodeRune v
/-! ### frames -/
theorem gb_refl (w : World) (r : Option Nat) : w.grownBy w r := ⟨rfl, rfl, rfl, Nat.le_refl _, fun _ _ _ => rfl⟩
theorem gb_trans {a w w' : World} {r : Option Nat} (h : a.grownBy w r) (k : w.grownBy w' r) : a.grownBy w' r :=
  ⟨k.os.trans h.os, k.tape.trans h.tape, k.output.trans h.output, Nat.le_trans h.size k.size, fun i hi hn => (k.block i (Nat.lt_of_lt_of_le hi h.size) hn).trans (h.block i hi hn)⟩
theorem gb_set (w : World) (b : Nat) (j : Nat) (v : Value) : w.grownBy (w.setCell ⟨b, j, none⟩ v) (some b) :=
  ⟨rfl, rfl, rfl, by simp [World.setCell], fun i hi hn => Below.heap_setCell w _ v i (fun e => hn (by rw [e]))⟩
theorem gb_setCells (b : Nat) : ∀ (vs : List Value) (o : Nat) (w : World), w.grownBy (w.setCells b o vs) (some b)
  | [], o, w => gb_refl w _
  | v :: r, o, w => gb_trans (gb_set w b o v) (gb_setCells b r (o + 1) _)
theorem bld_other {T e B b : Nat} {p : Value} {bs : List Value} {w w' : World} {k : Nat} (h : BuilderAt T e B b p bs w) (hg : w.grownBy w' (some k)) (hk : k < B) : BuilderAt T e B b p bs w' := by
  have hl := h.lt
  obtain ⟨h1, v, h2, h3, h4⟩ := h
  refine ⟨h1, v, (hg.block b hl (fun q => by injection q; omega)).trans h2, h3.kept hg ?_, h4⟩
  rcases hv : v.ownBlock with _ | x
  · exact .inl rfl
  · right
    intro q
    have := (h3.lt x hv).1
    injection q
    omega
theorem ptr_below {T e B b : Nat} {p : Value} {bs : List Value} {w w' : World} (h : BuilderAt T e B b p bs w) (k : Below w.heap.size w w') : BuilderAt T e B b p bs w' := by
  have hl := h.lt
  obtain ⟨h1, v, h2, h3, h4⟩ := h
  refine ⟨h1, v, (k.block b hl).trans h2, h3.kept (row := none) ⟨k.os, k.tape, k.output, k.size, fun i hi _ => k.block i hi⟩ ?_, h4⟩
  cases v.ownBlock with
  | none => exact .inl rfl
  | some x => exact .inr (by simp)
/-- The four places for a rune's bytes. -/
def Tmp4 (bt : Nat) (w : World) : Prop := ∀ j, j < 4 → (w.cell? ⟨bt, j, none⟩).isSome = true ∧ w.frozen? ⟨bt, j, none⟩ = false
theorem Tmp4.same {bt : Nat} {w w' : World} (h : Tmp4 bt w) (hs : w'.heap[bt]? = w.heap[bt]?) : Tmp4 bt w' := fun j hj => by
  have := h j hj
  rw [World.cell?_of_block (a := ⟨bt, j, none⟩) hs, World.frozen?_of_block (a := ⟨bt, j, none⟩) hs]
  exact this
theorem Tmp4.lt {bt : Nat} {w : World} (h : Tmp4 bt w) : bt < w.heap.size := by
  obtain ⟨v, hv⟩ := Option.isSome_iff_exists.1 (h 0 (by decide)).1
  exact World.block_lt_of_cell? w _ hv
/-- What the loop carries. -/
structure UnAt (rd : Reader) (s0 t : ByteArray) (acc : List UInt8) (n nb bt : Nat) (w wr : World) : Prop where
  bld : BuilderAt 51 5 nb nb (.pointer (some ⟨nb, 0, none⟩)) (byteCells acc) wr
  tmp : Tmp4 bt wr
  lt : bt < nb
  base : w.heap.size ≤ bt
  bel : Below w.heap.size w wr
  txt : unAll rd s0.size s0 = (unAll rd n t).map (acc ++ ·)
  fuel : t.size ≤ n
  room : acc.length + 4 * t.size ≤ 4 * s0.size
theorem map_map' (o : Option (List UInt8)) (a b : List UInt8) : (o.map (b ++ ·)).map (a ++ ·) = o.map ((a ++ b) ++ ·) := by cases o <;> simp
theorem UnAt.bad {rd : Reader} {s0 t : ByteArray} {acc : List UInt8} {n nb bt : Nat} {w wr : World} (h : UnAt rd s0 t acc n nb bt w wr) (ht : 0 < t.size) (hr : rd t = none) : unAll rd s0.size s0 = none := by
  have hf := h.fuel
  rw [h.txt]
  obtain ⟨m, rfl⟩ : ∃ m, n = m + 1 := ⟨n - 1, by omega⟩
  unfold unAll
  rw [if_neg (by omega), hr]
  rfl
theorem UnAt.fin {rd : Reader} {s0 t : ByteArray} {acc : List UInt8} {n nb bt : Nat} {w wr : World} (h : UnAt rd s0 t acc n nb bt w wr) (ht : t.size = 0) : unAll rd s0.size s0 = some acc := by
  rw [h.txt, unAll_nil rd n t ht]
  simp
theorem UnAt.next {rd : Reader} (hg : Good rd) {s0 t : ByteArray} {acc : List UInt8} {n nb bt : Nat} {w wr : World} (h : UnAt rd s0 t acc n nb bt w wr) (ht : 0 < t.size) {v : Int} {mb : Bool} {k : Nat} (hr : rd t = some (v, mb, k)) {w' : World}
    (hb : BuilderAt 51 5 nb nb (.pointer (some ⟨nb, 0, none⟩)) (byteCells acc ++ byteCells (piece v mb)) w') (htm : Tmp4 bt w') (hbel : Below w.heap.size w w') :
    UnAt rd s0 (t.extract k t.size) (acc ++ piece v mb) (n - 1) nb bt w w' := by
  have hf := h.fuel
  have hk := hg.eats ht hr
  have hp := piece_len v mb
  have hrm := h.room
  refine ⟨by rw [byteCells_append]; exact hb, htm, h.lt, h.base, hbel, ?_, by simp; omega, by rw [List.length_append]; simp; omega⟩
  rw [h.txt]
  obtain ⟨m, rfl⟩ : ∃ m, n = m + 1 := ⟨n - 1, by omega⟩
  conv => lhs; unfold unAll
  rw [if_neg (by omega), hr]
  exact map_map' _ _ _
end Go.Proofs.YtncoodplmpgnbaaFmt
