/-
  The law's own appenders by contract: octal, hex digits, runs of them. No condition beyond the bounds.
-/
import Derived.Test.YtncoodplmpgnbaaFmtNl
import Derived.Test.YtncoodplmpgnbaaFmtFacts
import Derived.Maps.AppendAt
namespace Go.Proofs.YtncoodplmpgnbaaFmt
open Go.RowKit Go.Lib Go.Shelf Go.Proofs
set_option linter.unusedVariables false
set_option linter.unusedSimpArgs false

def hexC (d : Nat) (up : Bool) : Nat := if d < 10 then 48 + d else if up then 55 + d else 87 + d
theorem hexC_tab : ∀ (d : Fin 16) (up : Bool), hexD (hexC d.val up) = some d.val ∧ hexC d.val up < 128 ∧ hexC d.val up ≠ 125 ∧ hexC d.val up ≠ 123 := by decide +kernel
theorem hexD_hexC {d : Nat} (h : d < 16) (up : Bool) : hexD (hexC d up) = some d := (hexC_tab ⟨d, h⟩ up).1
theorem hexC_lt {d : Nat} (h : d < 16) (up : Bool) : hexC d up < 128 := (hexC_tab ⟨d, h⟩ up).2.1
/-- The last k hex digits of v, the greatest first. -/
def hexL (v : Nat) (up : Bool) : Nat → List Nat
  | 0 => []
  | k + 1 => hexC (v / 16 ^ k % 16) up :: hexL v up k
theorem hexL_length (v : Nat) (up : Bool) : ∀ k, (hexL v up k).length = k
  | 0 => rfl
  | k + 1 => by simp [hexL, hexL_length v up k]
theorem hexL_lt (v : Nat) (up : Bool) : ∀ k, ∀ x ∈ hexL v up k, x < 256
  | 0, x, h => by cases h
  | k + 1, x, h => by
    rcases List.mem_cons.1 h with rfl | h
    · have := hexC_lt (d := v / 16 ^ k % 16) (Nat.mod_lt _ (by decide)) up
      omega
    · exact hexL_lt v up k x h
def cells8 (l : List Nat) : List Value := l.map fun (x : Nat) => Value.int .u8 (x : Int)
def bytes8 (l : List Nat) : ByteArray := ⟨(l.map fun x => x.toUInt8).toArray⟩
theorem bytes8_size (l : List Nat) : (bytes8 l).size = l.length := by
  show (l.map fun x => x.toUInt8).toArray.size = l.length
  simp
theorem bytes8_at (l : List Nat) (hl : ∀ x ∈ l, x < 256) (k : Nat) (h : k < l.length) : byteAt (bytes8 l) k = l.getD k 0 := by
  have h1 : l[k] < 256 := hl _ (List.getElem_mem h)
  simp [byteAt, bytes8, List.getD, h]
  omega
theorem u32_and15 (u : Nat) (h : u < 4294967296) : bits .and .u32 (u : Int) 15 = ((u % 16 : Nat) : Int) := by
  show IntKind.u32.wrap ((BitVec.ofInt 32 (u : Int) &&& BitVec.ofInt 32 15).toNat : Int) = _
  have e : (BitVec.ofInt 32 (u : Int)).toNat = u := by rw [BitVec.toNat_ofInt]; omega
  have e2 : (BitVec.ofInt 32 15).toNat = 15 := by decide
  rw [BitVec.toNat_and, e, e2, show (15 : Nat) = 2 ^ 4 - 1 from rfl, Nat.and_two_pow_sub_one_eq_mod, IntKind.wrap_u32]
  omega
theorem u32_and7 (u : Nat) (h : u < 4294967296) : bits .and .u32 (u : Int) 7 = ((u % 8 : Nat) : Int) := by
  show IntKind.u32.wrap ((BitVec.ofInt 32 (u : Int) &&& BitVec.ofInt 32 7).toNat : Int) = _
  have e : (BitVec.ofInt 32 (u : Int)).toNat = u := by rw [BitVec.toNat_ofInt]; omega
  have e2 : (BitVec.ofInt 32 7).toNat = 7 := by decide
  rw [BitVec.toNat_and, e, e2, show (7 : Nat) = 2 ^ 3 - 1 from rfl, Nat.and_two_pow_sub_one_eq_mod, IntKind.wrap_u32]
  omega
def octL (v : Nat) : List Nat := [48 + v / 64 % 8, 48 + v / 8 % 8, 48 + v % 8]
def u8L (l : List Nat) : List UInt8 := l.map fun x => x.toUInt8
theorem u8L_length (l : List Nat) : (u8L l).length = l.length := by simp [u8L]
theorem u8L_app (a b : List Nat) : u8L (a ++ b) = u8L a ++ u8L b := by simp [u8L]
theorem u8L_cells (l : List Nat) (hl : ∀ x ∈ l, x < 256) : byteCells (u8L l) = cells8 l := by
  induction l with
  | nil => rfl
  | cons a l ih =>
    have h := hl a (List.mem_cons_self ..)
    have := ih (fun x hx => hl x (List.mem_cons_of_mem _ hx))
    have e : (Value.int .u8 ((a.toUInt8).toNat : Int)) = Value.int .u8 (a : Int) := by simp; omega
    show Value.int .u8 ((a.toUInt8).toNat : Int) :: byteCells (u8L l) = Value.int .u8 (a : Int) :: cells8 l
    rw [e, this]
/-- A grown text, all its own, in a world that kept what lies under the base. -/
def Own (base : Nat) (v : Value) (l : List UInt8) (w : World) : Prop := w.ownsRow base 5 1 v l.length (byteCells l)
/-- A step that grew one text: under the base nothing moved, no block but the text's own was touched, and the text lies where it lay or in a new block. -/
structure Grow (base : Nat) (v v' : Value) (w w' : World) : Prop where
  bel : Below base w w'
  keep : w.grownBy w' v.ownBlock
  lies : ∀ k, v'.ownBlock = some k → v.ownBlock = some k ∨ w.heap.size ≤ k
theorem Grow.size {base : Nat} {v v' : Value} {w w' : World} (h : Grow base v v' w w') : w.heap.size ≤ w'.heap.size := h.bel.size
theorem Grow.refl (base : Nat) (v : Value) (w : World) : Grow base v v w w := ⟨Below.refl _ _, World.grownBy.refl _ _, fun k h => .inl h⟩
theorem Grow.trans {base : Nat} {a b c : Value} {w w' w'' : World} (h : Grow base a b w w') (k : Grow base b c w' w'') : Grow base a c w w'' := by
  refine ⟨h.bel.trans k.bel, ?_, fun j hj => ?_⟩
  · obtain ⟨h1, h2, h3, h4, h5⟩ := h.keep
    obtain ⟨k1, k2, k3, k4, k5⟩ := k.keep
    refine ⟨k1.trans h1, k2.trans h2, k3.trans h3, Nat.le_trans h4 k4, fun i hi hne => ?_⟩
    rw [k5 i (Nat.lt_of_lt_of_le hi h4) ?_, h5 i hi hne]
    intro e
    rcases h.lies i e.symm with e2 | e2
    · exact hne e2.symm
    · omega
  · rcases k.lies j hj with e | e
    · exact h.lies j e
    · exact .inr (Nat.le_trans h.size e)
def App (base : Nat) (d : Value) (l : List UInt8) (w : World) (e : Ending) (w' : World) : Prop := ∃ v', e = .returned v' ∧ Own base v' l w' ∧ Grow base d v' w w'
theorem grownBy_alloc {w w' : World} {o : Obj} {row : Option Nat} (h : (w.alloc o).grownBy w' row) : w.grownBy w' row := by
  obtain ⟨h1, h2, h3, h4, h5⟩ := h
  have hs : (w.alloc o).heap.size = w.heap.size + 1 := World.size_alloc _ _
  refine ⟨h1, h2, h3, by omega, fun i hi hne => ?_⟩
  rw [h5 i (by omega) hne, Below.heap_alloc _ _ _ (by omega)]
theorem put_own {base : Nat} {wr w1 : World} {v v' : Value} {l : List UInt8} {o : Obj} (L : List Nat) (hL : ∀ x ∈ L, x < 256) (hb : base ≤ wr.heap.size) (own : Own base v l wr) {m : Nat} (hm : L.length = m) {news : List Value} (hn : news = cells8 L)
    (ho : w1.ownsRow base 5 1 v' (l.length + m) (byteCells l ++ news)) (hg : (wr.alloc o).grownBy w1 v.ownBlock) (ha : v'.ownBlock = v.ownBlock ∨ v'.ownBlock = some (wr.alloc o).heap.size) : Own base v' (l ++ u8L L) w1 ∧ Grow base v v' wr w1 := by
  subst hm
  subst hn
  refine ⟨?_, ((Below.refl base wr).alloc hb o).grown hg (by simp; omega) (fun k hk => (World.ownsRow.lt own k hk).1), grownBy_alloc hg, fun k hk => ?_⟩
  · unfold Own
    rw [List.length_append, u8L_length, byteCells_append, u8L_cells L hL]
    exact ho
  · rcases ha with e | e
    · left
      rw [← e]
      exact hk
    · right
      rw [e] at hk
      injection hk with hk
      have hs : (wr.alloc o).heap.size = wr.heap.size + 1 := World.size_alloc _ _
      omega
theorem Own.below {base : Nat} {v : Value} {l : List UInt8} {w w' : World} (h : Own base v l w) (hb : Below w.heap.size w w') : Own base v l w' := by
  obtain ⟨hlen, h0 | ⟨g, cap, cur, rfl, hb1, hg, hc, hm, hs, ht⟩⟩ := h
  · exact ⟨hlen, .inl h0⟩
  · refine ⟨hlen, .inr ⟨g, cap, cur, rfl, hb1, ?_, hc, hm, hs, ht⟩⟩
    rw [hb.block g (Array.getElem?_eq_some_iff.1 hg).1]
    exact hg
/-- Another row is kept by a step that grew this one. -/
theorem Own.kept {base b2 : Nat} {v v' u : Value} {l : List UInt8} {w w' : World} (h : Own base u l w) (hg : Grow b2 v v' w w') (hne : u.ownBlock = none ∨ u.ownBlock ≠ v.ownBlock) : Own base u l w' := World.ownsRow.kept h hg.keep hne
theorem hexDigit_any (x : Int) (d : Nat) (up : Bool) (w : World) (hx : x = (d : Int)) (h : d < 16) :
    Calls Tryf.prog 25 #[.int .u32 x, .bool up] w fun e w' => e = .returned (.int .u8 (hexC d up : Int)) ∧ w = w' := by
  subst hx
  have h1 : (d : Int) ≤ 15 := by omega
  have h0 : (0 : Int) ≤ (d : Int) := by omega
  by_cases hd : d < 10
  · have hd' : (d : Int) ≤ 9 := by omega
    have hc := hide (show (hexC d up : Int) = 48 + (d : Int) by unfold hexC; rw [if_pos hd]; omega)
    rw [hc.out]
    clear h hd
    go_enter Tryf.func25, Tryf.ntmps25
    go_wp2
    go_ret
    exact ⟨rfl, rfl⟩
  · have hd' : (10 : Int) ≤ (d : Int) := by omega
    cases up
    · have hc := hide (show (hexC d false : Int) = 97 + (d : Int) - 10 by unfold hexC; rw [if_neg hd]; simp; omega)
      rw [hc.out]
      clear h hd
      go_enter Tryf.func25, Tryf.ntmps25
      go_wp2
      go_ret
      exact ⟨rfl, rfl⟩
    · have hc := hide (show (hexC d true : Int) = 65 + (d : Int) - 10 by unfold hexC; rw [if_neg hd]; simp; omega)
      rw [hc.out]
      clear h hd
      go_enter Tryf.func25, Tryf.ntmps25
      go_wp2
      go_ret
      exact ⟨rfl, rfl⟩
set_option maxRecDepth 20000 in
set_option maxHeartbeats 1000000 in
theorem oct3_any (v : Nat) (w : World) (base : Nat) (d : Value) (l : List UInt8) (hv : v ≤ 255) (hb : base ≤ w.heap.size) (hl : l.length ≤ 2000000) (own : Own base d l w) :
    Calls Tryf.prog 24 #[d, .int .u32 (v : Int)] w (App base d (l ++ u8L (92 :: octL v)) w) := by
  have hv' : (v : Int) ≤ 255 := by omega
  obtain ⟨i0, hi, hz0, hz1, hz2⟩ := info_parts info5
  have hA := u32_and7 (v / 64) (by omega)
  have hB := u32_and7 (v / 8) (by omega)
  have hC := u32_and7 v (by omega)
  have ownh := hide own
  clear own
  unfold octL
  have lA := Nat.mod_lt (v / 64) (show 0 < 8 by decide)
  have lB := Nat.mod_lt (v / 8) (show 0 < 8 by decide)
  have lC := Nat.mod_lt v (show 0 < 8 by decide)
  generalize v / 64 % 8 = A at *
  generalize v / 8 % 8 = B at *
  generalize v % 8 = C at *
  rw [show ((v / 64 : Nat) : Int) = (v : Int) / 64 by omega] at hA
  rw [show ((v / 8 : Nat) : Int) = (v : Int) / 8 by omega] at hB
  have lA' : (A : Int) ≤ 7 := by omega
  have lB' : (B : Int) ≤ 7 := by omega
  have lC' : (C : Int) ≤ 7 := by omega
  have hput := fun v' w1 o ho hg ha => hide (put_own (v' := v') (w1 := w1) (o := o) [92, 48 + A, 48 + B, 48 + C] (by simp; omega) hb ownh.out (m := 4) rfl (news := [.int .u8 92, .int .u8 (48 + (A : Int)), .int .u8 (48 + (B : Int)), .int .u8 (48 + (C : Int))]) (by simp [cells8]) ho hg ha)
  go_enter Tryf.func24, Tryf.ntmps24
  go_wp2_with (at_builtin; refine wpList_append_own_at _ rfl _ _ 27 rfl base 5 i0 (.int .u8 0) 1 1 Tryf.underlying27 hi hz0 hz1 hz2 rfl (by decide) _ _ _ rfl (World.ownsRow.alloc ownh.out _) ⟨w.heap.size, 0, none⟩ 4 4 [.int .u8 92, .int .u8 (48 + (A : Int)), .int .u8 (48 + (B : Int)), .int .u8 (48 + (C : Int))] rfl rfl (by intro j u hj; match j, hj with | 0, hj => simp at hj; subst hj; simp [Addr.add] | 1, hj => simp at hj; subst hj; simp [Addr.add] | 2, hj => simp at hj; subst hj; simp [Addr.add] | 3, hj => simp at hj; subst hj; simp [Addr.add]) (by intro u hu; simp at hu; rcases hu with rfl | rfl | rfl | rfl <;> rfl) (by unfold maxLen; omega) (by omega) (by simp; omega) ?_; intro v' w1 hown' hg' _ hat'; have hR := hput v' w1 _ hown' hg' hat'; clear hown' hg' hat')
  go_ret
  exact ⟨_, rfl, hR.out.1, hR.out.2⟩
end Go.Proofs.YtncoodplmpgnbaaFmt
