/-
  Rows as a caller hands them in and copies of them; a text put together of readable pieces. No condition beyond the bounds.
-/
import Derived.Test.YthpchfbjnhdcdaaFmtEscC
import Derived.Test.YthpchfbjnhdcdaaFmtEncE
import Derived.Test.YthpchfbjnhdcdaaFmtGramC
import Derived.Test.YthpchfbjnhdcdaaFmtTripU
import Derived.OwnWalk
import Derived.Lib.AppendStr
namespace Go.Proofs.YthpchfbjnhdcdaaFmt
open Go.RowKit Go.Lib Go.Shelf Go.Proofs
set_option linter.unusedVariables false
set_option linter.unusedSimpArgs false

/-- A grown text, all its own. -/
def Own (base : Nat) (v : Value) (l : List UInt8) (w : World) : Prop := w.ownsRow base 5 1 v l.length (byteCells l)
theorem Own.below {base : Nat} {v : Value} {l : List UInt8} {w w' : World} (h : Own base v l w) (hb : Below w.heap.size w w') : Own base v l w' := by
  obtain ⟨hlen, h0 | ⟨g, cap, cur, rfl, hb1, hg, hc, hm, hs, ht⟩⟩ := h
  · exact ⟨hlen, .inl h0⟩
  · refine ⟨hlen, .inr ⟨g, cap, cur, rfl, hb1, ?_, hc, hm, hs, ht⟩⟩
    rw [hb.block g (Array.getElem?_eq_some_iff.1 hg).1]
    exact hg
theorem set_next (l : List Value) (k : Nat) (x z : Value) : (l ++ List.replicate (k + 1) z).set l.length x = (l ++ [x]) ++ List.replicate k z := by
  rw [List.set_append_right _ _ (Nat.le_refl _)]
  simp [List.replicate_succ]
/-- A row half filled. -/
structure Fill (l : List UInt8) (n i g base : Nat) (w wr : World) : Prop where
  len : l.length = i
  le : i ≤ n
  own : wr.ownsRow base 5 1 (.slice (some ⟨g, 0, none⟩) n n) n (byteCells l ++ List.replicate (n - i) (Value.int .u8 0))
  bel : Below base w wr
theorem Fill.facts {l : List UInt8} {n i g base : Nat} {w wr : World} (h : Fill l n i g base w wr) (hi : i < n) : wr.cell? ⟨g, i, none⟩ = some (.int .u8 0) ∧ wr.frozen? ⟨g, i, none⟩ = false := by
  refine ⟨?_, h.own.frozenAt i⟩
  rw [h.own.cellAt i (by omega), List.getElem?_append_right (by rw [byteCells_length, h.len]; exact Nat.le_refl _), byteCells_length, h.len, Nat.sub_self, show n - i = (n - i - 1) + 1 by omega, List.replicate_succ]
  rfl
theorem Fill.put {l : List UInt8} {n i g base : Nat} {w wr : World} (h : Fill l n i g base w wr) (hi : i < n) (x : UInt8) (hg : base ≤ g) (v : Value) (hv : v = .int .u8 (x.toNat : Int)) (hb : base ≤ wr.heap.size) : Fill (l ++ [x]) n (i + 1) g base w (wr.setCell ⟨g, i, none⟩ v) := by
  subst hv
  have hst := h.own.stored i (.int .u8 (x.toNat : Int))
  refine ⟨by rw [List.length_append, h.len]; rfl, hi, ?_, h.bel.grown hst.2 hb (fun k hk => by cases hk; exact hg)⟩
  have h1 := hst.1
  have e := set_next (byteCells l) (n - (i + 1)) (.int .u8 (x.toNat : Int)) (.int .u8 0)
  rw [byteCells_length, h.len, show n - (i + 1) + 1 = n - i by omega] at e
  rw [e] at h1
  rw [byteCells_append]
  exact h1
/-- A row of numbers as a caller hands it in: the empty one, or cells. -/
def IsRow (k : IntKind) (w : World) (a : Option Addr) (len cap : Nat) (zs : List Int) : Prop :=
  (a = none ∧ len = 0 ∧ cap = 0 ∧ zs = []) ∨ ∃ x, a = some x ∧ len ≤ cap ∧ cap ≤ maxLen ∧ zs.length = cap ∧ (∀ i, i < zs.length → w.cell? (x.add i) = some (.int k (zs.getD i 0))) ∧ ∀ n ∈ zs, (Lit.int k n).wf = true
/-- Bytes that lie from an address on. -/
def Src8 (w : World) (x : Addr) (ys : List UInt8) : Prop := ∀ (i : Nat) (h : i < ys.length), w.cell? (x.add i) = some (.int .u8 (ys[i].toNat : Int))
theorem Src8.below {w w' : World} {x : Addr} {ys : List UInt8} (h : Src8 w x ys) (hb : Below w.heap.size w w') : Src8 w' x ys := fun i hi => by
  have h1 := h i hi
  have hlt : (x.add i).block < w.heap.size := by
    rcases Nat.lt_or_ge (x.add i).block w.heap.size with h2 | h2
    · exact h2
    · exfalso
      unfold World.cell? at h1
      simp [h2] at h1
  rw [World.cell?_of_block (hb.block _ hlt)]
  exact h1
theorem IsRow.src {w : World} {x : Addr} {len cap : Nat} {zs : List Int} (h : IsRow .u8 w (some x) len cap zs) : ∃ ys : List UInt8, ys.length = len ∧ Src8 w x ys := by
  rcases h with ⟨h, _⟩ | ⟨x', h, hl, hm, hz, hc, hw⟩
  · cases h
  · cases h
    refine ⟨(zs.take len).map (fun z => z.toNat.toUInt8), by simp; omega, fun i hi => ?_⟩
    have hi' : i < len := by simp at hi; omega
    have hiz : i < zs.length := by omega
    rw [hc i hiz]
    have hb : 0 ≤ zs[i] ∧ zs[i] ≤ 255 := by
      have := hw zs[i] (List.getElem_mem hiz)
      simpa [Lit.wf, IntKind.min, IntKind.max, IntKind.signed, IntKind.bits] using this
    simp [List.getD, hiz]
    omega
theorem info21 : (Tryf.prog.info? 21).map (fun i => (i.zero, i.size, i.bytes)) = some (some (.int .i32 0), 1, 4) := by kernel_rfl
def cells32 (l : List Int) : List Value := l.map fun x => Value.int .i32 x
theorem made32 (n : Nat) : (madeCells (Value.int .i32 0).cells (n * 1)).toList = List.replicate n (Value.int .i32 0) := by
  apply List.ext_getElem?
  intro i
  by_cases h : i < n
  · simp [madeCells, Value.cells, h, Nat.mod_one]
  · simp [madeCells, Value.cells, h]
/-- A row of runes half filled. -/
structure Fill32 (l : List Int) (n i g base : Nat) (w wr : World) : Prop where
  len : l.length = i
  le : i ≤ n
  own : wr.ownsRow base 21 1 (.slice (some ⟨g, 0, none⟩) n n) n (cells32 l ++ List.replicate (n - i) (Value.int .i32 0))
  bel : Below base w wr
theorem cells32_length (l : List Int) : (cells32 l).length = l.length := by simp [cells32]
theorem Fill32.facts {l : List Int} {n i g base : Nat} {w wr : World} (h : Fill32 l n i g base w wr) (hi : i < n) : wr.cell? ⟨g, i, none⟩ = some (.int .i32 0) ∧ wr.frozen? ⟨g, i, none⟩ = false := by
  refine ⟨?_, h.own.frozenAt i⟩
  rw [h.own.cellAt i (by omega), List.getElem?_append_right (by rw [cells32_length, h.len]; exact Nat.le_refl _), cells32_length, h.len, Nat.sub_self, show n - i = (n - i - 1) + 1 by omega, List.replicate_succ]
  rfl
theorem Fill32.put {l : List Int} {n i g base : Nat} {w wr : World} (h : Fill32 l n i g base w wr) (hi : i < n) (x : Int) (hg : base ≤ g) (hb : base ≤ wr.heap.size) : Fill32 (l ++ [x]) n (i + 1) g base w (wr.setCell ⟨g, i, none⟩ (.int .i32 x)) := by
  have hst := h.own.stored i (.int .i32 x)
  refine ⟨by rw [List.length_append, h.len]; rfl, hi, ?_, h.bel.grown hst.2 hb (fun k hk => by cases hk; exact hg)⟩
  have h1 := hst.1
  have e := set_next (cells32 l) (n - (i + 1)) (.int .i32 x) (.int .i32 0)
  rw [cells32_length, h.len, show n - (i + 1) + 1 = n - i by omega] at e
  rw [e] at h1
  rw [show cells32 (l ++ [x]) = cells32 l ++ [.int .i32 x] by simp [cells32]]
  exact h1
/-- Runes that lie from an address on. -/
def Src32 (w : World) (x : Addr) (rs : List Int) : Prop := ∀ (i : Nat) (h : i < rs.length), w.cell? (x.add i) = some (.int .i32 rs[i])
theorem Src32.below {w w' : World} {x : Addr} {rs : List Int} (h : Src32 w x rs) (hb : Below w.heap.size w w') : Src32 w' x rs := fun i hi => by
  have h1 := h i hi
  have hlt : (x.add i).block < w.heap.size := by
    rcases Nat.lt_or_ge (x.add i).block w.heap.size with h2 | h2
    · exact h2
    · exfalso
      unfold World.cell? at h1
      simp [h2] at h1
  rw [World.cell?_of_block (hb.block _ hlt)]
  exact h1
theorem IsRow.src32 {w : World} {x : Addr} {len cap : Nat} {zs : List Int} (h : IsRow .i32 w (some x) len cap zs) : (zs.take len).length = len ∧ Src32 w x (zs.take len) := by
  rcases h with ⟨h, _⟩ | ⟨x', h, hl, hm, hz, hc, hw⟩
  · cases h
  · cases h
    refine ⟨by simp; omega, fun i hi => ?_⟩
    have hi' : i < len := by simp at hi; omega
    have hiz : i < zs.length := by omega
    rw [hc i hiz]
    simp [List.getD, hiz]
theorem IsRow.below {k : IntKind} {w w' : World} {a : Option Addr} {len cap : Nat} {zs : List Int} (h : IsRow k w a len cap zs) (hb : Below w.heap.size w w') : IsRow k w' a len cap zs := by
  rcases h with h | ⟨x, rfl, hl, hm, hz, hc, hw⟩
  · exact .inl h
  · refine .inr ⟨x, rfl, hl, hm, hz, fun i hi => ?_, hw⟩
    have h1 := hc i hi
    have hlt : (x.add i).block < w.heap.size := by
      rcases Nat.lt_or_ge (x.add i).block w.heap.size with h2 | h2
      · exact h2
      · exfalso
        unfold World.cell? at h1
        simp [h2] at h1
    rw [World.cell?_of_block (hb.block _ hlt)]
    exact h1
/-- A row of runes: the empty one, or cells. -/
structure Runes (w : World) (a : Option Addr) (n c : Nat) (rs : List Int) : Prop where
  len : rs.length = n
  nil : a = none → n = 0 ∧ c = 0
  src : ∀ x, a = some x → Src32 w x rs
theorem IsRow.runes {w : World} {a : Option Addr} {n c : Nat} {zs : List Int} (h : IsRow .i32 w a n c zs) : Runes w a n c (zs.take n) := by
  cases a with
  | none =>
    rcases h with ⟨_, h1, h2, h3⟩ | ⟨x, hx, _⟩
    · exact ⟨by simp [h3, h1], fun _ => ⟨h1, h2⟩, fun x hx => (by cases hx)⟩
    · cases hx
  | some x => exact ⟨h.src32.1, fun e => (by cases e), fun y hy => (by cases hy; exact h.src32.2)⟩
theorem Runes.below {w w' : World} {a : Option Addr} {n c : Nat} {rs : List Int} (h : Runes w a n c rs) (hb : Below w.heap.size w w') : Runes w' a n c rs := ⟨h.len, h.nil, fun x hx => (h.src x hx).below hb⟩
/-- A row of bytes: the empty one, or cells. -/
structure Byts (w : World) (a : Option Addr) (n c : Nat) (ys : List UInt8) : Prop where
  len : ys.length = n
  nil : a = none → n = 0 ∧ c = 0
  src : ∀ x, a = some x → Src8 w x ys
theorem Byts.below {w w' : World} {a : Option Addr} {n c : Nat} {ys : List UInt8} (h : Byts w a n c ys) (hb : Below w.heap.size w w') : Byts w' a n c ys := ⟨h.len, h.nil, fun x hx => (h.src x hx).below hb⟩
theorem IsRow.byts {w : World} {a : Option Addr} {n c : Nat} {zs : List Int} (h : IsRow .u8 w a n c zs) : ∃ ys, Byts w a n c ys := by
  cases a with
  | none =>
    rcases h with ⟨_, h1, h2, h3⟩ | ⟨x, hx, _⟩
    · exact ⟨[], by simp [h1], fun _ => ⟨h1, h2⟩, fun x hx => by cases hx⟩
    · cases hx
  | some x =>
    obtain ⟨ys, h1, h2⟩ := h.src
    exact ⟨ys, h1, fun e => (by cases e), fun y hy => by cases hy; exact h2⟩
theorem Fill.byts {l : List UInt8} {n g base : Nat} {w wr : World} (h : Fill l n n g base w wr) : Byts wr (some ⟨g, 0, none⟩) n n l := by
  refine ⟨h.len, fun e => (by cases e), fun x hx i hi => ?_⟩
  cases hx
  have ha : (⟨g, 0, none⟩ : Addr).add i = ⟨g, i, none⟩ := by unfold Addr.add; split <;> simp_all
  have hl := h.len
  rw [ha, h.own.cellAt i (by omega), Nat.sub_self, List.replicate_zero, List.append_nil]
  simp [byteCells, hi]
theorem Fill32.runes {l : List Int} {n g base : Nat} {w wr : World} (h : Fill32 l n n g base w wr) : Runes wr (some ⟨g, 0, none⟩) n n l := by
  refine ⟨h.len, fun e => (by cases e), fun x hx i hi => ?_⟩
  cases hx
  have ha : (⟨g, 0, none⟩ : Addr).add i = ⟨g, i, none⟩ := by unfold Addr.add; split <;> simp_all
  have hl := h.len
  rw [ha, h.own.cellAt i (by omega), Nat.sub_self, List.replicate_zero, List.append_nil]
  simp [cells32, hi]
theorem Byts.at_ {w : World} {g n c : Nat} {ys : List UInt8} (h : Byts w (some ⟨g, 0, none⟩) n c ys) (i : Nat) (hi : i < ys.length) : w.cell? ⟨g, i, none⟩ = some (.int .u8 (ys[i].toNat : Int)) := by
  have ha : (⟨g, 0, none⟩ : Addr).add i = ⟨g, i, none⟩ := by unfold Addr.add; split <;> simp_all
  have := h.src _ rfl i hi
  rw [ha] at this
  exact this
theorem Runes.at_ {w : World} {g n c : Nat} {rs : List Int} (h : Runes w (some ⟨g, 0, none⟩) n c rs) (i : Nat) (hi : i < rs.length) : w.cell? ⟨g, i, none⟩ = some (.int .i32 rs[i]) := by
  have ha : (⟨g, 0, none⟩ : Addr).add i = ⟨g, i, none⟩ := by unfold Addr.add; split <;> simp_all
  have := h.src _ rfl i hi
  rw [ha] at this
  exact this
def bytesB (l : List UInt8) : ByteArray := ⟨l.toArray⟩
theorem bytesB_data (l : List UInt8) : (bytesB l).data.toList = l := by simp [bytesB]
theorem bytesB_size (l : List UInt8) : (bytesB l).size = l.length := by
  show l.toArray.size = l.length
  simp
theorem own_text29 {w : World} {base n : Nat} {v : Value} (l : List UInt8) (hn : l.length = n) (h : w.ownsRow base 5 1 v n (byteCells l)) :
    (convert 29 9 v).run Tryf.prog w = .ok (.string (bytesB l)) w := by
  obtain ⟨hlen, ⟨rfl, h0⟩ | ⟨g, cap, cur, rfl, hb, hg, hc, hm, hs, ht⟩⟩ := h
  · subst h0
    obtain rfl : l = [] := List.length_eq_zero_iff.1 hn
    rw [run_convert_bytes_string (P := Tryf.prog) w 29 9 5 none 0 0 Tryf.underlying29 Tryf.underlying5 Tryf.underlying9]
    rfl
  · subst hn
    exact run_convert_bytes_back (P := Tryf.prog) w 29 9 5 ⟨g, 0, none⟩ cap l Tryf.underlying29 Tryf.underlying5 Tryf.underlying9 (fun j hj => by
      have ha : (⟨g, 0, none⟩ : Addr).add j = ⟨g, j, none⟩ := by unfold Addr.add; split <;> simp_all
      rw [ha]
      have h1 := World.ownsRow.cellAt (w := w) (base := base) (e := 5) (g := g) (cap := cap) (n := l.length) (xs := byteCells l) ⟨hlen, .inr ⟨g, cap, cur, rfl, hb, hg, hc, hm, hs, ht⟩⟩ j (by omega)
      rw [h1]
      simp [byteCells, hj])
theorem put_str {base : Nat} {wr w1 : World} {v v' : Value} {l : List UInt8} (E : ByteArray) (hb : base ≤ wr.heap.size) (own : Own base v l wr)
    (ho : w1.ownsRow base 5 1 v' (l.length + E.size) (byteCells l ++ strCells E)) (hg : wr.grownBy w1 v.ownBlock) : Own base v' (l ++ E.data.toList) w1 ∧ Below base wr w1 := by
  refine ⟨?_, (Below.refl base wr).grown hg hb (fun k hk => (World.ownsRow.lt own k hk).1)⟩
  unfold Own
  have e : (l ++ E.data.toList).length = l.length + E.size := by rw [List.length_append, Array.length_toList]; rfl
  rw [e, byteCells_append]
  exact ho
/-- A piece that the reader reads back whole. -/
def Reads1 (r : Int) (E : ByteArray) : Prop := 1 ≤ E.size ∧ E.size ≤ 10 ∧ ∃ mb, ∀ t, unesc (E ++ t) = some (r, mb, E.size)
theorem Reads.one {r : Nat} {E : ByteArray} (h : Reads r E) : Reads1 (r : Int) E := by
  obtain ⟨h1, h2, h3⟩ := h
  exact ⟨by omega, h2, true, h3⟩
def Txt : List Int → List UInt8 → Prop
  | [], l => l = []
  | r :: rs, l => ∃ (E : ByteArray) (l' : List UInt8), Reads1 r E ∧ l = E.data.toList ++ l' ∧ Txt rs l'
theorem Txt.snoc : ∀ (rs : List Int) (l : List UInt8), Txt rs l → ∀ (r : Int) (E : ByteArray), Reads1 r E → Txt (rs ++ [r]) (l ++ E.data.toList)
  | [], l, h, r, E, hE => by
    have h0 : l = [] := h
    subst h0
    exact ⟨E, [], hE, by simp, rfl⟩
  | a :: rs, l, h, r, E, hE => by
    obtain ⟨F, l', hF, rfl, h'⟩ := h
    exact ⟨F, l' ++ E.data.toList, hF, by rw [List.append_assoc], Txt.snoc rs l' h' r E hE⟩
theorem len_data (s : ByteArray) : s.data.toList.length = s.size := by rw [Array.length_toList]; rfl
theorem Txt.len : ∀ (rs : List Int) (l : List UInt8), Txt rs l → rs.length ≤ l.length ∧ l.length ≤ 10 * rs.length
  | [], l, h => by
    have h0 : l = [] := h
    subst h0
    exact ⟨Nat.le_refl _, Nat.le_refl _⟩
  | a :: rs, l, h => by
    obtain ⟨F, l', ⟨h1, h2, _⟩, rfl, h'⟩ := h
    have := Txt.len rs l' h'
    rw [List.length_append, len_data, List.length_cons]
    omega
theorem raw2 (z : Nat) (h : 128 ≤ z) (h2 : z < 2048) (t : ByteArray) : unesc (bytes8 [192 + z / 64, 128 + z % 64] ++ t) = some ((z : Int), true, 2) := by
  have hl : ∀ y ∈ [192 + z / 64, 128 + z % 64], y < 256 := by intro y hy; simp at hy; omega
  have h0 := app_get _ hl t 0 (by simp)
  have h1 := app_get _ hl t 1 (by simp)
  have hs : 2 ≤ (bytes8 [192 + z / 64, 128 + z % 64] ++ t).size := by rw [size_app, bytes8_size]; simp
  generalize bytes8 [192 + z / 64, 128 + z % 64] ++ t = s at *
  simp at h0 h1
  have hd : Utf8.decode s 0 = (z, 2) := by
    rw [decode_bytes]
    simp only [Nat.zero_add, h0, h1]
    unfold decodeN
    rw [if_neg (by omega), if_pos (by omega), if_pos (by omega)]
    simp
    omega
  unfold unesc
  rw [if_pos (by omega), hd]
theorem raw3 (z : Nat) (h : 2048 ≤ z) (h2 : z < 65536) (hsur : ¬ (55296 ≤ z ∧ z ≤ 57343)) (t : ByteArray) : unesc (bytes8 [224 + z / 4096, 128 + z / 64 % 64, 128 + z % 64] ++ t) = some ((z : Int), true, 3) := by
  have hl : ∀ y ∈ [224 + z / 4096, 128 + z / 64 % 64, 128 + z % 64], y < 256 := by intro y hy; simp at hy; omega
  have h0 := app_get _ hl t 0 (by simp)
  have h1 := app_get _ hl t 1 (by simp)
  have h2 := app_get _ hl t 2 (by simp)
  have hs : 3 ≤ (bytes8 [224 + z / 4096, 128 + z / 64 % 64, 128 + z % 64] ++ t).size := by rw [size_app, bytes8_size]; simp
  generalize bytes8 [224 + z / 4096, 128 + z / 64 % 64, 128 + z % 64] ++ t = s at *
  simp at h0 h1 h2
  have hd : Utf8.decode s 0 = (z, 3) := by
    rw [decode_bytes]
    simp only [Nat.zero_add, h0, h1, h2]
    unfold decodeN
    rw [if_neg (by omega), if_neg (by omega), if_pos (by omega), if_pos (by omega)]
    simp
    omega
  unfold unesc
  rw [if_pos (by omega), hd]
theorem raw4 (z : Nat) (h : 65536 ≤ z) (h2 : z ≤ 1114111) (t : ByteArray) : unesc (bytes8 [240 + z / 262144, 128 + z / 4096 % 64, 128 + z / 64 % 64, 128 + z % 64] ++ t) = some ((z : Int), true, 4) := by
  have hl : ∀ y ∈ [240 + z / 262144, 128 + z / 4096 % 64, 128 + z / 64 % 64, 128 + z % 64], y < 256 := by intro y hy; simp at hy; omega
  have h0 := app_get _ hl t 0 (by simp)
  have h1 := app_get _ hl t 1 (by simp)
  have h2 := app_get _ hl t 2 (by simp)
  have h3 := app_get _ hl t 3 (by simp)
  have hs : 4 ≤ (bytes8 [240 + z / 262144, 128 + z / 4096 % 64, 128 + z / 64 % 64, 128 + z % 64] ++ t).size := by rw [size_app, bytes8_size]; simp
  generalize bytes8 [240 + z / 262144, 128 + z / 4096 % 64, 128 + z / 64 % 64, 128 + z % 64] ++ t = s at *
  simp at h0 h1 h2 h3
  have hd : Utf8.decode s 0 = (z, 4) := by
    rw [decode_bytes]
    simp only [Nat.zero_add, h0, h1, h2, h3]
    unfold decodeN
    rw [if_neg (by omega), if_neg (by omega), if_neg (by omega), if_pos (by omega), if_pos (by omega)]
    simp
    omega
  unfold unesc
  rw [if_pos (by omega), hd]
theorem raw1 (z : Nat) (h : z < 128) (h1 : z ≠ 92) (t : ByteArray) : unesc (bytes8 [z] ++ t) = some ((z : Int), false, 1) := by
  have hl : ∀ y ∈ [z], y < 256 := by intro y hy; simp at hy; omega
  have h0 := app_get _ hl t 0 (by simp)
  generalize bytes8 [z] ++ t = s at *
  simp at h0
  unfold unesc
  rw [if_neg (by omega), if_pos (by omega), h0]
theorem raw_reads (z : Nat) (hz : z ≤ 1114111) (h92 : z ≠ 92) (hs : ¬ (55296 ≤ z ∧ z ≤ 57343)) : Reads1 (z : Int) ⟨(encodeRune z).toArray⟩ := by
  by_cases c1 : z < 128
  · have e : (⟨(encodeRune z).toArray⟩ : ByteArray) = bytes8 [z] := by
      unfold encodeRune
      rw [encodeRuneZ_one (by omega) (by omega)]
      rfl
    rw [e]
    exact ⟨by rw [bytes8_size]; simp, by rw [bytes8_size]; simp, false, fun t => by rw [raw1 z c1 h92 t, bytes8_size]; rfl⟩
  by_cases c2 : z < 2048
  · have e : (⟨(encodeRune z).toArray⟩ : ByteArray) = bytes8 [192 + z / 64, 128 + z % 64] := by
      unfold encodeRune
      rw [encodeRuneZ_two (by omega) (by omega)]
      show (⟨([(192 + (z : Int) / 64).toNat.toUInt8, (128 + (z : Int) % 64).toNat.toUInt8]).toArray⟩ : ByteArray) = _
      rw [show (192 + (z : Int) / 64).toNat = 192 + z / 64 by omega, show (128 + (z : Int) % 64).toNat = 128 + z % 64 by omega]
      rfl
    rw [e]
    exact ⟨by rw [bytes8_size]; simp, by rw [bytes8_size]; simp, true, fun t => by rw [raw2 z (by omega) c2 t, bytes8_size]; rfl⟩
  by_cases c3 : z < 65536
  · have e : (⟨(encodeRune z).toArray⟩ : ByteArray) = bytes8 [224 + z / 4096, 128 + z / 64 % 64, 128 + z % 64] := by
      unfold encodeRune
      rw [encodeRuneZ_three (by omega)]
      show (⟨([(224 + (z : Int) / 4096).toNat.toUInt8, (128 + (z : Int) / 64 % 64).toNat.toUInt8, (128 + (z : Int) % 64).toNat.toUInt8]).toArray⟩ : ByteArray) = _
      rw [show (224 + (z : Int) / 4096).toNat = 224 + z / 4096 by omega, show (128 + (z : Int) / 64 % 64).toNat = 128 + z / 64 % 64 by omega, show (128 + (z : Int) % 64).toNat = 128 + z % 64 by omega]
      rfl
    rw [e]
    exact ⟨by rw [bytes8_size]; simp, by rw [bytes8_size]; simp, true, fun t => by rw [raw3 z (by omega) c3 hs t, bytes8_size]; rfl⟩
  · have e : (⟨(encodeRune z).toArray⟩ : ByteArray) = bytes8 [240 + z / 262144, 128 + z / 4096 % 64, 128 + z / 64 % 64, 128 + z % 64] := by
      unfold encodeRune
      rw [encodeRuneZ_four (by omega) (by omega)]
      show (⟨([(240 + (z : Int) / 262144).toNat.toUInt8, (128 + (z : Int) / 4096 % 64).toNat.toUInt8, (128 + (z : Int) / 64 % 64).toNat.toUInt8, (128 + (z : Int) % 64).toNat.toUInt8]).toArray⟩ : ByteArray) = _
      rw [show (240 + (z : Int) / 262144).toNat = 240 + z / 262144 by omega, show (128 + (z : Int) / 4096 % 64).toNat = 128 + z / 4096 % 64 by omega, show (128 + (z : Int) / 64 % 64).toNat = 128 + z / 64 % 64 by omega, show (128 + (z : Int) % 64).toNat = 128 + z % 64 by omega]
      rfl
    rw [e]
    exact ⟨by rw [bytes8_size]; simp, by rw [bytes8_size]; simp, true, fun t => by rw [raw4 z (by omega) hz t, bytes8_size]; rfl⟩
theorem raw_call (z : Nat) (w : World) (hz : z ≤ 1114111) (h92 : z ≠ 92) (hs : ¬ (55296 ≤ z ∧ z ≤ 57343)) :
    Calls Tryf.prog 12 #[.int .i32 (z : Int)] w fun e w' => (∃ E, e = .returned (.string E) ∧ Reads1 (z : Int) E) ∧ Below w.heap.size w w' :=
  (enc_any z w hz hs).mono fun e w' h => ⟨⟨_, h.1, raw_reads z hz h92 hs⟩, h.2⟩
theorem esc_call (z f : Nat) (up : Bool) (w : World) (hz : z ≤ 1114111) (hf : f ≤ 5) :
    Calls Tryf.prog 9 #[.int .i32 (z : Int), .int .i64 (f : Int), .bool up] w fun e w' => (∃ E, e = .returned (.string E) ∧ Reads1 (z : Int) E) ∧ Below w.heap.size w w' :=
  (esc_any z f up w hz hf).mono fun e w' h => by
    obtain ⟨⟨E, h1, h2⟩, h3⟩ := h
    exact ⟨⟨E, h1, h2.one⟩, h3⟩
theorem read_call (r : Int) (E T : ByteArray) (w : World) (hT : TU w) (hR : Reads1 r E) (hs : T.size ≤ 1048576) :
    Calls Tryf.prog 10 #[.string (E ++ T)] w fun e w' => (∃ mb, e = .returned (.tuple #[.int .i32 r, .bool mb, .string T, .nilIface])) ∧ Below w.heap.size w w' := by
  have hsz := size_app E T
  obtain ⟨h2, h10, mb, hu⟩ := hR
  refine (zz10 (E ++ T) w (by omega) (by omega) hT).mono ?_
  rintro e w' ⟨he, hb⟩
  rw [hu T] at he
  refine ⟨⟨mb, ?_⟩, hb⟩
  have he' : e = .returned (.tuple #[.int .i32 r, .bool mb, .string ((E ++ T).extract E.size (E ++ T).size), .nilIface]) := he
  rw [he', cut_app]
theorem split_text {t : ByteArray} {E : ByteArray} {l' : List UInt8} (h : t.data.toList = E.data.toList ++ l') : t = E ++ bytesB l' := ba_ext (by rw [h, ByteArray.data_append, Array.toList_append, bytesB_data])
end Go.Proofs.YthpchfbjnhdcdaaFmt
