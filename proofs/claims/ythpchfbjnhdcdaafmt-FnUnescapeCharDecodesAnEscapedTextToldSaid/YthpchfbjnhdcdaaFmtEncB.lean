/-
  The law's own escaper by contract: octal text, hex text of a byte, one-letter names; and how the readers read what it writes. No condition beyond the bounds.
-/
import Derived.Test.YthpchfbjnhdcdaaFmtEnc
import Derived.Test.YthpchfbjnhdcdaaFmtUbB
namespace Go.Proofs.YthpchfbjnhdcdaaFmt
open Go.RowKit Go.Lib Go.Shelf Go.Proofs
set_option linter.unusedVariables false
set_option linter.unusedSimpArgs false

/-! ### texts joined -/
theorem size_app (a b : ByteArray) : (a ++ b).size = a.size + b.size := ByteArray.size_append
theorem byteAt_app_left (a b : ByteArray) (k : Nat) (h : k < a.size) : byteAt (a ++ b) k = byteAt a k := by
  unfold byteAt
  rw [ByteArray.data_append, Array.toList_append]
  have h' : k < a.data.toList.length := by rw [← Lib.size_eq]; exact h
  simp [List.getD, List.getElem?_append_left h']
theorem byteAt_app_right (a b : ByteArray) (k : Nat) : byteAt (a ++ b) (a.size + k) = byteAt b k := by
  unfold byteAt
  rw [ByteArray.data_append, Array.toList_append]
  have h' : a.data.toList.length = a.size := (Lib.size_eq a).symm
  simp only [List.getD]
  rw [List.getElem?_append_right (by omega), h']
  simp
theorem ba_ext {a b : ByteArray} (h : a.data.toList = b.data.toList) : a = b := by
  cases a
  cases b
  congr 1
  exact Array.ext' h
theorem cut_app (a b : ByteArray) : (a ++ b).extract a.size (a ++ b).size = b := by
  have h : ((a ++ b).extract a.size (a ++ b).size).data.toList = b.data.toList := by
    simp only [ByteArray.data_extract, Array.toList_extract, List.extract_eq_take_drop, ByteArray.data_append, Array.toList_append, size_app]
    rw [List.drop_left' (Lib.size_eq a).symm, List.take_of_length_le (by rw [← Lib.size_eq]; omega)]
  exact ba_ext h

/-- A text that holds hexL v up n at place i reads there as v's last n digits. -/
theorem hexN_of (s : ByteArray) (i v : Nat) (up : Bool) (n : Nat) (h : ∀ k, k < n → byteAt s (i + k) = (hexL v up n).getD k 0) : ∀ j, j ≤ n → hexN s i j = some (v % 16 ^ n / 16 ^ (n - j)) := by
  intro j
  induction j with
  | zero =>
    intro _
    have : v % 16 ^ n / 16 ^ (n - 0) = 0 := Nat.div_eq_of_lt (by rw [Nat.sub_zero]; exact Nat.mod_lt _ (Nat.pow_pos (by decide)))
    rw [this]
    rfl
  | succ j ih =>
    intro hj
    have h1 := ih (by omega)
    have h2 : ∀ (m k : Nat), k < m → (hexL v up m).getD k 0 = hexC (v / 16 ^ (m - 1 - k) % 16) up := by
      intro m
      induction m with
      | zero => intro k hk; omega
      | succ m ihm =>
        intro k hk
        cases k with
        | zero => simp [hexL]
        | succ k =>
          have := ihm k (by omega)
          simp only [hexL, List.getD_cons_succ]
          rw [this, show m + 1 - 1 - (k + 1) = m - 1 - k by omega]
    have h3 : hexD (byteAt s (i + j)) = some (v / 16 ^ (n - 1 - j) % 16) := by
      rw [h j (by omega), h2 n j (by omega)]
      exact hexD_hexC (Nat.mod_lt _ (by decide)) up
    rw [hexN_succ_some h1 h3]
    congr 1
    have e : n - j = (n - (j + 1)) + 1 := by omega
    have e2 : n - 1 - j = n - (j + 1) := by omega
    rw [e, e2, Nat.pow_succ, ← Nat.div_div_eq_div_mul]
    have hm : v % 16 ^ n / 16 ^ (n - (j + 1)) % 16 = v / 16 ^ (n - (j + 1)) % 16 := by
      have e3 : 16 ^ n = 16 ^ (n - (j + 1)) * (16 * 16 ^ j) := by
        rw [← Nat.pow_succ', ← Nat.pow_add]
        congr 1
        omega
      rw [e3, Nat.mod_mul_right_div_self, Nat.mod_mul_right_mod]
    have hd := Nat.div_add_mod (v % 16 ^ n / 16 ^ (n - (j + 1))) 16
    omega
theorem hexN_whole (s : ByteArray) (i v : Nat) (up : Bool) (n : Nat) (hv : v < 16 ^ n) (h : ∀ k, k < n → byteAt s (i + k) = (hexL v up n).getD k 0) : hexN s i n = some v := by
  rw [hexN_of s i v up n h n (Nat.le_refl _), Nat.sub_self, Nat.pow_zero, Nat.div_one, Nat.mod_eq_of_lt hv]

/-! ### contracts -/
def octL (v : Nat) : List Nat := [48 + v / 64 % 8, 48 + v / 8 % 8, 48 + v % 8]
theorem own3 {w : World} {base g : Nat} (h : w.ownsRow base 5 1 (.slice (some ⟨g, 0, none⟩) 3 3) 3 (madeCells (Value.int .u8 0).cells (3 * 1)).toList) :
    (w.cell? ⟨g, 0, none⟩ = some (.int .u8 0) ∧ w.cell? ⟨g, 1, none⟩ = some (.int .u8 0) ∧ w.cell? ⟨g, 2, none⟩ = some (.int .u8 0)) ∧ w.frozen? ⟨g, 0, none⟩ = false ∧ w.frozen? ⟨g, 1, none⟩ = false ∧ w.frozen? ⟨g, 2, none⟩ = false := by
  rw [made1] at h
  exact ⟨⟨h.cellAt 0 (by decide), h.cellAt 1 (by decide), h.cellAt 2 (by decide)⟩, h.frozenAt 0, h.frozenAt 1, h.frozenAt 2⟩
theorem own3_set {w : World} {base g : Nat} (a b c : Nat) (h : w.ownsRow base 5 1 (.slice (some ⟨g, 0, none⟩) 3 3) 3 (madeCells (Value.int .u8 0).cells (3 * 1)).toList) :
    (((w.setCell ⟨g, 0, none⟩ (.int .u8 a)).setCell ⟨g, 1, none⟩ (.int .u8 b)).setCell ⟨g, 2, none⟩ (.int .u8 c)).ownsRow base 5 1 (.slice (some ⟨g, 0, none⟩) 3 3) 3 (cells8 [a, b, c]) ∧
    w.grownBy (((w.setCell ⟨g, 0, none⟩ (.int .u8 a)).setCell ⟨g, 1, none⟩ (.int .u8 b)).setCell ⟨g, 2, none⟩ (.int .u8 c)) (some g) := by
  rw [made1] at h
  have h1 := h.stored 0 (.int .u8 a)
  have h2 := h1.1.stored 1 (.int .u8 b)
  have h3 := h2.1.stored 2 (.int .u8 c)
  refine ⟨h3.1, ⟨?_, ?_, ?_, ?_, ?_⟩⟩
  · exact h3.2.os.trans (h2.2.os.trans h1.2.os)
  · exact h3.2.tape.trans (h2.2.tape.trans h1.2.tape)
  · exact h3.2.output.trans (h2.2.output.trans h1.2.output)
  · exact Nat.le_trans h1.2.size (Nat.le_trans h2.2.size h3.2.size)
  · intro k hk hne
    exact (h3.2.block k (Nat.lt_of_lt_of_le hk (Nat.le_trans h1.2.size h2.2.size)) hne).trans ((h2.2.block k (Nat.lt_of_lt_of_le hk h1.2.size) hne).trans (h1.2.block k hk hne))
theorem own3_conv {w : World} {base g : Nat} (a b c : Nat) (ha : a ≤ 7) (hb : b ≤ 7) (hc : c ≤ 7) (h : w.ownsRow base 5 1 (.slice (some ⟨g, 0, none⟩) 3 3) 3 (madeCells (Value.int .u8 0).cells (3 * 1)).toList) :
    (convert 29 9 (.slice (some ⟨g, 0, none⟩) 3 3)).run Tryf.prog (((w.setCell ⟨g, 0, none⟩ (.int .u8 (48 + (a : Int)))).setCell ⟨g, 1, none⟩ (.int .u8 (48 + (b : Int)))).setCell ⟨g, 2, none⟩ (.int .u8 (48 + (c : Int)))) =
      .ok (.string (bytes8 [48 + a, 48 + b, 48 + c])) (((w.setCell ⟨g, 0, none⟩ (.int .u8 (48 + (a : Int)))).setCell ⟨g, 1, none⟩ (.int .u8 (48 + (b : Int)))).setCell ⟨g, 2, none⟩ (.int .u8 (48 + (c : Int)))) ∧
    w.grownBy (((w.setCell ⟨g, 0, none⟩ (.int .u8 (48 + (a : Int)))).setCell ⟨g, 1, none⟩ (.int .u8 (48 + (b : Int)))).setCell ⟨g, 2, none⟩ (.int .u8 (48 + (c : Int)))) (some g) := by
  have hs := own3_set (48 + a) (48 + b) (48 + c) h
  rw [show ((48 + a : Nat) : Int) = 48 + (a : Int) by omega, show ((48 + b : Nat) : Int) = 48 + (b : Int) by omega, show ((48 + c : Nat) : Int) = 48 + (c : Int) by omega] at hs
  exact ⟨own_conv [48 + a, 48 + b, 48 + c] (by simp; omega) rfl hs.1, hs.2⟩
theorem u32_and7 (u : Nat) (h : u < 4294967296) : bits .and .u32 (u : Int) 7 = ((u % 8 : Nat) : Int) := by
  show IntKind.u32.wrap ((BitVec.ofInt 32 (u : Int) &&& BitVec.ofInt 32 7).toNat : Int) = _
  have e : (BitVec.ofInt 32 (u : Int)).toNat = u := by rw [BitVec.toNat_ofInt]; omega
  have e2 : (BitVec.ofInt 32 7).toNat = 7 := by decide
  rw [BitVec.toNat_and, e, e2, show (7 : Nat) = 2 ^ 3 - 1 from rfl, Nat.and_two_pow_sub_one_eq_mod, IntKind.wrap_u32]
  omega
set_option maxRecDepth 20000 in
set_option maxHeartbeats 1000000 in
theorem oct3_any (v : Nat) (w : World) (hv : v ≤ 255) :
    Calls Tryf.prog 17 #[.int .u32 (v : Int)] w fun e w' => e = .returned (.string (bytes8 (octL v))) ∧ Below w.heap.size w w' := by
  have hv' : (v : Int) ≤ 255 := by omega
  obtain ⟨i0, hi, hz0, hz1, hz2⟩ := info_parts info5
  have hA := u32_and7 (v / 64) (by omega)
  have hB := u32_and7 (v / 8) (by omega)
  have hC := u32_and7 v (by omega)
  unfold octL
  have lA := Nat.mod_lt (v / 64) (show 0 < 8 by decide)
  have lB := Nat.mod_lt (v / 8) (show 0 < 8 by decide)
  have lC := Nat.mod_lt v (show 0 < 8 by decide)
  generalize v / 64 % 8 = A at *
  generalize v / 8 % 8 = B at *
  generalize v % 8 = C at *
  rw [show ((v / 64 : Nat) : Int) = (v : Int) / 64 by omega] at hA
  rw [show ((v / 8 : Nat) : Int) = (v : Int) / 8 by omega] at hB
  have lA' : (A : Int) ≤ 7 := by omega
  have lB' : (B : Int) ≤ 7 := by omega
  have lC' : (C : Int) ≤ 7 := by omega
  go_enter Tryf.func17, Tryf.ntmps17
  go_wp2_with (at_make; refine wpList_make_full _ rfl _ _ 29 rfl w.heap.size 5 i0 (.int .u8 0) 1 und29 hi hz0 hz1 .i64 .i64 _ _ 3 rfl rfl rfl rfl (by rw [hz2]; omega) (by decide) (Nat.le_refl _) ?_; intro w2 hown2 hg2; obtain ⟨⟨c0, c1, c2⟩, f0, f1, f2⟩ := own3 hown2; obtain ⟨hcv, hg3⟩ := own3_conv A B C (by omega) (by omega) (by omega) hown2)
  go_ret
  exact ⟨rfl, ((Below.refl _ _).grown hg2 (Nat.le_refl _) (fun k hk => by cases hk)).grown hg3 hg2.size (fun k hk => by cases hk; exact Nat.le_refl _)⟩

/-! ### the hex text of a byte -/
def hexText (pre : ByteArray) (v n : Nat) (up : Bool) : ByteArray := pre ++ bytes8 (hexL v up n)
set_option maxRecDepth 20000 in
theorem byteHex_any (v : Nat) (up : Bool) (w : World) (hv : v ≤ 255) :
    Calls Tryf.prog 16 #[.int .u32 (v : Int), .bool up] w fun e w' => e = .returned (.string (hexText ⟨#[92, if up then 88 else 120]⟩ v 2 up)) ∧ Below w.heap.size w w' := by
  have H := hide (hexFixed_any v 2 up w (by decide) (by omega))
  obtain ⟨x, hx⟩ : ∃ x, bytes8 (hexL v up 2) = x := ⟨_, rfl⟩
  have hsz : (x.size : Int) = 2 := by rw [← hx, bytes8_size, hexL_length]; rfl
  unfold hexText
  rw [hx] at H ⊢
  clear hx
  cases up
  · go_enter Tryf.func16, Tryf.ntmps16
    go_wp2_with fail
    refine H.out.mono ?_
    rintro e w1 ⟨rfl, hb1⟩
    go_wp2
    go_ret
    exact ⟨rfl, hb1⟩
  · go_enter Tryf.func16, Tryf.ntmps16
    go_wp2_with fail
    refine H.out.mono ?_
    rintro e w1 ⟨rfl, hb1⟩
    go_wp2
    go_ret
    exact ⟨rfl, hb1⟩
end Go.Proofs.YthpchfbjnhdcdaaFmt
