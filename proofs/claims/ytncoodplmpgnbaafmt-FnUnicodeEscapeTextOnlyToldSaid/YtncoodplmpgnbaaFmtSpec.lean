/-
  Plain words for the escape readers: hex digits, runs of them, and what a reader makes of a text's front. No program in sight.
-/
import Derived.Lib.MapLaws
import Derived.Lib.TrimU
import Derived.KernelRfl
import Derived.Laws.BitsAllLaws
import Derived.WalkKit
import Derived.WalkLawsBesides
namespace Go.Proofs.YtncoodplmpgnbaaFmt
open Go.Lib
set_option linter.unusedVariables false

def byteAt (s : ByteArray) (k : Nat) : Nat := (s.data.toList.getD k 0).toNat
theorem byteAt_get (s : ByteArray) (k : Nat) (h : k < s.size) : ((s[k]'h).toNat : Int) = (byteAt s k : Int) := by
  unfold byteAt
  have : s.data.toList.getD k 0 = s[k]'h := by
    have h' : k < s.data.size := h
    simp [List.getD]
    rw [Array.getElem?_eq_getElem h']
    rfl
  rw [this]
theorem byteAt_le (s : ByteArray) (k : Nat) : byteAt s k ≤ 255 := by
  unfold byteAt
  have := (s.data.toList.getD k 0).toNat_lt
  omega
theorem byteAt_cut (s : ByteArray) (i k : Nat) : byteAt (s.extract i s.size) k = byteAt s (i + k) := by
  unfold byteAt
  congr 1
  simp only [ByteArray.data_extract, Array.toList_extract, List.extract_eq_take_drop]
  rw [List.take_of_length_le (by rw [List.length_drop, Lib.size_eq]; exact Nat.le_refl _)]
  simp [List.getD, List.getElem?_drop]
theorem cut_cut (s : ByteArray) (i j : Nat) : (s.extract i s.size).extract j (s.size - i) = s.extract (i + j) s.size := by
  simp [ByteArray.extract_extract]
  congr 1
  omega

/-- A hex digit's value. -/
def hexD (b : Nat) : Option Nat :=
  if 48 ≤ b ∧ b ≤ 57 then some (b - 48) else if 97 ≤ b ∧ b ≤ 102 then some (b - 87) else if 65 ≤ b ∧ b ≤ 70 then some (b - 55) else none
theorem hexD_lt {b d : Nat} (h : hexD b = some d) : d < 16 := by
  unfold hexD at h
  repeat' split at h
  all_goals (first | (cases h; done) | (injection h with h; omega))
/-- The first n places from i on, read as hex digits. -/
def hexN (s : ByteArray) (i : Nat) : Nat → Option Nat
  | 0 => some 0
  | n + 1 => match hexN s i n, hexD (byteAt s (i + n)) with
    | some v, some d => some (v * 16 + d)
    | _, _ => none
theorem hexN_lt {s : ByteArray} {i : Nat} : ∀ {n v : Nat}, hexN s i n = some v → v < 16 ^ n
  | 0, v, h => by simp [hexN] at h; omega
  | n + 1, v, h => by
    unfold hexN at h
    split at h
    · rename_i a d ha hd
      have h1 := hexN_lt ha
      have h2 := hexD_lt hd
      injection h with h
      rw [Nat.pow_succ]
      omega
    · cases h
theorem hexN_succ_some {s : ByteArray} {i n v d : Nat} (h : hexN s i n = some v) (hd : hexD (byteAt s (i + n)) = some d) : hexN s i (n + 1) = some (v * 16 + d) := by
  unfold hexN; rw [h, hd]
theorem hexN_succ_none {s : ByteArray} {i n : Nat} (hd : hexD (byteAt s (i + n)) = none) : hexN s i (n + 1) = none := by
  unfold hexN; rw [hd]; split <;> simp_all
theorem hexN_stay_none {s : ByteArray} {i n : Nat} (h : hexN s i n = none) : ∀ m, hexN s i (n + m) = none
  | 0 => h
  | m + 1 => by
    have := hexN_stay_none h m
    rw [← Nat.add_assoc]
    unfold hexN; rw [this]

/-- A 32-bit number as Go's int32 has it. -/
def w32 (n : Nat) : Int := if n < 2147483648 then (n : Int) else (n : Int) - 4294967296
theorem w32_small {n : Nat} (h : n < 2147483648) : w32 n = (n : Int) := by unfold w32; rw [if_pos h]
theorem ofInt_w32 (x : Nat) (h : x < 4294967296) : (BitVec.ofInt 32 (w32 x)).toNat = x := by
  rw [BitVec.toNat_ofInt]
  unfold w32
  split <;> omega
theorem wrap_w32 (x : Nat) (h : x < 4294967296) : IntKind.i32.wrap (x : Int) = w32 x := by
  rw [IntKind.wrap_i32]
  unfold w32
  split <;> omega
theorem or_w32 (V d : Nat) (h : V < 268435456) (hd : d < 16) : bits .or .i32 (w32 (V * 16)) (d : Int) = w32 (V * 16 + d) := by
  have e : (d : Int) = w32 d := (w32_small (by omega)).symm
  rw [e]
  show IntKind.i32.wrap ((BitVec.ofInt 32 (w32 (V * 16)) ||| BitVec.ofInt 32 (w32 d)).toNat : Int) = _
  rw [BitVec.toNat_or, ofInt_w32 _ (by omega), ofInt_w32 _ (by omega), nat_join 4 (V * 16) d (by omega) (by omega), wrap_w32 _ (by omega)]

def simpleV (c : Nat) : Option Nat :=
  if c = 97 then some 7 else if c = 98 then some 8 else if c = 102 then some 12 else if c = 110 then some 10 else if c = 114 then some 13 else if c = 116 then some 9 else if c = 118 then some 11
  else if c = 92 then some 92 else if c = 39 then some 39 else if c = 34 then some 34 else if c = 96 then some 96 else if c = 63 then some 63 else none
def hexItem (s : ByteArray) (n : Nat) : Option (Int × Bool × Nat) :=
  if s.size < 2 + n then none else match hexN s 2 n with
    | none => none
    | some v => if 1114111 < w32 v then none else some (w32 v, true, 2 + n)
/-- The braced form, from its k-th digit on, v the number so far. -/
def scan (s : ByteArray) : Nat → Nat → Nat → Option (Int × Bool × Nat)
  | 0, _, _ => none
  | f + 1, k, v =>
    if s.size ≤ 3 + k then none else if byteAt s (3 + k) = 125 then (if k = 0 then none else if 1114111 < v then none else some ((v : Int), true, 4 + k)) else
    match hexD (byteAt s (3 + k)) with
    | none => none
    | some d => if 6 ≤ k then none else scan s f (k + 1) (v * 16 + d)
def isOct (b : Nat) : Bool := decide (48 ≤ b) && decide (b ≤ 55)
def octItem (s : ByteArray) : Option (Int × Bool × Nat) :=
  if s.size < 4 then none else if isOct (byteAt s 2) && isOct (byteAt s 3) then some ((((byteAt s 1 - 48) * 64 + (byteAt s 2 - 48) * 8 + (byteAt s 3 - 48) : Nat) : Int), true, 4) else none
/-- What unescapeChar makes of a text's front: the value, the flag, the bytes eaten; none: it refuses. -/
def unesc (s : ByteArray) : Option (Int × Bool × Nat) :=
  if 128 ≤ byteAt s 0 then some (((Utf8.decode s 0).1 : Int), true, (Utf8.decode s 0).2)
  else if byteAt s 0 ≠ 92 then some ((byteAt s 0 : Int), false, 1)
  else if s.size ≤ 1 then none
  else match simpleV (byteAt s 1) with
  | some v => some ((v : Int), false, 2)
  | none =>
    if byteAt s 1 = 120 ∨ byteAt s 1 = 88 then hexItem s 2
    else if byteAt s 1 = 117 then (if 2 < s.size ∧ byteAt s 2 = 123 then scan s 7 0 0 else hexItem s 4)
    else if byteAt s 1 = 85 then hexItem s 8
    else if 48 ≤ byteAt s 1 ∧ byteAt s 1 ≤ 51 then octItem s
    else none
end Go.Proofs.YtncoodplmpgnbaaFmt
