/-
  Plain words on texts: bytes, cuts, tabs turned, the first of a byte. No program in sight.
-/
import Derived.Lib.IndexLaws
import Derived.Lib.RabinKarpLaws
import Derived.Lib.AppendStr
import Derived.Lib.SmallJoins
import Derived.KernelRfl
import Derived.WalkKit
import Derived.WalkLawsBesides
import Derived.WalkSpells
namespace Go.Proofs.Ytlfgaikcdelknaa
open Go.Lib
set_option linter.unusedVariables false
set_option linter.unusedSimpArgs false

theorem hide {p : Prop} (h : p) : Go.RowKit.Hid p := h
def byteAt (s : ByteArray) (k : Nat) : Nat := (s.data.toList.getD k 0).toNat
theorem byteAt_get (s : ByteArray) (k : Nat) (h : k < s.size) : ((s[k]'h).toNat : Int) = (byteAt s k : Int) := by
  unfold byteAt
  have : s.data.toList.getD k 0 = s[k]'h := by
    have h' : k < s.data.size := h
    simp [List.getD]
    rw [Array.getElem?_eq_getElem h']
    rfl
  rw [this]
theorem byteAt_le (s : ByteArray) (k : Nat) : byteAt s k ≤ 255 := by
  unfold byteAt
  have := (s.data.toList.getD k 0).toNat_lt
  omega
theorem ba_ext {a b : ByteArray} (h : a.data.toList = b.data.toList) : a = b := by
  cases a
  cases b
  congr 1
  exact Array.ext' h
theorem len_data (s : ByteArray) : s.data.toList.length = s.size := by rw [Array.length_toList]; rfl
theorem cut_data (s : ByteArray) (a b : Nat) : (s.extract a b).data.toList = (s.data.toList.drop a).take (b - a) := by
  simp only [ByteArray.data_extract, Array.toList_extract, List.extract_eq_take_drop]
theorem get_data (s : ByteArray) (k : Nat) (h : k < s.size) : s.data.toList[k]? = some (s[k]'h) := by
  have h' : k < s.data.size := h
  rw [Array.getElem?_toList, Array.getElem?_eq_getElem h']
  rfl
theorem byteAt_data (s : ByteArray) (k c : Nat) (h : k < s.size) (hc : c < 256) : byteAt s k = c ↔ s.data.toList[k]? = some c.toUInt8 := by
  unfold byteAt
  have h' : k < s.data.size := h
  simp only [List.getD, Array.getElem?_toList, Array.getElem?_eq_getElem h', Option.getD_some, Option.some.injEq]
  constructor
  · intro e
    rw [← e]
    simp
  · intro e
    rw [e]
    simp
    omega
theorem ib_eq {l : List UInt8} {c : UInt8} {o : Nat} (h1 : l[o]? = some c) (h2 : ∀ k, k < o → l[k]? ≠ some c) : indexByte l c = (o : Int) := by
  rcases Int.lt_or_le (indexByte l c) 0 with h | h
  · have := indexByte_ge l c
    exact absurd h1 (indexByte_none (show indexByte l c = -1 by omega) o)
  · obtain ⟨o', ho⟩ := Int.eq_ofNat_of_zero_le h
    obtain ⟨a1, a2⟩ := indexByte_some ho
    rw [ho]
    rcases Nat.lt_trichotomy o' o with h3 | h3 | h3
    · exact absurd a1 (h2 o' h3)
    · rw [h3]
    · exact absurd h1 (a2 o h3)
theorem ib_none {l : List UInt8} {c : UInt8} (h : ∀ k : Nat, l[k]? ≠ some c) : indexByte l c = -1 := by
  rcases Int.lt_or_le (indexByte l c) 0 with h2 | h2
  · have := indexByte_ge l c
    omega
  · obtain ⟨o', ho⟩ := Int.eq_ofNat_of_zero_le h2
    exact absurd (indexByte_some ho).1 (h o')
/-- Each tab turned to a space. -/
def tabsL (l : List UInt8) : List UInt8 := l.map fun c => if c = 9 then 32 else c
theorem tabsL_length (l : List UInt8) : (tabsL l).length = l.length := by simp [tabsL]
theorem tabsL_app (a b : List UInt8) : tabsL (a ++ b) = tabsL a ++ tabsL b := by simp [tabsL]
theorem tabsL_none {l : List UInt8} (h : ∀ k : Nat, l[k]? ≠ some 9) : tabsL l = l := by
  apply List.ext_getElem?
  intro i
  have h9 := h i
  simp only [tabsL, List.getElem?_map]
  rcases hl : l[i]? with _ | c
  · rfl
  · simp only [Option.map_some, Option.some.injEq]
    rw [if_neg]
    intro e
    subst e
    exact h9 hl
theorem toList_data (s : ByteArray) : s.toList = s.data.toList := by
  obtain ⟨⟨l⟩⟩ := s
  rw [show (ByteArray.mk { toList := l }) = ByteArray.mk l.toArray from rfl, ByteArray.toList_mk]
theorem one_cut (s : ByteArray) (i : Nat) (c : UInt8) (h : i < s.size) : ((s.extract i (i + 1)).toList == [c]) = true ↔ s.data.toList[i]? = some c := by
  rw [toList_data, cut_data, beq_iff_eq, Nat.add_sub_cancel_left]
  have hl : i < s.data.toList.length := by rw [len_data]; exact h
  rw [List.drop_eq_getElem_cons hl, List.take_succ_cons, List.take_zero, List.getElem?_eq_getElem hl]
  simp
def bytesB (l : List UInt8) : ByteArray := ⟨l.toArray⟩
def strLen : Value → Nat
  | .string s => s.size
  | _ => 0
end Go.Proofs.Ytlfgaikcdelknaa
