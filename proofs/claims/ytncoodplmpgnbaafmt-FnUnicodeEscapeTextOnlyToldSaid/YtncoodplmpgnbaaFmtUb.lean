/-
  unescapeByteChar by contract. Condition: utf8's two tables hold what their initialisers lay, where the text says so.
-/
import Derived.Test.YtncoodplmpgnbaaFmtUcC
import Derived.Deep.QuietTactic
import Derived.BigQuiet
namespace Go.Proofs.YtncoodplmpgnbaaFmt
open Go.RowKit Go.Lib Go.Shelf Go.Proofs
set_option linter.unusedVariables false
set_option linter.unusedSimpArgs false

def hexB (s : ByteArray) : Option (Int × Bool × Nat) :=
  if s.size < 4 then none else match hexN s 2 2 with
    | none => none
    | some v => some ((v : Int), false, 4)
def octB (s : ByteArray) : Option (Int × Bool × Nat) :=
  if s.size < 4 then none else if isOct (byteAt s 2) && isOct (byteAt s 3) then some ((((byteAt s 1 - 48) * 64 + (byteAt s 2 - 48) * 8 + (byteAt s 3 - 48) : Nat) : Int), false, 4) else none
/-- What unescapeByteChar makes of a text's front: the value, the flag, the bytes eaten; none: it refuses. -/
def unescB (s : ByteArray) : Option (Int × Bool × Nat) :=
  if 128 ≤ byteAt s 0 then some (((Utf8.decode s 0).1 : Int), true, (Utf8.decode s 0).2)
  else if byteAt s 0 ≠ 92 then some ((byteAt s 0 : Int), false, 1)
  else if s.size ≤ 1 then none
  else match simpleV (byteAt s 1) with
  | some v => some ((v : Int), false, 2)
  | none =>
    if byteAt s 1 = 120 ∨ byteAt s 1 = 88 then hexB s
    else if 48 ≤ byteAt s 1 ∧ byteAt s 1 ≤ 51 then octB s
    else none
/-- What a call of the byte reader hands back: a refusal is zero, false, the empty text and an error. -/
def UbRes (s : ByteArray) (r : Option (Int × Bool × Nat)) (e : Ending) : Prop :=
  match r with
  | some (v, mb, n) => e = .returned (.tuple #[.int .i32 v, .bool mb, .string (s.extract n s.size), .nilIface])
  | none => ∃ a, e = .returned (.tuple #[.int .i32 0, .bool false, .string ⟨#[]⟩, .iface 68 (.pointer (some a))])
theorem UbRes.ok {s t : ByteArray} {r : Option (Int × Bool × Nat)} {v v' : Int} {mb : Bool} {n : Nat} (h : r = some (v, mb, n)) (ht : t = s.extract n s.size) (hv : v' = v) : UbRes s r (.returned (.tuple #[.int .i32 v', .bool mb, .string t, .nilIface])) := by
  rw [h, ht, hv]; rfl
theorem UbRes.bad {s : ByteArray} {r : Option (Int × Bool × Nat)} {a : Addr} (h : r = none) : UbRes s r (.returned (.tuple #[.int .i32 0, .bool false, .string ⟨#[]⟩, .iface 68 (.pointer (some a))])) := by
  rw [h]; exact ⟨_, rfl⟩
theorem below_drewN' {w0 w : World} {B : Nat} (h : Below B w0 w) (m : Nat) : Below B w0 (w.drewN m) := ⟨h.os, h.tape, h.output, h.size, h.block⟩

set_option maxRecDepth 20000 in
set_option maxHeartbeats 4000000 in
theorem ub_high (s : ByteArray) (w : World) (hs0 : 0 < s.size) (hs : s.size ≤ 9223372036854775807) (hT : TU w) (h0 : 128 ≤ byteAt s 0) :
    Calls Tryf.prog 34 #[.string s] w fun e w' => UbRes s (unescB s) e ∧ Below w.heap.size w w' := by
  have HD := hide (Tryf.utf8_DecodeRuneInString s w hT)
  have hd := decodeGo_zero s hs0
  have hf := dec_fits s hs0
  rw [hd] at HD
  have hu : unescB s = some (((Utf8.decode s 0).1 : Int), true, (Utf8.decode s 0).2) := by unfold unescB; rw [if_pos h0]
  obtain ⟨R, hR⟩ : ∃ R, (Utf8.decode s 0).1 = R := ⟨_, rfl⟩
  obtain ⟨K, hK⟩ : ∃ K, (Utf8.decode s 0).2 = K := ⟨_, rfl⟩
  rw [hR, hK] at HD hu
  rw [hK] at hf
  have hu' := hide hu
  have g0 : ∀ h : 0 < s.size, ((s[0]'h).toNat : Int) = (byteAt s 0 : Int) := fun h => byteAt_get s 0 h
  have h0' : (128 : Int) ≤ (byteAt s 0 : Int) := by omega
  have h92 : ((byteAt s 0 : Int) != 92) = true := by simp; omega
  have hs0' : (0 : Int) < (s.size : Int) := by omega
  have hf' : (K : Int) ≤ (s.size : Int) := by omega
  have hk0 : (0 : Int) ≤ (K : Int) := by omega
  clear hd hu hR hK
  generalize byteAt s 0 = b0 at *
  clear h0
  go_enter Tryf.func34, Tryf.ntmps34
  go_wp2_with fail
  refine HD.out.mono ?_
  rintro e w1 ⟨rfl, hb1⟩
  go_wp2_with fail
  go_region
  all_goals (try go_wp2)
  all_goals
    refine bodyPost_ret (results_tmp4 rfl _ _ _) rfl ?_
    exact ⟨UbRes.ok hu'.out rfl rfl, by first | exact hb1 | exact hb1.drew | exact (hb1.drew).drew⟩

set_option maxRecDepth 20000 in
set_option maxHeartbeats 4000000 in
theorem ub_plain (s : ByteArray) (w : World) (hs : s.size ≤ 9223372036854775807) (hs0 : 0 < s.size) (h0 : byteAt s 0 < 128) (h1 : byteAt s 0 ≠ 92) :
    Calls Tryf.prog 34 #[.string s] w fun e w' => UbRes s (unescB s) e ∧ Below w.heap.size w w' := by
  have hu := hide (show unescB s = some ((byteAt s 0 : Int), false, 1) by unfold unescB; rw [if_neg (by omega), if_pos h1])
  have g0 : ∀ h : 0 < s.size, ((s[0]'h).toNat : Int) = (byteAt s 0 : Int) := fun h => byteAt_get s 0 h
  have g1 : ∀ h : 1 < s.size, ((s[1]'h).toNat : Int) = (byteAt s 1 : Int) := fun h => byteAt_get s 1 h
  have h0' : (byteAt s 0 : Int) < 128 := by omega
  have h1' : ((byteAt s 0 : Int) != 92) = true := by simp; omega
  have hs0' : (0 : Int) < (s.size : Int) := by omega
  have hs1' : (1 : Int) ≤ (s.size : Int) := by omega
  generalize byteAt s 0 = b0 at *
  clear h0 h1
  go_enter Tryf.func34, Tryf.ntmps34
  go_wp2_with fail
  go_region
  all_goals (try go_wp2)
  all_goals
    refine bodyPost_ret (results_tmp4 rfl _ _ _) rfl ?_
    exact ⟨UbRes.ok hu.out rfl rfl, by first | exact Below.refl _ _ | exact (Below.refl _ _).drew | exact ((Below.refl _ _).drew).drew⟩

set_option maxRecDepth 20000 in
set_option maxHeartbeats 4000000 in
theorem ub_end (s : ByteArray) (w : World) (hs : s.size ≤ 9223372036854775807) (hs0 : s.size = 1) (h0 : byteAt s 0 = 92) :
    Calls Tryf.prog 34 #[.string s] w fun e w' => UbRes s (unescB s) e ∧ Below w.heap.size w w' := by
  have hu := hide (show unescB s = none by unfold unescB; rw [if_neg (by omega), if_neg (by omega), if_pos (by omega)])
  have g0 : ∀ h : 0 < s.size, ((s[0]'h).toNat : Int) = (byteAt s 0 : Int) := fun h => byteAt_get s 0 h
  have g1 : ∀ h : 1 < s.size, ((s[1]'h).toNat : Int) = (byteAt s 1 : Int) := fun h => byteAt_get s 1 h
  have h0' : (byteAt s 0 : Int) = 92 := by omega
  have hs0' : (s.size : Int) = 1 := by omega
  generalize byteAt s 0 = b0 at *
  clear h0
  go_enter Tryf.func34, Tryf.ntmps34
  go_wp2_with fail
  all_goals
    refine (errorf_any _ (by decide +kernel) _).mono ?_
    rintro e w1 ⟨a, rfl, hb1⟩
    go_wp2
    refine bodyPost_ret (results_tmp4 rfl _ _ _) rfl ?_
    exact ⟨UbRes.bad hu.out, hb1⟩

set_option maxRecDepth 20000 in
set_option maxHeartbeats 4000000 in
theorem ub_simple97 (s : ByteArray) (w : World) (hs : s.size ≤ 9223372036854775807) (hs0 : 2 ≤ s.size) (h0 : byteAt s 0 = 92) (h1 : byteAt s 1 = 97) :
    Calls Tryf.prog 34 #[.string s] w fun e w' => UbRes s (unescB s) e ∧ Below w.heap.size w w' := by
  have hu := hide (show unescB s = some ((7 : Int), false, 2) by unfold unescB; rw [if_neg (by omega), if_neg (by omega), if_neg (by omega), h1]; rfl)
  have g0 : ∀ h : 0 < s.size, ((s[0]'h).toNat : Int) = (byteAt s 0 : Int) := fun h => byteAt_get s 0 h
  have g1 : ∀ h : 1 < s.size, ((s[1]'h).toNat : Int) = (byteAt s 1 : Int) := fun h => byteAt_get s 1 h
  have h0' : (byteAt s 0 : Int) = 92 := by omega
  have hs0' : (2 : Int) ≤ (s.size : Int) := by omega
  have h1' : (byteAt s 1 : Int) = 97 := by omega
  generalize byteAt s 0 = b0 at *
  generalize byteAt s 1 = b1 at *
  clear h0 h1
  go_enter Tryf.func34, Tryf.ntmps34
  go_wp2
  refine bodyPost_ret (results_tmp4 rfl _ _ _) rfl ?_
  exact ⟨UbRes.ok hu.out rfl rfl, Below.refl _ _⟩

set_option maxRecDepth 20000 in
set_option maxHeartbeats 4000000 in
theorem ub_simple98 (s : ByteArray) (w : World) (hs : s.size ≤ 9223372036854775807) (hs0 : 2 ≤ s.size) (h0 : byteAt s 0 = 92) (h1 : byteAt s 1 = 98) :
    Calls Tryf.prog 34 #[.string s] w fun e w' => UbRes s (unescB s) e ∧ Below w.heap.size w w' := by
  have hu := hide (show unescB s = some ((8 : Int), false, 2) by unfold unescB; rw [if_neg (by omega), if_neg (by omega), if_neg (by omega), h1]; rfl)
  have g0 : ∀ h : 0 < s.size, ((s[0]'h).toNat : Int) = (byteAt s 0 : Int) := fun h => byteAt_get s 0 h
  have g1 : ∀ h : 1 < s.size, ((s[1]'h).toNat : Int) = (byteAt s 1 : Int) := fun h => byteAt_get s 1 h
  have h0' : (byteAt s 0 : Int) = 92 := by omega
  have hs0' : (2 : Int) ≤ (s.size : Int) := by omega
  have h1' : (byteAt s 1 : Int) = 98 := by omega
  generalize byteAt s 0 = b0 at *
  generalize byteAt s 1 = b1 at *
  clear h0 h1
  go_enter Tryf.func34, Tryf.ntmps34
  go_wp2
  refine bodyPost_ret (results_tmp4 rfl _ _ _) rfl ?_
  exact ⟨UbRes.ok hu.out rfl rfl, Below.refl _ _⟩

set_option maxRecDepth 20000 in
set_option maxHeartbeats 4000000 in
theorem ub_simple102 (s : ByteArray) (w : World) (hs : s.size ≤ 9223372036854775807) (hs0 : 2 ≤ s.size) (h0 : byteAt s 0 = 92) (h1 : byteAt s 1 = 102) :
    Calls Tryf.prog 34 #[.string s] w fun e w' => UbRes s (unescB s) e ∧ Below w.heap.size w w' := by
  have hu := hide (show unescB s = some ((12 : Int), false, 2) by unfold unescB; rw [if_neg (by omega), if_neg (by omega), if_neg (by omega), h1]; rfl)
  have g0 : ∀ h : 0 < s.size, ((s[0]'h).toNat : Int) = (byteAt s 0 : Int) := fun h => byteAt_get s 0 h
  have g1 : ∀ h : 1 < s.size, ((s[1]'h).toNat : Int) = (byteAt s 1 : Int) := fun h => byteAt_get s 1 h
  have h0' : (byteAt s 0 : Int) = 92 := by omega
  have hs0' : (2 : Int) ≤ (s.size : Int) := by omega
  have h1' : (byteAt s 1 : Int) = 102 := by omega
  generalize byteAt s 0 = b0 at *
  generalize byteAt s 1 = b1 at *
  clear h0 h1
  go_enter Tryf.func34, Tryf.ntmps34
  go_wp2
  refine bodyPost_ret (results_tmp4 rfl _ _ _) rfl ?_
  exact ⟨UbRes.ok hu.out rfl rfl, Below.refl _ _⟩

set_option maxRecDepth 20000 in
set_option maxHeartbeats 4000000 in
theorem ub_simple110 (s : ByteArray) (w : World) (hs : s.size ≤ 9223372036854775807) (hs0 : 2 ≤ s.size) (h0 : byteAt s 0 = 92) (h1 : byteAt s 1 = 110) :
    Calls Tryf.prog 34 #[.string s] w fun e w' => UbRes s (unescB s) e ∧ Below w.heap.size w w' := by
  have hu := hide (show unescB s = some ((10 : Int), false, 2) by unfold unescB; rw [if_neg (by omega), if_neg (by omega), if_neg (by omega), h1]; rfl)
  have g0 : ∀ h : 0 < s.size, ((s[0]'h).toNat : Int) = (byteAt s 0 : Int) := fun h => byteAt_get s 0 h
  have g1 : ∀ h : 1 < s.size, ((s[1]'h).toNat : Int) = (byteAt s 1 : Int) := fun h => byteAt_get s 1 h
  have h0' : (byteAt s 0 : Int) = 92 := by omega
  have hs0' : (2 : Int) ≤ (s.size : Int) := by omega
  have h1' : (byteAt s 1 : Int) = 110 := by omega
  generalize byteAt s 0 = b0 at *
  generalize byteAt s 1 = b1 at *
  clear h0 h1
  go_enter Tryf.func34, Tryf.ntmps34
  go_wp2
  refine bodyPost_ret (results_tmp4 rfl _ _ _) rfl ?_
  exact ⟨UbRes.ok hu.out rfl rfl, Below.refl _ _⟩

set_option maxRecDepth 20000 in
set_option maxHeartbeats 4000000 in
theorem ub_simple114 (s : ByteArray) (w : World) (hs : s.size ≤ 9223372036854775807) (hs0 : 2 ≤ s.size) (h0 : byteAt s 0 = 92) (h1 : byteAt s 1 = 114) :
    Calls Tryf.prog 34 #[.string s] w fun e w' => UbRes s (unescB s) e ∧ Below w.heap.size w w' := by
  have hu := hide (show unescB s = some ((13 : Int), false, 2) by unfold unescB; rw [if_neg (by omega), if_neg (by omega), if_neg (by omega), h1]; rfl)
  have g0 : ∀ h : 0 < s.size, ((s[0]'h).toNat : Int) = (byteAt s 0 : Int) := fun h => byteAt_get s 0 h
  have g1 : ∀ h : 1 < s.size, ((s[1]'h).toNat : Int) = (byteAt s 1 : Int) := fun h => byteAt_get s 1 h
  have h0' : (byteAt s 0 : Int) = 92 := by omega
  have hs0' : (2 : Int) ≤ (s.size : Int) := by omega
  have h1' : (byteAt s 1 : Int) = 114 := by omega
  generalize byteAt s 0 = b0 at *
  generalize byteAt s 1 = b1 at *
  clear h0 h1
  go_enter Tryf.func34, Tryf.ntmps34
  go_wp2
  refine bodyPost_ret (results_tmp4 rfl _ _ _) rfl ?_
  exact ⟨UbRes.ok hu.out rfl rfl, Below.refl _ _⟩

set_option maxRecDepth 20000 in
set_option maxHeartbeats 4000000 in
theorem ub_simple116 (s : ByteArray) (w : World) (hs : s.size ≤ 9223372036854775807) (hs0 : 2 ≤ s.size) (h0 : byteAt s 0 = 92) (h1 : byteAt s 1 = 116) :
    Calls Tryf.prog 34 #[.string s] w fun e w' => UbRes s (unescB s) e ∧ Below w.heap.size w w' := by
  have hu := hide (show unescB s = some ((9 : Int), false, 2) by unfold unescB; rw [if_neg (by omega), if_neg (by omega), if_neg (by omega), h1]; rfl)
  have g0 : ∀ h : 0 < s.size, ((s[0]'h).toNat : Int) = (byteAt s 0 : Int) := fun h => byteAt_get s 0 h
  have g1 : ∀ h : 1 < s.size, ((s[1]'h).toNat : Int) = (byteAt s 1 : Int) := fun h => byteAt_get s 1 h
  have h0' : (byteAt s 0 : Int) = 92 := by omega
  have hs0' : (2 : Int) ≤ (s.size : Int) := by omega
  have h1' : (byteAt s 1 : Int) = 116 := by omega
  generalize byteAt s 0 = b0 at *
  generalize byteAt s 1 = b1 at *
  clear h0 h1
  go_enter Tryf.func34, Tryf.ntmps34
  go_wp2
  refine bodyPost_ret (results_tmp4 rfl _ _ _) rfl ?_
  exact ⟨UbRes.ok hu.out rfl rfl, Below.refl _ _⟩

set_option maxRecDepth 20000 in
set_option maxHeartbeats 4000000 in
theorem ub_simple118 (s : ByteArray) (w : World) (hs : s.size ≤ 9223372036854775807) (hs0 : 2 ≤ s.size) (h0 : byteAt s 0 = 92) (h1 : byteAt s 1 = 118) :
    Calls Tryf.prog 34 #[.string s] w fun e w' => UbRes s (unescB s) e ∧ Below w.heap.size w w' := by
  have hu := hide (show unescB s = some ((11 : Int), false, 2) by unfold unescB; rw [if_neg (by omega), if_neg (by omega), if_neg (by omega), h1]; rfl)
  have g0 : ∀ h : 0 < s.size, ((s[0]'h).toNat : Int) = (byteAt s 0 : Int) := fun h => byteAt_get s 0 h
  have g1 : ∀ h : 1 < s.size, ((s[1]'h).toNat : Int) = (byteAt s 1 : Int) := fun h => byteAt_get s 1 h
  have h0' : (byteAt s 0 : Int) = 92 := by omega
  have hs0' : (2 : Int) ≤ (s.size : Int) := by omega
  have h1' : (byteAt s 1 : Int) = 118 := by omega
  generalize byteAt s 0 = b0 at *
  generalize byteAt s 1 = b1 at *
  clear h0 h1
  go_enter Tryf.func34, Tryf.ntmps34
  go_wp2
  refine bodyPost_ret (results_tmp4 rfl _ _ _) rfl ?_
  exact ⟨UbRes.ok hu.out rfl rfl, Below.refl _ _⟩

set_option maxRecDepth 20000 in
set_option maxHeartbeats 4000000 in
theorem ub_simple92 (s : ByteArray) (w : World) (hs : s.size ≤ 9223372036854775807) (hs0 : 2 ≤ s.size) (h0 : byteAt s 0 = 92) (h1 : byteAt s 1 = 92) :
    Calls Tryf.prog 34 #[.string s] w fun e w' => UbRes s (unescB s) e ∧ Below w.heap.size w w' := by
  have hu := hide (show unescB s = some ((92 : Int), false, 2) by unfold unescB; rw [if_neg (by omega), if_neg (by omega), if_neg (by omega), h1]; rfl)
  have g0 : ∀ h : 0 < s.size, ((s[0]'h).toNat : Int) = (byteAt s 0 : Int) := fun h => byteAt_get s 0 h
  have g1 : ∀ h : 1 < s.size, ((s[1]'h).toNat : Int) = (byteAt s 1 : Int) := fun h => byteAt_get s 1 h
  have h0' : (byteAt s 0 : Int) = 92 := by omega
  have hs0' : (2 : Int) ≤ (s.size : Int) := by omega
  have h1' : (byteAt s 1 : Int) = 92 := by omega
  generalize byteAt s 0 = b0 at *
  generalize byteAt s 1 = b1 at *
  clear h0 h1
  go_enter Tryf.func34, Tryf.ntmps34
  go_wp2
  refine bodyPost_ret (results_tmp4 rfl _ _ _) rfl ?_
  exact ⟨UbRes.ok hu.out rfl rfl, Below.refl _ _⟩

set_option maxRecDepth 20000 in
set_option maxHeartbeats 4000000 in
theorem ub_simple39 (s : ByteArray) (w : World) (hs : s.size ≤ 9223372036854775807) (hs0 : 2 ≤ s.size) (h0 : byteAt s 0 = 92) (h1 : byteAt s 1 = 39) :
    Calls Tryf.prog 34 #[.string s] w fun e w' => UbRes s (unescB s) e ∧ Below w.heap.size w w' := by
  have hu := hide (show unescB s = some ((39 : Int), false, 2) by unfold unescB; rw [if_neg (by omega), if_neg (by omega), if_neg (by omega), h1]; rfl)
  have g0 : ∀ h : 0 < s.size, ((s[0]'h).toNat : Int) = (byteAt s 0 : Int) := fun h => byteAt_get s 0 h
  have g1 : ∀ h : 1 < s.size, ((s[1]'h).toNat : Int) = (byteAt s 1 : Int) := fun h => byteAt_get s 1 h
  have h0' : (byteAt s 0 : Int) = 92 := by omega
  have hs0' : (2 : Int) ≤ (s.size : Int) := by omega
  have h1' : (byteAt s 1 : Int) = 39 := by omega
  generalize byteAt s 0 = b0 at *
  generalize byteAt s 1 = b1 at *
  clear h0 h1
  go_enter Tryf.func34, Tryf.ntmps34
  go_wp2
  refine bodyPost_ret (results_tmp4 rfl _ _ _) rfl ?_
  exact ⟨UbRes.ok hu.out rfl rfl, Below.refl _ _⟩

set_option maxRecDepth 20000 in
set_option maxHeartbeats 4000000 in
theorem ub_simple34 (s : ByteArray) (w : World) (hs : s.size ≤ 9223372036854775807) (hs0 : 2 ≤ s.size) (h0 : byteAt s 0 = 92) (h1 : byteAt s 1 = 34) :
    Calls Tryf.prog 34 #[.string s] w fun e w' => UbRes s (unescB s) e ∧ Below w.heap.size w w' := by
  have hu := hide (show unescB s = some ((34 : Int), false, 2) by unfold unescB; rw [if_neg (by omega), if_neg (by omega), if_neg (by omega), h1]; rfl)
  have g0 : ∀ h : 0 < s.size, ((s[0]'h).toNat : Int) = (byteAt s 0 : Int) := fun h => byteAt_get s 0 h
  have g1 : ∀ h : 1 < s.size, ((s[1]'h).toNat : Int) = (byteAt s 1 : Int) := fun h => byteAt_get s 1 h
  have h0' : (byteAt s 0 : Int) = 92 := by omega
  have hs0' : (2 : Int) ≤ (s.size : Int) := by omega
  have h1' : (byteAt s 1 : Int) = 34 := by omega
  generalize byteAt s 0 = b0 at *
  generalize byteAt s 1 = b1 at *
  clear h0 h1
  go_enter Tryf.func34, Tryf.ntmps34
  go_wp2
  refine bodyPost_ret (results_tmp4 rfl _ _ _) rfl ?_
  exact ⟨UbRes.ok hu.out rfl rfl, Below.refl _ _⟩

set_option maxRecDepth 20000 in
set_option maxHeartbeats 4000000 in
theorem ub_simple96 (s : ByteArray) (w : World) (hs : s.size ≤ 9223372036854775807) (hs0 : 2 ≤ s.size) (h0 : byteAt s 0 = 92) (h1 : byteAt s 1 = 96) :
    Calls Tryf.prog 34 #[.string s] w fun e w' => UbRes s (unescB s) e ∧ Below w.heap.size w w' := by
  have hu := hide (show unescB s = some ((96 : Int), false, 2) by unfold unescB; rw [if_neg (by omega), if_neg (by omega), if_neg (by omega), h1]; rfl)
  have g0 : ∀ h : 0 < s.size, ((s[0]'h).toNat : Int) = (byteAt s 0 : Int) := fun h => byteAt_get s 0 h
  have g1 : ∀ h : 1 < s.size, ((s[1]'h).toNat : Int) = (byteAt s 1 : Int) := fun h => byteAt_get s 1 h
  have h0' : (byteAt s 0 : Int) = 92 := by omega
  have hs0' : (2 : Int) ≤ (s.size : Int) := by omega
  have h1' : (byteAt s 1 : Int) = 96 := by omega
  generalize byteAt s 0 = b0 at *
  generalize byteAt s 1 = b1 at *
  clear h0 h1
  go_enter Tryf.func34, Tryf.ntmps34
  go_wp2
  refine bodyPost_ret (results_tmp4 rfl _ _ _) rfl ?_
  exact ⟨UbRes.ok hu.out rfl rfl, Below.refl _ _⟩

set_option maxRecDepth 20000 in
set_option maxHeartbeats 4000000 in
theorem ub_simple63 (s : ByteArray) (w : World) (hs : s.size ≤ 9223372036854775807) (hs0 : 2 ≤ s.size) (h0 : byteAt s 0 = 92) (h1 : byteAt s 1 = 63) :
    Calls Tryf.prog 34 #[.string s] w fun e w' => UbRes s (unescB s) e ∧ Below w.heap.size w w' := by
  have hu := hide (show unescB s = some ((63 : Int), false, 2) by unfold unescB; rw [if_neg (by omega), if_neg (by omega), if_neg (by omega), h1]; rfl)
  have g0 : ∀ h : 0 < s.size, ((s[0]'h).toNat : Int) = (byteAt s 0 : Int) := fun h => byteAt_get s 0 h
  have g1 : ∀ h : 1 < s.size, ((s[1]'h).toNat : Int) = (byteAt s 1 : Int) := fun h => byteAt_get s 1 h
  have h0' : (byteAt s 0 : Int) = 92 := by omega
  have hs0' : (2 : Int) ≤ (s.size : Int) := by omega
  have h1' : (byteAt s 1 : Int) = 63 := by omega
  generalize byteAt s 0 = b0 at *
  generalize byteAt s 1 = b1 at *
  clear h0 h1
  go_enter Tryf.func34, Tryf.ntmps34
  go_wp2
  refine bodyPost_ret (results_tmp4 rfl _ _ _) rfl ?_
  exact ⟨UbRes.ok hu.out rfl rfl, Below.refl _ _⟩

theorem ub_simple (s : ByteArray) (w : World) (hs : s.size ≤ 9223372036854775807) (hs0 : 2 ≤ s.size) (h0 : byteAt s 0 = 92) (h1 : (simpleV (byteAt s 1)).isSome = true) :
    Calls Tryf.prog 34 #[.string s] w fun e w' => UbRes s (unescB s) e ∧ Below w.heap.size w w' := by
  by_cases c97 : byteAt s 1 = 97
  · exact ub_simple97 s w hs hs0 h0 c97
  by_cases c98 : byteAt s 1 = 98
  · exact ub_simple98 s w hs hs0 h0 c98
  by_cases c102 : byteAt s 1 = 102
  · exact ub_simple102 s w hs hs0 h0 c102
  by_cases c110 : byteAt s 1 = 110
  · exact ub_simple110 s w hs hs0 h0 c110
  by_cases c114 : byteAt s 1 = 114
  · exact ub_simple114 s w hs hs0 h0 c114
  by_cases c116 : byteAt s 1 = 116
  · exact ub_simple116 s w hs hs0 h0 c116
  by_cases c118 : byteAt s 1 = 118
  · exact ub_simple118 s w hs hs0 h0 c118
  by_cases c92 : byteAt s 1 = 92
  · exact ub_simple92 s w hs hs0 h0 c92
  by_cases c39 : byteAt s 1 = 39
  · exact ub_simple39 s w hs hs0 h0 c39
  by_cases c34 : byteAt s 1 = 34
  · exact ub_simple34 s w hs hs0 h0 c34
  by_cases c96 : byteAt s 1 = 96
  · exact ub_simple96 s w hs hs0 h0 c96
  by_cases c63 : byteAt s 1 = 63
  · exact ub_simple63 s w hs hs0 h0 c63
  unfold simpleV at h1
  simp [c97, c98, c102, c110, c114, c116, c118, c92, c39, c34, c96, c63] at h1

set_option maxRecDepth 20000 in
set_option maxHeartbeats 4000000 in
theorem ub_other (s : ByteArray) (w : World) (hs : s.size ≤ 9223372036854775807) (hs0 : 2 ≤ s.size) (h0 : byteAt s 0 = 92) (h1 : simpleV (byteAt s 1) = none) (h2 : ¬ (byteAt s 1 = 120 ∨ byteAt s 1 = 88)) (h5 : ¬ (48 ≤ byteAt s 1 ∧ byteAt s 1 ≤ 51)) :
    Calls Tryf.prog 34 #[.string s] w fun e w' => UbRes s (unescB s) e ∧ Below w.heap.size w w' := by
  have hu := hide (show unescB s = none by unfold unescB; rw [if_neg (by omega), if_neg (by omega), if_neg (by omega), h1]; simp only []; rw [if_neg h2, if_neg h5])
  have g0 : ∀ h : 0 < s.size, ((s[0]'h).toNat : Int) = (byteAt s 0 : Int) := fun h => byteAt_get s 0 h
  have g1 : ∀ h : 1 < s.size, ((s[1]'h).toNat : Int) = (byteAt s 1 : Int) := fun h => byteAt_get s 1 h
  have h0' : (byteAt s 0 : Int) = 92 := by omega
  have hs0' : (2 : Int) ≤ (s.size : Int) := by omega
  have hn := notSimple h1
  generalize byteAt s 0 = b0 at *
  generalize byteAt s 1 = b1 at *
  have n97 : ((b1 : Int) == 97) = false := by rw [beq_eq_false_iff_ne]; omega
  have n98 : ((b1 : Int) == 98) = false := by rw [beq_eq_false_iff_ne]; omega
  have n102 : ((b1 : Int) == 102) = false := by rw [beq_eq_false_iff_ne]; omega
  have n110 : ((b1 : Int) == 110) = false := by rw [beq_eq_false_iff_ne]; omega
  have n114 : ((b1 : Int) == 114) = false := by rw [beq_eq_false_iff_ne]; omega
  have n116 : ((b1 : Int) == 116) = false := by rw [beq_eq_false_iff_ne]; omega
  have n118 : ((b1 : Int) == 118) = false := by rw [beq_eq_false_iff_ne]; omega
  have n92 : ((b1 : Int) == 92) = false := by rw [beq_eq_false_iff_ne]; omega
  have n39 : ((b1 : Int) == 39) = false := by rw [beq_eq_false_iff_ne]; omega
  have n34 : ((b1 : Int) == 34) = false := by rw [beq_eq_false_iff_ne]; omega
  have n96 : ((b1 : Int) == 96) = false := by rw [beq_eq_false_iff_ne]; omega
  have n63 : ((b1 : Int) == 63) = false := by rw [beq_eq_false_iff_ne]; omega
  have n120 : ((b1 : Int) == 120) = false := by rw [beq_eq_false_iff_ne]; omega
  have n88 : ((b1 : Int) == 88) = false := by rw [beq_eq_false_iff_ne]; omega
  have n48 : ((b1 : Int) == 48) = false := by rw [beq_eq_false_iff_ne]; omega
  have n49 : ((b1 : Int) == 49) = false := by rw [beq_eq_false_iff_ne]; omega
  have n50 : ((b1 : Int) == 50) = false := by rw [beq_eq_false_iff_ne]; omega
  have n51 : ((b1 : Int) == 51) = false := by rw [beq_eq_false_iff_ne]; omega
  clear h0 h1 h2 h5 hn
  go_enter Tryf.func34, Tryf.ntmps34
  go_wp2_with fail
  all_goals
    refine (errorf_any _ (by decide +kernel) _).mono ?_
    rintro e w1 ⟨a, rfl, hb1⟩
    go_wp2
    refine bodyPost_ret (results_tmp4 rfl _ _ _) rfl ?_
    exact ⟨UbRes.bad hu.out, hb1⟩

end Go.Proofs.YtncoodplmpgnbaaFmt
