/-
  A text put together of readable pieces is read back whole. Plain.
-/
import Derived.Test.YtncoodplmpgnbaaFmtGrR
import Derived.Test.YtncoodplmpgnbaaFmtRef
import Derived.Test.YtncoodplmpgnbaaFmtUneB
namespace Go.Proofs.YtncoodplmpgnbaaFmt
open Go.RowKit Go.Lib Go.Shelf Go.Proofs
set_option linter.unusedVariables false
set_option linter.unusedSimpArgs false

def unA (rd : Reader) (t : ByteArray) : Option (List UInt8) := unAll rd t.size t
theorem bytesB_app (a b : List UInt8) : bytesB (a ++ b) = bytesB a ++ bytesB b := ba_ext (by
  rw [bytesB_data, ByteArray.data_append, Array.toList_append]
  rfl)
theorem un_step (rd : Reader) (hg : Good rd) (E : List Nat) (hE : 0 < E.length) (v : Int) (mb : Bool) (R : List UInt8) (h : rd (bytes8 E ++ bytesB R) = some (v, mb, E.length)) :
    unA rd (bytesB (u8L E ++ R)) = (unA rd (bytesB R)).map (piece v mb ++ ·) := by
  have e : bytesB (u8L E ++ R) = bytes8 E ++ bytesB R := bytesB_app _ _
  have hs : (bytes8 E ++ bytesB R).size = E.length + R.length := by rw [size_app, bytes8_size, bytesB_size]
  have hcut : (bytes8 E ++ bytesB R).extract E.length (bytes8 E ++ bytesB R).size = bytesB R := by
    have := cut_app (bytes8 E) (bytesB R)
    rw [bytes8_size] at this
    exact this
  unfold unA
  rw [e]
  obtain ⟨k, hk⟩ : ∃ k, (bytes8 E ++ bytesB R).size = k + 1 := ⟨E.length + R.length - 1, by omega⟩
  generalize bytes8 E ++ bytesB R = z at *
  rw [hk]
  rw [show unAll rd (k + 1) z = (if z.size = 0 then some [] else match rd z with
    | none => none
    | some (v, mb, k') => (unAll rd k (z.extract k' z.size)).map (piece v mb ++ ·)) from rfl]
  rw [if_neg (by omega), h]
  simp only []
  rw [hcut, unAll_more rd hg k (bytesB R).size (bytesB R) (by rw [bytesB_size]; omega) (Nat.le_refl _)]
/-- What has been spelt so far reads as what it stands for. -/
structure Spelt (rd : Reader) (ds M : List UInt8) : Prop where
  nocr : ∀ y ∈ M, y ≠ 13
  reads : ∀ R, unA rd (bytesB (M ++ R)) = (unA rd (bytesB R)).map (ds ++ ·)
theorem Spelt.nil (rd : Reader) : Spelt rd [] [] := ⟨fun y h => (by cases h), fun R => by simp⟩
theorem Spelt.more {rd : Reader} (hg : Good rd) {ds M : List UInt8} (h : Spelt rd ds M) {E : List Nat} (hE : 0 < E.length) (hl : ∀ y ∈ E, y < 256 ∧ y ≠ 13) {v : Int} {mb : Bool} (hr : ∀ t, rd (bytes8 E ++ t) = some (v, mb, E.length)) :
    Spelt rd (ds ++ piece v mb) (M ++ u8L E) := by
  refine ⟨fun y hy => ?_, fun R => ?_⟩
  · rcases List.mem_append.1 hy with hy | hy
    · exact h.nocr y hy
    · obtain ⟨x, hx, rfl⟩ := List.mem_map.1 hy
      intro e
      have h1 := hl x hx
      have := congrArg UInt8.toNat e
      simp at this
      omega
  · rw [List.append_assoc, h.reads, un_step rd hg E hE v mb R (hr _), map_map']
theorem nl_id : ∀ M : List UInt8, (∀ y ∈ M, y ≠ 13) → nlL M = M
  | [], _ => by simp [nlL]
  | c :: r, h => by
    rw [nl_other c r (h c (List.mem_cons_self ..)), nl_id r (fun y hy => h y (List.mem_cons_of_mem _ hy))]
theorem Spelt.whole {rd : Reader} {ds M : List UInt8} (h : Spelt rd ds M) (q : UInt8) (hq : q = 34 ∨ q = 39) :
    unText rd (bytesB (nlL (bytesB (q :: (M ++ [q]))).data.toList)) = some ds := by
  rw [bytesB_data, nl_quoted q M (by rcases hq with rfl | rfl <;> decide) (by rcases hq with rfl | rfl <;> decide), nl_id M h.nocr]
  have hs : (bytesB (q :: (M ++ [q]))).size = M.length + 2 := by rw [bytesB_size]; simp
  have h0 : byteAt (bytesB (q :: (M ++ [q]))) 0 = q.toNat := by rw [at_list]; rfl
  have h1 : byteAt (bytesB (q :: (M ++ [q]))) (M.length + 1) = q.toNat := by
    rw [at_list]
    simp [List.getD]
  have hquo : quotedB (bytesB (q :: (M ++ [q]))) := by
    unfold quotedB
    rw [hs, h0, show M.length + 2 - 1 = M.length + 1 by omega, h1]
    refine ⟨by omega, rfl, ?_⟩
    rcases hq with rfl | rfl
    · left; rfl
    · right; rfl
  have hcut : (bytesB (q :: (M ++ [q]))).extract 1 ((bytesB (q :: (M ++ [q]))).size - 1) = bytesB M := ba_ext (by
    rw [cut_data, bytesB_data, bytesB_data, hs]
    simp)
  unfold unText
  rw [if_pos hquo, hcut]
  have := h.reads []
  rw [List.append_nil] at this
  show unA rd (bytesB M) = some ds
  rw [this]
  have e : unA rd (bytesB []) = some [] := unAll_nil rd _ _ rfl
  rw [e]
  simp
theorem piece_byte (x : Nat) (h : x ≤ 255) : piece (x : Int) false = [x.toUInt8] := by
  unfold piece
  rw [if_pos (.inr rfl)]
  have := IntKind.wrap_u8 (x : Int)
  rw [this, show (x : Int) % 256 = (x : Int) by omega]
  rfl
end Go.Proofs.YtncoodplmpgnbaaFmt
