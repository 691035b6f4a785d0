/-
  A plain front and a unicode escape: what the two readers make of it; a row put whole onto another. Plain.
-/
import Derived.Test.YtncoodplmpgnbaaFmtGrN
namespace Go.Proofs.YtncoodplmpgnbaaFmt
open Go.RowKit Go.Lib Go.Shelf Go.Proofs
set_option linter.unusedVariables false
set_option linter.unusedSimpArgs false

theorem unText_whole (rd : Reader) (M : List UInt8) (hM : ∀ y ∈ M, y ≠ 13) (q : UInt8) (hq : q = 34 ∨ q = 39) :
    unText rd (bytesB (nlL (bytesB (q :: (M ++ [q]))).data.toList)) = unA rd (bytesB M) := by
  rw [bytesB_data, nl_quoted q M (by rcases hq with rfl | rfl <;> decide) (by rcases hq with rfl | rfl <;> decide), nl_id M hM]
  have hs : (bytesB (q :: (M ++ [q]))).size = M.length + 2 := by rw [bytesB_size]; simp
  have h0 : byteAt (bytesB (q :: (M ++ [q]))) 0 = q.toNat := by rw [at_list]; rfl
  have h1 : byteAt (bytesB (q :: (M ++ [q]))) (M.length + 1) = q.toNat := by
    rw [at_list]
    simp [List.getD]
  have hquo : quotedB (bytesB (q :: (M ++ [q]))) := by
    unfold quotedB
    rw [hs, h0, show M.length + 2 - 1 = M.length + 1 by omega, h1]
    refine ⟨by omega, rfl, ?_⟩
    rcases hq with rfl | rfl
    · left; rfl
    · right; rfl
  have hcut : (bytesB (q :: (M ++ [q]))).extract 1 ((bytesB (q :: (M ++ [q]))).size - 1) = bytesB M := ba_ext (by
    rw [cut_data, bytesB_data, bytesB_data, hs]
    simp)
  unfold unText
  rw [if_pos hquo, hcut]
  rfl
theorem un_none (rd : Reader) (E : List Nat) (hE : 0 < E.length) (h : rd (bytes8 E) = none) : unA rd (bytesB (u8L E)) = none := by
  show unA rd (bytes8 E) = none
  have hs := bytes8_size E
  unfold unA
  generalize bytes8 E = z at *
  obtain ⟨k, hk⟩ : ∃ k, z.size = k + 1 := ⟨E.length - 1, by omega⟩
  rw [hk]
  rw [show unAll rd (k + 1) z = (if z.size = 0 then some [] else match rd z with
    | none => none
    | some (v, mb, k') => (unAll rd k (z.extract k' z.size)).map (piece v mb ++ ·)) from rfl]
  rw [if_neg (by omega), h]
theorem nocr8 {M : List UInt8} (h : ∀ y ∈ M, y ≠ 13) {E : List Nat} (hl : ∀ y ∈ E, y < 256 ∧ y ≠ 13) : ∀ y ∈ M ++ u8L E, y ≠ 13 := fun y hy => by
  rcases List.mem_append.1 hy with hy | hy
  · exact h y hy
  · obtain ⟨x, hx, rfl⟩ := List.mem_map.1 hy
    intro e
    have h1 := hl x hx
    have := congrArg UInt8.toNat e
    simp at this
    omega
theorem Spelt.refused {rd : Reader} {ds M : List UInt8} (h : Spelt rd ds M) {E : List Nat} (hE : 0 < E.length) (hl : ∀ y ∈ E, y < 256 ∧ y ≠ 13) (hr : rd (bytes8 E) = none) (q : UInt8) (hq : q = 34 ∨ q = 39) :
    unText rd (bytesB (nlL (bytesB (q :: ((M ++ u8L E) ++ [q]))).data.toList)) = none := by
  rw [unText_whole rd (M ++ u8L E) (nocr8 h.nocr hl) q hq, h.reads, un_none rd E hE hr]
  rfl
theorem unescB_u (c : Nat) (E : List Nat) (hc : c = 117 ∨ c = 85) (hl : ∀ y ∈ 92 :: c :: E, y < 256) : unescB (bytes8 (92 :: c :: E)) = none := by
  have h0 := bytes8_at _ hl 0 (by simp)
  have h1 := bytes8_at _ hl 1 (by simp)
  have hs : 2 ≤ (bytes8 (92 :: c :: E)).size := by rw [bytes8_size]; simp
  generalize bytes8 (92 :: c :: E) = s at *
  simp at h0 h1
  unfold unescB
  rw [if_neg (by omega), if_neg (by omega), if_neg (by omega), h1]
  rcases hc with rfl | rfl
  · rfl
  · rfl
/-- A plain front: both readers take it as it stands. -/
def Plain2 (L : List Nat) : Prop := Spelt unesc (u8L L) (u8L L) ∧ Spelt unescB (u8L L) (u8L L) ∧ ∀ y ∈ L, y < 256
theorem Plain2.nil : Plain2 [] := ⟨Spelt.nil _, Spelt.nil _, fun y h => (by cases h)⟩
theorem Plain2.more {L : List Nat} (h : Plain2 L) (x : Nat) (hx : x < 128) (h1 : x ≠ 92) (h2 : x ≠ 13) : Plain2 (L ++ [x]) := by
  obtain ⟨hU, hB, hl⟩ := h
  have e1 : piece (x : Int) true = u8L [x] := pc1 x hx
  refine ⟨?_, ?_, fun y hy => ?_⟩
  · obtain ⟨mb, hr, hp⟩ := (spellU_plain x hx h1 h2).reads
    have := hU.more good_unesc (spellU_plain x hx h1 h2).pos (spellU_plain x hx h1 h2).lt hr
    rw [hp, e1] at this
    rw [u8L_app]
    exact this
  · have := hB.more good_unescB (spell_plain x hx h1 h2).pos (spell_plain x hx h1 h2).lt (spell_plain x hx h1 h2).reads
    rw [piece_byte x (by omega)] at this
    rw [u8L_app]
    exact this
  · rcases List.mem_append.1 hy with hy | hy
    · exact hl y hy
    · simp at hy
      omega
theorem put_row {base : Nat} {wr w1 : World} {v v' : Value} {l : List UInt8} (L : List Nat) (hL : ∀ x ∈ L, x < 256) (hb : base ≤ wr.heap.size) (own : Own base v l wr) {m : Nat} (hm : L.length = m) {news : List Value} (hn : news = cells8 L)
    (ho : w1.ownsRow base 5 1 v' (l.length + m) (byteCells l ++ news)) (hg : wr.grownBy w1 v.ownBlock) (ha : v'.ownBlock = v.ownBlock ∨ v'.ownBlock = some wr.heap.size) : Own base v' (l ++ u8L L) w1 ∧ Grow base v v' wr w1 := by
  subst hm
  subst hn
  refine ⟨?_, (Below.refl base wr).grown hg hb (fun k hk => (World.ownsRow.lt own k hk).1), hg, fun k hk => ?_⟩
  · unfold Own
    rw [List.length_append, u8L_length, byteCells_append, u8L_cells L hL]
    exact ho
  · rcases ha with e | e
    · left
      rw [← e]
      exact hk
    · right
      rw [e] at hk
      injection hk with hk
      omega
theorem Src8.news {w : World} {x : Addr} {L : List Nat} (h : Src8 w x (u8L L)) (hL : ∀ y ∈ L, y < 256) : ∀ j u, (cells8 L)[j]? = some u → w.cell? (x.add j) = some u := fun j u hj => by
  have hjl : j < L.length := by
    rcases Nat.lt_or_ge j L.length with h1 | h1
    · exact h1
    · rw [List.getElem?_eq_none (by simp [cells8]; exact h1)] at hj
      cases hj
  have h1 := h j (by rw [u8L_length]; exact hjl)
  rw [h1, ← hj]
  have h2 := hL L[j] (List.getElem_mem hjl)
  simp [cells8, u8L, hjl]
  omega
theorem cells8_one (L : List Nat) : ∀ u ∈ cells8 L, u.oneCell' = true := fun u hu => by
  obtain ⟨x, _, rfl⟩ := List.mem_map.1 hu
  rfl
theorem Fill.src {l : List UInt8} {n g base : Nat} {w wr : World} (h : Fill l n n g base w wr) : Src8 wr ⟨g, 0, none⟩ l := fun i hi => by
  have ha : (⟨g, 0, none⟩ : Addr).add i = ⟨g, i, none⟩ := by unfold Addr.add; split <;> simp_all
  have hl := h.len
  rw [ha, h.own.cellAt i (by omega), Nat.sub_self, List.replicate_zero, List.append_nil]
  simp [byteCells, hi]
end Go.Proofs.YtncoodplmpgnbaaFmt
