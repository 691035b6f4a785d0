/-
  The law's own spelling of a code point, whole; two grown rows side by side; runes as a caller hands them in. No condition beyond the bounds.
-/
import Derived.Test.YtncoodplmpgnbaaFmtGrL
import Derived.Test.YtncoodplmpgnbaaFmtGrLb
import Derived.Test.YtncoodplmpgnbaaFmtGrM
import Derived.Test.YtncoodplmpgnbaaFmtGrMb
import Derived.Test.YtncoodplmpgnbaaFmtGrI
namespace Go.Proofs.YtncoodplmpgnbaaFmt
open Go.RowKit Go.Lib Go.Shelf Go.Proofs
set_option linter.unusedVariables false
set_option linter.unusedSimpArgs false

theorem raw_spell (z : Nat) (h128 : 128 ≤ z) (hz : z ≤ 1114111) (hs : ¬ (55296 ≤ z ∧ z ≤ 57343)) : ∃ E, SpellU z E ∧ piece (z : Int) true = u8L E := by
  by_cases c1 : z < 2048
  · exact ⟨_, spellU_raw2 z h128 c1, pc2 z h128 c1⟩
  by_cases c2 : z < 65536
  · exact ⟨_, spellU_raw3 z (by omega) c2 hs, pc3 z (by omega) c2 hs⟩
  · exact ⟨_, spellU_raw4 z (by omega) hz, pc4 z (by omega) hz⟩
theorem wrapU {z b q : Nat} {w : World} {base : Nat} {d : Value} {l : List UInt8} {E : List Nat} (hE : SpellU z E) (h : Calls Tryf.prog 16 #[d, .int .i32 (z : Int), .int .u8 (b : Int), .int .u8 (q : Int)] w (App base d (l ++ u8L E) w)) :
    Calls Tryf.prog 16 #[d, .int .i32 (z : Int), .int .u8 (b : Int), .int .u8 (q : Int)] w (fun e w' => ∃ E, SpellU z E ∧ App base d (l ++ u8L E) w e w') := h.mono fun e w' k => ⟨E, hE, k⟩
theorem encRune0 (z b q : Nat) (w : World) (base : Nat) (d : Value) (l : List UInt8) (hz : z ≤ 1114111) (hb8 : b ≤ 255) (hq : q = 34 ∨ q = 39) (hb : base ≤ w.heap.size) (hl : l.length ≤ 1500000) (own : Own base d l w) (hu : b / 8 % 2 = 0) :
    Calls Tryf.prog 16 #[d, .int .i32 (z : Int), .int .u8 (b : Int), .int .u8 (q : Int)] w (fun e w' => ∃ E, SpellU z E ∧ App base d (l ++ u8L E) w e w') := by
  rcases (show b % 8 % 6 = 0 ∨ b % 8 % 6 = 1 ∨ b % 8 % 6 = 2 ∨ b % 8 % 6 = 3 ∨ b % 8 % 6 = 4 ∨ b % 8 % 6 = 5 by omega) with m | m | m | m | m | m
  · by_cases hn : escN z = 0
    · by_cases h128 : z < 128
      · refine wrapU (spellU_plain z h128 ?_ ?_) (er_plain0 z b q w base d l hz hb8 hq hb hl own hu m hn h128 ?_)
        · rintro rfl; exact absurd hn (by decide)
        · rintro rfl; exact absurd hn (by decide)
        · rintro rfl
          rcases hq with rfl | rfl <;> exact absurd hn (by decide)
      · by_cases h1 : z < 55296
        · obtain ⟨E, hE, e⟩ := raw_spell z (by omega) hz (by omega)
          have h := er_rawl0 z b q w base d l hz hb8 hq hb hl own hu m hn (by omega) h1
          rw [e] at h
          exact wrapU hE h
        · by_cases h2 : 57343 < z
          · obtain ⟨E, hE, e⟩ := raw_spell z (by omega) hz (by omega)
            have h := er_rawh0 z b q w base d l hz hb8 hq hb hl own hu m hn h2
            rw [e] at h
            exact wrapU hE h
          · exact wrapU (spellU_item 85 8 z false (.inr (.inr ⟨rfl, rfl⟩)) (by have : (16 : Nat) ^ 8 = 4294967296 := rfl; omega) hz) (er_Ua0 z b q w base d l hz hb8 hq hb hl own hu m hn (by omega) (by omega))
    · exact wrapU (spellU_name z hn) (er_name0 z b q w base d l hz hb8 hq hb hl own hu m hn)
  · exact er_brace0 z b q w base d l hz hb8 hq hb hl own hu m
  · by_cases h : z ≤ 65535
    · exact wrapU (spellU_item 117 4 z false (.inr (.inl ⟨rfl, rfl⟩)) (by have : (16 : Nat) ^ 4 = 65536 := rfl; omega) hz) (er_u40 z b q w base d l hz hb8 hq hb hl own hu m h)
    · exact wrapU (spellU_item 85 8 z false (.inr (.inr ⟨rfl, rfl⟩)) (by have : (16 : Nat) ^ 8 = 4294967296 := rfl; omega) hz) (er_Ub0 z b q w base d l hz hb8 hq hb hl own hu m (by omega))
  · by_cases h : z ≤ 255
    · rcases (show b / 16 % 2 = 0 ∨ b / 16 % 2 = 1 by omega) with hp | hp
      · exact wrapU (spellU_item 120 2 z false (.inl ⟨.inl rfl, rfl⟩) (by have : (16 : Nat) ^ 2 = 256 := rfl; omega) hz) (er_x00 z b q w base d l hz hb8 hq hb hl own hu m h hp)
      · exact wrapU (spellU_item 88 2 z false (.inl ⟨.inr rfl, rfl⟩) (by have : (16 : Nat) ^ 2 = 256 := rfl; omega) hz) (er_x10 z b q w base d l hz hb8 hq hb hl own hu m h hp)
    · exact wrapU (spellU_item 85 8 z false (.inr (.inr ⟨rfl, rfl⟩)) (by have : (16 : Nat) ^ 8 = 4294967296 := rfl; omega) hz) (er_Uc0 z b q w base d l hz hb8 hq hb hl own hu m (by omega))
  · by_cases h : z ≤ 255
    · exact wrapU (spellU_oct z h) (er_oct0 z b q w base d l hz hb8 hq hb hl own hu m h)
    · exact wrapU (spellU_item 85 8 z false (.inr (.inr ⟨rfl, rfl⟩)) (by have : (16 : Nat) ^ 8 = 4294967296 := rfl; omega) hz) (er_Ud0 z b q w base d l hz hb8 hq hb hl own hu m (by omega))
  · exact wrapU (spellU_item 85 8 z false (.inr (.inr ⟨rfl, rfl⟩)) (by have : (16 : Nat) ^ 8 = 4294967296 := rfl; omega) hz) (er_Ue0 z b q w base d l hz hb8 hq hb hl own hu m)
theorem encRune1 (z b q : Nat) (w : World) (base : Nat) (d : Value) (l : List UInt8) (hz : z ≤ 1114111) (hb8 : b ≤ 255) (hq : q = 34 ∨ q = 39) (hb : base ≤ w.heap.size) (hl : l.length ≤ 1500000) (own : Own base d l w) (hu : b / 8 % 2 = 1) :
    Calls Tryf.prog 16 #[d, .int .i32 (z : Int), .int .u8 (b : Int), .int .u8 (q : Int)] w (fun e w' => ∃ E, SpellU z E ∧ App base d (l ++ u8L E) w e w') := by
  rcases (show b % 8 % 6 = 0 ∨ b % 8 % 6 = 1 ∨ b % 8 % 6 = 2 ∨ b % 8 % 6 = 3 ∨ b % 8 % 6 = 4 ∨ b % 8 % 6 = 5 by omega) with m | m | m | m | m | m
  · by_cases hn : escN z = 0
    · by_cases h128 : z < 128
      · refine wrapU (spellU_plain z h128 ?_ ?_) (er_plain1 z b q w base d l hz hb8 hq hb hl own hu m hn h128 ?_)
        · rintro rfl; exact absurd hn (by decide)
        · rintro rfl; exact absurd hn (by decide)
        · rintro rfl
          rcases hq with rfl | rfl <;> exact absurd hn (by decide)
      · by_cases h1 : z < 55296
        · obtain ⟨E, hE, e⟩ := raw_spell z (by omega) hz (by omega)
          have h := er_rawl1 z b q w base d l hz hb8 hq hb hl own hu m hn (by omega) h1
          rw [e] at h
          exact wrapU hE h
        · by_cases h2 : 57343 < z
          · obtain ⟨E, hE, e⟩ := raw_spell z (by omega) hz (by omega)
            have h := er_rawh1 z b q w base d l hz hb8 hq hb hl own hu m hn h2
            rw [e] at h
            exact wrapU hE h
          · exact wrapU (spellU_item 85 8 z true (.inr (.inr ⟨rfl, rfl⟩)) (by have : (16 : Nat) ^ 8 = 4294967296 := rfl; omega) hz) (er_Ua1 z b q w base d l hz hb8 hq hb hl own hu m hn (by omega) (by omega))
    · exact wrapU (spellU_name z hn) (er_name1 z b q w base d l hz hb8 hq hb hl own hu m hn)
  · exact er_brace1 z b q w base d l hz hb8 hq hb hl own hu m
  · by_cases h : z ≤ 65535
    · exact wrapU (spellU_item 117 4 z true (.inr (.inl ⟨rfl, rfl⟩)) (by have : (16 : Nat) ^ 4 = 65536 := rfl; omega) hz) (er_u41 z b q w base d l hz hb8 hq hb hl own hu m h)
    · exact wrapU (spellU_item 85 8 z true (.inr (.inr ⟨rfl, rfl⟩)) (by have : (16 : Nat) ^ 8 = 4294967296 := rfl; omega) hz) (er_Ub1 z b q w base d l hz hb8 hq hb hl own hu m (by omega))
  · by_cases h : z ≤ 255
    · rcases (show b / 16 % 2 = 0 ∨ b / 16 % 2 = 1 by omega) with hp | hp
      · exact wrapU (spellU_item 120 2 z true (.inl ⟨.inl rfl, rfl⟩) (by have : (16 : Nat) ^ 2 = 256 := rfl; omega) hz) (er_x01 z b q w base d l hz hb8 hq hb hl own hu m h hp)
      · exact wrapU (spellU_item 88 2 z true (.inl ⟨.inr rfl, rfl⟩) (by have : (16 : Nat) ^ 2 = 256 := rfl; omega) hz) (er_x11 z b q w base d l hz hb8 hq hb hl own hu m h hp)
    · exact wrapU (spellU_item 85 8 z true (.inr (.inr ⟨rfl, rfl⟩)) (by have : (16 : Nat) ^ 8 = 4294967296 := rfl; omega) hz) (er_Uc1 z b q w base d l hz hb8 hq hb hl own hu m (by omega))
  · by_cases h : z ≤ 255
    · exact wrapU (spellU_oct z h) (er_oct1 z b q w base d l hz hb8 hq hb hl own hu m h)
    · exact wrapU (spellU_item 85 8 z true (.inr (.inr ⟨rfl, rfl⟩)) (by have : (16 : Nat) ^ 8 = 4294967296 := rfl; omega) hz) (er_Ud1 z b q w base d l hz hb8 hq hb hl own hu m (by omega))
  · exact wrapU (spellU_item 85 8 z true (.inr (.inr ⟨rfl, rfl⟩)) (by have : (16 : Nat) ^ 8 = 4294967296 := rfl; omega) hz) (er_Ue1 z b q w base d l hz hb8 hq hb hl own hu m)
theorem encRune_any (z b q : Nat) (w : World) (base : Nat) (d : Value) (l : List UInt8) (hz : z ≤ 1114111) (hb8 : b ≤ 255) (hq : q = 34 ∨ q = 39) (hb : base ≤ w.heap.size) (hl : l.length ≤ 1500000) (own : Own base d l w) :
    Calls Tryf.prog 16 #[d, .int .i32 (z : Int), .int .u8 (b : Int), .int .u8 (q : Int)] w (fun e w' => ∃ E, SpellU z E ∧ App base d (l ++ u8L E) w e w') := by
  rcases (show b / 8 % 2 = 0 ∨ b / 8 % 2 = 1 by omega) with hu | hu
  · exact encRune0 z b q w base d l hz hb8 hq hb hl own hu
  · exact encRune1 z b q w base d l hz hb8 hq hb hl own hu
/-- Two values that lie in no common block. -/
def Apart (u v : Value) : Prop := ∀ k, u.ownBlock = some k → v.ownBlock = some k → False
theorem Apart.symm {u v : Value} (h : Apart u v) : Apart v u := fun k h1 h2 => h k h2 h1
theorem Apart.ne {u v : Value} (h : Apart u v) : u.ownBlock = none ∨ u.ownBlock ≠ v.ownBlock := by
  cases e : u.ownBlock with
  | none => exact .inl rfl
  | some k => exact .inr fun e2 => h k e e2.symm
theorem Own.keep {base b2 : Nat} {v v' u : Value} {l : List UInt8} {w w' : World} (h : Own base u l w) (hg : Grow b2 v v' w w') (ha : Apart u v) : Own base u l w' := h.kept hg ha.ne
theorem Apart.grow {base b2 : Nat} {v v' u : Value} {l : List UInt8} {w w' : World} (ha : Apart u v) (h : Own base u l w) (hg : Grow b2 v v' w w') : Apart u v' := fun k h1 h2 => by
  rcases hg.lies k h2 with e | e
  · exact ha k h1 e
  · have := (World.ownsRow.lt h k h1).2
    omega
theorem IsRow.below {k : IntKind} {w w' : World} {a : Option Addr} {len cap : Nat} {zs : List Int} (h : IsRow k w a len cap zs) (hb : Below w.heap.size w w') : IsRow k w' a len cap zs := by
  rcases h with h | ⟨x, rfl, hl, hm, hz, hc, hw⟩
  · exact .inl h
  · refine .inr ⟨x, rfl, hl, hm, hz, fun i hi => ?_, hw⟩
    have h1 := hc i hi
    have hlt : (x.add i).block < w.heap.size := by
      rcases Nat.lt_or_ge (x.add i).block w.heap.size with h2 | h2
      · exact h2
      · exfalso
        unfold World.cell? at h1
        simp [h2] at h1
    rw [World.cell?_of_block (hb.block _ hlt)]
    exact h1
/-- A row of runes: the empty one, or cells. -/
structure Runes (w : World) (a : Option Addr) (n c : Nat) (rs : List Int) : Prop where
  len : rs.length = n
  nil : a = none → n = 0 ∧ c = 0
  src : ∀ x, a = some x → Src32 w x rs
theorem IsRow.runes {w : World} {a : Option Addr} {n c : Nat} {zs : List Int} (h : IsRow .i32 w a n c zs) : Runes w a n c (zs.take n) := by
  cases a with
  | none =>
    rcases h with ⟨_, h1, h2, h3⟩ | ⟨x, hx, _⟩
    · exact ⟨by simp [h3, h1], fun _ => ⟨h1, h2⟩, fun x hx => (by cases hx)⟩
    · cases hx
  | some x => exact ⟨h.src32.1, fun e => (by cases e), fun y hy => (by cases hy; exact h.src32.2)⟩
theorem Runes.below {w w' : World} {a : Option Addr} {n c : Nat} {rs : List Int} (h : Runes w a n c rs) (hb : Below w.heap.size w w') : Runes w' a n c rs := ⟨h.len, h.nil, fun x hx => (h.src x hx).below hb⟩
theorem own32_runes {B : Nat} {v : Value} {rs : List Int} {w : World} (h : Own32 B v rs w) : ∃ a c, v = .slice a rs.length c ∧ Runes w a rs.length c rs := by
  have h0 := h
  obtain ⟨hlen, ⟨rfl, hn⟩ | ⟨g, cap, cur, rfl, hb1, hg, hc, hm, hs, ht⟩⟩ := h
  · rw [hn]
    refine ⟨none, 0, rfl, hn, fun _ => ⟨rfl, rfl⟩, fun x hx => (by cases hx)⟩
  · refine ⟨some ⟨g, 0, none⟩, cap, rfl, rfl, fun e => (by cases e), fun x hx i hi => ?_⟩
    cases hx
    have ha : (⟨g, 0, none⟩ : Addr).add i = ⟨g, i, none⟩ := by unfold Addr.add; split <;> simp_all
    rw [ha, World.ownsRow.cellAt h0 i (by omega)]
    simp [cells32, hi]
theorem cloneR_any (a : Option Addr) (n c : Nat) (rs : List Int) (w : World) (hr : Runes w a n c rs) (hn : n ≤ 1048576) :
    Calls Tryf.prog 15 #[.slice a n c] w fun e w' => ∃ a' c', e = .returned (.slice a' n c') ∧ Runes w' a' n c' rs ∧ Below w.heap.size w w' := by
  have key : ∀ (e : Ending) (w' : World), (∃ v', e = .returned v' ∧ Own32 w.heap.size v' rs w' ∧ Below w.heap.size w w') → ∃ a' c', e = .returned (.slice a' n c') ∧ Runes w' a' n c' rs ∧ Below w.heap.size w w' := by
    rintro e w' ⟨v', rfl, ho, hb⟩
    obtain ⟨a', c', rfl, hR⟩ := own32_runes ho
    rw [hr.len] at hR ⊢
    exact ⟨a', c', rfl, hR, hb⟩
  cases a with
  | none =>
    obtain ⟨rfl, rfl⟩ := hr.nil rfl
    have e : rs = [] := List.length_eq_zero_iff.1 hr.len
    subst e
    exact (clone32_nil w).mono key
  | some x => exact (clone32_any x n c rs w hr.len (hr.src x rfl) hn).mono key
end Go.Proofs.YtncoodplmpgnbaaFmt
