/-
  The law's own escaper by contract: hex digits and runs of them. No condition beyond the bounds.
-/
import Derived.Test.YthpchfbjnhdcdaaFmtUc
import Derived.OwnWalk
import Derived.Laws.IdiomStrings
namespace Go.Proofs.YthpchfbjnhdcdaaFmt
open Go.RowKit Go.Lib Go.Shelf Go.Proofs
set_option linter.unusedVariables false
set_option linter.unusedSimpArgs false

theorem und29 : Tryf.prog.underlying 29 = some (.slice 5) := by kernel_rfl
theorem info5 : (Tryf.prog.info? 5).map (fun i => (i.zero, i.size, i.bytes)) = some (some (.int .u8 0), 1, 1) := by kernel_rfl

def hexC (d : Nat) (up : Bool) : Nat := if d < 10 then 48 + d else if up then 55 + d else 87 + d
theorem hexC_tab : ∀ (d : Fin 16) (up : Bool), hexD (hexC d.val up) = some d.val ∧ hexC d.val up < 128 ∧ hexC d.val up ≠ 125 ∧ hexC d.val up ≠ 123 := by decide +kernel
theorem hexD_hexC {d : Nat} (h : d < 16) (up : Bool) : hexD (hexC d up) = some d := (hexC_tab ⟨d, h⟩ up).1
theorem hexC_lt {d : Nat} (h : d < 16) (up : Bool) : hexC d up < 128 := (hexC_tab ⟨d, h⟩ up).2.1
/-- The last k hex digits of v, the greatest first. -/
def hexL (v : Nat) (up : Bool) : Nat → List Nat
  | 0 => []
  | k + 1 => hexC (v / 16 ^ k % 16) up :: hexL v up k
theorem hexL_length (v : Nat) (up : Bool) : ∀ k, (hexL v up k).length = k
  | 0 => rfl
  | k + 1 => by simp [hexL, hexL_length v up k]
theorem hexL_lt (v : Nat) (up : Bool) : ∀ k, ∀ x ∈ hexL v up k, x < 256
  | 0, x, h => by cases h
  | k + 1, x, h => by
    rcases List.mem_cons.1 h with rfl | h
    · have := hexC_lt (d := v / 16 ^ k % 16) (Nat.mod_lt _ (by decide)) up
      omega
    · exact hexL_lt v up k x h
def cells8 (l : List Nat) : List Value := l.map fun (x : Nat) => Value.int .u8 (x : Int)
def bytes8 (l : List Nat) : ByteArray := ⟨(l.map fun x => x.toUInt8).toArray⟩
theorem bytes8_size (l : List Nat) : (bytes8 l).size = l.length := by
  show (l.map fun x => x.toUInt8).toArray.size = l.length
  simp
theorem bytes8_at (l : List Nat) (hl : ∀ x ∈ l, x < 256) (k : Nat) (h : k < l.length) : byteAt (bytes8 l) k = l.getD k 0 := by
  have h1 : l[k] < 256 := hl _ (List.getElem_mem h)
  simp [byteAt, bytes8, List.getD, h]
  omega
theorem own_conv {w : World} {base n cap g : Nat} (l : List Nat) (hl : ∀ x ∈ l, x < 256) (hn : l.length = n) (h : w.ownsRow base 5 1 (.slice (some ⟨g, 0, none⟩) n cap) n (cells8 l)) :
    (convert 29 9 (.slice (some ⟨g, 0, none⟩) n cap)).run Tryf.prog w = .ok (.string (bytes8 l)) w := by
  subst hn
  have hr := run_convert_bytes_back (P := Tryf.prog) w 29 9 5 ⟨g, 0, none⟩ cap (l.map fun x => x.toUInt8) Tryf.underlying29 Tryf.underlying5 Tryf.underlying9 (fun j hj => by
    have hj' : j < l.length := by simpa using hj
    have ha : (⟨g, 0, none⟩ : Addr).add j = ⟨g, j, none⟩ := by unfold Addr.add; split <;> simp_all
    have h1 : l[j] < 256 := hl _ (List.getElem_mem hj')
    rw [ha, h.cellAt j (by omega)]
    simp [cells8, hj']
    omega)
  simpa [bytes8] using hr

theorem hexDigit_any (x : Int) (d : Nat) (up : Bool) (w : World) (hx : x = (d : Int)) (h : d < 16) :
    Calls Tryf.prog 31 #[.int .u32 x, .bool up] w fun e w' => e = .returned (.int .u8 (hexC d up : Int)) ∧ w = w' := by
  subst hx
  have h1 : (d : Int) ≤ 15 := by omega
  have h0 : (0 : Int) ≤ (d : Int) := by omega
  by_cases hd : d < 10
  · have hd' : (d : Int) ≤ 9 := by omega
    have hc := hide (show (hexC d up : Int) = 48 + (d : Int) by unfold hexC; rw [if_pos hd]; omega)
    rw [hc.out]
    clear h hd
    go_enter Tryf.func31, Tryf.ntmps31
    go_wp2
    go_ret
    exact ⟨rfl, rfl⟩
  · have hd' : (10 : Int) ≤ (d : Int) := by omega
    cases up
    · have hc := hide (show (hexC d false : Int) = 97 + ((d : Int) - 10) by unfold hexC; rw [if_neg hd]; simp; omega)
      rw [hc.out]
      clear h hd
      go_enter Tryf.func31, Tryf.ntmps31
      go_wp2
      go_ret
      exact ⟨rfl, rfl⟩
    · have hc := hide (show (hexC d true : Int) = 65 + ((d : Int) - 10) by unfold hexC; rw [if_neg hd]; simp; omega)
      rw [hc.out]
      clear h hd
      go_enter Tryf.func31, Tryf.ntmps31
      go_wp2
      go_ret
      exact ⟨rfl, rfl⟩
theorem u32_and15 (u : Nat) (h : u < 4294967296) : bits .and .u32 (u : Int) 15 = ((u % 16 : Nat) : Int) := by
  show IntKind.u32.wrap ((BitVec.ofInt 32 (u : Int) &&& BitVec.ofInt 32 15).toNat : Int) = _
  have e : (BitVec.ofInt 32 (u : Int)).toNat = u := by rw [BitVec.toNat_ofInt]; omega
  have e2 : (BitVec.ofInt 32 15).toNat = 15 := by decide
  rw [BitVec.toNat_and, e, e2, show (15 : Nat) = 2 ^ 4 - 1 from rfl, Nat.and_two_pow_sub_one_eq_mod, IntKind.wrap_u32]
  omega
theorem row_set (v : Nat) (up : Bool) (n k : Nat) (h : k < n) (u : Value) (hu : u = .int .u8 (hexC (v / 16 ^ k % 16) up : Int)) :
    (List.replicate (n - k) (Value.int .u8 0) ++ cells8 (hexL v up k)).set (n - 1 - k) u = List.replicate (n - (k + 1)) (Value.int .u8 0) ++ cells8 (hexL v up (k + 1)) := by
  subst hu
  have e : n - k = (n - (k + 1)) + 1 := by omega
  rw [e, List.replicate_succ', List.append_assoc]
  have e2 : n - 1 - k = (List.replicate (n - (k + 1)) (Value.int .u8 0)).length + 0 := by simp; omega
  rw [e2, List.set_append_right _ _ (by omega)]
  simp [hexL, cells8]

theorem made1 (n : Nat) : (madeCells (Value.int .u8 0).cells (n * 1)).toList = List.replicate n (Value.int .u8 0) := by
  apply List.ext_getElem?
  intro i
  by_cases h : i < n
  · simp [madeCells, Value.cells, h, Nat.mod_one]
  · simp [madeCells, Value.cells, h]
set_option maxRecDepth 20000 in
set_option maxHeartbeats 1000000 in
theorem hexFixed_any (v n : Nat) (up : Bool) (w : World) (hn : n ≤ 8) (hv : v < 4294967296) :
    Calls Tryf.prog 23 #[.int .u32 (v : Int), .int .i64 (n : Int), .bool up] w fun e w' => e = .returned (.string (bytes8 (hexL v up n))) ∧ Below w.heap.size w w' := by
  have hn' : (n : Int) ≤ 8 := by omega
  have hn0 : (0 : Int) ≤ (n : Int) := by omega
  obtain ⟨i0, hi, hz0, hz1, hz2⟩ := info_parts info5
  have hvh := hide hv
  clear hv
  go_enter Tryf.func23, Tryf.ntmps23
  go_wp2_with (at_make; refine wpList_make_full _ rfl _ _ 29 rfl w.heap.size 5 i0 (.int .u8 0) 1 und29 hi hz0 hz1 .i64 .i64 _ _ n rfl rfl rfl rfl (by rw [hz2]; omega) (by unfold maxLen; omega) (Nat.le_refl _) ?_; intro w2 hown2 hg2)
  have hbw2 : Below w.heap.size w w2 := (Below.refl _ _).grown hg2 (Nat.le_refl _) (fun k hk => by cases hk)
  have hown2' := hide (show w2.ownsRow w.heap.size 5 1 _ n (List.replicate (n - 0) (Value.int .u8 0) ++ cells8 (hexL v up 0)) by rw [made1] at hown2; simpa [cells8, hexL] using hown2)
  clear hown2 hg2
  go_loopw [0, 8] (fun vv iv wr => ∃ (k : Nat) (z : Int), vv = .int .u32 ((v / 16 ^ k : Nat) : Int) ∧ iv = .int .i64 z ∧ z + 1 + (k : Int) = (n : Int) ∧ k ≤ n ∧ Hid (wr.ownsRow w.heap.size 5 1 (.slice (some ⟨w.heap.size, 0, none⟩) n n) n (List.replicate (n - k) (Value.int .u8 0) ++ cells8 (hexL v up k))) ∧ Below w.heap.size w wr) (fun _ iv _ => (RowKit.intOf iv + 1).toNat)
  case atStart => exact ⟨0, _, by simp, rfl, by omega, by omega, hown2', hbw2⟩
  case round =>
    clear hown2' hbw2
    obtain ⟨k, z, rfl, rfl, hz, hk, hown, hbw⟩ := hrel
    by_cases hkn : k < n
    · obtain ⟨i, rfl⟩ : ∃ i : Nat, z = (i : Int) := ⟨n - 1 - k, by omega⟩
      have hi0' : (0 : Int) ≤ (i : Int) := by omega
      have hin : (i : Int) < (n : Int) := by omega
      have hii : i = n - 1 - k := by omega
      have hu1 := hide (show v / 16 ^ (k + 1) = v / 16 ^ k / 16 by rw [Nat.pow_succ, Nat.div_div_eq_div_mul])
      have hset := fun x hx => hide (row_set v up n k hkn x hx)
      rw [← hii] at hset
      have hlen : i < n * 1 := by omega
      have hce := (hown.out.cellAt i hlen)
      obtain ⟨cv, hcv⟩ : ∃ cv, (List.replicate (n - k) (Value.int .u8 0) ++ cells8 (hexL v up k))[i]? = some cv := by
        have : i < (List.replicate (n - k) (Value.int .u8 0) ++ cells8 (hexL v up k)).length := by simp; omega
        exact ⟨_, List.getElem?_eq_getElem this⟩
      rw [hcv] at hce
      have hfz := hown.out.frozenAt i
      obtain ⟨u, hu⟩ : ∃ u, v / 16 ^ k = u := ⟨_, rfl⟩
      have hult := hide (show u < 4294967296 by have := Nat.div_le_self v (16 ^ k); have := hvh.out; omega)
      rw [hu] at hset hu1 ⊢
      have hand := u32_and15 u hult.out
      clear hu hcv hlen hii hkn
      go_wp2_with (first | (go_at_call 31; refine (hexDigit_any _ (u % 16) up _ (by omega) (Nat.mod_lt _ (by decide))).mono ?_; rintro e w' ⟨rfl, rfl⟩))
      go_roundw
      case rel =>
        have hst := hown.out.stored i (.int .u8 (hexC (u % 16) up : Int))
        refine ⟨k + 1, _, ?_, rfl, by omega, by omega, hide ?_, hbw.grown hst.2 hbw.size (fun k hk => by cases hk; exact Nat.le_refl _)⟩
        · rw [hu1.out]; rfl
        · have h1 := hst.1
          rw [(hset _ rfl).out] at h1
          exact h1
      case measure => simp [RowKit.intOf]
    · obtain rfl : z = -1 := by omega
      obtain rfl : k = n := by omega
      have hcv := own_conv (hexL v up k) (hexL_lt v up k) (hexL_length v up k) (by have h1 := hown.out; simpa using h1)
      clear hown hkn
      go_wp2
      go_ret
      exact ⟨rfl, hbw⟩
end Go.Proofs.YthpchfbjnhdcdaaFmt
