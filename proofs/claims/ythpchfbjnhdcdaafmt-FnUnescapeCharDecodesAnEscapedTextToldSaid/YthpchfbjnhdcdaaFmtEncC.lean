/-
  The law's own escaper by contract: hex text in as few digits as it needs. No condition beyond the bounds.
-/
import Derived.Test.YthpchfbjnhdcdaaFmtEncB
namespace Go.Proofs.YthpchfbjnhdcdaaFmt
open Go.RowKit Go.Lib Go.Shelf Go.Proofs
set_option linter.unusedVariables false
set_option linter.unusedSimpArgs false

set_option maxRecDepth 20000 in
set_option maxHeartbeats 1000000 in
theorem hexMin_any (v : Nat) (up : Bool) (w : World) (hv : v < 16777216) :
    Calls Tryf.prog 22 #[.int .u32 (v : Int), .bool up] w fun e w' => (∃ n, e = .returned (.string (bytes8 (hexL v up n))) ∧ 1 ≤ n ∧ n ≤ 6 ∧ v < 16 ^ n) ∧ Below w.heap.size w w' := by
  have hvh := hide hv
  have HF := fun n hn => hide (hexFixed_any v n up w hn (by omega))
  have e16 := hide (show v / 16 = v / 16 ^ 1 by rw [Nat.pow_one])
  clear hv
  go_enter Tryf.func22, Tryf.ntmps22
  go_wp2_with fail
  go_loopw [5, 6] (fun nv uv wr => ∃ n u : Nat, nv = .int .i64 n ∧ uv = .int .u32 u ∧ Hid (u = v / 16 ^ n) ∧ 1 ≤ n ∧ n ≤ 6 ∧ w = wr) (fun nv _ _ => 8 - (RowKit.intOf nv).toNat)
  case atStart => exact ⟨1, v / 16, rfl, by simp, hide (by rw [Nat.pow_one]), by omega, by omega, rfl⟩
  case round =>
    obtain ⟨n, u, rfl, rfl, hu, h1, h6, rfl⟩ := hrel
    by_cases hz : u = 0
    · have hlt := hide (show v < 16 ^ n by
        have h := hu.out
        rw [hz] at h
        exact (Nat.div_eq_zero_iff.1 h.symm).resolve_left (Nat.ne_of_gt (Nat.pow_pos (by decide))))
      have HX := HF n (by omega)
      subst hz
      clear hu
      go_wp2_with fail
      refine HX.out.mono ?_
      rintro e w1 ⟨rfl, hb1⟩
      go_wp2
      go_ret
      exact ⟨⟨n, rfl, h1, h6, hlt.out⟩, hb1⟩
    · have hz' : ((u : Int) != 0) = true := by simp; omega
      have hn6 : n + 1 ≤ 6 := by
        rcases Nat.lt_or_ge n 6 with h | h
        · omega
        · exfalso
          obtain rfl : n = 6 := by omega
          have := hu.out
          have h2 : v / 16 ^ 6 = 0 := Nat.div_eq_of_lt hvh.out
          omega
      have hu2 := hide (show u / 16 = v / 16 ^ (n + 1) by rw [hu.out, Nat.pow_succ, Nat.div_div_eq_div_mul])
      clear hz hu
      go_wp2
      go_roundw
      case rel => exact ⟨n + 1, u / 16, by go_num, by simp, hu2, by omega, hn6, by first | rfl | trivial⟩
      case measure => simp [RowKit.intOf]; omega
end Go.Proofs.YthpchfbjnhdcdaaFmt
