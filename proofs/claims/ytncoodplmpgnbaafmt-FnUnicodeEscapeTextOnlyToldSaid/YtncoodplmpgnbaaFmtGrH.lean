/-
  The law's own width of a hex number by contract. No condition beyond the bounds.
-/
import Derived.Test.YtncoodplmpgnbaaFmtGrG
namespace Go.Proofs.YtncoodplmpgnbaaFmt
open Go.RowKit Go.Lib Go.Shelf Go.Proofs
set_option linter.unusedVariables false
set_option linter.unusedSimpArgs false

set_option maxRecDepth 20000 in
set_option maxHeartbeats 2000000 in
theorem hexWidth_any (v : Nat) (w : World) (hv : v < 16777216) :
    Calls Tryf.prog 20 #[.int .u32 (v : Int)] w fun e w' => (∃ n : Nat, e = .returned (.int .i64 (n : Int)) ∧ 1 ≤ n ∧ n ≤ 6 ∧ v < 16 ^ n) ∧ w = w' := by
  have hv' : (v : Int) ≤ 16777215 := by omega
  have hv0 : (0 : Int) ≤ (v : Int) := by omega
  go_enter Tryf.func20, Tryf.ntmps20
  go_wp2_with fail
  go_loopw [3] (fun nv wr => ∃ n : Nat, nv = .int .i64 n ∧ 1 ≤ n ∧ n ≤ 6 ∧ w = wr) (fun nv _ => 8 - (RowKit.intOf nv).toNat)
  case atStart => exact ⟨1, rfl, by omega, by omega, rfl⟩
  case round =>
    obtain ⟨n, rfl, h1, h6, rfl⟩ := hrel
    rcases (show n = 1 ∨ n = 2 ∨ n = 3 ∨ n = 4 ∨ n = 5 ∨ n = 6 by omega) with rfl | rfl | rfl | rfl | rfl | rfl
    · by_cases hz : v / 16 = 0
      · have hlt := hide (show v < 16 ^ 1 by have : (16 : Nat) ^ 1 = 16 := rfl; omega)
        have hz' : (v : Int) / 16 = 0 := by omega
        clear hz
        go_wp2
        go_ret
        exact ⟨⟨1, rfl, by decide, by decide, hlt.out⟩, rfl⟩
      · have hz' : ((v : Int) / 16 != 0) = true := by rw [bne_iff_ne]; omega
        clear hz
        go_wp2
        go_roundw
        case rel => exact ⟨2, by go_num, by decide, by decide, by first | rfl | trivial⟩
        case measure => simp [RowKit.intOf]
    · by_cases hz : v / 256 = 0
      · have hlt := hide (show v < 16 ^ 2 by have : (16 : Nat) ^ 2 = 256 := rfl; omega)
        have hz' : (v : Int) / 256 = 0 := by omega
        clear hz
        go_wp2
        go_ret
        exact ⟨⟨2, rfl, by decide, by decide, hlt.out⟩, rfl⟩
      · have hz' : ((v : Int) / 256 != 0) = true := by rw [bne_iff_ne]; omega
        clear hz
        go_wp2
        go_roundw
        case rel => exact ⟨3, by go_num, by decide, by decide, by first | rfl | trivial⟩
        case measure => simp [RowKit.intOf]
    · by_cases hz : v / 4096 = 0
      · have hlt := hide (show v < 16 ^ 3 by have : (16 : Nat) ^ 3 = 4096 := rfl; omega)
        have hz' : (v : Int) / 4096 = 0 := by omega
        clear hz
        go_wp2
        go_ret
        exact ⟨⟨3, rfl, by decide, by decide, hlt.out⟩, rfl⟩
      · have hz' : ((v : Int) / 4096 != 0) = true := by rw [bne_iff_ne]; omega
        clear hz
        go_wp2
        go_roundw
        case rel => exact ⟨4, by go_num, by decide, by decide, by first | rfl | trivial⟩
        case measure => simp [RowKit.intOf]
    · by_cases hz : v / 65536 = 0
      · have hlt := hide (show v < 16 ^ 4 by have : (16 : Nat) ^ 4 = 65536 := rfl; omega)
        have hz' : (v : Int) / 65536 = 0 := by omega
        clear hz
        go_wp2
        go_ret
        exact ⟨⟨4, rfl, by decide, by decide, hlt.out⟩, rfl⟩
      · have hz' : ((v : Int) / 65536 != 0) = true := by rw [bne_iff_ne]; omega
        clear hz
        go_wp2
        go_roundw
        case rel => exact ⟨5, by go_num, by decide, by decide, by first | rfl | trivial⟩
        case measure => simp [RowKit.intOf]
    · by_cases hz : v / 1048576 = 0
      · have hlt := hide (show v < 16 ^ 5 by have : (16 : Nat) ^ 5 = 1048576 := rfl; omega)
        have hz' : (v : Int) / 1048576 = 0 := by omega
        clear hz
        go_wp2
        go_ret
        exact ⟨⟨5, rfl, by decide, by decide, hlt.out⟩, rfl⟩
      · have hz' : ((v : Int) / 1048576 != 0) = true := by rw [bne_iff_ne]; omega
        clear hz
        go_wp2
        go_roundw
        case rel => exact ⟨6, by go_num, by decide, by decide, by first | rfl | trivial⟩
        case measure => simp [RowKit.intOf]
    · by_cases hz : v / 16777216 = 0
      · have hlt := hide (show v < 16 ^ 6 by have : (16 : Nat) ^ 6 = 16777216 := rfl; omega)
        have hz' : (v : Int) / 16777216 = 0 := by omega
        clear hz
        go_wp2
        go_ret
        exact ⟨⟨6, rfl, by decide, by decide, hlt.out⟩, rfl⟩
      · exfalso
        omega
end Go.Proofs.YtncoodplmpgnbaaFmt
