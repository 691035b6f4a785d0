/-
  The walk of the statement that a byte written in any of its forms is read back as that byte. Condition: utf8's two tables hold what their initialisers lay.
-/
import Derived.Test.YthpchfbjnhdcdaaFmtWalkTripA
namespace Go.Proofs.YthpchfbjnhdcdaaFmt
open Go.RowKit Go.Lib Go.Shelf Go.Proofs
set_option linter.unusedVariables false
set_option linter.unusedSimpArgs false

set_option maxRecDepth 20000 in
set_option maxHeartbeats 2000000 in
theorem law6_0 (b f : Nat) (up : Bool) (s : ByteArray) (w : World) (hs : s.size ≤ 1048576) (hb : b ≤ 255) (hf : f ≤ 255) (hT : TU w) (hm : f % 4 = 0) :
    Calls Tryf.prog 6 #[.int .u8 (b : Int), .int .u8 (f : Int), .bool up, .string s] w fun e w' => e = .returned (.bool true) ∧ Below w.heap.size w w' := by
  have Z := hide (zz15 b f up s w hs)
  have hs' : (s.size : Int) ≤ 1048576 := by omega
  have hb' : (b : Int) ≤ 255 := by omega
  have hb0 : (0 : Int) ≤ (b : Int) := by omega
  have hf' : (f : Int) ≤ 255 := by omega
  have hTh := hide hT
  have hmod : (f : Int).tmod 4 = 0 := by
    have : (f : Int) % 4 = 0 := by omega
    rw [Int.tmod_eq_emod_of_nonneg (by omega)]
    exact this
  have HX := hide (byteHex_any b up w hb)
  obtain ⟨E, hE⟩ : ∃ E, hexText ⟨#[92, if up then 88 else 120]⟩ b 2 up = E := ⟨_, rfl⟩
  have hEs : E.size = 4 := by rw [← hE]; unfold hexText; rw [size_app, bytes8_size, hexL_length]; rfl
  have HR := fun w hT => hide (read14 E s w b 4 hT (by rw [← hE]; cases up
                                                       · exact (by rw [show hexText ⟨#[92, if false then 88 else 120]⟩ b 2 false = bytes8 (92 :: 120 :: hexL b false 2) from bytes8_app [92, 120] _]; exact read_hex 120 b false s (.inr rfl) hb)
                                                       · exact (by rw [show hexText ⟨#[92, if true then 88 else 120]⟩ b 2 true = bytes8 (92 :: 88 :: hexL b true 2) from bytes8_app [92, 88] _]; exact read_hex 88 b true s (.inl rfl) hb)) hEs (by decide) (by decide) hs)
  rw [hE] at HX
  have hEs' : (E.size : Int) = 4 := by omega
  clear hE hEs
  clear hm hs
  clear hT
  go_enter Tryf.func6, Tryf.ntmps6
  go_wp2_with fail
  refine Z.out.mono ?_
  rintro e w' ⟨rfl, rfl⟩
  go_wp2_with fail
  refine HX.out.mono ?_
  rintro e w1 ⟨rfl, hb1⟩
  go_wp2_with fail
  refine (HR w1 (hTh.out.below hb1)).out.mono ?_
  rintro e w9 ⟨rfl, hb9⟩
  go_wp2
  go_ret
  exact ⟨by simp, hb1.trans (hb9.mono hb1.size)⟩

end Go.Proofs.YthpchfbjnhdcdaaFmt
