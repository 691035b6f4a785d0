/-
  unescapeChar by contract, the ways without loops. Condition: utf8's two tables hold what their initialisers lay.
-/
import Derived.Test.YtncoodplmpgnbaaFmtErr
import Derived.Test.YtncoodplmpgnbaaFmtSpec
namespace Go.Proofs.YtncoodplmpgnbaaFmt
open Go.RowKit Go.Lib Go.Shelf Go.Proofs
set_option linter.unusedVariables false
set_option linter.unusedSimpArgs false

theorem ret_t {k : IntKind} {a a' : Int} {b b' : Bool} (h1 : a = a') (h2 : b = b') : Ending.returned (.tuple #[.int k a, .bool b]) = .returned (.tuple #[.int k a', .bool b']) := by rw [h1, h2]
theorem ret_b {a b : Bool} (h : a = b) : Ending.returned (.bool a) = .returned (.bool b) := by rw [h]
theorem results_tmp4 {fn : Func} {t u v x : Tmp} (h : fn.results = #[.tmp t, .tmp u, .tmp v, .tmp x]) (tmps : Array Value) (P : Program) (w : World) :
    (results fn tmps).run P w = .ok (.tuple #[tmps.getD t undef, tmps.getD u undef, tmps.getD v undef, tmps.getD x undef]) w := by
  simp [results, h]

/-- utf8's two tables. -/
def TU (w : World) : Prop := Utf8Tabs 1 2 w
theorem TU.below {w w' : World} (h : TU w) (hb : Below w.heap.size w w') : TU w' := Utf8Tabs_below h hb

def hexV (b : Nat) : Nat := (hexD b).getD 0
theorem unhex_any (b : Nat) (w : World) (hb : b ≤ 255) :
    Calls Tryf.prog 40 #[.int .u8 (b : Int)] w fun e w' => e = .returned (.tuple #[.int .i32 (hexV b : Int), .bool (hexD b).isSome]) ∧ w = w' := by
  have hb' : (b : Int) ≤ 255 := by omega
  obtain ⟨H, hH⟩ : ∃ H, hexV b = H := ⟨_, rfl⟩
  obtain ⟨B, hB⟩ : ∃ B, (hexD b).isSome = B := ⟨_, rfl⟩
  have hh := hide (And.intro hH hB)
  rw [hH, hB]
  clear hH hB
  go_enter Tryf.func40, Tryf.ntmps40
  go_wp2
  all_goals
    go_ret2
    obtain ⟨h1, h2⟩ := hh.out
    unfold hexV at h1
    unfold hexD at h1 h2
    refine ⟨ret_t ?_ ?_, rfl⟩
    · repeat' split at h1
      all_goals (simp at h1; omega)
    · repeat' split at h2
      all_goals (first | (simp at h2; simp [← h2]; done) | (exfalso; omega))

/-- What a call of a reader hands back. -/
def UcRes (s : ByteArray) (r : Option (Int × Bool × Nat)) (e : Ending) : Prop :=
  match r with
  | some (v, mb, n) => e = .returned (.tuple #[.int .i32 v, .bool mb, .string (s.extract n s.size), .nilIface])
  | none => ∃ v mb t a, e = .returned (.tuple #[.int .i32 v, .bool mb, .string t, .iface 68 (.pointer (some a))])
theorem UcRes.ok {s : ByteArray} {r : Option (Int × Bool × Nat)} {v : Int} {mb : Bool} {n : Nat} (h : r = some (v, mb, n)) : UcRes s r (.returned (.tuple #[.int .i32 v, .bool mb, .string (s.extract n s.size), .nilIface])) := by
  rw [h]; rfl
theorem UcRes.bad {s : ByteArray} {r : Option (Int × Bool × Nat)} {v : Int} {mb : Bool} {t : ByteArray} {a : Addr} (h : r = none) : UcRes s r (.returned (.tuple #[.int .i32 v, .bool mb, .string t, .iface 68 (.pointer (some a))])) := by
  rw [h]; exact ⟨_, _, _, _, rfl⟩

theorem decodeGo_zero (s : ByteArray) (h : 0 < s.size) : decodeGo s = Utf8.decode s 0 := by
  unfold decodeGo
  rw [if_neg (by omega)]
theorem dec_fits (s : ByteArray) (h : 0 < s.size) : (Utf8.decode s 0).2 ≤ s.size := by
  rw [← decodeL_drop]
  have := decodeL_le (s.data.toList.drop 0) (fun e => by have h2 := congrArg List.length e; rw [List.length_drop, ← Lib.size_eq, List.length_nil] at h2; omega)
  rw [List.length_drop, ← Lib.size_eq] at this
  omega

set_option maxRecDepth 20000 in
set_option maxHeartbeats 1000000 in
theorem uc_high (s : ByteArray) (w : World) (hs0 : 0 < s.size) (hs : s.size ≤ 9223372036854775807) (hT : TU w) (h0 : 128 ≤ byteAt s 0) :
    Calls Tryf.prog 29 #[.string s] w fun e w' => UcRes s (unesc s) e ∧ Below w.heap.size w w' := by
  have HD := hide (Tryf.utf8_DecodeRuneInString s w hT)
  have hd := decodeGo_zero s hs0
  have hf := dec_fits s hs0
  rw [hd] at HD
  have hu : unesc s = some (((Utf8.decode s 0).1 : Int), true, (Utf8.decode s 0).2) := by unfold unesc; rw [if_pos h0]
  obtain ⟨R, hR⟩ : ∃ R, (Utf8.decode s 0).1 = R := ⟨_, rfl⟩
  obtain ⟨K, hK⟩ : ∃ K, (Utf8.decode s 0).2 = K := ⟨_, rfl⟩
  rw [hR, hK] at HD hu
  rw [hK] at hf
  have hu' := hide hu
  have g0 : ∀ h : 0 < s.size, ((s[0]'h).toNat : Int) = (byteAt s 0 : Int) := fun h => byteAt_get s 0 h
  have h0' : (128 : Int) ≤ (byteAt s 0 : Int) := by omega
  have hs0' : (0 : Int) < (s.size : Int) := by omega
  have hf' : (K : Int) ≤ (s.size : Int) := by omega
  have hk0 : (0 : Int) ≤ (K : Int) := by omega
  clear hd hu hR hK
  go_enter Tryf.func29, Tryf.ntmps29
  go_wp2_with fail
  refine HD.out.mono ?_
  rintro e w1 ⟨rfl, hb1⟩
  go_wp2_with fail
  go_region
  all_goals (try go_wp2)
  all_goals
    refine bodyPost_ret (results_tmp4 rfl _ _ _) rfl ?_
    exact ⟨UcRes.ok hu'.out, by first | exact hb1 | exact hb1.drew | exact (hb1.drew).drew⟩
end Go.Proofs.YtncoodplmpgnbaaFmt
