/-
  The law's own grammar by contract: a run of hex digits and its number. No condition beyond the bounds.
-/
import Derived.Test.YthpchfbjnhdcdaaFmtGramA
namespace Go.Proofs.YthpchfbjnhdcdaaFmt
open Go.RowKit Go.Lib Go.Shelf Go.Proofs
set_option linter.unusedVariables false
set_option linter.unusedSimpArgs false

/-- k is how many hex digits stand from place i on, at most seven. -/
structure IsRun (s : ByteArray) (i k : Nat) : Prop where
  le : k ≤ 7
  fits : i + k ≤ s.size
  dig : ∀ j, j < k → (hexD (byteAt s (i + j))).isSome = true
  stop : k < 7 → i + k < s.size → hexD (byteAt s (i + k)) = none
set_option maxRecDepth 20000 in
set_option maxHeartbeats 1000000 in
theorem hexRun_any (s : ByteArray) (i : Nat) (w : World) (hi : i ≤ s.size) (hs : s.size ≤ 1048576) :
    Calls Tryf.prog 28 #[.string s, .int .i64 (i : Int)] w fun e w' => (∃ k : Nat, e = .returned (.int .i64 (k : Int)) ∧ IsRun s i k) ∧ w = w' := by
  have hs' : (s.size : Int) ≤ 1048576 := by omega
  have hi' : (i : Int) ≤ (s.size : Int) := by omega
  have hi0 : (0 : Int) ≤ (i : Int) := by omega
  go_enter Tryf.func28, Tryf.ntmps28
  go_wp2_with fail
  go_loopw [5] (fun kv wr => ∃ k : Nat, kv = .int .i64 k ∧ k ≤ 7 ∧ i + k ≤ s.size ∧ Hid (∀ j, j < k → (hexD (byteAt s (i + j))).isSome = true) ∧ w = wr) (fun kv _ => 8 - (RowKit.intOf kv).toNat)
  case atStart => exact ⟨0, rfl, by omega, by omega, hide (fun j hj => by omega), rfl⟩
  case round =>
    obtain ⟨k, rfl, h7, hf, hd, rfl⟩ := hrel
    have hk0 : (0 : Int) ≤ (k : Int) := by omega
    have hk7 : (k : Int) ≤ 7 := by omega
    have hfi : (i : Int) + (k : Int) ≤ (s.size : Int) := by omega
    by_cases h1 : i + k < s.size
    · have h1' : (i : Int) + (k : Int) < (s.size : Int) := by omega
      by_cases h2 : k < 7
      · have h2' : (k : Int) < 7 := by omega
        have gk : ∀ h : i + k < s.size, ((s[i + k]'h).toNat : Int) = (byteAt s (i + k) : Int) := fun h => byteAt_get s (i + k) h
        have HX := hide (isHex_any (byteAt s (i + k)) w (byteAt_le s (i + k)))
        rcases hx : hexD (byteAt s (i + k)) with _ | d
        · rw [hx] at HX
          have hx' := hide hx
          have hX2 := hide (show Calls Tryf.prog 27 #[.int .u8 (byteAt s (i + k) : Int)] w fun e w' => e = .returned (.bool false) ∧ w = w' from HX.out)
          clear hx h1 h2 HX
          go_wp2_with fail
          refine hX2.out.mono ?_
          rintro e w' ⟨rfl, rfl⟩
          go_wp2
          go_ret
          exact ⟨⟨k, rfl, ⟨h7, hf, hd.out, fun _ _ => hx'.out⟩⟩, rfl⟩
        · rw [hx] at HX
          have hx' := hide hx
          have hX2 := hide (show Calls Tryf.prog 27 #[.int .u8 (byteAt s (i + k) : Int)] w fun e w' => e = .returned (.bool true) ∧ w = w' from HX.out)
          have hd2 := hide (show ∀ j, j < k + 1 → (hexD (byteAt s (i + j))).isSome = true by
            intro j hj
            by_cases e : j = k
            · subst e; rw [hx]; rfl
            · exact hd.out j (by omega))
          clear hx HX
          go_wp2_with fail
          refine hX2.out.mono ?_
          rintro e w' ⟨rfl, rfl⟩
          go_wp2
          go_roundw
          case rel => exact ⟨k + 1, by go_num, by omega, by omega, hd2, by first | rfl | trivial⟩
          case measure => simp [RowKit.intOf]; omega
      · have h2' : ¬ (k : Int) < 7 := by omega
        go_wp2
        go_ret
        exact ⟨⟨k, rfl, ⟨h7, hf, hd.out, fun h => absurd h h2⟩⟩, rfl⟩
    · have h1' : ¬ (i : Int) + (k : Int) < (s.size : Int) := by omega
      go_wp2
      go_ret
      exact ⟨⟨k, rfl, ⟨h7, hf, hd.out, fun _ h => absurd h h1⟩⟩, rfl⟩

theorem hexN_run (s : ByteArray) (i k : Nat) (h : ∀ j, j < k → (hexD (byteAt s (i + j))).isSome = true) : ∀ j, j ≤ k → ∃ v, hexN s i j = some v := by
  intro j
  induction j with
  | zero => intro _; exact ⟨0, rfl⟩
  | succ j ih =>
    intro hj
    obtain ⟨v, hv⟩ := ih (by omega)
    obtain ⟨d, hd⟩ := Option.isSome_iff_exists.1 (h j (by omega))
    exact ⟨_, hexN_succ_some hv hd⟩
theorem hexN_some_dig (s : ByteArray) (i : Nat) : ∀ (n v : Nat), hexN s i n = some v → ∀ j, j < n → ∃ u d, hexN s i j = some u ∧ hexD (byteAt s (i + j)) = some d ∧ hexN s i (j + 1) = some (u * 16 + d)
  | 0, v, h, j, hj => by omega
  | n + 1, v, h, j, hj => by
    unfold hexN at h
    split at h
    · rename_i a d ha hd
      by_cases e : j = n
      · subst e
        exact ⟨a, d, ha, hd, hexN_succ_some ha hd⟩
      · exact hexN_some_dig s i n a ha j (by omega)
    · cases h
theorem u32_or (V d : Nat) (h : V < 268435456) (hd : d < 16) : bits .or .u32 ((V * 16 : Nat) : Int) (d : Int) = ((V * 16 + d : Nat) : Int) := by
  show IntKind.u32.wrap ((BitVec.ofInt 32 ((V * 16 : Nat) : Int) ||| BitVec.ofInt 32 (d : Int)).toNat : Int) = _
  have e : (BitVec.ofInt 32 ((V * 16 : Nat) : Int)).toNat = V * 16 := by rw [BitVec.toNat_ofInt]; omega
  have e2 : (BitVec.ofInt 32 (d : Int)).toNat = d := by rw [BitVec.toNat_ofInt]; omega
  rw [BitVec.toNat_or, e, e2, nat_join 4 (V * 16) d (by omega) (by omega), IntKind.wrap_u32]
  omega
theorem hexN_lt8 {s : ByteArray} {i j u : Nat} (h : hexN s i j = some u) (hj : j ≤ 7) : u < 268435456 := by
  have h1 := hexN_lt h
  have h2 : 16 ^ j ≤ 16 ^ 7 := Nat.pow_le_pow_right (by decide) hj
  omega
set_option maxRecDepth 20000 in
set_option maxHeartbeats 1000000 in
theorem hexVal_any (s : ByteArray) (i n v : Nat) (w : World) (hi : i + n ≤ s.size) (hn : n ≤ 8) (hs : s.size ≤ 1048576) (hv : hexN s i n = some v) :
    Calls Tryf.prog 29 #[.string s, .int .i64 (i : Int), .int .i64 (n : Int)] w fun e w' => e = .returned (.int .u32 (v : Int)) ∧ w = w' := by
  have hs' : (s.size : Int) ≤ 1048576 := by omega
  have hi' : (i : Int) + (n : Int) ≤ (s.size : Int) := by omega
  have hi0 : (0 : Int) ≤ (i : Int) := by omega
  have hn8 : (n : Int) ≤ 8 := by omega
  have hvh := hide hv
  have hdig := hide (hexN_some_dig s i n v hv)
  clear hv
  go_enter Tryf.func29, Tryf.ntmps29
  go_wp2_with fail
  go_loopw [7, 8] (fun vv jv wr => ∃ j u : Nat, vv = .int .u32 u ∧ jv = .int .i64 j ∧ j ≤ n ∧ Hid (hexN s i j = some u) ∧ w = wr) (fun _ jv _ => n - (RowKit.intOf jv).toNat)
  case atStart => exact ⟨0, 0, rfl, rfl, by omega, hide rfl, rfl⟩
  case round =>
    obtain ⟨j, u, rfl, rfl, hj, hu, rfl⟩ := hrel
    have hj0 : (0 : Int) ≤ (j : Int) := by omega
    by_cases h1 : j < n
    · obtain ⟨u2, d, hu2, hd, hu3⟩ := hdig.out j h1
      obtain rfl : u2 = u := Option.some.inj (hu2.symm.trans hu.out)
      have hlt := hexN_lt8 hu2 (by omega)
      have hd16 := hexD_lt hd
      have hor := u32_or u2 d hlt hd16
      have hw : ((u2 * 16 : Nat) : Int) = (u2 : Int) * 16 := by omega
      have hw2 : ((u2 * 16 + d : Nat) : Int) = (u2 : Int) * 16 + (d : Int) := by omega
      rw [hw] at hor
      have hub : (u2 : Int) ≤ 268435455 := by omega
      have h1' : (j : Int) < (n : Int) := by omega
      have h1s : (i : Int) + (j : Int) < (s.size : Int) := by omega
      have gk : ∀ h : i + j < s.size, ((s[i + j]'h).toNat : Int) = (byteAt s (i + j) : Int) := fun h => byteAt_get s (i + j) h
      have HX := hide (show Calls Tryf.prog 35 #[.int .u8 (byteAt s (i + j) : Int)] w fun e w' => e = .returned (.int .u32 (d : Int)) ∧ w = w' by
        have h := hexOf_any (byteAt s (i + j)) w (byteAt_le s (i + j))
        unfold hexV at h
        rw [hd] at h
        exact h)
      have hu3' := hide hu3
      clear hu2 hd hu3 hlt hd16 hw hw2
      go_wp2_with fail
      refine HX.out.mono ?_
      rintro e w' ⟨rfl, rfl⟩
      go_wp2
      go_roundw
      case rel => exact ⟨j + 1, u2 * 16 + d, by simp, by go_num, by omega, hu3', by first | rfl | trivial⟩
      case measure => simp [RowKit.intOf]; omega
    · obtain rfl : j = n := by omega
      obtain rfl : u = v := Option.some.inj (hu.out.symm.trans hvh.out)
      go_wp2
      go_ret
      exact ⟨rfl, rfl⟩
end Go.Proofs.YthpchfbjnhdcdaaFmt
