/-
  unescapeBytes by contract. Condition: utf8's two tables hold what their initialisers lay.
-/
import Derived.Test.YtncoodplmpgnbaaFmtUneA
namespace Go.Proofs.YtncoodplmpgnbaaFmt
open Go.RowKit Go.Lib Go.Shelf Go.Proofs
set_option linter.unusedVariables false
set_option linter.unusedSimpArgs false

set_option maxRecDepth 20000 in
set_option maxHeartbeats 4000000 in
theorem uneb_short (s : ByteArray) (w : World) (hs : s.size ≤ 1048600) (hT : TU w) (z : ByteArray) (hz : bytesB (nlL s.data.toList) = z) (hq : z.size < 2) :
    Calls Tryf.prog 22 #[.string s] w fun e w' => UnRes (unText unescB z) e ∧ Below w.heap.size w w' := by
  have HN := hide (nl_any s w (by omega))
  have hzl : z.size ≤ 1048600 := by
    have h := nl_len _ s.data.toList (Nat.le_refl _)
    rw [← hz, bytesB_size]
    rw [len_data] at h
    omega
  have hzli : (z.size : Int) ≤ 1048600 := by omega
  have hTh := hide hT
  rw [hz] at HN
  clear hT hz hs
  have hu := hide (show unText unescB z = none by unfold unText; rw [if_neg (by unfold quotedB; omega)])
  have hq' : (z.size : Int) < 2 := by omega
  clear hq
  go_enter Tryf.func22, Tryf.ntmps22
  go_wp2_with fail
  refine HN.out.mono ?_
  rintro e w1 ⟨rfl, hb1⟩
  go_wp2_with fail
  refine (errorf_any _ (by decide +kernel) _).mono ?_
  rintro e w2 ⟨a, rfl, hb2⟩
  have hbb := hide (hb1.trans (hb2.mono hb1.size))
  go_wp2
  go_ret2
  exact ⟨UnRes.bad hu.out, hbb.out⟩

set_option maxRecDepth 20000 in
set_option maxHeartbeats 4000000 in
theorem uneb_differ (s : ByteArray) (w : World) (hs : s.size ≤ 1048600) (hT : TU w) (z : ByteArray) (hz : bytesB (nlL s.data.toList) = z) (hq : 2 ≤ z.size ∧ byteAt z 0 ≠ byteAt z (z.size - 1)) :
    Calls Tryf.prog 22 #[.string s] w fun e w' => UnRes (unText unescB z) e ∧ Below w.heap.size w w' := by
  have HN := hide (nl_any s w (by omega))
  have hzl : z.size ≤ 1048600 := by
    have h := nl_len _ s.data.toList (Nat.le_refl _)
    rw [← hz, bytesB_size]
    rw [len_data] at h
    omega
  have hzli : (z.size : Int) ≤ 1048600 := by omega
  have hTh := hide hT
  rw [hz] at HN
  clear hT hz hs
  have hu := hide (show unText unescB z = none by unfold unText; rw [if_neg (by unfold quotedB; omega)])
  have g0 : ∀ h : 0 < z.size, ((z[0]'h).toNat : Int) = (byteAt z 0 : Int) := fun h => byteAt_get z 0 h
  have gn : ∀ h : z.size - 1 < z.size, ((z[z.size - 1]'h).toNat : Int) = (byteAt z (z.size - 1) : Int) := fun h => byteAt_get z (z.size - 1) h
  have hq2 : (2 : Int) ≤ (z.size : Int) := by omega
  have hq2n := hq.1
  have k0 : ((byteAt z 0 : Int) != (byteAt z (z.size - 1) : Int)) = true := by have := hq.2; simp; omega
  clear hq
  go_enter Tryf.func22, Tryf.ntmps22
  go_wp2_with fail
  refine HN.out.mono ?_
  rintro e w1 ⟨rfl, hb1⟩
  go_wp2_with fail
  go_quiet (fail)
  go_wp2_with fail
  refine (errorf_any _ (by decide +kernel) _).mono ?_
  rintro e w2 ⟨a, rfl, hb2⟩
  have hbb := hide ((below_drewN' hb1 _).trans (hb2.mono (below_drewN' hb1 _).size))
  go_wp2
  go_ret2
  exact ⟨UnRes.bad hu.out, hbb.out⟩

set_option maxRecDepth 20000 in
set_option maxHeartbeats 4000000 in
theorem uneb_plain (s : ByteArray) (w : World) (hs : s.size ≤ 1048600) (hT : TU w) (z : ByteArray) (hz : bytesB (nlL s.data.toList) = z) (hq : 2 ≤ z.size ∧ byteAt z 0 = byteAt z (z.size - 1) ∧ byteAt z 0 ≠ 34 ∧ byteAt z 0 ≠ 39) :
    Calls Tryf.prog 22 #[.string s] w fun e w' => UnRes (unText unescB z) e ∧ Below w.heap.size w w' := by
  have HN := hide (nl_any s w (by omega))
  have hzl : z.size ≤ 1048600 := by
    have h := nl_len _ s.data.toList (Nat.le_refl _)
    rw [← hz, bytesB_size]
    rw [len_data] at h
    omega
  have hzli : (z.size : Int) ≤ 1048600 := by omega
  have hTh := hide hT
  rw [hz] at HN
  clear hT hz hs
  have hu := hide (show unText unescB z = none by unfold unText; rw [if_neg (by unfold quotedB; omega)])
  have g0 : ∀ h : 0 < z.size, ((z[0]'h).toNat : Int) = (byteAt z 0 : Int) := fun h => byteAt_get z 0 h
  have gn : ∀ h : z.size - 1 < z.size, ((z[z.size - 1]'h).toNat : Int) = (byteAt z (z.size - 1) : Int) := fun h => byteAt_get z (z.size - 1) h
  have hq2 : (2 : Int) ≤ (z.size : Int) := by omega
  have hq2n := hq.1
  have k0 : ((byteAt z 0 : Int) != (byteAt z (z.size - 1) : Int)) = false := by have := hq.2.1; simp; omega
  have k1 : ((byteAt z 0 : Int) != 34) = true := by have := hq.2.2.1; simp; omega
  have k2 : ((byteAt z 0 : Int) != 39) = true := by have := hq.2.2.2; simp; omega
  clear hq
  go_enter Tryf.func22, Tryf.ntmps22
  go_wp2_with fail
  refine HN.out.mono ?_
  rintro e w1 ⟨rfl, hb1⟩
  go_wp2_with fail
  go_quiet (fail)
  go_wp2_with fail
  refine (errorf_any _ (by decide +kernel) _).mono ?_
  rintro e w2 ⟨a, rfl, hb2⟩
  have hbb := hide ((below_drewN' hb1 _).trans (hb2.mono (below_drewN' hb1 _).size))
  go_wp2
  go_ret2
  exact ⟨UnRes.bad hu.out, hbb.out⟩

set_option maxRecDepth 20000 in
set_option maxHeartbeats 4000000 in
theorem uneb_dq (s : ByteArray) (w : World) (hs : s.size ≤ 1048600) (hT : TU w) (z : ByteArray) (hz : bytesB (nlL s.data.toList) = z) (hq : 2 ≤ z.size ∧ byteAt z 0 = byteAt z (z.size - 1) ∧ byteAt z 0 = 34) :
    Calls Tryf.prog 22 #[.string s] w fun e w' => UnRes (unText unescB z) e ∧ Below w.heap.size w w' := by
  have HN := hide (nl_any s w (by omega))
  have hzl : z.size ≤ 1048600 := by
    have h := nl_len _ s.data.toList (Nat.le_refl _)
    rw [← hz, bytesB_size]
    rw [len_data] at h
    omega
  have hzli : (z.size : Int) ≤ 1048600 := by omega
  have hTh := hide hT
  rw [hz] at HN
  clear hT hz hs
  have hu := hide (show unText unescB z = unAll unescB (z.extract 1 (z.size - 1)).size (z.extract 1 (z.size - 1)) by unfold unText; rw [if_pos (by unfold quotedB; omega)])
  have g0 : ∀ h : 0 < z.size, ((z[0]'h).toNat : Int) = (byteAt z 0 : Int) := fun h => byteAt_get z 0 h
  have gn : ∀ h : z.size - 1 < z.size, ((z[z.size - 1]'h).toNat : Int) = (byteAt z (z.size - 1) : Int) := fun h => byteAt_get z (z.size - 1) h
  have hq2 : (2 : Int) ≤ (z.size : Int) := by omega
  have hq2n := hq.1
  have k0 : ((byteAt z 0 : Int) != (byteAt z (z.size - 1) : Int)) = false := by have := hq.2.1; simp; omega
  have k1 : ((byteAt z 0 : Int) != 34) = false := by have := hq.2.2; simp; omega
  clear hq
  go_enter Tryf.func22, Tryf.ntmps22
  go_wp2_with fail
  refine HN.out.mono ?_
  rintro e w1 ⟨rfl, hb1⟩
  go_wp2_with fail
  go_quiet (fail)
  have hb1' := hide (below_drewN' hb1 nq)
  have hT1 := hide (hTh.out.below hb1'.out)
  have hsz1 : w.heap.size ≤ (w1.drewN nq).heap.size := hb1'.out.size
  clear hb1
  generalize w1.drewN nq = W1 at *
  clear hzl
  go_upto_region 10 with fail
  obtain ⟨M, hM⟩ : ∃ M : Int, M = 9223372036854775807 := ⟨_, rfl⟩
  rw [← hM]
  have hge : 3 * (z.size : Int) / 2 < M := by omega
  clear hM
  go_wp2_with fail
  have hTm0 := hide (tmp_new W1 (.cells #[.pointer none, .slice none 0 0] 51))
  refine (b_grow' (W1.heap.size + 1) (W1.heap.size + 1) _ _ (Nat.le_refl _) (bld_new _ _) (by simp) (by omega) (by omega)).mono ?_
  rintro e W2 ⟨rfl, hB2, hb2⟩
  generalize hs00 : z.extract 1 (z.size - 1) = s0 at *
  have hzs : s0.size ≤ 1048600 := by rw [← hs00]; simp; omega
  have hU0 := hide (start_at unescB s0 w W1 W2 _ _ hB2 hTm0.out hb1'.out hb2)
  have hzs0 := hide hzs
  clear hB2 hb2 hTm0 g0 gn k0 k1 hT1 hb1' hs00 hzs
  go_wp2_with fail
  go_loopw [0] (fun tv wr => ∃ (t : ByteArray) (acc : List UInt8) (n : Nat), tv = .string t ∧ Hid (UnAt unescB s0 t acc n (W1.heap.size + 1) W1.heap.size w wr)) (fun tv _ => strLen tv)
  case atStart => exact ⟨s0, [], s0.size, rfl, hU0⟩
  case round =>
    clear hU0
    obtain ⟨t, acc, n, rfl, hU⟩ := hrel
    have hrm := hU.out.room
    have hzs := hzs0.out
    have ht1 : (t.size : Int) ≤ 1048600 := by omega
    have hal : acc.length ≤ 4194400 := by omega
    have hlb := Nat.le_of_lt hU.out.bld.lt
    by_cases ht : t.size = 0
    · have HS := hide (b_text' _ _ acc wr hU.out.bld)
      have hfin := hide (hu.out.trans (hU.out.fin ht))
      have hbel := hide hU.out.bel
      have hbase := hU.out.base
      have ht' : (t.size : Int) = 0 := by omega
      have ht2 : t = ByteArray.empty := ba_ext (by
        have := len_data t
        rw [ht] at this
        rw [List.length_eq_zero_iff.1 this]
        rfl)
      clear hU hrm hzs ht hal
      go_wp2_with fail
      refine HS.out.mono ?_
      rintro e W5 ⟨rfl, hb5⟩
      go_wp2
      go_ret2
      exact ⟨UnRes.ok hfin.out, hbel.out.trans (hb5.mono (by omega))⟩
    · have ht0 : 0 < t.size := by omega
      have ht' : (0 : Int) < (t.size : Int) := by omega
      have HR := hide (ub_any t wr ht0 (by omega) (hTh.out.below hU.out.bel))
      rcases hr : unescB t with _ | ⟨v, mb, k⟩
      · rw [hr] at HR
        have HR2 := hide (show Calls Tryf.prog 34 #[.string t] wr fun e w' => (∃ a, e = .returned (.tuple #[.int .i32 0, .bool false, .string ⟨#[]⟩, .iface 68 (.pointer (some a))])) ∧ Below wr.heap.size wr w' from HR.out)
        have hbad := hide (hu.out.trans (hU.out.bad ht0 hr))
        have hbel := hide hU.out.bel
        clear hr HR hU hrm hzs ht hal ht0
        go_wp2_with fail
        refine HR2.out.mono ?_
        rintro e W5 ⟨⟨a, rfl⟩, hb1⟩
        go_wp2
        go_ret2
        exact ⟨UnRes.bad hbad.out, hbel.out.trans (hb1.mono hbel.out.size)⟩
      · rw [hr] at HR
        have HR2 := hide (show Calls Tryf.prog 34 #[.string t] wr fun e w' => e = .returned (.tuple #[.int .i32 v, .bool mb, .string (t.extract k t.size), .nilIface]) ∧ Below wr.heap.size wr w' from HR.out)
        obtain ⟨hk1, hk2, hv⟩ := good_unescB.eats ht0 hr
        have hnx := fun w' hb htm hbel => hide (hU.out.next good_unescB ht0 hr (w' := w') hb htm hbel)
        have hB := hide hU.out.bld
        have hTm := hide hU.out.tmp
        have hbl := hide hU.out.bel
        have hlt := hU.out.lt
        have hbase := hU.out.base
        have hcut : (t.extract k t.size).size < t.size := by simp; omega
        have hcuth := hide hcut
        clear hr HR hU hrm hzs ht ht0 hcut
        go_wp2_with fail
        refine HR2.out.mono ?_
        rintro e W5 ⟨rfl, hb5⟩
        have hB5 := hide (ptr_below hB.out hb5)
        have hT5 := hide (hTm.out.same (hb5.block _ hTm.out.lt))
        have hbl5 := hide (hbl.out.trans (hb5.mono hbl.out.size))
        have hlb5 := Nat.le_of_lt hB5.out.lt
        clear hb5 HR2 hB hTm hbl
        by_cases hv1 : v < 128
        · have HBy := hide (b_byte (W1.heap.size + 1) (W1.heap.size + 1) (byteCells acc) (IntKind.u8.wrap v) W5 (.inr hB5.out) (by rw [byteCells_length]; omega) hlb5)
          have hp := hide (piece_one v mb (.inl hv1))
          go_wp2_with fail
          refine HBy.out.mono ?_
          rintro e W6 ⟨rfl, hB6, hb6⟩
          rw [← hp.out] at hB6
          have hN := hnx W6 hB6 (hT5.out.same (hb6.block _ hlt)) (hbl5.out.trans (hb6.mono (by omega)))
          clear hB6 hb6
          go_wp2
          go_roundw
          case rel => exact ⟨_, _, _, rfl, hN⟩
          case measure => have := hcuth.out; simp only [strLen]; exact this
        · cases mb
          · have HBy := hide (b_byte (W1.heap.size + 1) (W1.heap.size + 1) (byteCells acc) (IntKind.u8.wrap v) W5 (.inr hB5.out) (by rw [byteCells_length]; omega) hlb5)
            have hp := hide (piece_one v false (.inr rfl))
            go_wp2_with fail
            refine HBy.out.mono ?_
            rintro e W6 ⟨rfl, hB6, hb6⟩
            rw [← hp.out] at hB6
            have hN := hnx W6 hB6 (hT5.out.same (hb6.block _ hlt)) (hbl5.out.trans (hb6.mono (by omega)))
            clear hB6 hb6
            go_wp2
            go_roundw
            case rel => exact ⟨_, _, _, rfl, hN⟩
            case measure => have := hcuth.out; simp only [strLen]; exact this
          · have hrl := runeCells_le v
            have HEn := hide (r_encode W1.heap.size 0 4 4 v (by omega) (by omega) W5 hrl.2 (fun j hj => by rw [Nat.zero_add]; exact (hT5.out j (by omega)).1) (fun j hj => by rw [Nat.zero_add]; exact (hT5.out j (by omega)).2))
            obtain ⟨hce, hT6⟩ := rune_cells (r := v) hT5.out
            have hB6 := bld_other hB5.out (gb_setCells W1.heap.size (runeCells v) 0 W5) hlt
            have hbl6 := hbl5.out.grown (gb_setCells W1.heap.size (runeCells v) 0 W5) hbl5.out.size (fun k hk => by cases hk; exact hbase)
            have hlb6 := Nat.le_of_lt hB6.lt
            generalize W5.setCells W1.heap.size 0 (runeCells v) = W6 at *
            have HWr := hide (b_write (W1.heap.size + 1) (W1.heap.size + 1) (byteCells acc) ⟨W1.heap.size, 0, none⟩ (runeCells v).length 4 (runeCells v) W6 (.inr hB6) rfl hce hlt (oneCells v) (by rw [byteCells_length]; omega) hlb6)
            have hp := hide (piece_rune v true (by simp; omega))
            rw [← hp.out] at HWr
            have hT6h := hide hT6
            have hbl6h := hide hbl6
            have hml : (byteCells (piece v true)).length = (runeCells v).length := by rw [hp.out]
            rw [hml] at HWr
            generalize (runeCells v).length = m at *
            have hm4 : (m : Int) ≤ 4 := by omega
            have hm0 : (0 : Int) ≤ (m : Int) := by omega
            clear hce hT6 hB6 hbl6 hml hp hrl
            go_wp2_with fail
            refine HEn.out.mono ?_
            rintro e W7 ⟨rfl, rfl⟩
            go_wp2_with fail
            refine HWr.out.mono ?_
            rintro e W8 ⟨rfl, hB8, hb8⟩
            have hN := hnx W8 hB8 (hT6h.out.same (hb8.block _ hlt)) (hbl6h.out.trans (hb8.mono (by omega)))
            clear hB8 hb8
            go_wp2
            go_roundw
            case rel => exact ⟨_, _, _, rfl, hN⟩
            case measure => have := hcuth.out; simp only [strLen]; exact this

set_option maxRecDepth 20000 in
set_option maxHeartbeats 4000000 in
theorem uneb_sq (s : ByteArray) (w : World) (hs : s.size ≤ 1048600) (hT : TU w) (z : ByteArray) (hz : bytesB (nlL s.data.toList) = z) (hq : 2 ≤ z.size ∧ byteAt z 0 = byteAt z (z.size - 1) ∧ byteAt z 0 = 39) :
    Calls Tryf.prog 22 #[.string s] w fun e w' => UnRes (unText unescB z) e ∧ Below w.heap.size w w' := by
  have HN := hide (nl_any s w (by omega))
  have hzl : z.size ≤ 1048600 := by
    have h := nl_len _ s.data.toList (Nat.le_refl _)
    rw [← hz, bytesB_size]
    rw [len_data] at h
    omega
  have hzli : (z.size : Int) ≤ 1048600 := by omega
  have hTh := hide hT
  rw [hz] at HN
  clear hT hz hs
  have hu := hide (show unText unescB z = unAll unescB (z.extract 1 (z.size - 1)).size (z.extract 1 (z.size - 1)) by unfold unText; rw [if_pos (by unfold quotedB; omega)])
  have g0 : ∀ h : 0 < z.size, ((z[0]'h).toNat : Int) = (byteAt z 0 : Int) := fun h => byteAt_get z 0 h
  have gn : ∀ h : z.size - 1 < z.size, ((z[z.size - 1]'h).toNat : Int) = (byteAt z (z.size - 1) : Int) := fun h => byteAt_get z (z.size - 1) h
  have hq2 : (2 : Int) ≤ (z.size : Int) := by omega
  have hq2n := hq.1
  have k0 : ((byteAt z 0 : Int) != (byteAt z (z.size - 1) : Int)) = false := by have := hq.2.1; simp; omega
  have k1 : ((byteAt z 0 : Int) != 34) = true := by have := hq.2.2; simp; omega
  have k2 : ((byteAt z 0 : Int) != 39) = false := by have := hq.2.2; simp; omega
  clear hq
  go_enter Tryf.func22, Tryf.ntmps22
  go_wp2_with fail
  refine HN.out.mono ?_
  rintro e w1 ⟨rfl, hb1⟩
  go_wp2_with fail
  go_quiet (fail)
  have hb1' := hide (below_drewN' hb1 nq)
  have hT1 := hide (hTh.out.below hb1'.out)
  have hsz1 : w.heap.size ≤ (w1.drewN nq).heap.size := hb1'.out.size
  clear hb1
  generalize w1.drewN nq = W1 at *
  clear hzl
  go_upto_region 10 with fail
  obtain ⟨M, hM⟩ : ∃ M : Int, M = 9223372036854775807 := ⟨_, rfl⟩
  rw [← hM]
  have hge : 3 * (z.size : Int) / 2 < M := by omega
  clear hM
  go_wp2_with fail
  have hTm0 := hide (tmp_new W1 (.cells #[.pointer none, .slice none 0 0] 51))
  refine (b_grow' (W1.heap.size + 1) (W1.heap.size + 1) _ _ (Nat.le_refl _) (bld_new _ _) (by simp) (by omega) (by omega)).mono ?_
  rintro e W2 ⟨rfl, hB2, hb2⟩
  generalize hs00 : z.extract 1 (z.size - 1) = s0 at *
  have hzs : s0.size ≤ 1048600 := by rw [← hs00]; simp; omega
  have hU0 := hide (start_at unescB s0 w W1 W2 _ _ hB2 hTm0.out hb1'.out hb2)
  have hzs0 := hide hzs
  clear hB2 hb2 hTm0 g0 gn k0 k1 hT1 hb1' hs00 hzs
  go_wp2_with fail
  go_loopw [0] (fun tv wr => ∃ (t : ByteArray) (acc : List UInt8) (n : Nat), tv = .string t ∧ Hid (UnAt unescB s0 t acc n (W1.heap.size + 1) W1.heap.size w wr)) (fun tv _ => strLen tv)
  case atStart => exact ⟨s0, [], s0.size, rfl, hU0⟩
  case round =>
    clear hU0
    obtain ⟨t, acc, n, rfl, hU⟩ := hrel
    have hrm := hU.out.room
    have hzs := hzs0.out
    have ht1 : (t.size : Int) ≤ 1048600 := by omega
    have hal : acc.length ≤ 4194400 := by omega
    have hlb := Nat.le_of_lt hU.out.bld.lt
    by_cases ht : t.size = 0
    · have HS := hide (b_text' _ _ acc wr hU.out.bld)
      have hfin := hide (hu.out.trans (hU.out.fin ht))
      have hbel := hide hU.out.bel
      have hbase := hU.out.base
      have ht' : (t.size : Int) = 0 := by omega
      have ht2 : t = ByteArray.empty := ba_ext (by
        have := len_data t
        rw [ht] at this
        rw [List.length_eq_zero_iff.1 this]
        rfl)
      clear hU hrm hzs ht hal
      go_wp2_with fail
      refine HS.out.mono ?_
      rintro e W5 ⟨rfl, hb5⟩
      go_wp2
      go_ret2
      exact ⟨UnRes.ok hfin.out, hbel.out.trans (hb5.mono (by omega))⟩
    · have ht0 : 0 < t.size := by omega
      have ht' : (0 : Int) < (t.size : Int) := by omega
      have HR := hide (ub_any t wr ht0 (by omega) (hTh.out.below hU.out.bel))
      rcases hr : unescB t with _ | ⟨v, mb, k⟩
      · rw [hr] at HR
        have HR2 := hide (show Calls Tryf.prog 34 #[.string t] wr fun e w' => (∃ a, e = .returned (.tuple #[.int .i32 0, .bool false, .string ⟨#[]⟩, .iface 68 (.pointer (some a))])) ∧ Below wr.heap.size wr w' from HR.out)
        have hbad := hide (hu.out.trans (hU.out.bad ht0 hr))
        have hbel := hide hU.out.bel
        clear hr HR hU hrm hzs ht hal ht0
        go_wp2_with fail
        refine HR2.out.mono ?_
        rintro e W5 ⟨⟨a, rfl⟩, hb1⟩
        go_wp2
        go_ret2
        exact ⟨UnRes.bad hbad.out, hbel.out.trans (hb1.mono hbel.out.size)⟩
      · rw [hr] at HR
        have HR2 := hide (show Calls Tryf.prog 34 #[.string t] wr fun e w' => e = .returned (.tuple #[.int .i32 v, .bool mb, .string (t.extract k t.size), .nilIface]) ∧ Below wr.heap.size wr w' from HR.out)
        obtain ⟨hk1, hk2, hv⟩ := good_unescB.eats ht0 hr
        have hnx := fun w' hb htm hbel => hide (hU.out.next good_unescB ht0 hr (w' := w') hb htm hbel)
        have hB := hide hU.out.bld
        have hTm := hide hU.out.tmp
        have hbl := hide hU.out.bel
        have hlt := hU.out.lt
        have hbase := hU.out.base
        have hcut : (t.extract k t.size).size < t.size := by simp; omega
        have hcuth := hide hcut
        clear hr HR hU hrm hzs ht ht0 hcut
        go_wp2_with fail
        refine HR2.out.mono ?_
        rintro e W5 ⟨rfl, hb5⟩
        have hB5 := hide (ptr_below hB.out hb5)
        have hT5 := hide (hTm.out.same (hb5.block _ hTm.out.lt))
        have hbl5 := hide (hbl.out.trans (hb5.mono hbl.out.size))
        have hlb5 := Nat.le_of_lt hB5.out.lt
        clear hb5 HR2 hB hTm hbl
        by_cases hv1 : v < 128
        · have HBy := hide (b_byte (W1.heap.size + 1) (W1.heap.size + 1) (byteCells acc) (IntKind.u8.wrap v) W5 (.inr hB5.out) (by rw [byteCells_length]; omega) hlb5)
          have hp := hide (piece_one v mb (.inl hv1))
          go_wp2_with fail
          refine HBy.out.mono ?_
          rintro e W6 ⟨rfl, hB6, hb6⟩
          rw [← hp.out] at hB6
          have hN := hnx W6 hB6 (hT5.out.same (hb6.block _ hlt)) (hbl5.out.trans (hb6.mono (by omega)))
          clear hB6 hb6
          go_wp2
          go_roundw
          case rel => exact ⟨_, _, _, rfl, hN⟩
          case measure => have := hcuth.out; simp only [strLen]; exact this
        · cases mb
          · have HBy := hide (b_byte (W1.heap.size + 1) (W1.heap.size + 1) (byteCells acc) (IntKind.u8.wrap v) W5 (.inr hB5.out) (by rw [byteCells_length]; omega) hlb5)
            have hp := hide (piece_one v false (.inr rfl))
            go_wp2_with fail
            refine HBy.out.mono ?_
            rintro e W6 ⟨rfl, hB6, hb6⟩
            rw [← hp.out] at hB6
            have hN := hnx W6 hB6 (hT5.out.same (hb6.block _ hlt)) (hbl5.out.trans (hb6.mono (by omega)))
            clear hB6 hb6
            go_wp2
            go_roundw
            case rel => exact ⟨_, _, _, rfl, hN⟩
            case measure => have := hcuth.out; simp only [strLen]; exact this
          · have hrl := runeCells_le v
            have HEn := hide (r_encode W1.heap.size 0 4 4 v (by omega) (by omega) W5 hrl.2 (fun j hj => by rw [Nat.zero_add]; exact (hT5.out j (by omega)).1) (fun j hj => by rw [Nat.zero_add]; exact (hT5.out j (by omega)).2))
            obtain ⟨hce, hT6⟩ := rune_cells (r := v) hT5.out
            have hB6 := bld_other hB5.out (gb_setCells W1.heap.size (runeCells v) 0 W5) hlt
            have hbl6 := hbl5.out.grown (gb_setCells W1.heap.size (runeCells v) 0 W5) hbl5.out.size (fun k hk => by cases hk; exact hbase)
            have hlb6 := Nat.le_of_lt hB6.lt
            generalize W5.setCells W1.heap.size 0 (runeCells v) = W6 at *
            have HWr := hide (b_write (W1.heap.size + 1) (W1.heap.size + 1) (byteCells acc) ⟨W1.heap.size, 0, none⟩ (runeCells v).length 4 (runeCells v) W6 (.inr hB6) rfl hce hlt (oneCells v) (by rw [byteCells_length]; omega) hlb6)
            have hp := hide (piece_rune v true (by simp; omega))
            rw [← hp.out] at HWr
            have hT6h := hide hT6
            have hbl6h := hide hbl6
            have hml : (byteCells (piece v true)).length = (runeCells v).length := by rw [hp.out]
            rw [hml] at HWr
            generalize (runeCells v).length = m at *
            have hm4 : (m : Int) ≤ 4 := by omega
            have hm0 : (0 : Int) ≤ (m : Int) := by omega
            clear hce hT6 hB6 hbl6 hml hp hrl
            go_wp2_with fail
            refine HEn.out.mono ?_
            rintro e W7 ⟨rfl, rfl⟩
            go_wp2_with fail
            refine HWr.out.mono ?_
            rintro e W8 ⟨rfl, hB8, hb8⟩
            have hN := hnx W8 hB8 (hT6h.out.same (hb8.block _ hlt)) (hbl6h.out.trans (hb8.mono (by omega)))
            clear hB8 hb8
            go_wp2
            go_roundw
            case rel => exact ⟨_, _, _, rfl, hN⟩
            case measure => have := hcuth.out; simp only [strLen]; exact this

theorem uneb_any (s : ByteArray) (w : World) (hs : s.size ≤ 1048600) (hT : TU w) :
    Calls Tryf.prog 22 #[.string s] w fun e w' => UnRes (unText unescB (bytesB (nlL s.data.toList))) e ∧ Below w.heap.size w w' := by
  generalize hz : bytesB (nlL s.data.toList) = z
  by_cases h1 : z.size < 2
  · exact uneb_short s w hs hT z hz h1
  by_cases h2 : byteAt z 0 = byteAt z (z.size - 1)
  · by_cases h3 : byteAt z 0 = 34
    · exact uneb_dq s w hs hT z hz ⟨by omega, h2, h3⟩
    · by_cases h4 : byteAt z 0 = 39
      · exact uneb_sq s w hs hT z hz ⟨by omega, h2, h4⟩
      · exact uneb_plain s w hs hT z hz ⟨by omega, h2, h3, h4⟩
  · exact uneb_differ s w hs hT z hz ⟨by omega, h2⟩
theorem results_tmp2' {fn : Func} {t u : Tmp} (h : fn.results = #[.tmp t, .tmp u]) (tmps : Array Value) (P : Program) (w : World) :
    (results fn tmps).run P w = .ok (.tuple #[tmps.getD t undef, tmps.getD u undef]) w := by
  simp [results, h]
theorem zz8 (s : ByteArray) (w : World) (hs : s.size ≤ 1048600) (hT : TU w) :
    Calls Tryf.prog 8 #[.string s] w fun e w' => UnRes (unText unesc (bytesB (nlL s.data.toList))) e ∧ Below w.heap.size w w' := by
  have H := hide (une_any s w hs hT)
  generalize unText unesc (bytesB (nlL s.data.toList)) = r at *
  clear hs hT
  rcases r with _ | l
  · go_enter Tryf.func8, Tryf.ntmps8
    go_wp2_with fail
    refine H.out.mono ?_
    rintro e w1 ⟨⟨t, a, rfl⟩, hb1⟩
    go_wp2
    go_ret2
    exact ⟨⟨t, a, rfl⟩, hb1⟩
  · go_enter Tryf.func8, Tryf.ntmps8
    go_wp2_with fail
    refine H.out.mono ?_
    rintro e w1 ⟨rfl, hb1⟩
    go_wp2
    go_ret2
    exact ⟨rfl, hb1⟩
theorem zz9 (s : ByteArray) (w : World) (hs : s.size ≤ 1048600) (hT : TU w) :
    Calls Tryf.prog 9 #[.string s] w fun e w' => UnRes (unText unescB (bytesB (nlL s.data.toList))) e ∧ Below w.heap.size w w' := by
  have H := hide (uneb_any s w hs hT)
  generalize unText unescB (bytesB (nlL s.data.toList)) = r at *
  clear hs hT
  rcases r with _ | l
  · go_enter Tryf.func9, Tryf.ntmps9
    go_wp2_with fail
    refine H.out.mono ?_
    rintro e w1 ⟨⟨t, a, rfl⟩, hb1⟩
    go_wp2
    go_ret2
    exact ⟨⟨t, a, rfl⟩, hb1⟩
  · go_enter Tryf.func9, Tryf.ntmps9
    go_wp2_with fail
    refine H.out.mono ?_
    rintro e w1 ⟨rfl, hb1⟩
    go_wp2
    go_ret2
    exact ⟨rfl, hb1⟩
end Go.Proofs.YtncoodplmpgnbaaFmt
