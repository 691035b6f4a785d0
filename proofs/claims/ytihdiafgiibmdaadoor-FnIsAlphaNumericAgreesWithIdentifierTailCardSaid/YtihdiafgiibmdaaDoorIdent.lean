/-
  utils.IsValidIdentifier at every string: its answer as a plain function of the bytes. Conditions: the library's tables hold what their initialisers lay.
-/
import Derived.Test.YtihdiafgiibmdaaDoorFns
import Derived.Lib.OthersKept
import Derived.WalkSpells
import Derived.WalkSmall
namespace Go.Proofs.YtihdiafgiibmdaaDoor
open Go.RowKit Go.Lib Go.Shelf Go.Proofs

def restOk : Nat → List UInt8 → Bool
  | 0, _ => true
  | f + 1, l => if l = [] then true else isAlnumU (decodeL l).1 && restOk f (l.drop (decodeL l).2)
def validId (l : List UInt8) : Bool := if l = [] then false else isAlphaU (decodeL l).1 && restOk l.length (l.drop (decodeL l).2)

theorem decodeGo_L (s : ByteArray) (h : 0 < s.size) : decodeGo s = decodeL s.data.toList := by
  unfold decodeGo
  rw [if_neg (by omega), ← decodeL_drop s 0, List.drop_zero]
theorem decode_bound (l : List UInt8) : (decodeL l).1 ≤ 1114111 := decodeL_rune l

theorem restOk_nil (f : Nat) : restOk f [] = true := by cases f <;> simp [restOk]

set_option maxHeartbeats 1000000 in
theorem valid_any (s : ByteArray) (w : World) (hs : s.size ≤ 9223372036854775807) (hU : TU w) (hL : TL w) (hD : TD w) :
    Calls Tryd.prog 13 #[.string s] w fun e w' => e = .returned (.bool (validId s.data.toList)) ∧ Below w.heap.size w w' := by
  by_cases h0 : s.size = 0
  · have hz : s.data.toList = [] := List.eq_nil_of_length_eq_zero (by rw [← Lib.size_eq]; exact h0)
    have hv := hide (show validId s.data.toList = false by rw [hz]; rfl)
    have hc : ((s.size : Int) == 0) = true := by rw [h0]; rfl
    clear h0 hz
    go_enter Tryd.func13, Tryd.ntmps13
    go_wp2
    go_ret
    exact ⟨ret_b hv.out.symm, Below.refl _ _⟩
  · have hp : 0 < s.size := by omega
    have hc : ((s.size : Int) == 0) = false := by rw [beq_eq_false_iff_ne]; omega
    have hne : s.data.toList ≠ [] := fun e => h0 (by rw [Lib.size_eq, e]; rfl)
    clear h0
    have HD1 := hide (Any.utf8_DecodeRuneInString Tryd.lays197 s w hU)
    obtain ⟨R, hR⟩ : ∃ R, (decodeGo s).1 = R := ⟨_, rfl⟩
    obtain ⟨K, hK⟩ : ∃ K, (decodeGo s).2 = K := ⟨_, rfl⟩
    rw [hR, hK] at HD1
    have hd := decodeGo_L s hp
    have hRb : R ≤ 1114111 := by rw [← hR, hd]; exact decode_bound _
    have hKb : K ≤ s.size := by rw [← hK, hd, Lib.size_eq]; exact decodeL_le _ hne
    have hVal := hide (show validId s.data.toList = (isAlphaU R && restOk s.data.toList.length (s.data.toList.drop K)) by
      unfold validId
      rw [if_neg hne, ← hd, hR, hK])
    clear hR hK hd
    have HA := fun w hT => hide (isAlphabetic_any (R : Int) w (by omega) (by omega) hT)
    cases ha : isAlphaU R with
    | false =>
      rw [ha] at HA hVal
      clear ha
      go_enter Tryd.func13, Tryd.ntmps13
      go_wp2_with fail
      refine HD1.out.mono ?_
      rintro e w1 ⟨rfl, hb1⟩
      have hL1 := hL.below hb1
      go_wp2_with fail
      refine (HA w1 hL1).out.mono ?_
      rintro e w2 ⟨rfl, hb2⟩
      go_wp2
      go_ret
      exact ⟨ret_b (by rw [hVal.out]; rfl), hb1.trans (hb2.mono hb1.size)⟩
    | true =>
      rw [ha] at HA hVal
      clear ha
      have hsz : (s.extract K s.size).data.toList = s.data.toList.drop K := by
        simp [ByteArray.data_extract]
        rw [List.take_of_length_le (by rw [List.length_drop, Lib.size_eq]; omega)]
      obtain ⟨s', hs'⟩ : ∃ s', s.extract K s.size = s' := ⟨_, rfl⟩
      rw [hs'] at hsz
      have hsl : s'.size ≤ s.data.toList.length := by rw [Lib.size_eq, hsz, List.length_drop]; omega
      rw [← hsz] at hVal
      have hs'' := hide hs'
      clear hsz hs'
      obtain ⟨n, hn⟩ : ∃ n, s.data.toList.length = n := ⟨_, rfl⟩
      rw [hn] at hVal hsl
      clear hn
      go_enter Tryd.func13, Tryd.ntmps13
      go_wp2_with fail
      refine HD1.out.mono ?_
      rintro e w1 ⟨rfl, hb1⟩
      have hL1 := hL.below hb1
      have hD1 := hD.below hb1
      go_wp2_with fail
      refine (HA w1 hL1).out.mono ?_
      rintro e w2 ⟨rfl, hb2⟩
      have hL2 := hL1.below hb2
      have hD2 := hD1.below hb2
      have hb : Below w.heap.size w w2 := hb1.trans (hb2.mono hb1.size)
      clear hb1 hb2
      go_wp2
      rw [hs''.out]
      go_loopw [6] (fun _ wr => ∃ pos f : Nat, wr.heap[w2.heap.size]? = some (.stringIter s' pos) ∧ Below w2.heap.size w2 wr ∧ pos ≤ s'.size ∧ s'.size ≤ pos + f ∧ Hid (validId s.data.toList = restOk f (s'.data.toList.drop pos)))
        (fun _ wr => s'.size - wr.iterPos w2.heap.size)
      case atStart => exact ⟨0, n, World.iter_heap _ _ _, (Below.refl _ _).alloc (Nat.le_refl _) _, Nat.zero_le _, by omega, by unfold Hid; rw [hVal.out]; simp⟩
      case round =>
        obtain ⟨pos, f, hk, hbw, hp1, hp2, hrest⟩ := hrel
        have hLr := hL2.below hbw
        have hDr := hD2.below hbw
        by_cases hlt : pos < s'.size
        · have hnx : ∀ ty, (Instr.next (.pointer (some ⟨w2.heap.size, 0, none⟩)) true ty).run Tryd.prog wr = _ := fun ty => run_next_any_at wr w2.heap.size s' pos ty hk hlt
          obtain ⟨r1, hr1⟩ : ∃ r1, (Utf8.decode s' pos).1 = r1 := ⟨_, rfl⟩
          obtain ⟨k1, hk1⟩ : ∃ k1, (Utf8.decode s' pos).2 = k1 := ⟨_, rfl⟩
          have hdl := decodeL_drop s' pos
          have hne' : s'.data.toList.drop pos ≠ [] := fun e => by
            have h := congrArg List.length e
            rw [List.length_drop, ← Lib.size_eq] at h
            simp at h
            omega
          have hrb : r1 ≤ 1114111 := by rw [← hr1, ← hdl]; exact decode_bound _
          have hkp : 1 ≤ k1 := by rw [← hk1, ← hdl]; exact decodeL_width _
          have hkl : pos + k1 ≤ s'.size := by
            have h := decodeL_le _ hne'
            rw [hdl, hk1, List.length_drop, ← Lib.size_eq] at h
            omega
          have hstep := hide (show ∀ g, restOk (g + 1) (s'.data.toList.drop pos) = (isAlnumU r1 && restOk g (s'.data.toList.drop (pos + k1))) from fun g => by
            unfold restOk
            rw [if_neg hne', hdl, hr1, hk1, List.drop_drop]
            cases g <;> rfl)
          rw [hr1, hk1] at hnx
          clear hdl hne' hr1 hk1
          have hlt2 : w2.heap.size < (wr.iterAt w2.heap.size s' (pos + k1)).heap.size := by rw [iterAt_size]; exact (Array.getElem?_eq_some_iff.1 hk).1
          have hbi := below_iterAt hbw (Nat.le_refl _) s' (pos + k1)
          have hki := hide (iterAt_heap wr w2.heap.size s' pos (pos + k1) hk)
          have HN := hide (isAlphaNumeric_any (r1 : Int) (wr.iterAt w2.heap.size s' (pos + k1)) (by omega) (by omega) (hL2.below hbi) (hD2.below hbi))
          obtain ⟨wi, hwi⟩ : ∃ wi, wr.iterAt w2.heap.size s' (pos + k1) = wi := ⟨_, rfl⟩
          rw [hwi] at hnx hlt2 hbi hki HN
          have hk' := hide hk
          clear hk hbw hwi hLr hDr hL2 hD2 hL1 hD1 hL hD
          cases hal : isAlnumU r1 with
          | true =>
            rw [hal] at HN hstep
            clear hal
            go_wp2_with fail
            refine HN.out.mono ?_
            rintro e w3 ⟨rfl, hb3⟩
            have hk3 := hide ((hb3.block _ hlt2).trans hki.out)
            have hb3' := hbi.trans (hb3.mono (Nat.le_of_lt hlt2))
            go_wp2
            go_roundw
            case rel =>
              obtain ⟨f', rfl⟩ : ∃ f', f = f' + 1 := ⟨f - 1, by omega⟩
              exact ⟨pos + k1, f', hk3.out, hb3', hkl, by omega, by unfold Hid; rw [hrest.out, hstep.out]; rfl⟩
            case measure =>
              have e1 := iterPos_of hk'.out
              have e2 := iterPos_of hk3.out
              rw [e1, e2]
              omega
          | false =>
            rw [hal] at HN hstep
            clear hal
            go_wp2_with fail
            refine HN.out.mono ?_
            rintro e w3 ⟨rfl, hb3⟩
            have hb3' := hbi.trans (hb3.mono (Nat.le_of_lt hlt2))
            go_wp2
            go_ret
            obtain ⟨f', rfl⟩ : ∃ f', f = f' + 1 := ⟨f - 1, by omega⟩
            exact ⟨ret_b (by rw [hrest.out, hstep.out]; rfl), hb.trans (hb3'.mono hb.size)⟩
        · have hnx : ∀ ty, (Instr.next (.pointer (some ⟨w2.heap.size, 0, none⟩)) true ty).run Tryd.prog wr = _ := fun ty => run_next_end_at wr w2.heap.size s' pos ty hk hlt
          have hfin := hide (show restOk f (s'.data.toList.drop pos) = true by
            rw [List.drop_of_length_le (by rw [← Lib.size_eq]; omega)]
            exact restOk_nil f)
          clear hk
          go_wp2
          go_ret
          exact ⟨ret_b (by rw [hrest.out, hfin.out]), hb.trans (hbw.mono hb.size)⟩
end Go.Proofs.YtihdiafgiibmdaaDoor
