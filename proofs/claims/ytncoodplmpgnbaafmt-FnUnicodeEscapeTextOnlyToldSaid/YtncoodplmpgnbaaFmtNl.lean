/-
  The module's own turning of carriage returns into newlines, by contract. No condition beyond the size.
-/
import Derived.Test.YtncoodplmpgnbaaFmtErr
import Derived.Test.YtncoodplmpgnbaaFmtSpec
import Derived.OwnWalk
import Derived.Laws.IdiomStrings
import Derived.Laws.BytesString
import Derived.Lib.UnsafeStr
import Derived.Lib.AppendStr
import Derived.Lib.RabinKarpLaws
namespace Go.Proofs.YtncoodplmpgnbaaFmt
open Go.RowKit Go.Lib Go.Shelf Go.Proofs
set_option linter.unusedVariables false
set_option linter.unusedSimpArgs false

theorem ba_ext {a b : ByteArray} (h : a.data.toList = b.data.toList) : a = b := by
  cases a
  cases b
  congr 1
  exact Array.ext' h
theorem len_data (s : ByteArray) : s.data.toList.length = s.size := by rw [Array.length_toList]; rfl
theorem cut_data (s : ByteArray) (a b : Nat) : (s.extract a b).data.toList = (s.data.toList.drop a).take (b - a) := by
  simp only [ByteArray.data_extract, Array.toList_extract, List.extract_eq_take_drop]
def bytesB (l : List UInt8) : ByteArray := ⟨l.toArray⟩
theorem bytesB_size (l : List UInt8) : (bytesB l).size = l.length := by
  show l.toArray.size = l.length
  simp
theorem bytesB_data (l : List UInt8) : (bytesB l).data.toList = l := by simp [bytesB]
theorem bytesB_of (s : ByteArray) : bytesB s.data.toList = s := ba_ext (bytesB_data _)
theorem byteAt_list (s : ByteArray) (k : Nat) (h : k < s.size) : s.data.toList[k]? = some (byteAt s k).toUInt8 ∧ (byteAt s k).toUInt8.toNat = byteAt s k := by
  have hk : k < s.data.toList.length := by rw [len_data]; exact h
  unfold byteAt
  rw [List.getD, List.getElem?_eq_getElem hk]
  simp
theorem drop_cons (s : ByteArray) (k : Nat) (h : k < s.size) : s.data.toList.drop k = (byteAt s k).toUInt8 :: s.data.toList.drop (k + 1) := by
  have hk : k < s.data.toList.length := by rw [len_data]; exact h
  rw [List.drop_eq_getElem_cons hk]
  congr 1
  have := (byteAt_list s k h).1
  rw [List.getElem?_eq_getElem hk] at this
  injection this
/-- Newlines made one. -/
def nlL : List UInt8 → List UInt8
  | [] => []
  | [c] => [if c = 13 then 10 else c]
  | c :: d :: r => if c = 13 then (if d = 10 then 10 :: nlL r else 10 :: nlL (d :: r)) else c :: nlL (d :: r)
theorem nl_other (c : UInt8) (r : List UInt8) (h : c ≠ 13) : nlL (c :: r) = c :: nlL r := by
  cases r with
  | nil => simp [nlL, h]
  | cons d r => simp [nlL, h]
theorem nl_cr (r : List UInt8) (h : r.head? ≠ some 10) : nlL (13 :: r) = 10 :: nlL r := by
  cases r with
  | nil => simp [nlL]
  | cons d r =>
    have : d ≠ 10 := by intro e; subst e; exact h rfl
    simp [nlL, this]
theorem nl_crlf (r : List UInt8) : nlL (13 :: 10 :: r) = 10 :: nlL r := by simp [nlL]
theorem info5 : (Tryf.prog.info? 5).map (fun i => (i.zero, i.size, i.bytes)) = some (some (.int .u8 0), 1, 1) := by kernel_rfl
theorem own_text {w : World} {base n : Nat} {v : Value} (l : List UInt8) (hn : l.length = n) (h : w.ownsRow base 5 1 v n (byteCells l)) :
    (convert 27 9 v).run Tryf.prog w = .ok (.string (bytesB l)) w := by
  obtain ⟨hlen, ⟨rfl, h0⟩ | ⟨g, cap, cur, rfl, hb, hg, hc, hm, hs, ht⟩⟩ := h
  · subst h0
    obtain rfl : l = [] := List.length_eq_zero_iff.1 hn
    rw [run_convert_bytes_string (P := Tryf.prog) w 27 9 5 none 0 0 Tryf.underlying27 Tryf.underlying5 Tryf.underlying9]
    rfl
  · subst hn
    exact run_convert_bytes_back (P := Tryf.prog) w 27 9 5 ⟨g, 0, none⟩ cap l Tryf.underlying27 Tryf.underlying5 Tryf.underlying9 (fun j hj => by
      have ha : (⟨g, 0, none⟩ : Addr).add j = ⟨g, j, none⟩ := by unfold Addr.add; split <;> simp_all
      rw [ha, World.ownsRow.cellAt ⟨hlen, .inr ⟨g, cap, cur, rfl, hb, hg, hc, hm, hs, ht⟩⟩ j (by omega)]
      simp [byteCells, hj])
/-- What has been written so far, and what is left to read. -/
structure NlAt (s : ByteArray) (out : List UInt8) (i : Nat) (v : Value) (base : Nat) (w wr : World) : Prop where
  le : i ≤ s.size
  len : out.length ≤ i
  txt : out ++ nlL (s.data.toList.drop i) = nlL s.data.toList
  own : wr.ownsRow base 5 1 v out.length (byteCells out)
  bel : Below base w wr
theorem NlAt.put {s : ByteArray} {out : List UInt8} {i : Nat} {v : Value} {base : Nat} {w wr : World} (h : NlAt s out i v base w wr) (c : UInt8) (i' : Nat) (o : Obj) {v' : Value} {w1 : World} (hi : i < i') (hi2 : i' ≤ s.size)
    (ht : nlL (s.data.toList.drop i) = c :: nlL (s.data.toList.drop i')) (hb : base ≤ wr.heap.size)
    (ho : w1.ownsRow base 5 1 v' (out.length + 1) (byteCells out ++ [Value.int .u8 (c.toNat : Int)])) (hg : (wr.alloc o).grownBy w1 v.ownBlock) : NlAt s (out ++ [c]) i' v' base w w1 := by
  refine ⟨hi2, by rw [List.length_append]; have := h.len; simp; omega, ?_, ?_, (h.bel.alloc hb o).grown hg (by simp; omega) (fun k hk => (h.own.lt k hk).1)⟩
  · rw [← h.txt, ht]
    simp
  · rw [List.length_append, byteCells_append]
    exact ho
set_option maxRecDepth 20000 in
set_option maxHeartbeats 4000000 in
theorem nl_any (s : ByteArray) (w : World) (hs : s.size ≤ 16777216) :
    Calls Tryf.prog 26 #[.string s] w fun e w' => e = .returned (.string (bytesB (nlL s.data.toList))) ∧ Below w.heap.size w w' := by
  have hs' : (s.size : Int) ≤ 16777216 := by omega
  have hsh := hide hs
  obtain ⟨i0, hi, hz0, hz1, hz2⟩ := info_parts info5
  clear hs
  go_enter Tryf.func26, Tryf.ntmps26
  go_wp2_with fail
  go_loopw [3, 4] (fun v iv wr => ∃ (i : Nat) (out : List UInt8), iv = .int .i64 i ∧ i ≤ s.size ∧ Hid (NlAt s out i v w.heap.size w wr)) (fun _ iv _ => s.size - (RowKit.intOf iv).toNat)
  case atStart => exact ⟨0, [], rfl, Nat.zero_le _, hide ⟨Nat.zero_le _, Nat.le_refl _, rfl, World.ownsRow_nil _ _ _ _, Below.refl _ _⟩⟩
  case round =>
    obtain ⟨i, out, rfl, hi2, hN⟩ := hrel
    have hi0 : (0 : Int) ≤ (i : Int) := by omega
    have hii : (i : Int) ≤ (s.size : Int) := by omega
    have hbs := hN.out.bel.size
    have hln := hN.out.len
    have own := hide hN.out.own
    have hszn := hsh.out
    by_cases h : i < s.size
    · have h' : (i : Int) < (s.size : Int) := by omega
      have gi : ∀ h : i < s.size, ((s[i]'h).toNat : Int) = (byteAt s i : Int) := fun h => byteAt_get s i h
      obtain ⟨_, hcn⟩ := byteAt_list s i h
      have hdr := drop_cons s i h
      by_cases h13 : byteAt s i = 13
      · have g13 : ∀ h : i < s.size, ((s[i]'h).toNat : Int) = 13 := fun h => by rw [byteAt_get s i h, h13]; rfl
        rw [h13] at hdr
        have hdr' : s.data.toList.drop i = 13 :: s.data.toList.drop (i + 1) := hdr
        by_cases hlf : i + 1 < s.size ∧ byteAt s (i + 1) = 10
        · have hl1 := hlf.1
          have hl1' : (i : Int) + 1 < (s.size : Int) := by omega
          have g10 : ∀ h : i + 1 < s.size, ((s[i + 1]'h).toNat : Int) = 10 := fun h => by rw [byteAt_get s (i + 1) h, hlf.2]; rfl
          have hd2 := drop_cons s (i + 1) hl1
          rw [hlf.2] at hd2
          have ht : nlL (s.data.toList.drop i) = 10 :: nlL (s.data.toList.drop (i + 2)) := by
            rw [hdr', show s.data.toList.drop (i + 1) = 10 :: s.data.toList.drop (i + 2) from hd2]
            exact nl_crlf _
          have hput := fun v' w1 o ho hg => hide (hN.out.put 10 (i + 2) o (v' := v') (w1 := w1) (by omega) (by omega) ht hbs ho hg)
          clear ht hd2 hdr hdr' hlf gi hcn h13 hN
          go_wp2_with (at_builtin; refine wpList_append_own _ rfl _ _ 27 rfl w.heap.size 5 i0 (.int .u8 0) 1 1 Tryf.underlying27 hi hz0 hz1 hz2 rfl (by decide) _ _ _ rfl (own.out.alloc _) ⟨wr.heap.size, 0, none⟩ 1 1 [.int .u8 10] rfl rfl (by intro j u hj; match j, hj with | 0, hj => simp at hj; subst hj; simp [Addr.add]) (by intro u hu; simp at hu; subst hu; rfl) (by unfold maxLen; omega) (by omega) (by simp; omega) ?_; intro v' w1 hown' hg' _; have hR := hput v' w1 _ hown' hg'; clear hown' hg')
          go_roundw
          case rel => exact ⟨i + 2, _, by go_num, by omega, hR⟩
          case measure => simp [RowKit.intOf]; omega
        · have ht : nlL (s.data.toList.drop i) = 10 :: nlL (s.data.toList.drop (i + 1)) := by
            rw [hdr']
            refine nl_cr _ ?_
            intro e
            apply hlf
            rw [List.head?_drop] at e
            have hlt := (List.getElem?_eq_some_iff.1 e).1
            rw [len_data] at hlt
            refine ⟨hlt, ?_⟩
            have h1 := byteAt_list s (i + 1) hlt
            rw [h1.1] at e
            injection e with e
            rw [← h1.2, e]
            rfl
          have hput := fun v' w1 o ho hg => hide (hN.out.put 10 (i + 1) o (v' := v') (w1 := w1) (by omega) (by omega) ht hbs ho hg)
          have hsp : (s.size : Int) ≤ (i : Int) + 1 ∨ ((i : Int) + 1 < (s.size : Int) ∧ ((byteAt s (i + 1) : Int) == 10) = false) := by
            by_cases c : i + 1 < s.size
            · right
              refine ⟨by omega, ?_⟩
              rw [beq_eq_false_iff_ne]
              intro e
              exact hlf ⟨c, by omega⟩
            · left; omega
          have g1 : ∀ h : i + 1 < s.size, ((s[i + 1]'h).toNat : Int) = (byteAt s (i + 1) : Int) := fun h => byteAt_get s (i + 1) h
          clear ht hdr hdr' hlf gi hcn h13 hN
          rcases hsp with hA | ⟨hA, hB⟩
          · go_wp2_with (at_builtin; refine wpList_append_own _ rfl _ _ 27 rfl w.heap.size 5 i0 (.int .u8 0) 1 1 Tryf.underlying27 hi hz0 hz1 hz2 rfl (by decide) _ _ _ rfl (own.out.alloc _) ⟨wr.heap.size, 0, none⟩ 1 1 [.int .u8 10] rfl rfl (by intro j u hj; match j, hj with | 0, hj => simp at hj; subst hj; simp [Addr.add]) (by intro u hu; simp at hu; subst hu; rfl) (by unfold maxLen; omega) (by omega) (by simp; omega) ?_; intro v' w1 hown' hg' _; have hR := hput v' w1 _ hown' hg'; clear hown' hg')
            go_roundw
            case rel => exact ⟨i + 1, _, by go_num, by omega, hR⟩
            case measure => simp [RowKit.intOf]; omega
          · have hAn : i + 1 < s.size := by omega
            go_wp2_with (at_builtin; refine wpList_append_own _ rfl _ _ 27 rfl w.heap.size 5 i0 (.int .u8 0) 1 1 Tryf.underlying27 hi hz0 hz1 hz2 rfl (by decide) _ _ _ rfl (own.out.alloc _) ⟨wr.heap.size, 0, none⟩ 1 1 [.int .u8 10] rfl rfl (by intro j u hj; match j, hj with | 0, hj => simp at hj; subst hj; simp [Addr.add]) (by intro u hu; simp at hu; subst hu; rfl) (by unfold maxLen; omega) (by omega) (by simp; omega) ?_; intro v' w1 hown' hg' _; have hR := hput v' w1 _ hown' hg'; clear hown' hg')
            go_roundw
            case rel => exact ⟨i + 1, _, by go_num, by omega, hR⟩
            case measure => simp [RowKit.intOf]; omega
      · have ht : nlL (s.data.toList.drop i) = (byteAt s i).toUInt8 :: nlL (s.data.toList.drop (i + 1)) := by
          rw [hdr]
          refine nl_other _ _ ?_
          intro e
          apply h13
          rw [← hcn, e]
          rfl
        have hput := fun (v' : Value) (w1 : World) (o : Obj) (ho : w1.ownsRow w.heap.size 5 1 v' (out.length + 1) (byteCells out ++ [Value.int .u8 (byteAt s i : Int)])) hg => hide (hN.out.put (byteAt s i).toUInt8 (i + 1) o (v' := v') (w1 := w1) (by omega) (by omega) ht hbs (by rw [hcn]; exact ho) hg)
        have h13' : ((byteAt s i : Int) == 13) = false := by rw [beq_eq_false_iff_ne]; omega
        clear ht hdr hcn h13 hN
        go_wp2_with (at_builtin; refine wpList_append_own _ rfl _ _ 27 rfl w.heap.size 5 i0 (.int .u8 0) 1 1 Tryf.underlying27 hi hz0 hz1 hz2 rfl (by decide) _ _ _ rfl (own.out.alloc _) ⟨wr.heap.size, 0, none⟩ 1 1 [.int .u8 (byteAt s i : Int)] rfl rfl (by intro j u hj; match j, hj with | 0, hj => simp at hj; subst hj; simp [Addr.add]) (by intro u hu; simp at hu; subst hu; rfl) (by unfold maxLen; omega) (by omega) (by simp; omega) ?_; intro v' w1 hown' hg' _; have hR := hput v' w1 _ hown' hg'; clear hown' hg')
        go_roundw
        case rel => exact ⟨i + 1, _, by go_num, by omega, hR⟩
        case measure => simp [RowKit.intOf]; omega
    · obtain rfl : i = s.size := by omega
      have htx := hN.out.txt
      rw [List.drop_of_length_le (by rw [len_data]; exact Nat.le_refl _)] at htx
      have hout : out = nlL s.data.toList := by rw [← htx]; simp [nlL]
      have hcv := own_text out rfl own.out
      have hbel := hide hN.out.bel
      rw [hout] at hcv
      clear htx hout hN
      go_wp2
      go_ret
      exact ⟨rfl, hbel.out⟩
end Go.Proofs.YtncoodplmpgnbaaFmt
