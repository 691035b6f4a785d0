/-
  The law's own line-by-line model and its picture, by contract. No condition beyond the size.
-/
import Derived.Test.YtlfgaikcdelknaaModelB
import Derived.Test.YtlfgaikcdelknaaBindB
import Derived.OwnWalk
namespace Go.Proofs.Ytlfgaikcdelknaa
open Go.RowKit Go.Lib Go.Shelf Go.Proofs
set_option linter.unusedVariables false
set_option linter.unusedSimpArgs false

theorem results_tmp4 {fn : Func} {t u v x : Tmp} (h : fn.results = #[.tmp t, .tmp u, .tmp v, .tmp x]) (tmps : Array Value) (P : Program) (w : World) :
    (results fn tmps).run P w = .ok (.tuple #[tmps.getD t undef, tmps.getD u undef, tmps.getD v undef, tmps.getD x undef]) w := by
  simp [results, h]
def ModelRes (src : ByteArray) (M : Nat × Nat × Nat × Nat) (e : Ending) : Prop := e = .returned (.tuple #[.int .i64 (M.1 : Int), .int .i64 (M.2.1 : Int), .int .i64 (M.2.2.1 : Int), .int .i64 (M.2.2.2 : Int)])
theorem model_stop {src : ByteArray} {n line k start e : Nat} {M : Nat × Nat × Nat × Nat} (h : modelGo src (n + 1) line k start = M) (he : lineEnd src start = e) (hs : k ≤ cnt (src.extract start e).data.toList ∨ e = src.size) : M = (line, k, start, e) := by
  rw [← h]
  unfold modelGo
  rw [he, if_pos hs]
theorem model_on {src : ByteArray} {n line k start e : Nat} {M : Nat × Nat × Nat × Nat} (h : modelGo src (n + 1) line k start = M) (he : lineEnd src start = e) (hs : ¬ (k ≤ cnt (src.extract start e).data.toList ∨ e = src.size)) :
    modelGo src n (line + 1) (k - cnt (src.extract start e).data.toList - 1) (e + 1) = M := by
  rw [← h]
  conv => rhs; unfold modelGo
  rw [he, if_neg hs]
set_option maxRecDepth 20000 in
set_option maxHeartbeats 4000000 in
theorem model_neg (src : ByteArray) (f : Int) (w : World) (hs : src.size ≤ 1048576) (hf : f < 0) :
    Calls Try.prog 9 #[.string src, .int .i64 f] w fun e w' => ModelRes src (modelGo src (src.size + 1) 1 (place src f) 0) e ∧ w = w' := by
  have hs' : (src.size : Int) ≤ 1048576 := by omega
  have HC := hide (cnt_any src w hs)
  have hcb := hide (show cnt src.data.toList ≤ 1048576 by
    have h := cnt_le _ src.data.toList (Nat.le_refl _)
    rw [len_data] at h
    omega)
  have hpl := hide (show place src f ≤ cnt src.data.toList by unfold place; split <;> omega)
  have hcbi : (cnt src.data.toList : Int) ≤ 1048576 := by have := hcb.out; omega
  have hfx := hf
  have hcx : True := trivial
  have hpe := hide (show place src f = cnt src.data.toList by unfold place; rw [if_pos (.inl hf)])
  go_enter Try.func9, Try.ntmps9
  go_wp2_with fail
  refine HC.out.mono ?_
  rintro e w' ⟨rfl, rfl⟩
  go_wp2_with fail
  go_loopw [8, 10, 11] (fun kv lv sv wr => ∃ (n k line start : Nat), kv = .int .i64 k ∧ lv = .int .i64 line ∧ sv = .int .i64 start ∧ start ≤ src.size ∧ line ≤ start + 1 ∧ k ≤ 1048576 ∧ src.size < start + n ∧ Hid (modelGo src n line k start = modelGo src (src.size + 1) 1 (place src f) 0) ∧ w = wr) (fun _ _ sv _ => src.size + 1 - (RowKit.intOf sv).toNat)
  case atStart => exact ⟨src.size + 1, place src f, 1, 0, by rw [hpe.out], rfl, rfl, by omega, by omega, by have := hcb.out; have := hpl.out; omega, by omega, hide rfl, rfl⟩
  case round =>
    obtain ⟨n, k, line, start, rfl, rfl, rfl, hst, hli, hk, hfu, hM, rfl⟩ := hrel
    clear hfx hcx
    have x1 : (start : Int) ≤ (src.size : Int) := by omega
    have x2 : (line : Int) ≤ (start : Int) + 1 := by omega
    have x3 : (k : Int) ≤ 1048576 := by omega
    have x4 : (0 : Int) ≤ (start : Int) := by omega
    have x5 : (0 : Int) ≤ (k : Int) := by omega
    obtain ⟨n, rfl⟩ : ∃ m, n = m + 1 := ⟨n - 1, by omega⟩
    go_wp2_with fail
    go_loopw [12] (fun ev wr => ∃ e : Nat, ev = .int .i64 e ∧ start ≤ e ∧ e ≤ src.size ∧ Hid (∀ p, start ≤ p → p < e → src.data.toList[p]? ≠ some 10) ∧ w = wr) (fun ev _ => src.size - (RowKit.intOf ev).toNat)
    case atStart => exact ⟨start, rfl, by omega, by omega, hide (fun p h1 h2 => by omega), rfl⟩
    case round =>
      obtain ⟨e, rfl, he1, he2, hno, rfl⟩ := hrel
      have y0 : (0 : Int) ≤ (e : Int) := by omega
      have y1 : (e : Int) ≤ (src.size : Int) := by omega
      have y2 : (start : Int) ≤ (e : Int) := by omega
      by_cases hq : e < src.size ∧ byteAt src e ≠ 10
      · have hlt' : (e : Int) < (src.size : Int) := by omega
        have hlt := hq.1
        have ge : ∀ h : e < src.size, ((src[e]'h).toNat : Int) = (byteAt src e : Int) := fun h => byteAt_get src e h
        have hne : ((byteAt src e : Int) != 10) = true := by have := hq.2; simp; omega
        have hno2 := hide (show ∀ p, start ≤ p → p < e + 1 → src.data.toList[p]? ≠ some 10 by
          intro p h1 h2 h3
          by_cases hp : p = e
          · subst hp
            exact hq.2 ((byteAt_data src p 10 hlt (by decide)).2 h3)
          · exact hno.out p h1 (by omega) h3)
        clear hq hno
        go_wp2
        go_roundw
        case rel => exact ⟨e + 1, by go_num, by omega, by omega, hno2, by first | rfl | trivial⟩
        case measure => simp [RowKit.intOf]; omega
      · have hE := hide (lineEnd_eq src start e he1 he2 (by
          by_cases h1 : e < src.size
          · right
            have h2 : byteAt src e = 10 := by
              by_cases h3 : byteAt src e = 10
              · exact h3
              · exact absurd ⟨h1, h3⟩ hq
            exact (byteAt_data src e 10 h1 (by decide)).1 h2
          · left; omega) hno.out)
        have HCn := cnt_any (src.extract start e) w (by simp; omega)
        have hcl := cnt_le _ (src.extract start e).data.toList (Nat.le_refl _)
        rw [len_data] at hcl
        have hcl2 : cnt (src.extract start e).data.toList ≤ e - start := by simp at hcl ⊢; omega
        have hst1 := fun hs => hide (model_stop (e := e) hM.out hE.out hs)
        have hst2 := fun hs => hide (model_on (e := e) hM.out hE.out hs)
        generalize cnt (src.extract start e).data.toList = r at *
        have hr' : (r : Int) ≤ (e : Int) - (start : Int) := by omega
        have hr0 : (0 : Int) ≤ (r : Int) := by omega
        have HCh := hide HCn
        have hsplit : (¬ e < src.size) ∨ (e < src.size ∧ byteAt src e = 10) := by
          by_cases h1 : e < src.size
          · right
            refine ⟨h1, ?_⟩
            by_cases h3 : byteAt src e = 10
            · exact h3
            · exact absurd ⟨h1, h3⟩ hq
          · exact .inl h1
        clear hq hno HCn hcl hcl2 hM
        rcases hsplit with hA | ⟨hA, hB⟩
        · obtain rfl : e = src.size := by omega
          have hfin := hst1 (.inr rfl)
          clear hst1 hst2 hA
          go_wp2_with fail
          refine HCh.out.mono ?_
          rintro e w' ⟨rfl, rfl⟩
          by_cases hkr : k ≤ r
          · have hkr' : (k : Int) ≤ (r : Int) := by omega
            clear hkr
            go_wp2
            refine bodyPost_ret (results_tmp4 rfl _ _ _) rfl ?_
            exact ⟨by rw [hfin.out]; rfl, rfl⟩
          · have hkr' : ¬ (k : Int) ≤ (r : Int) := by omega
            clear hkr
            go_wp2
            refine bodyPost_ret (results_tmp4 rfl _ _ _) rfl ?_
            exact ⟨by rw [hfin.out]; rfl, rfl⟩
        · have ge : ∀ h : e < src.size, ((src[e]'h).toNat : Int) = 10 := fun h => by rw [byteAt_get src e h, hB]; rfl
          have hlt' : (e : Int) < (src.size : Int) := by omega
          have hne' : ((e : Int) == (src.size : Int)) = false := by rw [beq_eq_false_iff_ne]; omega
          by_cases hkr : k ≤ r
          · have hkr' : (k : Int) ≤ (r : Int) := by omega
            have hfin := hst1 (.inl hkr)
            clear hst1 hst2 hkr hB
            go_wp2_with fail
            refine HCh.out.mono ?_
            rintro e w' ⟨rfl, rfl⟩
            go_wp2
            refine bodyPost_ret (results_tmp4 rfl _ _ _) rfl ?_
            exact ⟨by rw [hfin.out]; rfl, rfl⟩
          · have hkr' : ¬ (k : Int) ≤ (r : Int) := by omega
            have hnx := hst2 (by omega)
            have hkn : (((k - r - 1 : Nat)) : Int) = (k : Int) - (r : Int) - 1 := by omega
            have hknh := hide hkn
            clear hst1 hst2 hB hkn
            go_wp2_with fail
            refine HCh.out.mono ?_
            rintro e w' ⟨rfl, rfl⟩
            go_wp2
            go_roundw
            case rel => exact ⟨n, k - r - 1, line + 1, e + 1, by rw [hknh.out], by go_num, by go_num, by omega, by omega, by omega, by omega, hnx, by first | rfl | trivial⟩
            case measure => simp [RowKit.intOf]; omega

set_option maxRecDepth 20000 in
set_option maxHeartbeats 4000000 in
theorem model_far (src : ByteArray) (f : Int) (w : World) (hs : src.size ≤ 1048576) (hf : (cnt src.data.toList : Int) < f) :
    Calls Try.prog 9 #[.string src, .int .i64 f] w fun e w' => ModelRes src (modelGo src (src.size + 1) 1 (place src f) 0) e ∧ w = w' := by
  have hs' : (src.size : Int) ≤ 1048576 := by omega
  have HC := hide (cnt_any src w hs)
  have hcb := hide (show cnt src.data.toList ≤ 1048576 by
    have h := cnt_le _ src.data.toList (Nat.le_refl _)
    rw [len_data] at h
    omega)
  have hpl := hide (show place src f ≤ cnt src.data.toList by unfold place; split <;> omega)
  have hcbi : (cnt src.data.toList : Int) ≤ 1048576 := by have := hcb.out; omega
  have hfx : ¬ f < 0 := by omega
  have hcx := hf
  have hpe := hide (show place src f = cnt src.data.toList by unfold place; rw [if_pos (.inr hf)])
  go_enter Try.func9, Try.ntmps9
  go_wp2_with fail
  refine HC.out.mono ?_
  rintro e w' ⟨rfl, rfl⟩
  go_wp2_with fail
  go_loopw [8, 10, 11] (fun kv lv sv wr => ∃ (n k line start : Nat), kv = .int .i64 k ∧ lv = .int .i64 line ∧ sv = .int .i64 start ∧ start ≤ src.size ∧ line ≤ start + 1 ∧ k ≤ 1048576 ∧ src.size < start + n ∧ Hid (modelGo src n line k start = modelGo src (src.size + 1) 1 (place src f) 0) ∧ w = wr) (fun _ _ sv _ => src.size + 1 - (RowKit.intOf sv).toNat)
  case atStart => exact ⟨src.size + 1, place src f, 1, 0, by rw [hpe.out], rfl, rfl, by omega, by omega, by have := hcb.out; have := hpl.out; omega, by omega, hide rfl, rfl⟩
  case round =>
    obtain ⟨n, k, line, start, rfl, rfl, rfl, hst, hli, hk, hfu, hM, rfl⟩ := hrel
    clear hfx hcx
    have x1 : (start : Int) ≤ (src.size : Int) := by omega
    have x2 : (line : Int) ≤ (start : Int) + 1 := by omega
    have x3 : (k : Int) ≤ 1048576 := by omega
    have x4 : (0 : Int) ≤ (start : Int) := by omega
    have x5 : (0 : Int) ≤ (k : Int) := by omega
    obtain ⟨n, rfl⟩ : ∃ m, n = m + 1 := ⟨n - 1, by omega⟩
    go_wp2_with fail
    go_loopw [12] (fun ev wr => ∃ e : Nat, ev = .int .i64 e ∧ start ≤ e ∧ e ≤ src.size ∧ Hid (∀ p, start ≤ p → p < e → src.data.toList[p]? ≠ some 10) ∧ w = wr) (fun ev _ => src.size - (RowKit.intOf ev).toNat)
    case atStart => exact ⟨start, rfl, by omega, by omega, hide (fun p h1 h2 => by omega), rfl⟩
    case round =>
      obtain ⟨e, rfl, he1, he2, hno, rfl⟩ := hrel
      have y0 : (0 : Int) ≤ (e : Int) := by omega
      have y1 : (e : Int) ≤ (src.size : Int) := by omega
      have y2 : (start : Int) ≤ (e : Int) := by omega
      by_cases hq : e < src.size ∧ byteAt src e ≠ 10
      · have hlt' : (e : Int) < (src.size : Int) := by omega
        have hlt := hq.1
        have ge : ∀ h : e < src.size, ((src[e]'h).toNat : Int) = (byteAt src e : Int) := fun h => byteAt_get src e h
        have hne : ((byteAt src e : Int) != 10) = true := by have := hq.2; simp; omega
        have hno2 := hide (show ∀ p, start ≤ p → p < e + 1 → src.data.toList[p]? ≠ some 10 by
          intro p h1 h2 h3
          by_cases hp : p = e
          · subst hp
            exact hq.2 ((byteAt_data src p 10 hlt (by decide)).2 h3)
          · exact hno.out p h1 (by omega) h3)
        clear hq hno
        go_wp2
        go_roundw
        case rel => exact ⟨e + 1, by go_num, by omega, by omega, hno2, by first | rfl | trivial⟩
        case measure => simp [RowKit.intOf]; omega
      · have hE := hide (lineEnd_eq src start e he1 he2 (by
          by_cases h1 : e < src.size
          · right
            have h2 : byteAt src e = 10 := by
              by_cases h3 : byteAt src e = 10
              · exact h3
              · exact absurd ⟨h1, h3⟩ hq
            exact (byteAt_data src e 10 h1 (by decide)).1 h2
          · left; omega) hno.out)
        have HCn := cnt_any (src.extract start e) w (by simp; omega)
        have hcl := cnt_le _ (src.extract start e).data.toList (Nat.le_refl _)
        rw [len_data] at hcl
        have hcl2 : cnt (src.extract start e).data.toList ≤ e - start := by simp at hcl ⊢; omega
        have hst1 := fun hs => hide (model_stop (e := e) hM.out hE.out hs)
        have hst2 := fun hs => hide (model_on (e := e) hM.out hE.out hs)
        generalize cnt (src.extract start e).data.toList = r at *
        have hr' : (r : Int) ≤ (e : Int) - (start : Int) := by omega
        have hr0 : (0 : Int) ≤ (r : Int) := by omega
        have HCh := hide HCn
        have hsplit : (¬ e < src.size) ∨ (e < src.size ∧ byteAt src e = 10) := by
          by_cases h1 : e < src.size
          · right
            refine ⟨h1, ?_⟩
            by_cases h3 : byteAt src e = 10
            · exact h3
            · exact absurd ⟨h1, h3⟩ hq
          · exact .inl h1
        clear hq hno HCn hcl hcl2 hM
        rcases hsplit with hA | ⟨hA, hB⟩
        · obtain rfl : e = src.size := by omega
          have hfin := hst1 (.inr rfl)
          clear hst1 hst2 hA
          go_wp2_with fail
          refine HCh.out.mono ?_
          rintro e w' ⟨rfl, rfl⟩
          by_cases hkr : k ≤ r
          · have hkr' : (k : Int) ≤ (r : Int) := by omega
            clear hkr
            go_wp2
            refine bodyPost_ret (results_tmp4 rfl _ _ _) rfl ?_
            exact ⟨by rw [hfin.out]; rfl, rfl⟩
          · have hkr' : ¬ (k : Int) ≤ (r : Int) := by omega
            clear hkr
            go_wp2
            refine bodyPost_ret (results_tmp4 rfl _ _ _) rfl ?_
            exact ⟨by rw [hfin.out]; rfl, rfl⟩
        · have ge : ∀ h : e < src.size, ((src[e]'h).toNat : Int) = 10 := fun h => by rw [byteAt_get src e h, hB]; rfl
          have hlt' : (e : Int) < (src.size : Int) := by omega
          have hne' : ((e : Int) == (src.size : Int)) = false := by rw [beq_eq_false_iff_ne]; omega
          by_cases hkr : k ≤ r
          · have hkr' : (k : Int) ≤ (r : Int) := by omega
            have hfin := hst1 (.inl hkr)
            clear hst1 hst2 hkr hB
            go_wp2_with fail
            refine HCh.out.mono ?_
            rintro e w' ⟨rfl, rfl⟩
            go_wp2
            refine bodyPost_ret (results_tmp4 rfl _ _ _) rfl ?_
            exact ⟨by rw [hfin.out]; rfl, rfl⟩
          · have hkr' : ¬ (k : Int) ≤ (r : Int) := by omega
            have hnx := hst2 (by omega)
            have hkn : (((k - r - 1 : Nat)) : Int) = (k : Int) - (r : Int) - 1 := by omega
            have hknh := hide hkn
            clear hst1 hst2 hB hkn
            go_wp2_with fail
            refine HCh.out.mono ?_
            rintro e w' ⟨rfl, rfl⟩
            go_wp2
            go_roundw
            case rel => exact ⟨n, k - r - 1, line + 1, e + 1, by rw [hknh.out], by go_num, by go_num, by omega, by omega, by omega, by omega, hnx, by first | rfl | trivial⟩
            case measure => simp [RowKit.intOf]; omega

set_option maxRecDepth 20000 in
set_option maxHeartbeats 4000000 in
theorem model_in (src : ByteArray) (f : Int) (w : World) (hs : src.size ≤ 1048576) (hf0 : 0 ≤ f) (hf : f ≤ (cnt src.data.toList : Int)) :
    Calls Try.prog 9 #[.string src, .int .i64 f] w fun e w' => ModelRes src (modelGo src (src.size + 1) 1 (place src f) 0) e ∧ w = w' := by
  have hs' : (src.size : Int) ≤ 1048576 := by omega
  have HC := hide (cnt_any src w hs)
  have hcb := hide (show cnt src.data.toList ≤ 1048576 by
    have h := cnt_le _ src.data.toList (Nat.le_refl _)
    rw [len_data] at h
    omega)
  have hpl := hide (show place src f ≤ cnt src.data.toList by unfold place; split <;> omega)
  have hcbi : (cnt src.data.toList : Int) ≤ 1048576 := by have := hcb.out; omega
  have hfx : ¬ f < 0 := by omega
  have hcx : ¬ (cnt src.data.toList : Int) < f := by omega
  have hpe := hide (show ((place src f : Nat) : Int) = f by unfold place; rw [if_neg (by omega)]; omega)
  clear hf hf0
  go_enter Try.func9, Try.ntmps9
  go_wp2_with fail
  refine HC.out.mono ?_
  rintro e w' ⟨rfl, rfl⟩
  go_wp2_with fail
  go_loopw [8, 10, 11] (fun kv lv sv wr => ∃ (n k line start : Nat), kv = .int .i64 k ∧ lv = .int .i64 line ∧ sv = .int .i64 start ∧ start ≤ src.size ∧ line ≤ start + 1 ∧ k ≤ 1048576 ∧ src.size < start + n ∧ Hid (modelGo src n line k start = modelGo src (src.size + 1) 1 (place src f) 0) ∧ w = wr) (fun _ _ sv _ => src.size + 1 - (RowKit.intOf sv).toNat)
  case atStart => exact ⟨src.size + 1, place src f, 1, 0, by rw [hpe.out], rfl, rfl, by omega, by omega, by have := hcb.out; have := hpl.out; omega, by omega, hide rfl, rfl⟩
  case round =>
    obtain ⟨n, k, line, start, rfl, rfl, rfl, hst, hli, hk, hfu, hM, rfl⟩ := hrel
    clear hfx hcx
    have x1 : (start : Int) ≤ (src.size : Int) := by omega
    have x2 : (line : Int) ≤ (start : Int) + 1 := by omega
    have x3 : (k : Int) ≤ 1048576 := by omega
    have x4 : (0 : Int) ≤ (start : Int) := by omega
    have x5 : (0 : Int) ≤ (k : Int) := by omega
    obtain ⟨n, rfl⟩ : ∃ m, n = m + 1 := ⟨n - 1, by omega⟩
    go_wp2_with fail
    go_loopw [12] (fun ev wr => ∃ e : Nat, ev = .int .i64 e ∧ start ≤ e ∧ e ≤ src.size ∧ Hid (∀ p, start ≤ p → p < e → src.data.toList[p]? ≠ some 10) ∧ w = wr) (fun ev _ => src.size - (RowKit.intOf ev).toNat)
    case atStart => exact ⟨start, rfl, by omega, by omega, hide (fun p h1 h2 => by omega), rfl⟩
    case round =>
      obtain ⟨e, rfl, he1, he2, hno, rfl⟩ := hrel
      have y0 : (0 : Int) ≤ (e : Int) := by omega
      have y1 : (e : Int) ≤ (src.size : Int) := by omega
      have y2 : (start : Int) ≤ (e : Int) := by omega
      by_cases hq : e < src.size ∧ byteAt src e ≠ 10
      · have hlt' : (e : Int) < (src.size : Int) := by omega
        have hlt := hq.1
        have ge : ∀ h : e < src.size, ((src[e]'h).toNat : Int) = (byteAt src e : Int) := fun h => byteAt_get src e h
        have hne : ((byteAt src e : Int) != 10) = true := by have := hq.2; simp; omega
        have hno2 := hide (show ∀ p, start ≤ p → p < e + 1 → src.data.toList[p]? ≠ some 10 by
          intro p h1 h2 h3
          by_cases hp : p = e
          · subst hp
            exact hq.2 ((byteAt_data src p 10 hlt (by decide)).2 h3)
          · exact hno.out p h1 (by omega) h3)
        clear hq hno
        go_wp2
        go_roundw
        case rel => exact ⟨e + 1, by go_num, by omega, by omega, hno2, by first | rfl | trivial⟩
        case measure => simp [RowKit.intOf]; omega
      · have hE := hide (lineEnd_eq src start e he1 he2 (by
          by_cases h1 : e < src.size
          · right
            have h2 : byteAt src e = 10 := by
              by_cases h3 : byteAt src e = 10
              · exact h3
              · exact absurd ⟨h1, h3⟩ hq
            exact (byteAt_data src e 10 h1 (by decide)).1 h2
          · left; omega) hno.out)
        have HCn := cnt_any (src.extract start e) w (by simp; omega)
        have hcl := cnt_le _ (src.extract start e).data.toList (Nat.le_refl _)
        rw [len_data] at hcl
        have hcl2 : cnt (src.extract start e).data.toList ≤ e - start := by simp at hcl ⊢; omega
        have hst1 := fun hs => hide (model_stop (e := e) hM.out hE.out hs)
        have hst2 := fun hs => hide (model_on (e := e) hM.out hE.out hs)
        generalize cnt (src.extract start e).data.toList = r at *
        have hr' : (r : Int) ≤ (e : Int) - (start : Int) := by omega
        have hr0 : (0 : Int) ≤ (r : Int) := by omega
        have HCh := hide HCn
        have hsplit : (¬ e < src.size) ∨ (e < src.size ∧ byteAt src e = 10) := by
          by_cases h1 : e < src.size
          · right
            refine ⟨h1, ?_⟩
            by_cases h3 : byteAt src e = 10
            · exact h3
            · exact absurd ⟨h1, h3⟩ hq
          · exact .inl h1
        clear hq hno HCn hcl hcl2 hM
        rcases hsplit with hA | ⟨hA, hB⟩
        · obtain rfl : e = src.size := by omega
          have hfin := hst1 (.inr rfl)
          clear hst1 hst2 hA
          go_wp2_with fail
          refine HCh.out.mono ?_
          rintro e w' ⟨rfl, rfl⟩
          by_cases hkr : k ≤ r
          · have hkr' : (k : Int) ≤ (r : Int) := by omega
            clear hkr
            go_wp2
            refine bodyPost_ret (results_tmp4 rfl _ _ _) rfl ?_
            exact ⟨by rw [hfin.out]; rfl, rfl⟩
          · have hkr' : ¬ (k : Int) ≤ (r : Int) := by omega
            clear hkr
            go_wp2
            refine bodyPost_ret (results_tmp4 rfl _ _ _) rfl ?_
            exact ⟨by rw [hfin.out]; rfl, rfl⟩
        · have ge : ∀ h : e < src.size, ((src[e]'h).toNat : Int) = 10 := fun h => by rw [byteAt_get src e h, hB]; rfl
          have hlt' : (e : Int) < (src.size : Int) := by omega
          have hne' : ((e : Int) == (src.size : Int)) = false := by rw [beq_eq_false_iff_ne]; omega
          by_cases hkr : k ≤ r
          · have hkr' : (k : Int) ≤ (r : Int) := by omega
            have hfin := hst1 (.inl hkr)
            clear hst1 hst2 hkr hB
            go_wp2_with fail
            refine HCh.out.mono ?_
            rintro e w' ⟨rfl, rfl⟩
            go_wp2
            refine bodyPost_ret (results_tmp4 rfl _ _ _) rfl ?_
            exact ⟨by rw [hfin.out]; rfl, rfl⟩
          · have hkr' : ¬ (k : Int) ≤ (r : Int) := by omega
            have hnx := hst2 (by omega)
            have hkn : (((k - r - 1 : Nat)) : Int) = (k : Int) - (r : Int) - 1 := by omega
            have hknh := hide hkn
            clear hst1 hst2 hB hkn
            go_wp2_with fail
            refine HCh.out.mono ?_
            rintro e w' ⟨rfl, rfl⟩
            go_wp2
            go_roundw
            case rel => exact ⟨n, k - r - 1, line + 1, e + 1, by rw [hknh.out], by go_num, by go_num, by omega, by omega, by omega, by omega, hnx, by first | rfl | trivial⟩
            case measure => simp [RowKit.intOf]; omega

theorem model_any (src : ByteArray) (f : Int) (w : World) (hs : src.size ≤ 1048576) :
    Calls Try.prog 9 #[.string src, .int .i64 f] w fun e w' => ModelRes src (modelGo src (src.size + 1) 1 (place src f) 0) e ∧ w = w' := by
  by_cases h1 : f < 0
  · exact model_neg src f w hs h1
  · by_cases h2 : (cnt src.data.toList : Int) < f
    · exact model_far src f w hs h2
    · exact model_in src f w hs (by omega) (by omega)
end Go.Proofs.Ytlfgaikcdelknaa
