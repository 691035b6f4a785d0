/-
  The precedence map: what the row lists of it, as look-ups that the walks use. Condition: the listed variable reads as listed.
-/
import Derived.Test.YtkemldodnafilaaDoorRows
import Derived.WalkKit
import Derived.WalkSpells
import Derived.ProofKit
import Derived.LaidMore
import Derived.OpenShut
import Derived.Laws.IdiomElems
import Derived.Laws.IdiomMaps
import Derived.Lib.LaidU8
namespace Go.Proofs.YtkemldodnafilaaDoor
open Go.ChangeShapes Go.WideShapes Go.ChangeAt Go.WideMaps Go.WideElems Go.RowKit
set_option linter.unusedVariables false
set_option linter.unusedSimpArgs false
theorem hide {p : Prop} (h : p) : Hid p := h
theorem ret_b {a b : Bool} (h : a = b) : Ending.returned (.bool a) = .returned (.bool b) := by rw [h]

abbrev binD : DataW Unit := Rows.laid_github_com_expr_lang_expr_parser_operator_Binary
theorem gBin : Tryd.prog.globalNamed "github.com/expr-lang/expr/parser/operator.Binary" = some 0 := by kernel_rfl
theorem tBin : (Tryd.prog.globals[0]?).map (·.type) = some 28 := by kernel_rfl
theorem law : KeyLaw Tryd.prog 9 := string_law Tryd.underlying9
theorem cells3 : Tryd.prog.cellsOf 3 = 1 := by kernel_rfl
theorem cells25 : Tryd.prog.cellsOf 25 = 1 := by kernel_rfl
theorem cells27 : Tryd.prog.cellsOf 27 = 2 := by kernel_rfl

def ents : List (Lit × DataW Unit) := match binD with | .map es => es | _ => []
def preOf : DataW Unit → Int
  | .agg (.lit (.int _ p) :: _) => p
  | _ => 0
/-- The precedence of a spelling; 0 where the map has no such key. -/
def prec (bs : List UInt8) : Int := preOf (binD.atKey (.string bs) .nil)

/-- What the walks ask of the world. -/
def Bin (W : World) : Prop := ∃ bm, W.cell? ⟨0, 0, none⟩ = some (.map (some bm)) ∧ ∀ s : ByteArray, s.size ≤ maxLen → ∃ q, (Instr.lookup 28 (.map (some bm)) (.string s) false).run Tryd.prog W = .ok (.agg #[.int .i64 (prec s.data.toList), .int .i64 q]) W

theorem bin_of_laid {l : List (String × DataW Unit)} {W : World} (h : laidMet Tryd.prog l W) (hm : ("github.com/expr-lang/expr/parser/operator.Binary", binD) ∈ l) : Bin W := by
  obtain ⟨g0, t0, cs0, f0, p0, hg0, ht0, hv0, hd0⟩ := Lib.laidMet.reads h hm
  obtain rfl := Option.some.inj (gBin.symm.trans hg0)
  obtain rfl := Option.some.inj (tBin.symm.trans ht0)
  rcases open_map Tryd.underlying28 hd0 with ⟨_, hx⟩ | ⟨bm, es, clock, m, rfl, hcs, hb, _, F, hx⟩
  · simp [Rows.laid_github_com_expr_lang_expr_parser_operator_Binary] at hx
  simp only [Prod.mk.injEq] at hx
  have hcell : W.cell? ⟨0, 0, none⟩ = some (.map (some bm)) := by
    have := World.var?_cell hg0 hv0 0
    rw [Array.eq_one_of_toList hcs] at this
    simpa using this
  have zero : (zeroValue 27).run Tryd.prog W = .ok (.agg #[.int .i64 0, .int .i64 0]) W := by kernel_rfl
  refine ⟨bm, hcell, fun s hs => ?_⟩
  rcases fit_lookup (w := W) law Tryd.underlying28 zero hb F (keyOf_string_mk Tryd.underlying9 hs) with ⟨hrun, hat⟩ | ⟨v, y, hrun, hRv, hat, _⟩
  · refine ⟨0, ?_⟩
    have h0 := hat .nil
    rw [← hx.1] at h0
    have : prec s.data.toList = 0 := by unfold prec; rw [h0]; rfl
    rw [this]
    exact hrun
  · obtain ⟨r, r2, rfl, rfl, hwr, _⟩ := elemAt_pair Tryd.underlying27 rfl rfl Tryd.underlying3 Tryd.underlying25 cells3 cells25 cells27 hRv
    refine ⟨r2, ?_⟩
    have h0 := hat .nil
    rw [← hx.1] at h0
    have : prec s.data.toList = r := by unfold prec; rw [h0]; rfl
    rw [this]
    exact hrun

/-! ### the plain law: what the listed entries say of the spellings -/
def boolSet : List (List UInt8) := [[97, 110, 100], [111, 114], [38, 38], [124, 124]]
def cmpSet : List (List UInt8) := [[60], [62], [62, 61], [60, 61]]
theorem prec_cases (bs : List UInt8) : (prec bs = 0 ∧ ents.all (fun e => !(e.1.sameKey (.string bs))) = true) ∨ ∃ e ∈ ents, e.1.sameKey (.string bs) = true ∧ prec bs = preOf e.2 := by
  have hp : prec bs = preOf ((DataW.map ents : DataW Unit).atKey (.string bs) .nil) := rfl
  rcases hf : ents.find? (fun p => p.1.sameKey (.string bs)) with _ | e
  · left
    rw [hp]
    refine ⟨by simp only [DataW.atKey, hf]; rfl, ?_⟩
    rw [List.find?_eq_none] at hf
    rw [List.all_eq_true]
    intro x hx
    simpa using hf x hx
  · right
    rw [hp]
    have h1 := List.find?_some hf
    exact ⟨e, List.mem_of_find?_eq_some hf, h1, by simp only [DataW.atKey, hf]⟩
def keyOf : Lit → List UInt8
  | .string b => b
  | _ => []
theorem same_key {l : Lit} {bs : List UInt8} (h : l.sameKey (.string bs) = true) : keyOf l = bs := by
  cases l <;> simp [Lit.sameKey] at h
  exact h
theorem ents_bool : ∀ e ∈ ents, boolSet.contains (keyOf e.1) = (decide (0 < preOf e.2) && decide (preOf e.2 < 20)) := by decide +kernel
theorem ents_cmp : ∀ e ∈ ents, cmpSet.contains (keyOf e.1) = true → preOf e.2 = 20 := by decide +kernel
theorem bools_in : ∀ b ∈ boolSet, ents.all (fun e => !(e.1.sameKey (.string b))) = false := by decide +kernel
theorem cmps_in : ∀ b ∈ cmpSet, ents.all (fun e => !(e.1.sameKey (.string b))) = false := by decide +kernel
theorem cmp_bool : ∀ b ∈ cmpSet, boolSet.contains b = false := by decide +kernel
/-- A spelling is boolean exactly when its precedence lies strictly between the pipe's and equality's. -/
theorem bool_band (bs : List UInt8) : boolSet.contains bs = (decide (0 < prec bs) && decide (prec bs < 20)) := by
  rcases prec_cases bs with ⟨h0, hn⟩ | ⟨e, he, hk, hp⟩
  · rw [h0]
    rcases hb : boolSet.contains bs with _ | _
    · rfl
    · have := bools_in bs (by simpa using hb)
      rw [hn] at this
      cases this
  · rw [hp, ← same_key hk]
    exact ents_bool e he
theorem cmp_prec (bs : List UInt8) (h : cmpSet.contains bs = true) : prec bs = 20 ∧ boolSet.contains bs = false := by
  refine ⟨?_, cmp_bool bs (by simpa using h)⟩
  rcases prec_cases bs with ⟨h0, hn⟩ | ⟨e, he, hk, hp⟩
  · have := cmps_in bs (by simpa using h)
    rw [hn] at this
    cases this
  · rw [hp]
    rw [← same_key hk] at h
    exact ents_cmp e he h
theorem prec_pipe : prec [124] = 0 := by decide +kernel
theorem prec_eq : prec [61, 61] = 20 := by decide +kernel
theorem prec_and : prec [97, 110, 100] = 15 := by decide +kernel
theorem prec_dots : prec [46, 46] = 25 := by decide +kernel

/-! ### the walks of the package's functions -/
theorem field_prec (x q : Int) (W : World) : (Instr.field 27 (.agg #[.int .i64 x, .int .i64 q]) 0).run Tryd.prog W = .ok (.int .i64 x) W := by kernel_rfl
theorem less_any (a b : ByteArray) (W : World) (h : Bin W) (ha : a.size ≤ maxLen) (hb : b.size ≤ maxLen) :
    Calls Tryd.prog 8 #[.string a, .string b] W fun e w' => e = .returned (.bool (decide (prec a.data.toList < prec b.data.toList))) ∧ W = w' := by
  obtain ⟨bm, hc, hl⟩ := h
  obtain ⟨qa, ra⟩ := hl a ha
  obtain ⟨qb, rb⟩ := hl b hb
  obtain ⟨x, hx⟩ : ∃ x, prec a.data.toList = x := ⟨_, rfl⟩
  obtain ⟨y, hy⟩ : ∃ y, prec b.data.toList = y := ⟨_, rfl⟩
  rw [hx] at ra ⊢
  rw [hy] at rb ⊢
  clear hx hy hl
  go_enter Tryd.func8, Tryd.ntmps8
  have fa := field_prec x qa W
  have fb := field_prec y qb W
  go_wp2
  go_ret
  exact ⟨rfl, rfl⟩
theorem isBool_any (a : ByteArray) (W : World) : Calls Tryd.prog 7 #[.string a] W fun e w' => e = .returned (.bool (boolSet.contains a.data.toList)) ∧ W = w' := by
  go_enter Tryd.func7, Tryd.ntmps7
  go_wp2
  all_goals go_ret
  all_goals refine ⟨?_, rfl⟩
  all_goals (show Ending.returned (.bool _) = .returned (.bool _))
  all_goals (simp only [ByteArray.toList_eq] at *)
  all_goals (refine ret_b ?_; generalize a.data.toList = L at *; rw [Bool.eq_iff_iff]; simp [boolSet, cmpSet, *])
theorem isCmp_any (a : ByteArray) (W : World) : Calls Tryd.prog 10 #[.string a] W fun e w' => e = .returned (.bool (cmpSet.contains a.data.toList)) ∧ W = w' := by
  go_enter Tryd.func10, Tryd.ntmps10
  go_wp2
  all_goals go_ret
  all_goals refine ⟨?_, rfl⟩
  all_goals (show Ending.returned (.bool _) = .returned (.bool _))
  all_goals (simp only [ByteArray.toList_eq] at *)
  all_goals (refine ret_b ?_; generalize a.data.toList = L at *; rw [Bool.eq_iff_iff]; simp [boolSet, cmpSet, *])
end Go.Proofs.YtkemldodnafilaaDoor
