/-
  The walk of the statement on unicode escapes: what it begins with. Condition: utf8's two tables hold what their initialisers lay.
-/
import Derived.Test.YtncoodplmpgnbaaFmtGrP
import Derived.Test.YtncoodplmpgnbaaFmtWalkRef
import Derived.Test.YtncoodplmpgnbaaFmtWalkRu
namespace Go.Proofs.YtncoodplmpgnbaaFmt
open Go.RowKit Go.Lib Go.Shelf Go.Proofs
set_option linter.unusedVariables false
set_option linter.unusedSimpArgs false

theorem zz18_yes (s : ByteArray) (r q : Int) (W : World) (h : s.size ≤ 1048576) : Calls Tryf.prog 18 #[.string s, .int .i32 r, .int .u8 q] W fun e w' => e = .returned (.bool true) ∧ W = w' := by
  have h' : (s.size : Int) ≤ 1048576 := by omega
  have h_0 : (s.size : Int) ≤ 1048576 := by omega
  clear h
  go_enter Tryf.func18, Tryf.ntmps18
  go_wp2
  go_ret
  exact ⟨rfl, rfl⟩
set_option maxRecDepth 20000 in
theorem zz18_no (s : ByteArray) (r q : Int) (W : World) (h : 1048576 < s.size) (hm : s.size ≤ maxLen) : Calls Tryf.prog 18 #[.string s, .int .i32 r, .int .u8 q] W fun e w' => e = .returned (.bool false) ∧ W = w' := by
  have h' : 1048576 < (s.size : Int) := by omega
  have n_0 : (s.size : Int) ≤ 9223372036854775807 := by unfold maxLen at hm; omega
  clear h hm
  go_enter Tryf.func18, Tryf.ntmps18
  go_wp2
  all_goals (first | (go_ret; exact ⟨rfl, rfl⟩) | (exfalso; omega))
end Go.Proofs.YtncoodplmpgnbaaFmt
