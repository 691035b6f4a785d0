/-
  fmt.Errorf of a constant text without operands hands back an error that is not nil. Condition: the world's tape answers as F does (fmt's text is told).
-/
import Derived.Test.YtncoodplmpgnbaaFmtShelf
import Derived.WalkKit
import Derived.WalkSpells
import Derived.Handy
import Derived.Stop.CallBack
import Derived.Stop.IfaceNil
import GoSem.ClaimData
import Derived.KernelRfl
namespace Go.Proofs.YtncoodplmpgnbaaFmt
open Go.RowKit Go.Lib Go.Shelf Go.Proofs
open Go.Extern.Stop Go.Stop Go.Extern
set_option linter.unusedVariables false

theorem hide {p : Prop} (h : p) : Hid p := h
@[go_sem] theorem call37 (args : Array Value) (w : World) : (callFunc 35 args).run Tryf.prog w = ((FmtStop.errorf #[9, 60] #[24] args).run Tryf.prog w).andThen fun v w' => .ok (.value v) w' :=
  run_callFunc_extern Tryf.func35 (by kernel_rfl) (by kernel_rfl) (by kernel_rfl) (by kernel_rfl) args w
@[go_sem] theorem guardF (name : String) (w : World) : (FmtStop.guard name).run Tryf.prog w = .ok () w := by kernel_rfl
@[go_sem] theorem ptr61 (w : World) : (FmtStop.ptrTo "errors.errorString").run Tryf.prog w = .ok 68 w := by kernel_rfl
@[go_sem] theorem elem61 (w : World) : (elemOf 68).run Tryf.prog w = .ok 70 w := by kernel_rfl
@[go_sem] theorem isError61' (w : World) : (FmtDoors.textMethod 68 "Error").run Tryf.prog w = .ok true w := by kernel_rfl

theorem errorf_any (m : ByteArray) (hm : ¬ (37 : UInt8) ∈ m.data) (w : World) :
    Calls Tryf.prog 27 #[.string m, .slice none 0 0] w fun e w' => ∃ a, e = .returned (.iface 68 (.pointer (some a))) ∧ Below w.heap.size w w' := by
  go_enter Tryf.func27, Tryf.ntmps27
  go_wp2
  go_ret
  exact ⟨_, rfl, (Below.refl _ _).alloc (Nat.le_refl _) _⟩
end Go.Proofs.YtncoodplmpgnbaaFmt
