/-
  Proved: for every input, IsBoolean holds exactly of the operators that bind tighter than the pipe and looser than equality (the tied card of FnIsBooleanIsThePrecedenceBandAbovePipeBelowEquality). Condition: the precedence map holds what the program's text lays, which the card ties.
-/
import Derived.Test.YtkemldodnafilaaDoorCards
import Derived.Test.YtkemldodnafilaaDoorTie
import Derived.Test.YtkemldodnafilaaDoorWalks
import Derived.WalkKit
import Derived.ProofKit
import Derived.OpenShut
import Derived.ShutString
import Derived.ChangeOld
import Derived.Below
import Derived.PinnedBridge
import Derived.Lay
import Derived.LaidOnce
import Derived.SevenTiedAt
import Derived.LaidMore
import Derived.Stop.Joined
import Derived.ChangeVars
namespace Go.Proofs.YtkemldodnafilaaDoor
namespace fnIsBooleanIsThePrecedenceBandAbovePipeBelowEqualityDone
open Go.ChangeShapes Go.WideShapes Go.ChangeAt Go.RowKit Go.Lib
open Go.ChangeMaps (open_string shut_string)
open Go.WideElems (open_map)
set_option linter.unusedVariables false
theorem own : ownKnob Tryd.prog.godebug = none := by kernel_rfl
theorem laidOut : laidOutB Tryd.prog = true := by kernel_rfl
theorem door_met (os : Os) (args : Array Value) : laidMetH Tryd.prog Rows.fnIsBooleanIsThePrecedenceBandAbovePipeBelowEqualityRow.laid ((World.doorLaid Tryd.prog 400 os).forCall (fun _ _ => 0) ⟨#[], args, []⟩).memory :=
  laidMetH_of_parts3 (fuel := 8) (laidMet_of_run' 8 (by kernel_rfl) (by kernel_rfl)) (by kernel_rfl) (by kernel_rfl)
set_option maxRecDepth 100000 in
set_option maxHeartbeats 1000000 in
theorem lifted (os : Os) (started : os.Started) (H : Type) (enc : TypeId × Value → H) :
    ReturnsInHanded {} Tryd.checked os 3 .any (fun w args => (Rows.fnIsBooleanIsThePrecedenceBandAbovePipeBelowEqualitySpec.pre enc Tryd.prog Tryd.f3 [] false w args ∧ laidMetH Tryd.prog Rows.fnIsBooleanIsThePrecedenceBandAbovePipeBelowEqualityRow.laid w) ∧ sizedMet enc Tryd.prog Tryd.f3 (OpenSpec.ofChange Rows.fnIsBooleanIsThePrecedenceBandAbovePipeBelowEqualitySpec) false w args)
      (Rows.fnIsBooleanIsThePrecedenceBandAbovePipeBelowEqualitySpec.post enc Tryd.prog Tryd.f3 false true false false) := by
  refine returnsInHanded_of_change_and (C := Tryd.checked) (X := fun w _ => laidMetH Tryd.prog Rows.fnIsBooleanIsThePrecedenceBandAbovePipeBelowEqualityRow.laid w) (fun _ _ _ hh h => h.of_heap hh) own started (by kernel_rfl) Tryd.func3
    (ChangeSpec.witness_shaped (enc := enc) (C := Tryd.checked) (os := os) (X := fun w _ => laidMetH Tryd.prog Rows.fnIsBooleanIsThePrecedenceBandAbovePipeBelowEqualityRow.laid w) false (World.doorLaid Tryd.prog 400 os) #[.string ⟨#[]⟩] 8 rfl (World.shaped_of_RefB (by kernel_rfl) (by kernel_rfl)) (by kernel_rfl) (by kernel_rfl) (by kernel_rfl) (door_met os _)) ?_
  intro W base args ds gs before hval0 hW hcnd hsz hL0 _
  have hval : ∀ (j : Nat) t v, Tryd.f3.params[j]? = some t → args[j]? = some v → Value.okWide Tryd.prog W .any base t v := hval0
  have hW' := hW
  obtain ⟨p, q, hA0, hV, rfl, hfz, hnd⟩ := hW
  have hA : DataW.TrodAll enc Tryd.prog W 0 (fun _ => true) true Tryd.f3.params.toList args.toList ds p := hA0
  rw [Tryd.params3] at hA hval
  obtain ⟨v0, vs0, d0, ds0, p0, q0, hargs, rfl, rfl, h0, r0⟩ := trodAll_cons hA
  obtain ⟨rfl, rfl, rfl⟩ := trodAll_nil r0
  obtain rfl : args = #[v0] := by cases args; simp_all
  obtain ⟨gV, tV, csV, fuelV, dV, pV, rfl, hg1, ht1, hv1, hd1, rfl⟩ := trodVars_one hV
  obtain rfl := Option.some.inj (gBin.symm.trans hg1)
  obtain rfl := Option.some.inj (tBin.symm.trans ht1)
  obtain ⟨vV, hvV⟩ : ∃ v : Value, csV.toList = v.cells.toList := by
    rcases open_map Tryd.underlying28 hd1 with ⟨hcs, _⟩ | ⟨b, es, clock, n, _, hcs, _⟩
    · exact ⟨.map none, hcs⟩
    · exact ⟨.map (some b), hcs⟩
  have kV : DataW.Trod enc Tryd.prog W 0 (fun _ => true) true 28 vV dV pV := ⟨fuelV, by rw [← hvV]; exact hd1⟩
  have ltV : ∀ x ∈ pV, x.block < W.heap.size := by obtain ⟨m, hm⟩ := kV; exact DataW.trod_lt m _ _ _ hm
  obtain ⟨a0, rfl, rfl, rfl, w0⟩ := open_string Tryd.underlying9 (hval 0 9 v0 rfl rfl) h0
  clear hA0 hval0
  rw [MakeChecks.laidMetH_plain _ _ _ (by kernel_rfl)] at hL0
  have hL : laidMet Tryd.prog Rows.fnIsBooleanIsThePrecedenceBandAbovePipeBelowEqualityRow.laid W := hL0
  have hB : Bin W := bin_of_laid hL (.head _)
  refine (all3 a0 W w0 hB).mono fun e W' ⟨he, hw⟩ => ?_
  subst he
  subst hw
  have bel := Below.refl W.heap.size W
  obtain ⟨mV, hmV⟩ := Below.trod laidOut (by kernel_rfl) (of_decide_eq_true (by kernel_rfl)) kV bel ltV
  exact ⟨_, rfl, _, _, _, [], _, _, hW', trodAll_mk1 (shut_bool Tryd.underlying4 _), (trodAll_cons_mk (shut_string Tryd.underlying9 w0) trodAll_mk0), trodVars_mk1 gBin tBin hv1 (by rw [hvV]; exact hmV), bel.frame _, fun h => by cases h⟩

theorem over : Rows.fnIsBooleanIsThePrecedenceBandAbovePipeBelowEqualityRow.holds Tryd.pinned (OpenSpec.ofChange Rows.fnIsBooleanIsThePrecedenceBandAbovePipeBelowEqualitySpec) :=
  OpenClaim.holds_of_wide 3 Tryd.f3 rfl rfl rfl rfl rfl rfl rfl ⟨rfl, rfl, rfl, rfl, rfl⟩ rfl rfl rfl rfl rfl (by kernel_rfl) Tryd.func3 (by kernel_rfl)
    (of_decide_eq_true (by kernel_rfl)) (by unfold Func.isWrapper; first | (rw [if_pos (by decide +kernel)]; kernel_rfl) | (rw [if_neg (by decide +kernel)]; exact ⟨rfl, rfl⟩))
    (fun os started H enc _ => lifted os started H enc)
theorem proved : Rows.FnIsBooleanIsThePrecedenceBandAbovePipeBelowEqualityCardSaid :=
  Claim7.holds_tied_plain_at .later [] [.mapped] true (true, "e25380bad8b10026542993913c03baea5d2a36acfd37e3d082cebef1c836630b") false over (fun _ h => by cases h) (by kernel_rfl) (fun _ h => by cases h) fnIsBooleanIsThePrecedenceBandAbovePipeBelowEquality_row_tie rfl ⟨rfl, rfl⟩ (by kernel_rfl) rfl
    (fun f fn hf hfn => by
      obtain rfl : f = 3 := Option.some.inj ((show Tryd.prog.funcNamed Rows.fnIsBooleanIsThePrecedenceBandAbovePipeBelowEqualityRow.func = some 3 by kernel_rfl).symm.trans hf) |>.symm
      obtain rfl : fn = Tryd.f3 := (Option.some.inj (Tryd.func3.symm.trans hfn)).symm
      exact ⟨by kernel_rfl, fun j t ht => by
        rw [Tryd.params3] at ht
        have hm : t ∈ [9] := by
          have := Array.mem_of_getElem? ht
          simp at this ⊢
          omega
        have hall : ([9].all fun u => !Tryd.prog.wantsStandIn u) = true := by kernel_rfl
        exact (show Tryd.prog.wantsStandIn t = false by simpa using List.all_eq_true.1 hall t hm)⟩)
    (by kernel_rfl)
#print axioms proved
end fnIsBooleanIsThePrecedenceBandAbovePipeBelowEqualityDone
end Go.Proofs.YtkemldodnafilaaDoor
