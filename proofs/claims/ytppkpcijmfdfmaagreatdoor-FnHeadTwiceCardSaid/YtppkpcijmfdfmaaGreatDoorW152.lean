/- laws.FnHeadTwice answers true for all arguments that the row allows, and lets them be: the tied card. -/
import Derived.Test.YtppkpcijmfdfmaaGreatDoorW151
import Derived.Test.YtppkpcijmfdfmaaGreatDoorTie
import Derived.Test.YtppkpcijmfdfmaaGreatDoorCards
set_option linter.unusedVariables false
set_option linter.unusedSimpArgs false
namespace Go.Proofs.YtppkpcijmfdfmaaGreatDoor
theorem twice_plain (f : FuncId) (fn : Func) (hf : Tryz.pinned.checked.prog.funcNamed "pub-bullarium/laws.FnHeadTwice" = some f) (hfn : Tryz.pinned.checked.prog.funcs[f]? = some fn) :
    true = Tryz.pinned.checked.prog.looks [] ∧ ∀ (j : Nat) t, fn.params[j]? = some t → Tryz.pinned.checked.prog.wantsStandIn t = false := by
  obtain rfl : f = 14 := Option.some.inj ((show Tryz.prog.funcNamed "pub-bullarium/laws.FnHeadTwice" = some 14 by kernel_rfl).symm.trans hf) |>.symm
  obtain rfl : fn = Tryz.f14 := (Option.some.inj (Tryz.func14.symm.trans hfn)).symm
  refine ⟨by kernel_rfl, fun j t ht => ?_⟩
  rw [Tryz.params14] at ht
  have hm : t ∈ [45, 45, 5] := by simpa using Array.mem_of_getElem? ht
  have hall : ([45, 45, 5].all fun u => !Tryz.prog.wantsStandIn u) = true := by kernel_rfl
  exact (show Tryz.prog.wantsStandIn t = false by simpa using List.all_eq_true.1 hall t hm)
theorem twice_wf : Rows.fnHeadTwiceRow.wfByText (OpenSpec.ofChange Rows.fnHeadTwiceSpec) = true := by kernel_rfl
theorem twice_main : Tryz.pinned.checked.prog.mainIs = some (true, "81d444f15f53a777dd541dbe70da5e577ab0d6b482ad7a3c84e2e74970e47b66".toList) := by kernel_rfl
theorem twice_goes : false = Rows.fnHeadTwiceRow.goesBy Tryz.pinned.checked.prog := by kernel_rfl
theorem twice_card : Rows.FnHeadTwiceCardSaid :=
  Claim7.holds_tied_plain_at .later [] _ _ _ _ twice_said (fun _ h => by cases h) twice_wf (fun _ h => by cases h) fnHeadTwice_row_tie rfl ⟨rfl, rfl⟩ twice_main rfl twice_plain twice_goes
end Go.Proofs.YtppkpcijmfdfmaaGreatDoor
