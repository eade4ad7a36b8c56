/- laws.FnHeadWithout answers true for all arguments that the row allows, and lets them be: the tied card. -/
import Derived.Test.YtppkpcijmfdfmaaGreatDoorW228
import Derived.Test.YtppkpcijmfdfmaaGreatDoorTie
import Derived.Test.YtppkpcijmfdfmaaGreatDoorCards
set_option linter.unusedVariables false
set_option linter.unusedSimpArgs false
namespace Go.Proofs.YtppkpcijmfdfmaaGreatDoor
theorem without_plain (f : FuncId) (fn : Func) (hf : Tryz.pinned.checked.prog.funcNamed "pub-bullarium/laws.FnHeadWithout" = some f) (hfn : Tryz.pinned.checked.prog.funcs[f]? = some fn) :
    true = Tryz.pinned.checked.prog.looks [] ∧ ∀ (j : Nat) t, fn.params[j]? = some t → Tryz.pinned.checked.prog.wantsStandIn t = false := by
  obtain rfl : f = 18 := Option.some.inj ((show Tryz.prog.funcNamed "pub-bullarium/laws.FnHeadWithout" = some 18 by kernel_rfl).symm.trans hf) |>.symm
  obtain rfl : fn = Tryz.f18 := (Option.some.inj (Tryz.func18.symm.trans hfn)).symm
  refine ⟨by kernel_rfl, fun j t ht => ?_⟩
  rw [Tryz.params18] at ht
  have hm : t ∈ [45, 23, 5] := by simpa using Array.mem_of_getElem? ht
  have hall : ([45, 23, 5].all fun u => !Tryz.prog.wantsStandIn u) = true := by kernel_rfl
  exact (show Tryz.prog.wantsStandIn t = false by simpa using List.all_eq_true.1 hall t hm)
theorem without_wf : Rows.fnHeadWithoutRow.wfByText (OpenSpec.ofChange Rows.fnHeadWithoutSpec) = true := by kernel_rfl
theorem without_main : Tryz.pinned.checked.prog.mainIs = some (true, "81d444f15f53a777dd541dbe70da5e577ab0d6b482ad7a3c84e2e74970e47b66".toList) := by kernel_rfl
theorem without_goes : false = Rows.fnHeadWithoutRow.goesBy Tryz.pinned.checked.prog := by kernel_rfl
theorem without_card : Rows.FnHeadWithoutCardSaid :=
  Claim7.holds_tied_plain_at .later [] _ _ _ _ without_said (fun _ h => by cases h) without_wf (fun _ h => by cases h) fnHeadWithout_row_tie rfl ⟨rfl, rfl⟩ without_main rfl without_plain without_goes
end Go.Proofs.YtppkpcijmfdfmaaGreatDoor
