/- laws.FnHeadTrees answers true for all arguments that the row allows, and lets them be: the tied card. -/
import Derived.Test.YtppkpcijmfdfmaaGreatDoorW182
import Derived.Test.YtppkpcijmfdfmaaGreatDoorTie
import Derived.Test.YtppkpcijmfdfmaaGreatDoorCards
set_option linter.unusedVariables false
set_option linter.unusedSimpArgs false
namespace Go.Proofs.YtppkpcijmfdfmaaGreatDoor
theorem trees_plain (f : FuncId) (fn : Func) (hf : Tryz.pinned.checked.prog.funcNamed "pub-bullarium/laws.FnHeadTrees" = some f) (hfn : Tryz.pinned.checked.prog.funcs[f]? = some fn) :
    true = Tryz.pinned.checked.prog.looks [] ∧ ∀ (j : Nat) t, fn.params[j]? = some t → Tryz.pinned.checked.prog.wantsStandIn t = false := by
  obtain rfl : f = 9 := Option.some.inj ((show Tryz.prog.funcNamed "pub-bullarium/laws.FnHeadTrees" = some 9 by kernel_rfl).symm.trans hf) |>.symm
  obtain rfl : fn = Tryz.f9 := (Option.some.inj (Tryz.func9.symm.trans hfn)).symm
  refine ⟨by kernel_rfl, fun j t ht => ?_⟩
  rw [Tryz.params9] at ht
  have hm : t ∈ [45, 23, 9] := by simpa using Array.mem_of_getElem? ht
  have hall : ([45, 23, 9].all fun u => !Tryz.prog.wantsStandIn u) = true := by kernel_rfl
  exact (show Tryz.prog.wantsStandIn t = false by simpa using List.all_eq_true.1 hall t hm)
theorem trees_wf : Rows.fnHeadTreesRow.wfByText (OpenSpec.ofChange Rows.fnHeadTreesSpec) = true := by kernel_rfl
theorem trees_main : Tryz.pinned.checked.prog.mainIs = some (true, "81d444f15f53a777dd541dbe70da5e577ab0d6b482ad7a3c84e2e74970e47b66".toList) := by kernel_rfl
theorem trees_goes : false = Rows.fnHeadTreesRow.goesBy Tryz.pinned.checked.prog := by kernel_rfl
theorem trees_card : Rows.FnHeadTreesCardSaid :=
  Claim7.holds_tied_plain_at .later [] _ _ _ _ trees_said (fun _ h => by cases h) trees_wf (fun _ h => by cases h) fnHeadTrees_row_tie rfl ⟨rfl, rfl⟩ trees_main rfl trees_plain trees_goes
end Go.Proofs.YtppkpcijmfdfmaaGreatDoor
