/- laws.FnHeadFloats answers true for all arguments that the row allows, and lets them be: the tied card. -/
import Derived.Test.YtppkpcijmfdfmaaGreatDoorW243
import Derived.Test.YtppkpcijmfdfmaaGreatDoorTie
import Derived.Test.YtppkpcijmfdfmaaGreatDoorCards
set_option linter.unusedVariables false
set_option linter.unusedSimpArgs false
namespace Go.Proofs.YtppkpcijmfdfmaaGreatDoor
theorem floats_plain (f : FuncId) (fn : Func) (hf : Tryz.pinned.checked.prog.funcNamed "pub-bullarium/laws.FnHeadFloats" = some f) (hfn : Tryz.pinned.checked.prog.funcs[f]? = some fn) :
    true = Tryz.pinned.checked.prog.looks [] ∧ ∀ (j : Nat) t, fn.params[j]? = some t → Tryz.pinned.checked.prog.wantsStandIn t = false := by
  obtain rfl : f = 3 := Option.some.inj ((show Tryz.prog.funcNamed "pub-bullarium/laws.FnHeadFloats" = some 3 by kernel_rfl).symm.trans hf) |>.symm
  obtain rfl : fn = Tryz.f3 := (Option.some.inj (Tryz.func3.symm.trans hfn)).symm
  refine ⟨by kernel_rfl, fun j t ht => ?_⟩
  rw [Tryz.params3] at ht
  have hm : t ∈ [22, 23, 9] := by simpa using Array.mem_of_getElem? ht
  have hall : ([22, 23, 9].all fun u => !Tryz.prog.wantsStandIn u) = true := by kernel_rfl
  exact (show Tryz.prog.wantsStandIn t = false by simpa using List.all_eq_true.1 hall t hm)
theorem floats_wf : Rows.fnHeadFloatsRow.wfByText (OpenSpec.ofChange Rows.fnHeadFloatsSpec) = true := by kernel_rfl
theorem floats_main : Tryz.pinned.checked.prog.mainIs = some (true, "81d444f15f53a777dd541dbe70da5e577ab0d6b482ad7a3c84e2e74970e47b66".toList) := by kernel_rfl
theorem floats_goes : false = Rows.fnHeadFloatsRow.goesBy Tryz.pinned.checked.prog := by kernel_rfl
theorem floats_card : Rows.FnHeadFloatsCardSaid :=
  Claim7.holds_tied_plain_at .later [] _ _ _ _ floats_said (fun _ h => by cases h) floats_wf (fun _ h => by cases h) fnHeadFloats_row_tie rfl ⟨rfl, rfl⟩ floats_main rfl floats_plain floats_goes
end Go.Proofs.YtppkpcijmfdfmaaGreatDoor
