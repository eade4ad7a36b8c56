/- laws.FnHeadOneKind answers true for all arguments that the row allows, and lets them be: the tied card. -/
import Derived.Test.YtppkpcijmfdfmaaGreatDoorW130
import Derived.Test.YtppkpcijmfdfmaaGreatDoorTie
import Derived.Test.YtppkpcijmfdfmaaGreatDoorCards
set_option linter.unusedVariables false
set_option linter.unusedSimpArgs false
namespace Go.Proofs.YtppkpcijmfdfmaaGreatDoor
theorem oneKind_plain (f : FuncId) (fn : Func) (hf : Tryz.pinned.checked.prog.funcNamed "pub-bullarium/laws.FnHeadOneKind" = some f) (hfn : Tryz.pinned.checked.prog.funcs[f]? = some fn) :
    true = Tryz.pinned.checked.prog.looks [] ∧ ∀ (j : Nat) t, fn.params[j]? = some t → Tryz.pinned.checked.prog.wantsStandIn t = false := by
  obtain rfl : f = 6 := Option.some.inj ((show Tryz.prog.funcNamed "pub-bullarium/laws.FnHeadOneKind" = some 6 by kernel_rfl).symm.trans hf) |>.symm
  obtain rfl : fn = Tryz.f6 := (Option.some.inj (Tryz.func6.symm.trans hfn)).symm
  refine ⟨by kernel_rfl, fun j t ht => ?_⟩
  rw [Tryz.params6] at ht
  have hm : t ∈ [45, 23, 9] := by simpa using Array.mem_of_getElem? ht
  have hall : ([45, 23, 9].all fun u => !Tryz.prog.wantsStandIn u) = true := by kernel_rfl
  exact (show Tryz.prog.wantsStandIn t = false by simpa using List.all_eq_true.1 hall t hm)
theorem oneKind_wf : Rows.fnHeadOneKindRow.wfByText (OpenSpec.ofChange Rows.fnHeadOneKindSpec) = true := by kernel_rfl
theorem oneKind_main : Tryz.pinned.checked.prog.mainIs = some (true, "81d444f15f53a777dd541dbe70da5e577ab0d6b482ad7a3c84e2e74970e47b66".toList) := by kernel_rfl
theorem oneKind_goes : false = Rows.fnHeadOneKindRow.goesBy Tryz.pinned.checked.prog := by kernel_rfl
theorem oneKind_card : Rows.FnHeadOneKindCardSaid :=
  Claim7.holds_tied_plain_at .later [] _ _ _ _ oneKind_said (fun _ h => by cases h) oneKind_wf (fun _ h => by cases h) fnHeadOneKind_row_tie rfl ⟨rfl, rfl⟩ oneKind_main rfl oneKind_plain oneKind_goes
end Go.Proofs.YtppkpcijmfdfmaaGreatDoor
