/- laws.FnHeadWrongWord answers true for all arguments that the row allows, and lets them be: the tied card. -/
import Derived.Test.YtppkpcijmfdfmaaGreatDoorW68
import Derived.Test.YtppkpcijmfdfmaaGreatDoorTie
import Derived.Test.YtppkpcijmfdfmaaGreatDoorCards
namespace Go.Proofs.YtppkpcijmfdfmaaGreatDoor
theorem wrong_plain (f : FuncId) (fn : Func) (hf : Tryz.pinned.checked.prog.funcNamed "pub-bullarium/laws.FnHeadWrongWord" = some f) (hfn : Tryz.pinned.checked.prog.funcs[f]? = some fn) :
    true = Tryz.pinned.checked.prog.looks [] ∧ ∀ (j : Nat) t, fn.params[j]? = some t → Tryz.pinned.checked.prog.wantsStandIn t = false := by
  obtain rfl : f = 12 := Option.some.inj ((show Tryz.prog.funcNamed "pub-bullarium/laws.FnHeadWrongWord" = some 12 by kernel_rfl).symm.trans hf) |>.symm
  obtain rfl : fn = Tryz.f12 := (Option.some.inj (Tryz.func12.symm.trans hfn)).symm
  refine ⟨by kernel_rfl, fun j t ht => ?_⟩
  rw [Tryz.params12] at ht
  have hm : t ∈ [45, 5, 5] := by simpa using Array.mem_of_getElem? ht
  have hall : ([45, 5, 5].all fun u => !Tryz.prog.wantsStandIn u) = true := by kernel_rfl
  exact (show Tryz.prog.wantsStandIn t = false by simpa using List.all_eq_true.1 hall t hm)
theorem wrong_wf : Rows.fnHeadWrongWordRow.wfByText (OpenSpec.ofChange Rows.fnHeadWrongWordSpec) = true := by kernel_rfl
theorem wrong_main : Tryz.pinned.checked.prog.mainIs = some (true, "81d444f15f53a777dd541dbe70da5e577ab0d6b482ad7a3c84e2e74970e47b66".toList) := by kernel_rfl
theorem wrong_goes : false = Rows.fnHeadWrongWordRow.goesBy Tryz.pinned.checked.prog := by kernel_rfl
theorem wrong_card : Rows.FnHeadWrongWordCardSaid :=
  Claim7.holds_tied_plain_at .later [] _ _ _ _ wrong_said (fun _ h => by cases h) wrong_wf (fun _ h => by cases h) fnHeadWrongWord_row_tie rfl ⟨rfl, rfl⟩ wrong_main rfl wrong_plain wrong_goes
end Go.Proofs.YtppkpcijmfdfmaaGreatDoor
