/- laws.FnHeadDoubled answers true for all arguments that the row allows, and lets them be: the tied card. -/
import Derived.Test.YtppkpcijmfdfmaaGreatDoorW77
import Derived.Test.YtppkpcijmfdfmaaGreatDoorTie
import Derived.Test.YtppkpcijmfdfmaaGreatDoorCards
namespace Go.Proofs.YtppkpcijmfdfmaaGreatDoor
theorem doubled_plain (f : FuncId) (fn : Func) (hf : Tryz.pinned.checked.prog.funcNamed "pub-bullarium/laws.FnHeadDoubled" = some f) (hfn : Tryz.pinned.checked.prog.funcs[f]? = some fn) :
    true = Tryz.pinned.checked.prog.looks [] ∧ ∀ (j : Nat) t, fn.params[j]? = some t → Tryz.pinned.checked.prog.wantsStandIn t = false := by
  obtain rfl : f = 19 := Option.some.inj ((show Tryz.prog.funcNamed "pub-bullarium/laws.FnHeadDoubled" = some 19 by kernel_rfl).symm.trans hf) |>.symm
  obtain rfl : fn = Tryz.f19 := (Option.some.inj (Tryz.func19.symm.trans hfn)).symm
  refine ⟨by kernel_rfl, fun j t ht => ?_⟩
  rw [Tryz.params19] at ht
  have hm : t ∈ [45, 67] := by simpa using Array.mem_of_getElem? ht
  have hall : ([45, 67].all fun u => !Tryz.prog.wantsStandIn u) = true := by kernel_rfl
  exact (show Tryz.prog.wantsStandIn t = false by simpa using List.all_eq_true.1 hall t hm)
theorem doubled_wf : Rows.fnHeadDoubledRow.wfByText (OpenSpec.ofChange Rows.fnHeadDoubledSpec) = true := by kernel_rfl
theorem doubled_main : Tryz.pinned.checked.prog.mainIs = some (true, "81d444f15f53a777dd541dbe70da5e577ab0d6b482ad7a3c84e2e74970e47b66".toList) := by kernel_rfl
theorem doubled_goes : false = Rows.fnHeadDoubledRow.goesBy Tryz.pinned.checked.prog := by kernel_rfl
theorem doubled_card : Rows.FnHeadDoubledCardSaid :=
  Claim7.holds_tied_plain_at .later [] _ _ _ _ doubled_said (fun _ h => by cases h) doubled_wf (fun _ h => by cases h) fnHeadDoubled_row_tie rfl ⟨rfl, rfl⟩ doubled_main rfl doubled_plain doubled_goes
end Go.Proofs.YtppkpcijmfdfmaaGreatDoor
