/- laws.FnHeadNoObject answers true for every tree, style and name that the row allows, and lets its arguments be: the tied card. -/
import Derived.Test.YtppkpcijmfdfmaaGreatDoorW55
import Derived.Test.YtppkpcijmfdfmaaGreatDoorTie
import Derived.Test.YtppkpcijmfdfmaaGreatDoorCards
namespace Go.Proofs.YtppkpcijmfdfmaaGreatDoor
theorem noObject_plain (f : FuncId) (fn : Func) (hf : Tryz.pinned.checked.prog.funcNamed "pub-bullarium/laws.FnHeadNoObject" = some f) (hfn : Tryz.pinned.checked.prog.funcs[f]? = some fn) :
    true = Tryz.pinned.checked.prog.looks [] ∧ ∀ (j : Nat) t, fn.params[j]? = some t → Tryz.pinned.checked.prog.wantsStandIn t = false := by
  obtain rfl : f = 10 := Option.some.inj ((show Tryz.prog.funcNamed "pub-bullarium/laws.FnHeadNoObject" = some 10 by kernel_rfl).symm.trans hf) |>.symm
  obtain rfl : fn = Tryz.f10 := (Option.some.inj (Tryz.func10.symm.trans hfn)).symm
  refine ⟨by kernel_rfl, fun j t ht => ?_⟩
  rw [Tryz.params10] at ht
  have hm : t ∈ [45, 23, 9] := by simpa using Array.mem_of_getElem? ht
  have hall : ([45, 23, 9].all fun u => !Tryz.prog.wantsStandIn u) = true := by kernel_rfl
  exact (show Tryz.prog.wantsStandIn t = false by simpa using List.all_eq_true.1 hall t hm)
theorem noObject_wf : Rows.fnHeadNoObjectRow.wfByText (OpenSpec.ofChange Rows.fnHeadNoObjectSpec) = true := by kernel_rfl
theorem noObject_main : Tryz.pinned.checked.prog.mainIs = some (true, "81d444f15f53a777dd541dbe70da5e577ab0d6b482ad7a3c84e2e74970e47b66".toList) := by kernel_rfl
theorem noObject_goes : false = Rows.fnHeadNoObjectRow.goesBy Tryz.pinned.checked.prog := by kernel_rfl
theorem noObject_card : Rows.FnHeadNoObjectCardSaid :=
  Claim7.holds_tied_plain_at .later [] _ _ _ _ noObject_said (fun _ h => by cases h) noObject_wf (fun _ h => by cases h) fnHeadNoObject_row_tie rfl ⟨rfl, rfl⟩ noObject_main rfl noObject_plain noObject_goes
end Go.Proofs.YtppkpcijmfdfmaaGreatDoor
