/- laws.FnHeadTens answers true for all arguments that the row allows, and lets them be: the tied card. -/
import Derived.Test.YtppkpcijmfdfmaaGreatDoorW95
import Derived.Test.YtppkpcijmfdfmaaGreatDoorTie
import Derived.Test.YtppkpcijmfdfmaaGreatDoorCards
namespace Go.Proofs.YtppkpcijmfdfmaaGreatDoor
theorem tens_plain (f : FuncId) (fn : Func) (hf : Tryz.pinned.checked.prog.funcNamed "pub-bullarium/laws.FnHeadTens" = some f) (hfn : Tryz.pinned.checked.prog.funcs[f]? = some fn) :
    true = Tryz.pinned.checked.prog.looks [] ∧ ∀ (j : Nat) t, fn.params[j]? = some t → Tryz.pinned.checked.prog.wantsStandIn t = false := by
  obtain rfl : f = 5 := Option.some.inj ((show Tryz.prog.funcNamed "pub-bullarium/laws.FnHeadTens" = some 5 by kernel_rfl).symm.trans hf) |>.symm
  obtain rfl : fn = Tryz.f5 := (Option.some.inj (Tryz.func5.symm.trans hfn)).symm
  refine ⟨by kernel_rfl, fun j t ht => ?_⟩
  rw [Tryz.params5] at ht
  have hm : t ∈ [23, 5, 4, 4] := by simpa using Array.mem_of_getElem? ht
  have hall : ([23, 5, 4, 4].all fun u => !Tryz.prog.wantsStandIn u) = true := by kernel_rfl
  exact (show Tryz.prog.wantsStandIn t = false by simpa using List.all_eq_true.1 hall t hm)
theorem tens_wf : Rows.fnHeadTensRow.wfByText (OpenSpec.ofChange Rows.fnHeadTensSpec) = true := by kernel_rfl
theorem tens_main : Tryz.pinned.checked.prog.mainIs = some (true, "81d444f15f53a777dd541dbe70da5e577ab0d6b482ad7a3c84e2e74970e47b66".toList) := by kernel_rfl
theorem tens_goes : false = Rows.fnHeadTensRow.goesBy Tryz.pinned.checked.prog := by kernel_rfl
theorem tens_card : Rows.FnHeadTensCardSaid :=
  Claim7.holds_tied_plain_at .later [] _ _ _ _ tens_said (fun _ h => by cases h) tens_wf (fun _ h => by cases h) fnHeadTens_row_tie rfl ⟨rfl, rfl⟩ tens_main rfl tens_plain tens_goes
end Go.Proofs.YtppkpcijmfdfmaaGreatDoor
