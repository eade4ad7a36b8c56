/- laws.FnHeadLost answers true for all arguments that the row allows, and lets them be: the tied card. -/
import Derived.Test.YtppkpcijmfdfmaaGreatDoorW81
import Derived.Test.YtppkpcijmfdfmaaGreatDoorTie
import Derived.Test.YtppkpcijmfdfmaaGreatDoorCards
namespace Go.Proofs.YtppkpcijmfdfmaaGreatDoor
theorem lost_plain (f : FuncId) (fn : Func) (hf : Tryz.pinned.checked.prog.funcNamed "pub-bullarium/laws.FnHeadLost" = some f) (hfn : Tryz.pinned.checked.prog.funcs[f]? = some fn) :
    true = Tryz.pinned.checked.prog.looks [] ∧ ∀ (j : Nat) t, fn.params[j]? = some t → Tryz.pinned.checked.prog.wantsStandIn t = false := by
  obtain rfl : f = 20 := Option.some.inj ((show Tryz.prog.funcNamed "pub-bullarium/laws.FnHeadLost" = some 20 by kernel_rfl).symm.trans hf) |>.symm
  obtain rfl : fn = Tryz.f20 := (Option.some.inj (Tryz.func20.symm.trans hfn)).symm
  refine ⟨by kernel_rfl, fun j t ht => ?_⟩
  rw [Tryz.params20] at ht
  have hm : t ∈ [45, 67] := by simpa using Array.mem_of_getElem? ht
  have hall : ([45, 67].all fun u => !Tryz.prog.wantsStandIn u) = true := by kernel_rfl
  exact (show Tryz.prog.wantsStandIn t = false by simpa using List.all_eq_true.1 hall t hm)
theorem lost_wf : Rows.fnHeadLostRow.wfByText (OpenSpec.ofChange Rows.fnHeadLostSpec) = true := by kernel_rfl
theorem lost_main : Tryz.pinned.checked.prog.mainIs = some (true, "81d444f15f53a777dd541dbe70da5e577ab0d6b482ad7a3c84e2e74970e47b66".toList) := by kernel_rfl
theorem lost_goes : false = Rows.fnHeadLostRow.goesBy Tryz.pinned.checked.prog := by kernel_rfl
theorem lost_card : Rows.FnHeadLostCardSaid :=
  Claim7.holds_tied_plain_at .later [] _ _ _ _ lost_said (fun _ h => by cases h) lost_wf (fun _ h => by cases h) fnHeadLost_row_tie rfl ⟨rfl, rfl⟩ lost_main rfl lost_plain lost_goes
end Go.Proofs.YtppkpcijmfdfmaaGreatDoor
