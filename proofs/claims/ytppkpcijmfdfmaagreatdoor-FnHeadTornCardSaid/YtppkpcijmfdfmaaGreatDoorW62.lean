/- laws.FnHeadTorn answers true for every tree and place that the row allows, and lets its arguments be: the tied card. -/
import Derived.Test.YtppkpcijmfdfmaaGreatDoorW61
import Derived.Test.YtppkpcijmfdfmaaGreatDoorTie
import Derived.Test.YtppkpcijmfdfmaaGreatDoorCards
namespace Go.Proofs.YtppkpcijmfdfmaaGreatDoor
theorem torn_plain (f : FuncId) (fn : Func) (hf : Tryz.pinned.checked.prog.funcNamed "pub-bullarium/laws.FnHeadTorn" = some f) (hfn : Tryz.pinned.checked.prog.funcs[f]? = some fn) :
    true = Tryz.pinned.checked.prog.looks [] ∧ ∀ (j : Nat) t, fn.params[j]? = some t → Tryz.pinned.checked.prog.wantsStandIn t = false := by
  obtain rfl : f = 11 := Option.some.inj ((show Tryz.prog.funcNamed "pub-bullarium/laws.FnHeadTorn" = some 11 by kernel_rfl).symm.trans hf) |>.symm
  obtain rfl : fn = Tryz.f11 := (Option.some.inj (Tryz.func11.symm.trans hfn)).symm
  refine ⟨by kernel_rfl, fun j t ht => ?_⟩
  rw [Tryz.params11] at ht
  have hm : t ∈ [45, 67] := by simpa using Array.mem_of_getElem? ht
  have hall : ([45, 67].all fun u => !Tryz.prog.wantsStandIn u) = true := by kernel_rfl
  exact (show Tryz.prog.wantsStandIn t = false by simpa using List.all_eq_true.1 hall t hm)
theorem torn_wf : Rows.fnHeadTornRow.wfByText (OpenSpec.ofChange Rows.fnHeadTornSpec) = true := by kernel_rfl
theorem torn_main : Tryz.pinned.checked.prog.mainIs = some (true, "81d444f15f53a777dd541dbe70da5e577ab0d6b482ad7a3c84e2e74970e47b66".toList) := by kernel_rfl
theorem torn_goes : false = Rows.fnHeadTornRow.goesBy Tryz.pinned.checked.prog := by kernel_rfl
theorem torn_card : Rows.FnHeadTornCardSaid :=
  Claim7.holds_tied_plain_at .later [] _ _ _ _ torn_said (fun _ h => by cases h) torn_wf (fun _ h => by cases h) fnHeadTorn_row_tie rfl ⟨rfl, rfl⟩ torn_main rfl torn_plain torn_goes
end Go.Proofs.YtppkpcijmfdfmaaGreatDoor
