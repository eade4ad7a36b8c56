/- FnHeadRuns: the row. -/
import Derived.Test.YtppkpcijmfdfmaaGreatDoorW231
import Derived.Test.YtppkpcijmfdfmaaGreatDoorW232
set_option linter.unusedVariables false
set_option linter.unusedSimpArgs false
namespace Go.Proofs.YtppkpcijmfdfmaaGreatDoor
open Go.RowKit
theorem runs_said : Rows.FnHeadRunsSaid :=
  OpenClaim.holds_of_wide 8 Tryz.f8 rfl rfl rfl rfl rfl rfl rfl ⟨rfl, rfl, rfl, rfl, rfl⟩ rfl rfl rfl rfl rfl (by as_aux_lemma => kernel_rfl) Tryz.func8 runs_facts
    (of_decide_eq_true (by kernel_rfl)) (by unfold Func.isWrapper; first | (rw [if_pos (by decide +kernel)]; kernel_rfl) | (rw [if_neg (by decide +kernel)]; exact ⟨rfl, rfl⟩))
    (fun os started H enc _ => runs_lifted os started H enc)
end Go.Proofs.YtppkpcijmfdfmaaGreatDoor
