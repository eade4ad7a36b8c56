/- FnHeadHalves: the row. -/
import Derived.Test.YtppkpcijmfdfmaaGreatDoorW101
import Derived.Test.YtppkpcijmfdfmaaGreatDoorW102
set_option linter.unusedVariables false
set_option linter.unusedSimpArgs false
namespace Go.Proofs.YtppkpcijmfdfmaaGreatDoor
open Go.RowKit
theorem halves_said : Rows.FnHeadHalvesSaid :=
  OpenClaim.holds_of_wide 4 Tryz.f4 rfl rfl rfl rfl rfl rfl rfl ⟨rfl, rfl, rfl, rfl, rfl⟩ rfl rfl rfl rfl rfl (by as_aux_lemma => kernel_rfl) Tryz.func4 halves_facts
    (of_decide_eq_true (by kernel_rfl)) (by unfold Func.isWrapper; first | (rw [if_pos (by decide +kernel)]; kernel_rfl) | (rw [if_neg (by decide +kernel)]; exact ⟨rfl, rfl⟩))
    (fun os started H enc _ => halves_lifted os started H enc)
end Go.Proofs.YtppkpcijmfdfmaaGreatDoor
