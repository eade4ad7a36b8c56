/- FnHeadFloats: the row. -/
import Derived.Test.YtppkpcijmfdfmaaGreatDoorW241
import Derived.Test.YtppkpcijmfdfmaaGreatDoorW242
set_option linter.unusedVariables false
set_option linter.unusedSimpArgs false
namespace Go.Proofs.YtppkpcijmfdfmaaGreatDoor
open Go.RowKit
theorem floats_said : Rows.FnHeadFloatsSaid :=
  OpenClaim.holds_of_wide 3 Tryz.f3 rfl rfl rfl rfl rfl rfl rfl ⟨rfl, rfl, rfl, rfl, rfl⟩ rfl rfl rfl rfl rfl (by as_aux_lemma => kernel_rfl) Tryz.func3 floats_facts
    (of_decide_eq_true (by kernel_rfl)) (by unfold Func.isWrapper; first | (rw [if_pos (by decide +kernel)]; kernel_rfl) | (rw [if_neg (by decide +kernel)]; exact ⟨rfl, rfl⟩))
    (fun os started H enc _ => floats_lifted os started H enc)
end Go.Proofs.YtppkpcijmfdfmaaGreatDoor
