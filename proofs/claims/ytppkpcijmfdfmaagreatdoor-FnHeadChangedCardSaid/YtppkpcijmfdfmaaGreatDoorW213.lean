/- FnHeadChanged: the row. -/
import Derived.Test.YtppkpcijmfdfmaaGreatDoorW211
import Derived.Test.YtppkpcijmfdfmaaGreatDoorW212
set_option linter.unusedVariables false
set_option linter.unusedSimpArgs false
namespace Go.Proofs.YtppkpcijmfdfmaaGreatDoor
open Go.RowKit
theorem changed_said : Rows.FnHeadChangedSaid :=
  OpenClaim.holds_of_wide 17 Tryz.f17 rfl rfl rfl rfl rfl rfl rfl ⟨rfl, rfl, rfl, rfl, rfl⟩ rfl rfl rfl rfl rfl (by as_aux_lemma => kernel_rfl) Tryz.func17 changed_facts
    (of_decide_eq_true (by kernel_rfl)) (by unfold Func.isWrapper; first | (rw [if_pos (by decide +kernel)]; kernel_rfl) | (rw [if_neg (by decide +kernel)]; exact ⟨rfl, rfl⟩))
    (fun os started H enc _ => changed_lifted os started H enc)
end Go.Proofs.YtppkpcijmfdfmaaGreatDoor
