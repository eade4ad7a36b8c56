/- FnHeadAdded: the row. -/
import Derived.Test.YtppkpcijmfdfmaaGreatDoorW216
import Derived.Test.YtppkpcijmfdfmaaGreatDoorW217
set_option linter.unusedVariables false
set_option linter.unusedSimpArgs false
namespace Go.Proofs.YtppkpcijmfdfmaaGreatDoor
open Go.RowKit
theorem added_said : Rows.FnHeadAddedSaid :=
  OpenClaim.holds_of_wide 15 Tryz.f15 rfl rfl rfl rfl rfl rfl rfl ⟨rfl, rfl, rfl, rfl, rfl⟩ rfl rfl rfl rfl rfl (by as_aux_lemma => kernel_rfl) Tryz.func15 added_facts
    (of_decide_eq_true (by kernel_rfl)) (by unfold Func.isWrapper; first | (rw [if_pos (by decide +kernel)]; kernel_rfl) | (rw [if_neg (by decide +kernel)]; exact ⟨rfl, rfl⟩))
    (fun os started H enc _ => added_lifted os started H enc)
end Go.Proofs.YtppkpcijmfdfmaaGreatDoor
