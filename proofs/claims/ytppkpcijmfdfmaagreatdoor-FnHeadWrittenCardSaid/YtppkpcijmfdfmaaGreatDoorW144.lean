/- FnHeadWritten: the row. -/
import Derived.Test.YtppkpcijmfdfmaaGreatDoorW142
import Derived.Test.YtppkpcijmfdfmaaGreatDoorW143
set_option linter.unusedVariables false
set_option linter.unusedSimpArgs false
namespace Go.Proofs.YtppkpcijmfdfmaaGreatDoor
open Go.RowKit
theorem written_said : Rows.FnHeadWrittenSaid :=
  OpenClaim.holds_of_wide 13 Tryz.f13 rfl rfl rfl rfl rfl rfl rfl ⟨rfl, rfl, rfl, rfl, rfl⟩ rfl rfl rfl rfl rfl (by as_aux_lemma => kernel_rfl) Tryz.func13 written_facts
    (of_decide_eq_true (by kernel_rfl)) (by unfold Func.isWrapper; first | (rw [if_pos (by decide +kernel)]; kernel_rfl) | (rw [if_neg (by decide +kernel)]; exact ⟨rfl, rfl⟩))
    (fun os started H enc _ => written_lifted os started H enc)
end Go.Proofs.YtppkpcijmfdfmaaGreatDoor
