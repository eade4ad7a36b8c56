/- FnHeadWithout: the row. -/
import Derived.Test.YtppkpcijmfdfmaaGreatDoorW226
import Derived.Test.YtppkpcijmfdfmaaGreatDoorW227
set_option linter.unusedVariables false
set_option linter.unusedSimpArgs false
namespace Go.Proofs.YtppkpcijmfdfmaaGreatDoor
open Go.RowKit
theorem without_said : Rows.FnHeadWithoutSaid :=
  OpenClaim.holds_of_wide 18 Tryz.f18 rfl rfl rfl rfl rfl rfl rfl ⟨rfl, rfl, rfl, rfl, rfl⟩ rfl rfl rfl rfl rfl (by as_aux_lemma => kernel_rfl) Tryz.func18 without_facts
    (of_decide_eq_true (by kernel_rfl)) (by unfold Func.isWrapper; first | (rw [if_pos (by decide +kernel)]; kernel_rfl) | (rw [if_neg (by decide +kernel)]; exact ⟨rfl, rfl⟩))
    (fun os started H enc _ => without_lifted os started H enc)
end Go.Proofs.YtppkpcijmfdfmaaGreatDoor
