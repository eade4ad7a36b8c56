/- FnHeadAgree: the row. -/
import Derived.Test.YtppkpcijmfdfmaaGreatDoorW137
import Derived.Test.YtppkpcijmfdfmaaGreatDoorW138
set_option linter.unusedVariables false
set_option linter.unusedSimpArgs false
namespace Go.Proofs.YtppkpcijmfdfmaaGreatDoor
open Go.RowKit
theorem agree_said : Rows.FnHeadAgreeSaid :=
  OpenClaim.holds_of_wide 7 Tryz.f7 rfl rfl rfl rfl rfl rfl rfl ⟨rfl, rfl, rfl, rfl, rfl⟩ rfl rfl rfl rfl rfl (by as_aux_lemma => kernel_rfl) Tryz.func7 agree_facts
    (of_decide_eq_true (by kernel_rfl)) (by unfold Func.isWrapper; first | (rw [if_pos (by decide +kernel)]; kernel_rfl) | (rw [if_neg (by decide +kernel)]; exact ⟨rfl, rfl⟩))
    (fun os started H enc _ => agree_lifted os started H enc)
end Go.Proofs.YtppkpcijmfdfmaaGreatDoor
