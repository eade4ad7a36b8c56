/- FnHeadTurned: the row. -/
import Derived.Test.YtppkpcijmfdfmaaGreatDoorW221
import Derived.Test.YtppkpcijmfdfmaaGreatDoorW222
set_option linter.unusedVariables false
set_option linter.unusedSimpArgs false
namespace Go.Proofs.YtppkpcijmfdfmaaGreatDoor
open Go.RowKit
theorem turned_said : Rows.FnHeadTurnedSaid :=
  OpenClaim.holds_of_wide 16 Tryz.f16 rfl rfl rfl rfl rfl rfl rfl ⟨rfl, rfl, rfl, rfl, rfl⟩ rfl rfl rfl rfl rfl (by as_aux_lemma => kernel_rfl) Tryz.func16 turned_facts
    (of_decide_eq_true (by kernel_rfl)) (by unfold Func.isWrapper; first | (rw [if_pos (by decide +kernel)]; kernel_rfl) | (rw [if_neg (by decide +kernel)]; exact ⟨rfl, rfl⟩))
    (fun os started H enc _ => turned_lifted os started H enc)
end Go.Proofs.YtppkpcijmfdfmaaGreatDoor
