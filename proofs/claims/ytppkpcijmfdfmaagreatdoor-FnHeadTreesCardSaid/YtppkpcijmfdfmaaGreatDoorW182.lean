/- FnHeadTrees: the row. -/
import Derived.Test.YtppkpcijmfdfmaaGreatDoorW180
import Derived.Test.YtppkpcijmfdfmaaGreatDoorW181
set_option linter.unusedVariables false
set_option linter.unusedSimpArgs false
namespace Go.Proofs.YtppkpcijmfdfmaaGreatDoor
open Go.RowKit
theorem trees_said : Rows.FnHeadTreesSaid :=
  OpenClaim.holds_of_wide 9 Tryz.f9 rfl rfl rfl rfl rfl rfl rfl ⟨rfl, rfl, rfl, rfl, rfl⟩ rfl rfl rfl rfl rfl (by as_aux_lemma => kernel_rfl) Tryz.func9 trees_facts
    (of_decide_eq_true (by kernel_rfl)) (by unfold Func.isWrapper; first | (rw [if_pos (by decide +kernel)]; kernel_rfl) | (rw [if_neg (by decide +kernel)]; exact ⟨rfl, rfl⟩))
    (fun os started H enc _ => trees_lifted os started H enc)
end Go.Proofs.YtppkpcijmfdfmaaGreatDoor
