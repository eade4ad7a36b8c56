/- FnHeadOneKind: the row. -/
import Derived.Test.YtppkpcijmfdfmaaGreatDoorW128
import Derived.Test.YtppkpcijmfdfmaaGreatDoorW129
set_option linter.unusedVariables false
set_option linter.unusedSimpArgs false
namespace Go.Proofs.YtppkpcijmfdfmaaGreatDoor
open Go.RowKit
theorem oneKind_said : Rows.FnHeadOneKindSaid :=
  OpenClaim.holds_of_wide 6 Tryz.f6 rfl rfl rfl rfl rfl rfl rfl ⟨rfl, rfl, rfl, rfl, rfl⟩ rfl rfl rfl rfl rfl (by as_aux_lemma => kernel_rfl) Tryz.func6 oneKind_facts
    (of_decide_eq_true (by kernel_rfl)) (by unfold Func.isWrapper; first | (rw [if_pos (by decide +kernel)]; kernel_rfl) | (rw [if_neg (by decide +kernel)]; exact ⟨rfl, rfl⟩))
    (fun os started H enc _ => oneKind_lifted os started H enc)
end Go.Proofs.YtppkpcijmfdfmaaGreatDoor
