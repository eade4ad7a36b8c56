/- FnHeadTens: the row. -/
import Derived.Test.YtppkpcijmfdfmaaGreatDoorW93
import Derived.Test.YtppkpcijmfdfmaaGreatDoorW94
namespace Go.Proofs.YtppkpcijmfdfmaaGreatDoor
open Go.RowKit
theorem tens_said : Rows.FnHeadTensSaid :=
  OpenClaim.holds_of_wide 5 Tryz.f5 rfl rfl rfl rfl rfl rfl rfl ⟨rfl, rfl, rfl, rfl, rfl⟩ rfl rfl rfl rfl rfl (by as_aux_lemma => kernel_rfl) Tryz.func5 tens_facts
    (of_decide_eq_true (by kernel_rfl)) (by unfold Func.isWrapper; first | (rw [if_pos (by decide +kernel)]; kernel_rfl) | (rw [if_neg (by decide +kernel)]; exact ⟨rfl, rfl⟩))
    (fun os started H enc _ => tens_lifted os started H enc)
end Go.Proofs.YtppkpcijmfdfmaaGreatDoor
