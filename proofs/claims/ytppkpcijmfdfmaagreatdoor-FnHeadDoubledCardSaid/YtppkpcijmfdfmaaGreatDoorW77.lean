/- FnHeadDoubled: the row. -/
import Derived.Test.YtppkpcijmfdfmaaGreatDoorW75
import Derived.Test.YtppkpcijmfdfmaaGreatDoorW76
namespace Go.Proofs.YtppkpcijmfdfmaaGreatDoor
open Go.RowKit
theorem doubled_said : Rows.FnHeadDoubledSaid :=
  OpenClaim.holds_of_wide 19 Tryz.f19 rfl rfl rfl rfl rfl rfl rfl ⟨rfl, rfl, rfl, rfl, rfl⟩ rfl rfl rfl rfl rfl (by as_aux_lemma => kernel_rfl) Tryz.func19 doubled_facts
    (of_decide_eq_true (by kernel_rfl)) (by unfold Func.isWrapper; first | (rw [if_pos (by decide +kernel)]; kernel_rfl) | (rw [if_neg (by decide +kernel)]; exact ⟨rfl, rfl⟩))
    (fun os started H enc _ => doubled_lifted os started H enc)
end Go.Proofs.YtppkpcijmfdfmaaGreatDoor
