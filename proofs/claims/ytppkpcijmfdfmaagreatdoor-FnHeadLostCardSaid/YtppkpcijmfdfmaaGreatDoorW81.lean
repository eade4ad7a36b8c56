/- FnHeadLost: the row. -/
import Derived.Test.YtppkpcijmfdfmaaGreatDoorW79
import Derived.Test.YtppkpcijmfdfmaaGreatDoorW80
namespace Go.Proofs.YtppkpcijmfdfmaaGreatDoor
open Go.RowKit
theorem lost_said : Rows.FnHeadLostSaid :=
  OpenClaim.holds_of_wide 20 Tryz.f20 rfl rfl rfl rfl rfl rfl rfl ⟨rfl, rfl, rfl, rfl, rfl⟩ rfl rfl rfl rfl rfl (by as_aux_lemma => kernel_rfl) Tryz.func20 lost_facts
    (of_decide_eq_true (by kernel_rfl)) (by unfold Func.isWrapper; first | (rw [if_pos (by decide +kernel)]; kernel_rfl) | (rw [if_neg (by decide +kernel)]; exact ⟨rfl, rfl⟩))
    (fun os started H enc _ => lost_lifted os started H enc)
end Go.Proofs.YtppkpcijmfdfmaaGreatDoor
