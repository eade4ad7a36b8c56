/- FnHeadNoObject: the row. -/
import Derived.Test.YtppkpcijmfdfmaaGreatDoorW53
import Derived.Test.YtppkpcijmfdfmaaGreatDoorW54
namespace Go.Proofs.YtppkpcijmfdfmaaGreatDoor
open Go.RowKit
theorem noObject_said : Rows.FnHeadNoObjectSaid :=
  OpenClaim.holds_of_wide 10 Tryz.f10 rfl rfl rfl rfl rfl rfl rfl ⟨rfl, rfl, rfl, rfl, rfl⟩ rfl rfl rfl rfl rfl (by as_aux_lemma => kernel_rfl) Tryz.func10 noObject_facts
    (of_decide_eq_true (by kernel_rfl)) (by unfold Func.isWrapper; first | (rw [if_pos (by decide +kernel)]; kernel_rfl) | (rw [if_neg (by decide +kernel)]; exact ⟨rfl, rfl⟩))
    (fun os started H enc _ => noObject_lifted os started H enc)
end Go.Proofs.YtppkpcijmfdfmaaGreatDoor
