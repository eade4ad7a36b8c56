/- FnHeadWrongWord: the row. -/
import Derived.Test.YtppkpcijmfdfmaaGreatDoorW66
import Derived.Test.YtppkpcijmfdfmaaGreatDoorW67
namespace Go.Proofs.YtppkpcijmfdfmaaGreatDoor
open Go.RowKit
theorem wrong_said : Rows.FnHeadWrongWordSaid :=
  OpenClaim.holds_of_wide 12 Tryz.f12 rfl rfl rfl rfl rfl rfl rfl ⟨rfl, rfl, rfl, rfl, rfl⟩ rfl rfl rfl rfl rfl (by as_aux_lemma => kernel_rfl) Tryz.func12 wrong_facts
    (of_decide_eq_true (by kernel_rfl)) (by unfold Func.isWrapper; first | (rw [if_pos (by decide +kernel)]; kernel_rfl) | (rw [if_neg (by decide +kernel)]; exact ⟨rfl, rfl⟩))
    (fun os started H enc _ => wrong_lifted os started H enc)
end Go.Proofs.YtppkpcijmfdfmaaGreatDoor
