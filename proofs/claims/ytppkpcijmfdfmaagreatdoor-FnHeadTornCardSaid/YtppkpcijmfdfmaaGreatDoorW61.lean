/- FnHeadTorn: the row. -/
import Derived.Test.YtppkpcijmfdfmaaGreatDoorW59
import Derived.Test.YtppkpcijmfdfmaaGreatDoorW60
namespace Go.Proofs.YtppkpcijmfdfmaaGreatDoor
open Go.RowKit
theorem torn_said : Rows.FnHeadTornSaid :=
  OpenClaim.holds_of_wide 11 Tryz.f11 rfl rfl rfl rfl rfl rfl rfl ⟨rfl, rfl, rfl, rfl, rfl⟩ rfl rfl rfl rfl rfl (by as_aux_lemma => kernel_rfl) Tryz.func11 torn_facts
    (of_decide_eq_true (by kernel_rfl)) (by unfold Func.isWrapper; first | (rw [if_pos (by decide +kernel)]; kernel_rfl) | (rw [if_neg (by decide +kernel)]; exact ⟨rfl, rfl⟩))
    (fun os started H enc _ => torn_lifted os started H enc)
end Go.Proofs.YtppkpcijmfdfmaaGreatDoor
