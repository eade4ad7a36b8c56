/- The walk of FnHeadNoObject. -/
import Derived.Test.YtppkpcijmfdfmaaGreatDoorD4
import Derived.Test.YtppkpcijmfdfmaaGreatDoorC15
set_option linter.unusedVariables false
set_option linter.unusedSimpArgs false
namespace Go.Proofs.YtppkpcijmfdfmaaGreatDoor
open Go.RowKit
attribute [local go_sem] B_size B_get B_lit B_ext_to B_ext B_toList B_app

/-- What a law's start gives. -/
def Ground (w : World) : Prop := Base w ∧ TabV w
theorem Ground.below {w w' : World} (h : Ground w) (hb : Below w.heap.size w w') : Ground w' := ⟨h.1.below hb, h.2.below hb⟩
theorem conv_bytes (w : World) (l : Bs) : ∃ v w', (convert 9 27 (.string (B l))).run Tryz.prog w = .ok v w' ∧ BA w' v l ∧ Below w.heap.size w w' := by
  refine ⟨_, _, Lib.run_convert_string_bytes (P := Tryz.prog) w 9 27 5 (B l) Tryz.underlying9 Tryz.underlying27 Tryz.underlying5, ?_, ?_⟩
  · refine Or.inr ⟨w.heap.size, 0, _, by rw [B_size], by rw [Lib.bytesWorld_size]; omega, fun i u hu => ?_⟩
    have hlt : i < (B l).size := by rw [B_size]; exact (List.getElem?_eq_some_iff.1 hu).1
    rw [Nat.zero_add, Lib.bytesWorld_cell _ _ _ _ hlt, B_data, List.getD, hu]
    rfl
  · exact ⟨rfl, rfl, rfl, by rw [Lib.bytesWorld_size]; omega, fun k hk => Lib.bytesWorld_at_old _ _ _ _ hk⟩
end Go.Proofs.YtppkpcijmfdfmaaGreatDoor
