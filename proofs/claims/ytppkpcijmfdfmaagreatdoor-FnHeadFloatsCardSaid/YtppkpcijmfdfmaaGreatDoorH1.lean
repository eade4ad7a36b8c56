/- Small helpers of the laws' walks. -/
import Derived.Test.YtppkpcijmfdfmaaGreatDoorG1
import Derived.Test.YtppkpcijmfdfmaaGreatDoorE3
set_option linter.unusedVariables false
set_option linter.unusedSimpArgs false
namespace Go.Proofs.YtppkpcijmfdfmaaGreatDoor
open Go.RowKit

theorem oneBox (w : World) (s : Bs) : (w.alloc (.cells #[Value.string (B s)] 9)).cell? ⟨w.heap.size, 0, none⟩ = some (.string (B s)) := by
  have := cell_of_row (w.alloc (.cells #[Value.string (B s)] 9)) w.heap.size 0 _ _ _ (heap_alloc_new w _)
  rw [this]
  rfl
theorem size_of_alloc (w : World) (o : Obj) : (w.alloc o).heap.size = w.heap.size + 1 := by simp
end Go.Proofs.YtppkpcijmfdfmaaGreatDoor
