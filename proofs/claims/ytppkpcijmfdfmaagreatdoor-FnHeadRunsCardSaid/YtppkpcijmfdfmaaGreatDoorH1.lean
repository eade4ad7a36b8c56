/- Small helpers of the laws' walks. -/
import Derived.Test.YtppkpcijmfdfmaaGreatDoorG1
import Derived.Test.YtppkpcijmfdfmaaGreatDoorE3
set_option linter.unusedVariables false
set_option linter.unusedSimpArgs false
namespace Go.Proofs.YtppkpcijmfdfmaaGreatDoor
open Go.RowKit

theorem oneBox (w : World) (s : Bs) : (w.alloc (.cells #[Value.string (B s)] 9)).cell? ⟨w.heap.size, 0, none⟩ = some (.string (B s)) := by
  have := cell_of_row (w.alloc (.cells #[Value.string (B s)] 9)) w.heap.size 0 _ _ _ (heap_alloc_new w _)
  rw [this]
  rfl
theorem size_of_alloc (w : World) (o : Obj) : (w.alloc o).heap.size = w.heap.size + 1 := by simp
theorem size_of_drew (w : World) : w.drew.heap.size = w.heap.size := rfl
theorem blk_new {X : World} {b : Nat} {o : Obj} (hb : b = X.heap.size) : (X.alloc o).heap[b]? = some o := by
  subst hb
  exact heap_alloc_new _ _
end Go.Proofs.YtppkpcijmfdfmaaGreatDoor
