/- The walk of runLive. -/
import Derived.Test.YtppkpcijmfdfmaaGreatDoorC14
set_option linter.unusedVariables false
set_option linter.unusedSimpArgs false
namespace Go.Proofs.YtppkpcijmfdfmaaGreatDoor
open Go.RowKit
attribute [local go_sem] B_size B_get B_lit B_ext_to B_ext B_toList B_app

theorem conv_mark (g m c n : Nat) (e : TypeId) (w : World) (h : w.shape? g = some (e, n)) :
    (convert 27 27 (.slice (some ⟨g, 0, none⟩) m c)).run Tryz.prog w = .ok (.slice (some ⟨g, 0, none⟩) m c) (w.freeze ⟨g, n, none⟩ 1) := by
  simp [convert, run_underlying Tryz.underlying27, run_underlying Tryz.underlying5, markStringish, h, Result.andThen]

theorem freeze_heap (w : World) (g n : Nat) : (w.freeze ⟨g, n, none⟩ 1).heap = w.heap.modify g fun | .cells c elem (lo, hi) => .cells c elem (if (lo == hi) = true then (n, n + 1) else (min lo n, max hi (n + 1))) | o => o := by
  unfold World.freeze
  rw [if_neg (by decide)]
  dsimp only
  congr 1
theorem freeze_below {w w1 : World} {g n : Nat} (h : Below w.heap.size w w1) (hg : w.heap.size ≤ g) : Below w.heap.size w (w1.freeze ⟨g, n, none⟩ 1) :=
  ⟨by simpa [World.freeze] using h.os, by simpa [World.freeze] using h.tape, by simpa [World.freeze] using h.output, by rw [freeze_heap]; simpa using h.size, fun b hb => by
    have : g ≠ b := by omega
    rw [← h.block b hb, freeze_heap, Array.getElem?_modify, if_neg this]⟩
theorem freeze_cell (w : World) (g n : Nat) (a : Addr) : (w.freeze ⟨g, n, none⟩ 1).cell? a = w.cell? a := by
  unfold World.cell?
  rw [freeze_heap, Array.getElem?_modify]
  by_cases h : g = a.block
  · subst h
    simp only [if_true]
    cases hb : w.heap[a.block]? with
    | none => rfl
    | some x => cases x <;> rfl
  · rw [if_neg h]
end Go.Proofs.YtppkpcijmfdfmaaGreatDoor
