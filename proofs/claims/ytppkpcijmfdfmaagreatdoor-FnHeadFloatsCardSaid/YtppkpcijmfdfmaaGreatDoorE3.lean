/- append of the names of a tree behind one text. -/
import Derived.Test.YtppkpcijmfdfmaaGreatDoorE1
import Derived.Deep.AppendSrc
import Derived.Test.YtppkpcijmfdfmaaGreatDoorC1
import Derived.Deep.RegionHeld3
import Derived.Deep.RegionHeldLaw
set_option linter.unusedVariables false
set_option linter.unusedSimpArgs false
namespace Go.Proofs.YtppkpcijmfdfmaaGreatDoor
open Go.RowKit
/-- Names below a bound are names. -/
theorem NSB.ns {w : World} {B0 : Nat} {v : Value} {l : List Bs} (h : NSB w B0 v l) (hB : B0 ≤ w.heap.size) : NS w v l := by
  rcases h with h | ⟨b, off, c, h1, ⟨h2, _⟩, h3⟩
  · exact Or.inl h
  · exact Or.inr ⟨b, off, c, h1, Nat.lt_of_lt_of_le h2 hB, h3⟩
end Go.Proofs.YtppkpcijmfdfmaaGreatDoor

/- The walk of FnHeadTorn. -/
namespace Go.Proofs.YtppkpcijmfdfmaaGreatDoor
open Go.RowKit
attribute [local go_sem] B_size B_get B_lit B_ext_to B_ext B_toList B_app

theorem Below.to_alloc {w X : World} (h : Below w.heap.size w X) (o : Obj) : Below w.heap.size w (X.alloc o) := h.alloc h.size o
theorem Below.to_next {w X Y : World} (h : Below w.heap.size w X) (k : Below X.heap.size X Y) : Below w.heap.size w Y := h.trans (k.mono h.size)
theorem Below.kept {w X : World} (h : Below w.heap.size w X) {p : Addr} {v : Value} (hp : w.cell? p = some v) : X.cell? p = some v := by
  refine (h.cell (p := p) ?_).trans hp
  rcases Nat.lt_or_ge p.block w.heap.size with h' | h'
  · exact h'
  · simp [World.cell?, Array.getElem?_eq_none h'] at hp
end Go.Proofs.YtppkpcijmfdfmaaGreatDoor
