/- A row of texts that a call owns; appends to it; what may change beside it. -/
import Derived.Test.YtppkpcijmfdfmaaGreatDoorD3
import Derived.Test.YtppkpcijmfdfmaaGreatDoorC12
import Derived.Deep.AppendLies
namespace Go.Proofs.YtppkpcijmfdfmaaGreatDoor
open Go.RowKit

def strs (l : List Bs) : List Value := l.map fun s => .string (B s)
theorem strs_length (l : List Bs) : (strs l).length = l.length := by simp [strs]
theorem strs_app (l m : List Bs) : strs (l ++ m) = strs l ++ strs m := by simp [strs]
theorem strs_cell (l : List Bs) : ∀ u ∈ strs l, u.oneCell' = true := by
  intro u hu
  obtain ⟨_, _, rfl⟩ := List.mem_map.1 hu
  rfl
theorem strs_get {l : List Bs} {j : Nat} {u : Value} (h : (strs l)[j]? = some u) : ∃ s, l[j]? = some s ∧ u = .string (B s) := by
  unfold strs at h
  rw [List.getElem?_map, Option.map_eq_some_iff] at h
  obtain ⟨s, h1, h2⟩ := h
  exact ⟨s, h1, h2.symm⟩
/-- A row of texts of a call's own. -/
def OwnG (base : Nat) (w : World) (g cap : Nat) (l : List Bs) : Prop := w.ownsRow base 9 1 (.slice (some ⟨g, 0, none⟩) l.length cap) l.length (strs l)
theorem OwnG.row {base : Nat} {w : World} {g cap : Nat} {l : List Bs} (h : OwnG base w g cap l) : ∃ cur, base ≤ g ∧ w.heap[g]? = some (.cells cur 9 (0, 0)) ∧ l.length ≤ cap ∧ cap ≤ maxLen ∧ cur.size = cap ∧ cur.toList.take l.length = strs l := by
  rcases h.2 with ⟨h, _⟩ | ⟨g', cap', cur, h1, h2, h3, h4, h5, h6, h7⟩
  · cases h
  · cases h1
    exact ⟨cur, h2, h3, h4, h5, by omega, by simpa using h7⟩
theorem OwnG.lt {base : Nat} {w : World} {g cap : Nat} {l : List Bs} (h : OwnG base w g cap l) : g < w.heap.size := by
  obtain ⟨cur, _, h3, _⟩ := h.row
  rcases Nat.lt_or_ge g w.heap.size with h' | h'
  · exact h'
  · rw [Array.getElem?_eq_none h'] at h3; cases h3
theorem OwnG.base {base : Nat} {w : World} {g cap : Nat} {l : List Bs} (h : OwnG base w g cap l) : base ≤ g := by
  obtain ⟨cur, h2, _⟩ := h.row
  exact h2
theorem OwnG.keep {base : Nat} {w w' : World} {g cap : Nat} {l : List Bs} (h : OwnG base w g cap l) (hk : w'.heap[g]? = w.heap[g]?) : OwnG base w' g cap l := by
  obtain ⟨h0, h⟩ := h
  refine ⟨h0, ?_⟩
  rcases h with h | ⟨g', cap', cur, h1, h2, h3, h4⟩
  · exact Or.inl h
  · cases h1
    exact Or.inr ⟨g, cap, cur, rfl, h2, hk.trans h3, h4⟩
theorem OwnG.below {base : Nat} {w w' : World} {g cap : Nat} {l : List Bs} (h : OwnG base w g cap l) (hb : Below w.heap.size w w') : OwnG base w' g cap l := h.keep (hb.block g h.lt)
theorem OwnG.cells {base : Nat} {w : World} {g cap : Nat} {l : List Bs} (h : OwnG base w g cap l) (i : Nat) (s : Bs) (hi : l[i]? = some s) : w.cell? ⟨g, i, none⟩ = some (.string (B s)) := by
  obtain ⟨cur, _, h3, _, _, _, h7⟩ := h.row
  have hlt := (List.getElem?_eq_some_iff.1 hi).1
  have e : cur[i]? = some (.string (B s)) := by
    have : (cur.toList.take l.length)[i]? = some (.string (B s)) := by rw [h7, strs, List.getElem?_map, hi]; rfl
    rw [List.getElem?_take, if_pos hlt] at this
    simpa using this
  unfold World.cell?
  simp [h3, e]
theorem OwnG.ns {base : Nat} {w : World} {g cap : Nat} {l : List Bs} (h : OwnG base w g cap l) : NS w (.slice (some ⟨g, 0, none⟩) l.length cap) l :=
  Or.inr ⟨g, 0, cap, rfl, h.lt, fun i s hi => by rw [Nat.zero_add]; exact h.cells i s hi⟩
/-- A row that was just laid. -/
theorem OwnG.new (w : World) (l : List Bs) {base : Nat} (hb : base ≤ w.heap.size) (hl : l.length ≤ 1000000) : OwnG base (w.alloc (.cells (strs l).toArray 9)) w.heap.size l.length l := by
  refine ⟨by rw [strs_length, Nat.mul_one], Or.inr ⟨w.heap.size, l.length, (strs l).toArray, rfl, hb, heap_alloc_new w _, Nat.le_refl _, by unfold maxLen; omega, by simp [strs_length], ?_⟩⟩
  rw [Nat.mul_one]
  have : (strs l).toArray.toList = strs l := by simp
  rw [this, ← strs_length l, List.take_length]
theorem add_lit0 (b off i : Nat) : (⟨b, off, none⟩ : Addr).add i = ⟨b, off + i, none⟩ := by
  simp only [Addr.add]
  split <;> simp_all
end Go.Proofs.YtppkpcijmfdfmaaGreatDoor
