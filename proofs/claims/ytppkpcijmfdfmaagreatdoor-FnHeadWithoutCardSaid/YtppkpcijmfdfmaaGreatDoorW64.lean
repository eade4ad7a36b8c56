/- A row of texts that a call owns; appends to it; what may change beside it. -/
import Derived.Test.YtppkpcijmfdfmaaGreatDoorD3
import Derived.Test.YtppkpcijmfdfmaaGreatDoorC12
import Derived.Test.YtppkpcijmfdfmaaGreatDoorA20
import Derived.Deep.AppendLies
namespace Go.Proofs.YtppkpcijmfdfmaaGreatDoor
open Go.RowKit

def strs (l : List Bs) : List Value := l.map fun s => .string (B s)
theorem strs_length (l : List Bs) : (strs l).length = l.length := by simp [strs]
theorem strs_app (l m : List Bs) : strs (l ++ m) = strs l ++ strs m := by simp [strs]
theorem strs_cell (l : List Bs) : ∀ u ∈ strs l, u.oneCell' = true := by
  intro u hu
  obtain ⟨_, _, rfl⟩ := List.mem_map.1 hu
  rfl
theorem strs_get {l : List Bs} {j : Nat} {u : Value} (h : (strs l)[j]? = some u) : ∃ s, l[j]? = some s ∧ u = .string (B s) := by
  unfold strs at h
  rw [List.getElem?_map, Option.map_eq_some_iff] at h
  obtain ⟨s, h1, h2⟩ := h
  exact ⟨s, h1, h2.symm⟩
/-- A row of texts of a call's own. -/
def OwnG (base : Nat) (w : World) (g cap : Nat) (l : List Bs) : Prop := w.ownsRow base 9 1 (.slice (some ⟨g, 0, none⟩) l.length cap) l.length (strs l)
theorem OwnG.row {base : Nat} {w : World} {g cap : Nat} {l : List Bs} (h : OwnG base w g cap l) : ∃ cur, base ≤ g ∧ w.heap[g]? = some (.cells cur 9 (0, 0)) ∧ l.length ≤ cap ∧ cap ≤ maxLen ∧ cur.size = cap ∧ cur.toList.take l.length = strs l := by
  rcases h.2 with ⟨h, _⟩ | ⟨g', cap', cur, h1, h2, h3, h4, h5, h6, h7⟩
  · cases h
  · cases h1
    exact ⟨cur, h2, h3, h4, h5, by omega, by simpa using h7⟩
theorem OwnG.lt {base : Nat} {w : World} {g cap : Nat} {l : List Bs} (h : OwnG base w g cap l) : g < w.heap.size := by
  obtain ⟨cur, _, h3, _⟩ := h.row
  rcases Nat.lt_or_ge g w.heap.size with h' | h'
  · exact h'
  · rw [Array.getElem?_eq_none h'] at h3; cases h3
theorem OwnG.base {base : Nat} {w : World} {g cap : Nat} {l : List Bs} (h : OwnG base w g cap l) : base ≤ g := by
  obtain ⟨cur, h2, _⟩ := h.row
  exact h2
theorem OwnG.keep {base : Nat} {w w' : World} {g cap : Nat} {l : List Bs} (h : OwnG base w g cap l) (hk : w'.heap[g]? = w.heap[g]?) : OwnG base w' g cap l := by
  obtain ⟨h0, h⟩ := h
  refine ⟨h0, ?_⟩
  rcases h with h | ⟨g', cap', cur, h1, h2, h3, h4⟩
  · exact Or.inl h
  · cases h1
    exact Or.inr ⟨g, cap, cur, rfl, h2, hk.trans h3, h4⟩
theorem OwnG.below {base : Nat} {w w' : World} {g cap : Nat} {l : List Bs} (h : OwnG base w g cap l) (hb : Below w.heap.size w w') : OwnG base w' g cap l := h.keep (hb.block g h.lt)
theorem OwnG.only {base sb : Nat} {w w' : World} {g cap : Nat} {l : List Bs} (h : OwnG base w g cap l) (ho : Only sb w w') (hs : sb < base) : OwnG base w' g cap l := h.keep (ho.block g h.lt (by have := h.base; omega))
theorem OwnG.cells {base : Nat} {w : World} {g cap : Nat} {l : List Bs} (h : OwnG base w g cap l) (i : Nat) (s : Bs) (hi : l[i]? = some s) : w.cell? ⟨g, i, none⟩ = some (.string (B s)) := by
  obtain ⟨cur, _, h3, _, _, _, h7⟩ := h.row
  have hlt := (List.getElem?_eq_some_iff.1 hi).1
  have e : cur[i]? = some (.string (B s)) := by
    have : (cur.toList.take l.length)[i]? = some (.string (B s)) := by rw [h7, strs, List.getElem?_map, hi]; rfl
    rw [List.getElem?_take, if_pos hlt] at this
    simpa using this
  unfold World.cell?
  simp [h3, e]
theorem OwnG.ns {base : Nat} {w : World} {g cap : Nat} {l : List Bs} (h : OwnG base w g cap l) : NS w (.slice (some ⟨g, 0, none⟩) l.length cap) l :=
  Or.inr ⟨g, 0, cap, rfl, h.lt, fun i s hi => by rw [Nat.zero_add]; exact h.cells i s hi⟩
/-- A row that was just laid. -/
theorem OwnG.new (w : World) (l : List Bs) {base : Nat} (hb : base ≤ w.heap.size) (hl : l.length ≤ 1000000) : OwnG base (w.alloc (.cells (strs l).toArray 9)) w.heap.size l.length l := by
  refine ⟨by rw [strs_length, Nat.mul_one], Or.inr ⟨w.heap.size, l.length, (strs l).toArray, rfl, hb, heap_alloc_new w _, Nat.le_refl _, by unfold maxLen; omega, by simp [strs_length], ?_⟩⟩
  rw [Nat.mul_one]
  have : (strs l).toArray.toList = strs l := by simp
  rw [this, ← strs_length l, List.take_length]
/-- Texts in memory. -/
def TxtAt (w : World) (b off : Nat) (l : List Bs) : Prop := b < w.heap.size ∧ ∀ (i : Nat) s, l[i]? = some s → w.cell? ⟨b, off + i, none⟩ = some (.string (B s))
theorem TxtAt.keep {w w' : World} {b off : Nat} {l : List Bs} (h : TxtAt w b off l) (hs : w.heap.size ≤ w'.heap.size) (hk : w'.heap[b]? = w.heap[b]?) : TxtAt w' b off l :=
  ⟨Nat.lt_of_lt_of_le h.1 hs, fun i s hi => (World.cell?_of_block (a := ⟨b, off + i, none⟩) hk).trans (h.2 i s hi)⟩
theorem TxtAt.new (w : World) (l : List Bs) : TxtAt (w.alloc (.cells (strs l).toArray 9)) w.heap.size 0 l := by
  refine ⟨by simp, fun i s hi => ?_⟩
  rw [Nat.zero_add, cell_box, strs, List.getElem?_map, hi]
  rfl
theorem add_lit0 (b off i : Nat) : (⟨b, off, none⟩ : Addr).add i = ⟨b, off + i, none⟩ := by
  simp only [Addr.add]
  split <;> simp_all
theorem append_texts {w : World} {base g cap : Nat} {l : List Bs} (ty : TypeId) (h : OwnG base w g cap l) {b off : Nat} (c : Nat) {m : List Bs} (ht : TxtAt w b off m) (h0 : 0 < m.length) (hl : l.length + m.length < 1000000) (hb : base ≤ w.heap.size) :
    ∃ g' cap' w', (Builtin.append_ #[29, 29] ty #[.slice (some ⟨g, 0, none⟩) l.length cap, .slice (some ⟨b, off, none⟩) m.length c]).run Tryz.prog w = .ok (.slice (some ⟨g', 0, none⟩) (l ++ m).length cap') w' ∧
      OwnG base w' g' cap' (l ++ m) ∧ w.grownBy w' (some g) ∧ (g' = g ∨ g' = w.heap.size) := by
  obtain ⟨i, hi, hz, hs, hby⟩ := info_parts info9
  obtain ⟨g', cap', w', h1, h2, h3, h4, _⟩ := run_append_lies (P := Tryz.prog) w 29 ty base 9 i _ 1 16 Tryz.underlying29 hi hz hs hby rfl (by decide) _ l.length (strs l) h ⟨b, off, none⟩ m.length c (strs m)
    (by rw [strs_length, Nat.mul_one]) (fun j u hu => by
      obtain ⟨s, hs1, rfl⟩ := strs_get hu
      rw [add_lit0]
      exact ht.2 j s hs1) (strs_cell m) h0 (by unfold maxLen; omega) (by omega) hb w.heap.size rfl
  rw [← List.length_append] at h1 h2
  rw [← strs_app] at h2
  refine ⟨g', cap', w', h1, h2, h3, ?_⟩
  rcases h4 with h4 | h4
  · left; simpa [Value.ownBlock] using h4.symm
  · exact Or.inr h4
theorem step_append_texts {w : World} {ops : Array Oper} {o : Oper} {a : Act} {K : Act → World → Prop} {Q : Exit → Act → World → Prop} {E : Prop} (hgd : o.guard = none) (s x : Operand)
    (ho : o.op = .call { callee := .builtin .append, args := #[s, x], argTypes := #[29, 29] }) {base g cap : Nat} {l : List Bs} (h : OwnG base w g cap l) (n : Nat) (hn : l.length = n) (hs : a.eval s = .slice (some ⟨g, 0, none⟩) n cap) (b off c : Nat) (m : List Bs)
    (k : Nat) (hk : m.length = k) (hx : a.eval x = .slice (some ⟨b, off, none⟩) k c) (ht : TxtAt w b off m) (h0 : 0 < m.length) (hl : l.length + m.length < 1000000) (hb : base ≤ w.heap.size)
    (hK : ∀ g' cap' w', OwnG base w' g' cap' (l ++ m) → w.grownBy w' (some g) → (g' = g ∨ g' = w.heap.size) → K (a.put o.dst (.slice (some ⟨g', 0, none⟩) (n + k) cap')) w') :
    if Region.wanted o (yielded ops a.tmps) = true then Oper.wp Tryz.prog o a w K Q else E := by
  have hw : Region.wanted o (yielded ops a.tmps) = true := by simp [Region.wanted, hgd]
  rw [if_pos hw]
  subst hn hk
  obtain ⟨g', cap', w', h1, h2, h3, h4⟩ := append_texts o.type h c ht h0 hl hb
  rw [List.length_append] at h1
  exact Lib.wp_append_run w s x 29 29 ho _ _ hs hx _ _ h1 (hK g' cap' w' h2 h3 h4)

/-- Blocks below a bound are as they were, but for one. -/
structure OnlyB (sb base : Nat) (w w' : World) : Prop where
  os : w'.os = w.os
  tape : w'.tape = w.tape
  output : w'.output = w.output
  size : w.heap.size ≤ w'.heap.size
  block : ∀ k, k < base → k ≠ sb → w'.heap[k]? = w.heap[k]?
theorem OnlyB.refl (sb base : Nat) (w : World) : OnlyB sb base w w := ⟨rfl, rfl, rfl, Nat.le_refl _, fun _ _ _ => rfl⟩
theorem OnlyB.trans {sb base : Nat} {a b c : World} (h : OnlyB sb base a b) (g : OnlyB sb base b c) : OnlyB sb base a c :=
  ⟨g.os.trans h.os, g.tape.trans h.tape, g.output.trans h.output, Nat.le_trans h.size g.size, fun k hk hn => (g.block k hk hn).trans (h.block k hk hn)⟩
theorem OnlyB.only {sb base : Nat} {w w' : World} (h : Only sb w w') (hb : base ≤ w.heap.size) : OnlyB sb base w w' := ⟨h.os, h.tape, h.output, h.size, fun k hk hn => h.block k (by omega) hn⟩
theorem OnlyB.below {sb base : Nat} {w w' : World} (h : Below w.heap.size w w') (hb : base ≤ w.heap.size) : OnlyB sb base w w' := ⟨h.os, h.tape, h.output, h.size, fun k hk _ => h.block k (by omega)⟩
theorem OnlyB.grown {sb base g : Nat} {w w' : World} (h : w.grownBy w' (some g)) (hb : base ≤ w.heap.size) (hg : base ≤ g) : OnlyB sb base w w' := ⟨h.os, h.tape, h.output, h.size, fun k hk _ => h.block k (by omega) (by intro e; cases e; omega)⟩
theorem OnlyB.cell {sb base : Nat} {w w' : World} (h : OnlyB sb base w w') {k o : Nat} (hk : k < base) (hne : k ≠ sb) : w'.cell? ⟨k, o, none⟩ = w.cell? ⟨k, o, none⟩ :=
  World.cell?_of_block (a := ⟨k, o, none⟩) (h.block k hk hne)
theorem OnlyB.low {sb base B0 : Nat} {w w' : World} (h : OnlyB sb base w w') (hB : B0 ≤ sb) (hb : B0 ≤ base) : Below B0 w w' :=
  ⟨h.os, h.tape, h.output, h.size, fun k hk => h.block k (by omega) (by omega)⟩
end Go.Proofs.YtppkpcijmfdfmaaGreatDoor
