/- The reader's memory: its cache of values, what a call of the reader may write, and how a value that was read lies in memory. No walk. -/
import Derived.Test.YtppkpcijmfdfmaaGreatDoorC4
import Derived.Test.YtppkpcijmfdfmaaGreatDoorC0
set_option linter.unusedVariables false
set_option linter.unusedSimpArgs false
namespace Go.Proofs.YtppkpcijmfdfmaaGreatDoor
open Go.RowKit

/-- The cells that the reader may still write: the cache's own slice, and the elements behind those that are in use. -/
def Loose (cb co : Nat) (sv : Value) (n : Nat) (k o : Nat) : Prop := (k = cb ∧ o = co) ∨ (sv.ownBlock = some k ∧ n * 5 ≤ o)

/-- The cache: at its address lies a slice that owns a row of values, `n` of which are in use. -/
structure CI (w : World) (cb co : Nat) (sv : Value) (n : Nat) : Prop where
  cell : w.cell? ⟨cb, co, none⟩ = some sv
  free : w.frozen? ⟨cb, co, none⟩ = false
  lt : cb < w.heap.size
  row : ∃ xs, RowZ w 185 zero185 sv n xs
  ne : sv.ownBlock ≠ some cb

/-- A cell is alike in two worlds. -/
structure Same (w w' : World) (k o : Nat) : Prop where
  cell : w'.cell? ⟨k, o, none⟩ = w.cell? ⟨k, o, none⟩
  free : w'.frozen? ⟨k, o, none⟩ = w.frozen? ⟨k, o, none⟩
  shape : (w'.shape? k).map (·.1) = (w.shape? k).map (·.1)
theorem Same.refl (w : World) (k o : Nat) : Same w w k o := ⟨rfl, rfl, rfl⟩
theorem Same.trans {a b c : World} {k o : Nat} (h : Same a b k o) (g : Same b c k o) : Same a c k o :=
  ⟨g.cell.trans h.cell, g.free.trans h.free, g.shape.trans h.shape⟩
theorem shape?_of_block {w w' : World} {k : Nat} (h : w'.heap[k]? = w.heap[k]?) : w'.shape? k = w.shape? k := by simp [World.shape?, h]
theorem Same.of_block {w w' : World} {k : Nat} (o : Nat) (h : w'.heap[k]? = w.heap[k]?) : Same w w' k o :=
  ⟨World.cell?_of_block h, World.frozen?_of_block h, by rw [shape?_of_block h]⟩
theorem shape?_setCell (w : World) (k o : Nat) (v : Value) (j : Nat) : ((w.setCell ⟨k, o, none⟩ v).shape? j).map (·.1) = (w.shape? j).map (·.1) := by
  unfold World.shape? World.setCell
  simp only [Array.getElem?_modify]
  by_cases h : k = j
  · subst h
    simp only [if_true]
    cases hj : w.heap[k]? with
    | none => rfl
    | some x => cases x <;> rfl
  · rw [if_neg h]
theorem Same.setCell (w : World) {k o k' o' : Nat} (v : Value) (h : ¬ (k = k' ∧ o = o')) : Same w (w.setCell ⟨k, o, none⟩ v) k' o' :=
  ⟨World.cell?_setCell_other (w := w) (a := ⟨k, o, none⟩) (b := ⟨k', o', none⟩) (v := v) (by intro e; cases e; exact h ⟨rfl, rfl⟩), World.frozen?_setCell .., shape?_setCell ..⟩

/-- What a call of the reader leaves as it was: all that was there ahead of it, but the loose cells. -/
structure Fr (cb co : Nat) (w : World) (sv : Value) (n : Nat) (w' : World) (sv' : Value) (n' : Nat) : Prop where
  os : w'.os = w.os
  tape : w'.tape = w.tape
  output : w'.output = w.output
  size : w.heap.size ≤ w'.heap.size
  keep : ∀ k o, k < w.heap.size → ¬ Loose cb co sv n k o → Same w w' k o
  block : ∀ k, k < w.heap.size → k ≠ cb → sv.ownBlock ≠ some k → w'.heap[k]? = w.heap[k]?
  vs : ∀ k, sv'.ownBlock = some k → sv.ownBlock = some k ∨ w.heap.size ≤ k
  le : n ≤ n'

theorem Fr.refl (cb co : Nat) (w : World) (sv : Value) (n : Nat) : Fr cb co w sv n w sv n :=
  ⟨rfl, rfl, rfl, Nat.le_refl _, fun _ _ _ _ => Same.refl _ _ _, fun _ _ _ _ => rfl, fun _ h => Or.inl h, Nat.le_refl _⟩
theorem Fr.loose {cb co : Nat} {w w' : World} {sv sv' : Value} {n n' k o : Nat} (h : Fr cb co w sv n w' sv' n') (hk : k < w.heap.size) (hl : Loose cb co sv' n' k o) : Loose cb co sv n k o := by
  rcases hl with hl | ⟨h1, h2⟩
  · exact Or.inl hl
  · rcases h.vs k h1 with h3 | h3
    · exact Or.inr ⟨h3, by have := h.le; omega⟩
    · omega
theorem Fr.trans {cb co : Nat} {w1 w2 w3 : World} {sv1 sv2 sv3 : Value} {n1 n2 n3 : Nat} (h : Fr cb co w1 sv1 n1 w2 sv2 n2) (g : Fr cb co w2 sv2 n2 w3 sv3 n3) : Fr cb co w1 sv1 n1 w3 sv3 n3 where
  os := g.os.trans h.os
  tape := g.tape.trans h.tape
  output := g.output.trans h.output
  size := Nat.le_trans h.size g.size
  keep k o hk hl := (h.keep k o hk hl).trans (g.keep k o (Nat.lt_of_lt_of_le hk h.size) fun hl2 => hl (h.loose hk hl2))
  block k hk hc hs := by
    rw [g.block k (Nat.lt_of_lt_of_le hk h.size) hc (fun e => by
      rcases h.vs k e with h3 | h3
      · exact hs h3
      · omega), h.block k hk hc hs]
  vs k hk := by
    rcases g.vs k hk with h1 | h1
    · exact h.vs k h1
    · exact Or.inr (Nat.le_trans h.size h1)
  le := Nat.le_trans h.le g.le
/-- Steps that leave all old blocks alone. -/
theorem Fr.step {cb co : Nat} {w w' w'' : World} {sv sv' : Value} {n n' : Nat} (h : Fr cb co w sv n w' sv' n') (ho : w''.os = w'.os) (ht : w''.tape = w'.tape) (hp : w''.output = w'.output)
    (hs : w'.heap.size ≤ w''.heap.size) (hb : ∀ k, k < w.heap.size → w''.heap[k]? = w'.heap[k]?) : Fr cb co w sv n w'' sv' n' where
  os := ho.trans h.os
  tape := ht.trans h.tape
  output := hp.trans h.output
  size := Nat.le_trans h.size hs
  keep k o hk hl := (h.keep k o hk hl).trans (Same.of_block o (hb k hk))
  block k hk hc hs := (hb k hk).trans (h.block k hk hc hs)
  vs := h.vs
  le := h.le
theorem Fr.below {cb co : Nat} {w w' w'' : World} {sv sv' : Value} {n n' : Nat} (h : Fr cb co w sv n w' sv' n') (hb : Below w'.heap.size w' w'') : Fr cb co w sv n w'' sv' n' :=
  h.step hb.os hb.tape hb.output hb.size fun k hk => hb.block k (Nat.lt_of_lt_of_le hk h.size)
theorem Fr.grown {cb co : Nat} {w w' w'' : World} {sv sv' : Value} {n n' : Nat} {row : Option Nat} (h : Fr cb co w sv n w' sv' n') (hb : w'.grownBy w'' row) (hr : ∀ k, row = some k → w.heap.size ≤ k) : Fr cb co w sv n w'' sv' n' :=
  h.step hb.os hb.tape hb.output hb.size fun k hk => hb.block k (Nat.lt_of_lt_of_le hk h.size) fun e => by have := hr k e.symm; omega
/-- A store into what is loose, or new. -/
theorem Fr.write {cb co : Nat} {w w' : World} {sv sv' : Value} {n n' k o : Nat} (h : Fr cb co w sv n w' sv' n') (v : Value) (hk : w.heap.size ≤ k ∨ Loose cb co sv n k o) :
    Fr cb co w sv n (w'.setCell ⟨k, o, none⟩ v) sv' n' where
  os := h.os
  tape := h.tape
  output := h.output
  size := by simpa using h.size
  keep k1 o1 hk1 hl := (h.keep k1 o1 hk1 hl).trans (Same.setCell w' v fun ⟨e1, e2⟩ => by
    subst e1; subst e2
    rcases hk with hk | hk
    · omega
    · exact hl hk)
  block k1 hk1 hc hs := by
    rw [Below.heap_setCell, h.block k1 hk1 hc hs]
    intro e
    simp only at e
    subst e
    rcases hk with hk | ⟨hk, _⟩ | ⟨hk, _⟩
    · omega
    · exact hc hk
    · exact hs hk
  vs := h.vs
  le := h.le

theorem CI.step {w w' : World} {cb co : Nat} {sv : Value} {n : Nat} (h : CI w cb co sv n) (hs : w.heap.size ≤ w'.heap.size) (hb : ∀ k, k < w.heap.size → w'.heap[k]? = w.heap[k]?) : CI w' cb co sv n where
  cell := (World.cell?_of_block (a := ⟨cb, co, none⟩) (hb cb h.lt)).trans h.cell
  free := (World.frozen?_of_block (a := ⟨cb, co, none⟩) (hb cb h.lt)).trans h.free
  lt := Nat.lt_of_lt_of_le h.lt hs
  row := by obtain ⟨xs, hr⟩ := h.row; exact ⟨xs, hr.keep fun g hg => hb g (hr.lt g hg)⟩
  ne := h.ne
theorem CI.below {w w' : World} {cb co : Nat} {sv : Value} {n : Nat} (h : CI w cb co sv n) (hb : Below w.heap.size w w') : CI w' cb co sv n := h.step hb.size hb.block
theorem CI.own_lt {w : World} {cb co : Nat} {sv : Value} {n k : Nat} (h : CI w cb co sv n) (hk : sv.ownBlock = some k) : k < w.heap.size := by
  obtain ⟨xs, hr⟩ := h.row; exact hr.lt k hk

theorem RowZ.write {w : World} {e : TypeId} {z : Array Value} {sv : Value} {n : Nat} {xs : List Value} (h : RowZ w e z sv n xs) (k o : Nat) (v : Value) (hk : sv.ownBlock = some k → o < n * z.size) :
    ∃ xs', RowZ (w.setCell ⟨k, o, none⟩ v) e z sv n xs' := by
  rcases h with ⟨rfl, rfl, rfl⟩ | ⟨g, cap, cur, rfl, hg, hnc, hcm, hcs, htake, hsp⟩
  · exact ⟨[], Or.inl ⟨rfl, rfl, rfl⟩⟩
  · by_cases e1 : k = g
    · subst e1
      have ho := hk rfl
      refine ⟨_, Or.inr ⟨k, cap, cur.setIfInBounds o v, rfl, ?_, hnc, hcm, by simpa using hcs, rfl, fun j h1 h2 => ?_⟩⟩
      · simp [World.setCell, Array.getElem?_modify, hg]
      · rw [Array.getElem?_setIfInBounds_ne (by omega)]; exact hsp j h1 h2
    · refine ⟨xs, Or.inr ⟨g, cap, cur, rfl, ?_, hnc, hcm, hcs, htake, hsp⟩⟩
      rw [Below.heap_setCell _ _ _ _ (by simpa using fun e => e1 e.symm)]; exact hg
theorem CI.write {w : World} {cb co : Nat} {sv : Value} {n k o : Nat} (h : CI w cb co sv n) (v : Value) (hl : ¬ Loose cb co sv n k o) : CI (w.setCell ⟨k, o, none⟩ v) cb co sv n where
  cell := ((Same.setCell w v fun ⟨e1, e2⟩ => hl (Or.inl ⟨e1, e2⟩)).cell).trans h.cell
  free := by simpa using h.free
  lt := by simpa using h.lt
  row := by
    obtain ⟨xs, hr⟩ := h.row
    refine hr.write k o v fun e => ?_
    rcases Nat.lt_or_ge o (n * 5) with h1 | h1
    · exact h1
    · exact absurd (Or.inr ⟨e, h1⟩) hl
  ne := h.ne

/-- A value's five cells: they may be relied on, and lie in a row of values. -/
structure VN (w : World) (S : Nat → Nat → Prop) (k o : Nat) (a0 a1 a2 a3 a4 : Value) : Prop where
  sure : ∀ i, i < 5 → S k (o + i)
  c0 : w.cell? ⟨k, o, none⟩ = some a0
  c1 : w.cell? ⟨k, o + 1, none⟩ = some a1
  c2 : w.cell? ⟨k, o + 2, none⟩ = some a2
  c3 : w.cell? ⟨k, o + 3, none⟩ = some a3
  c4 : w.cell? ⟨k, o + 4, none⟩ = some a4
  free : ∀ i, i < 5 → w.frozen? ⟨k, o + i, none⟩ = false
  shape : (w.shape? k).map (·.1) = some 185
  five : o % 5 = 0

/-- A row of pointers to values. -/
def PtrRow (w : World) (S : Nat → Nat → Prop) (sv : Value) (ps : List (Nat × Nat)) : Prop :=
  (sv = .slice none 0 0 ∧ ps = []) ∨
  ∃ g cap, sv = .slice (some ⟨g, 0, none⟩) ps.length cap ∧ 1 ≤ ps.length ∧ ps.length ≤ cap ∧ (w.shape? g).map (·.1) = some 156 ∧
    ∀ i p, ps[i]? = some p → S g i ∧ w.cell? ⟨g, i, none⟩ = some (.pointer (some ⟨p.1, p.2, none⟩))
/-- A row of keys and pointers to values. -/
def KvRow (w : World) (S : Nat → Nat → Prop) (sv : Value) (ks : List Bs) (ps : List (Nat × Nat)) : Prop :=
  (sv = .slice none 0 0 ∧ ps = [] ∧ ks = []) ∨
  ∃ g cap, sv = .slice (some ⟨g, 0, none⟩) ps.length cap ∧ 1 ≤ ps.length ∧ ps.length ≤ cap ∧ ks.length = ps.length ∧ (w.shape? g).map (·.1) = some 218 ∧
    ∀ (i : Nat) p s, ps[i]? = some p → ks[i]? = some s → S g (i * 2) ∧ S g (i * 2 + 1) ∧ w.cell? ⟨g, i * 2, none⟩ = some (.string (B s)) ∧ w.cell? ⟨g, i * 2 + 1, none⟩ = some (.pointer (some ⟨p.1, p.2, none⟩)) ∧
      w.frozen? ⟨g, i * 2, none⟩ = false ∧ w.frozen? ⟨g, i * 2 + 1, none⟩ = false

/-- How a value that was read lies in memory. -/
inductive RepV (w : World) (S : Nat → Nat → Prop) : Nat → Nat → J → Prop where
  | null {k o a0 a1 a2 a3} : VN w S k o a0 a1 a2 a3 (.int .i64 0) → RepV w S k o .null
  | tru {k o a0 a1 a2 a3} : VN w S k o a0 a1 a2 a3 (.int .i64 5) → RepV w S k o .tru
  | fls {k o a0 a1 a2 a3} : VN w S k o a0 a1 a2 a3 (.int .i64 6) → RepV w S k o .fls
  | num {k o a0 a1 a2 s} : VN w S k o a0 a1 a2 (.string (B s)) (.int .i64 4) → RepV w S k o (.num s)
  | str {k o a0 a1 a2 s} : VN w S k o a0 a1 a2 (.string (B s)) (.int .i64 7) → RepV w S k o (.str s)
  | arr {k o a0 a1 av a3} {ps : List (Nat × Nat)} {ts : List J} : VN w S k o a0 a1 av a3 (.int .i64 2) → ps.length = ts.length → PtrRow w S av ps →
      (∀ (i : Nat) p t, ps[i]? = some p → ts[i]? = some t → RepV w S p.1 p.2 t) → RepV w S k o (.arr ts)
  | obj {k o ov a2 a3} {ps : List (Nat × Nat)} {ms : List (Bs × J)} : VN w S k o ov (.bool false) a2 a3 (.int .i64 1) → ps.length = ms.length → KvRow w S ov (ms.map (·.1)) ps →
      (∀ (i : Nat) p m, ps[i]? = some p → ms[i]? = some m → RepV w S p.1 p.2 m.2) → RepV w S k o (.obj ms)

theorem VN.mono {w w' : World} {S S' : Nat → Nat → Prop} {k o : Nat} {a0 a1 a2 a3 a4 : Value} (h : VN w S k o a0 a1 a2 a3 a4) (hs : ∀ k o, S k o → S' k o ∧ Same w w' k o) : VN w' S' k o a0 a1 a2 a3 a4 where
  sure i hi := (hs _ _ (h.sure i hi)).1
  c0 := (hs _ _ (h.sure 0 (by omega))).2.cell.trans h.c0
  c1 := (hs _ _ (h.sure 1 (by omega))).2.cell.trans h.c1
  c2 := (hs _ _ (h.sure 2 (by omega))).2.cell.trans h.c2
  c3 := (hs _ _ (h.sure 3 (by omega))).2.cell.trans h.c3
  c4 := (hs _ _ (h.sure 4 (by omega))).2.cell.trans h.c4
  free i hi := (hs _ _ (h.sure i hi)).2.free.trans (h.free i hi)
  shape := (hs _ _ (h.sure 0 (by omega))).2.shape.trans h.shape
  five := h.five
theorem PtrRow.mono {w w' : World} {S S' : Nat → Nat → Prop} {sv : Value} {ps : List (Nat × Nat)} (h : PtrRow w S sv ps) (hs : ∀ k o, S k o → S' k o ∧ Same w w' k o) : PtrRow w' S' sv ps := by
  rcases h with h | ⟨g, cap, h1, h0, h2, h3, h4⟩
  · exact Or.inl h
  · have h5 := h4 0 ps[0] (List.getElem?_eq_getElem h0)
    exact Or.inr ⟨g, cap, h1, h0, h2, (hs _ _ h5.1).2.shape.trans h3, fun i p hi => ⟨(hs _ _ (h4 i p hi).1).1, (hs _ _ (h4 i p hi).1).2.cell.trans (h4 i p hi).2⟩⟩
theorem KvRow.mono {w w' : World} {S S' : Nat → Nat → Prop} {sv : Value} {ks : List Bs} {ps : List (Nat × Nat)} (h : KvRow w S sv ks ps) (hs : ∀ k o, S k o → S' k o ∧ Same w w' k o) : KvRow w' S' sv ks ps := by
  rcases h with h | ⟨g, cap, h1, h0, h2, h6, h3, h4⟩
  · exact Or.inl h
  · have h5 := h4 0 ps[0] (ks[0]'(by omega)) (List.getElem?_eq_getElem h0) (List.getElem?_eq_getElem (by omega))
    refine Or.inr ⟨g, cap, h1, h0, h2, h6, (hs _ _ h5.1).2.shape.trans h3, fun i p s hi hj => ?_⟩
    obtain ⟨s1, s2, c1, c2, f1, f2⟩ := h4 i p s hi hj
    exact ⟨(hs _ _ s1).1, (hs _ _ s2).1, (hs _ _ s1).2.cell.trans c1, (hs _ _ s2).2.cell.trans c2, (hs _ _ s1).2.free.trans f1, (hs _ _ s2).2.free.trans f2⟩
theorem RepV.mono {w w' : World} {S S' : Nat → Nat → Prop} {k o : Nat} {j : J} (h : RepV w S k o j) (hs : ∀ k o, S k o → S' k o ∧ Same w w' k o) : RepV w' S' k o j := by
  induction h with
  | null h => exact .null (h.mono hs)
  | tru h => exact .tru (h.mono hs)
  | fls h => exact .fls (h.mono hs)
  | num h => exact .num (h.mono hs)
  | str h => exact .str (h.mono hs)
  | arr h hl hr _ ih => exact .arr (h.mono hs) hl (hr.mono hs) fun i p t h1 h2 => ih i p t h1 h2
  | obj h hl hr _ ih => exact .obj (h.mono hs) hl (hr.mono hs) fun i p t h1 h2 => ih i p t h1 h2

/-- The cells that a call of the reader made, and leaves to be relied on. -/
def Nw (cb co : Nat) (w : World) (sv : Value) (n : Nat) (w' : World) (sv' : Value) (n' : Nat) (k o : Nat) : Prop :=
  (w.heap.size ≤ k ∨ (sv.ownBlock = some k ∧ n * 5 ≤ o)) ∧ k < w'.heap.size ∧ ¬ Loose cb co sv' n' k o

/-- What is behind the cell of the next element: the cache has one more value in use, whose cells are zeros. -/
theorem grew_ci {w : World} {cb co : Nat} {sv : Value} {n : Nat} {xs : List Value} {e : Ending} {w' : World} (h : CI w cb co sv n) (hx : RowZ w 185 zero185 sv n xs) (hg : Grew185 w cb co sv n xs e w') :
    ∃ g sv', e = .returned (.pointer (some ⟨g, n * 5, none⟩)) ∧ CI w' cb co sv' (n + 1) ∧ Fr cb co w sv n w' sv' (n + 1) ∧
      VN w' (Nw cb co w sv n w' sv' (n + 1)) g (n * 5) (.slice none 0 0) (.bool false) (.slice none 0 0) (.string (B [])) (.int .i64 0) := by
  obtain ⟨g, cap, w1, he, hg, hb, hr, rfl⟩ := hg
  have hgc : g ≠ cb := by
    rcases hg with hg | hg
    · intro e; subst e; exact h.ne hg
    · have := h.lt; omega
  have hc1 : w1.cell? ⟨cb, co, none⟩ = some sv := (hb.cell (p := ⟨cb, co, none⟩) h.lt).trans h.cell
  have hlt := hr.lt g rfl
  have hcell : ∀ i u, i < 5 → zero185[i]? = some u → (w1.setCell ⟨cb, co, none⟩ (.slice (some ⟨g, 0, none⟩) (n + 1) cap)).cell? ⟨g, n * 5 + i, none⟩ = some u := by
    intro i u hi hu
    rw [(Same.setCell w1 _ fun ⟨e1, _⟩ => hgc e1.symm).cell]
    rcases hr with ⟨h0, _⟩ | ⟨g', cap', cur, h0, hh, hnc, hcm, hcs, htake, _⟩
    · cases h0
    · cases h0
      unfold World.cell?
      simp only [hh]
      have e1 : cur[n * 5 + i]? = (xs ++ zero185.toList)[n * 5 + i]? := by
        rw [← htake, List.getElem?_take_of_lt (by show n * 5 + i < (n + 1) * 5; omega), Array.getElem?_toList]
      have hxl : xs.length = n * 5 := by
        rcases hx with ⟨_, h0, h1⟩ | ⟨_, cap0, cur0, _, _, hn0, _, hs0, ht0, _⟩
        · rw [h1, h0]; rfl
        · rw [← ht0, List.length_take, Array.length_toList, hs0]
          have : n * zero185.size ≤ cap0 * zero185.size := Nat.mul_le_mul_right _ hn0
          exact Nat.min_eq_left this
      rw [List.getElem?_append_right (by omega), hxl, Nat.add_sub_cancel_left, Array.getElem?_toList, hu] at e1
      simpa using e1
  refine ⟨g, .slice (some ⟨g, 0, none⟩) (n + 1) cap, he, ⟨?_, by simpa using (hb.frozen (p := ⟨cb, co, none⟩) h.lt).trans h.free, by simpa using Nat.lt_of_lt_of_le h.lt hb.size, ?_, fun e => hgc (Option.some.inj e)⟩, ?_, ?_⟩
  · exact World.cell?_setCell_same _ _ _ hc1
  · exact ⟨_, hr.keep fun k hk => Below.heap_setCell _ _ _ _ (by have : g = k := Option.some.inj hk; simpa using fun e => hgc (this.trans e))⟩
  · refine ⟨hb.os, hb.tape, hb.output, by simpa using hb.size, fun k o hk hl => ?_, fun k hk hc hs => ?_, fun k hk => ?_, by omega⟩
    · exact (Same.of_block o (hb.block k hk)).trans (Same.setCell w1 _ fun ⟨e1, e2⟩ => hl (Or.inl ⟨e1.symm, e2.symm⟩))
    · rw [Below.heap_setCell _ _ _ _ (by simpa using hc)]; exact hb.block k hk
    · have : g = k := Option.some.inj hk
      subst this; exact hg
  · refine ⟨fun i hi => ⟨?_, by simpa using hlt, ?_⟩, hcell 0 _ (by omega) rfl, hcell 1 _ (by omega) rfl, hcell 2 _ (by omega) rfl, hcell 3 _ (by omega) rfl, hcell 4 _ (by omega) rfl, ?_, ?_, by omega⟩
    · rcases hg with hg | hg
      · exact Or.inr ⟨hg, by omega⟩
      · exact Or.inl hg
    · rintro (⟨e1, _⟩ | ⟨_, h2⟩)
      · exact hgc e1
      · omega
    · intro i hi
      rw [World.frozen?_setCell]
      rcases hr with ⟨h0, _⟩ | ⟨g', cap', cur, h0, hh, _⟩
      · cases h0
      · cases h0
        unfold World.frozen?
        simp only [hh]
        simp
    · rw [shape?_setCell]
      rcases hr with ⟨h0, _⟩ | ⟨g', cap', cur, h0, hh, _⟩
      · cases h0
      · cases h0
        unfold World.shape?
        simp only [hh]
        rfl
end Go.Proofs.YtppkpcijmfdfmaaGreatDoor

/- The walks of the reader: what a call of the reader says, words; the three words of JSON. -/
namespace Go.Proofs.YtppkpcijmfdfmaaGreatDoor
open Go.RowKit
attribute [local go_sem] B_size B_get B_lit B_ext_to B_ext B_toList B_app

section
variable {w : World} {S : Nat → Nat → Prop} {k o : Nat} {a0 a1 a2 a3 a4 : Value}
theorem VN.set4 (h : VN w S k o a0 a1 a2 a3 a4) (v : Value) : VN (w.setCell ⟨k, o + 4, none⟩ v) S k o a0 a1 a2 a3 v where
  sure := h.sure
  c0 := ((Same.setCell w v (k := k) (o := o + 4) (k' := k) (o' := o) (by omega)).cell).trans h.c0
  c1 := ((Same.setCell w v (k := k) (o := o + 4) (k' := k) (o' := o + 1) (by omega)).cell).trans h.c1
  c2 := ((Same.setCell w v (k := k) (o := o + 4) (k' := k) (o' := o + 2) (by omega)).cell).trans h.c2
  c3 := ((Same.setCell w v (k := k) (o := o + 4) (k' := k) (o' := o + 3) (by omega)).cell).trans h.c3
  c4 := World.cell?_setCell_same _ _ _ h.c4
  free i hi := by rw [World.frozen?_setCell]; exact h.free i hi
  shape := (shape?_setCell _ _ _ _ _).trans h.shape
  five := h.five
theorem VN.set3 (h : VN w S k o a0 a1 a2 a3 a4) (v : Value) : VN (w.setCell ⟨k, o + 3, none⟩ v) S k o a0 a1 a2 v a4 where
  sure := h.sure
  c0 := ((Same.setCell w v (k := k) (o := o + 3) (k' := k) (o' := o) (by omega)).cell).trans h.c0
  c1 := ((Same.setCell w v (k := k) (o := o + 3) (k' := k) (o' := o + 1) (by omega)).cell).trans h.c1
  c2 := ((Same.setCell w v (k := k) (o := o + 3) (k' := k) (o' := o + 2) (by omega)).cell).trans h.c2
  c3 := World.cell?_setCell_same _ _ _ h.c3
  c4 := ((Same.setCell w v (k := k) (o := o + 3) (k' := k) (o' := o + 4) (by omega)).cell).trans h.c4
  free i hi := by rw [World.frozen?_setCell]; exact h.free i hi
  shape := (shape?_setCell _ _ _ _ _).trans h.shape
  five := h.five
theorem VN.set2 (h : VN w S k o a0 a1 a2 a3 a4) (v : Value) : VN (w.setCell ⟨k, o + 2, none⟩ v) S k o a0 a1 v a3 a4 where
  sure := h.sure
  c0 := ((Same.setCell w v (k := k) (o := o + 2) (k' := k) (o' := o) (by omega)).cell).trans h.c0
  c1 := ((Same.setCell w v (k := k) (o := o + 2) (k' := k) (o' := o + 1) (by omega)).cell).trans h.c1
  c2 := World.cell?_setCell_same _ _ _ h.c2
  c3 := ((Same.setCell w v (k := k) (o := o + 2) (k' := k) (o' := o + 3) (by omega)).cell).trans h.c3
  c4 := ((Same.setCell w v (k := k) (o := o + 2) (k' := k) (o' := o + 4) (by omega)).cell).trans h.c4
  free i hi := by rw [World.frozen?_setCell]; exact h.free i hi
  shape := (shape?_setCell _ _ _ _ _).trans h.shape
  five := h.five
theorem VN.set1 (h : VN w S k o a0 a1 a2 a3 a4) (v : Value) : VN (w.setCell ⟨k, o + 1, none⟩ v) S k o a0 v a2 a3 a4 where
  sure := h.sure
  c0 := ((Same.setCell w v (k := k) (o := o + 1) (k' := k) (o' := o) (by omega)).cell).trans h.c0
  c1 := World.cell?_setCell_same _ _ _ h.c1
  c2 := ((Same.setCell w v (k := k) (o := o + 1) (k' := k) (o' := o + 2) (by omega)).cell).trans h.c2
  c3 := ((Same.setCell w v (k := k) (o := o + 1) (k' := k) (o' := o + 3) (by omega)).cell).trans h.c3
  c4 := ((Same.setCell w v (k := k) (o := o + 1) (k' := k) (o' := o + 4) (by omega)).cell).trans h.c4
  free i hi := by rw [World.frozen?_setCell]; exact h.free i hi
  shape := (shape?_setCell _ _ _ _ _).trans h.shape
  five := h.five
theorem VN.set0 (h : VN w S k o a0 a1 a2 a3 a4) (v : Value) : VN (w.setCell ⟨k, o, none⟩ v) S k o v a1 a2 a3 a4 where
  sure := h.sure
  c0 := World.cell?_setCell_same _ _ _ h.c0
  c1 := ((Same.setCell w v (k := k) (o := o) (k' := k) (o' := o + 1) (by omega)).cell).trans h.c1
  c2 := ((Same.setCell w v (k := k) (o := o) (k' := k) (o' := o + 2) (by omega)).cell).trans h.c2
  c3 := ((Same.setCell w v (k := k) (o := o) (k' := k) (o' := o + 3) (by omega)).cell).trans h.c3
  c4 := ((Same.setCell w v (k := k) (o := o) (k' := k) (o' := o + 4) (by omega)).cell).trans h.c4
  free i hi := by rw [World.frozen?_setCell]; exact h.free i hi
  shape := (shape?_setCell _ _ _ _ _).trans h.shape
  five := h.five
theorem VN.sub {S' : Nat → Nat → Prop} (h : VN w S k o a0 a1 a2 a3 a4) (hs : ∀ i, i < 5 → S k (o + i) → S' k (o + i)) : VN w S' k o a0 a1 a2 a3 a4 :=
  { h with sure := fun i hi => hs i hi (h.sure i hi) }
theorem VN.draws (h : VN w S k o a0 a1 a2 a3 a4) (m : Nat) : VN (w.drewN m) S k o a0 a1 a2 a3 a4 := h.mono fun _ _ hs => ⟨hs, rfl, rfl, rfl⟩
end

/-- What a call of the reader says that has read a value. -/
def PVok (cb co : Nat) (w : World) (sv : Value) (n m : Nat) (j : J) (t : Bs) (e : Ending) (w' : World) : Prop :=
  ∃ k o sv' n', e = .returned (.tuple #[.pointer (some ⟨k, o, none⟩), .string (B t), .nilIface]) ∧ CI w' cb co sv' n' ∧ Fr cb co w sv n w' sv' n' ∧ n' + t.length ≤ m ∧
    RepV w' (Nw cb co w sv n w' sv' n') k o j
/-- What a call of the reader says that has read none. -/
def PVerr (cb co : Nat) (w : World) (sv : Value) (n : Nat) (e : Ending) (w' : World) : Prop :=
  ∃ p x T v sv' n', e = .returned (.tuple #[.pointer p, .string (B x), .iface T v]) ∧ Fr cb co w sv n w' sv' n'
def PV (cb co : Nat) (w : World) (sv : Value) (n : Nat) (r : Option (J × Bs)) (m : Nat) (e : Ending) (w' : World) : Prop :=
  match r with
  | some (j, t) => PVok cb co w sv n m j t e w'
  | none => PVerr cb co w sv n e w'

theorem PV.err {cb co : Nat} {w : World} {sv : Value} {n : Nat} {r : Option (J × Bs)} {m : Nat} (p : Option Addr) (x : Bs) (T : TypeId) (v : Value) {w' : World} (sv' : Value) (n' : Nat) (h : r = none) (hf : Fr cb co w sv n w' sv' n') :
    PV cb co w sv n r m (.returned (.tuple #[.pointer p, .string (B x), .iface T v])) w' := by
  subst h; exact ⟨p, x, T, v, sv', n', rfl, hf⟩

theorem frame_err {cb co : Nat} {w : World} {sv : Value} {n : Nat} {w' : World} {sv' : Value} {n' : Nat} (h : Fr cb co w sv n w' sv' n') (o : Obj) : Fr cb co w sv n (w'.alloc o) sv' n' :=
  h.below ((Below.refl _ _).alloc (Nat.le_refl _) _)

/-- A value of its own block: what true, false and null are. -/
theorem word_vn (w : World) (S : Nat → Nat → Prop) (t : Int) (hs : ∀ i, i < 5 → S w.heap.size i) :
    VN (w.alloc (.cells #[.slice none 0 0, .bool false, .slice none 0 0, .string (B []), .int .i64 t] 185)) S w.heap.size 0 (.slice none 0 0) (.bool false) (.slice none 0 0) (.string (B [])) (.int .i64 t) := by
  have hh := heap_alloc_new w (.cells #[.slice none 0 0, .bool false, .slice none 0 0, .string (B []), .int .i64 t] 185)
  refine ⟨fun i hi => by simpa using hs i hi, ?_, ?_, ?_, ?_, ?_, fun i hi => ?_, ?_, rfl⟩
  all_goals first
    | (unfold World.cell?; simp only [hh]; rfl)
    | (unfold World.frozen?; simp only [hh]; simp)
    | (unfold World.shape?; simp only [hh]; rfl)

theorem true_any (w : World) : Calls Tryz.prog 161 #[] w fun e w' => e = .returned (.pointer (some ⟨w.heap.size, 0, none⟩)) ∧ w.alloc (.cells #[.slice none 0 0, .bool false, .slice none 0 0, .string (B []), .int .i64 5] 185) = w' := by
  go_enter Tryz.func161, Tryz.ntmps161
  go_wp2
  go_ret
  exact ⟨rfl, rfl⟩
theorem false_any (w : World) : Calls Tryz.prog 162 #[] w fun e w' => e = .returned (.pointer (some ⟨w.heap.size, 0, none⟩)) ∧ w.alloc (.cells #[.slice none 0 0, .bool false, .slice none 0 0, .string (B []), .int .i64 6] 185) = w' := by
  go_enter Tryz.func162, Tryz.ntmps162
  go_wp2
  go_ret
  exact ⟨rfl, rfl⟩
theorem null_any (w : World) : Calls Tryz.prog 164 #[] w fun e w' => e = .returned (.pointer (some ⟨w.heap.size, 0, none⟩)) ∧ w.alloc (.cells #[.slice none 0 0, .bool false, .slice none 0 0, .string (B []), .int .i64 0] 185) = w' := by
  go_enter Tryz.func164, Tryz.ntmps164
  go_wp2
  go_ret
  exact ⟨rfl, rfl⟩

/-- A value that a call of the reader is making. -/
structure Node (cb co : Nat) (w : World) (sv : Value) (n : Nat) (w' : World) (sv' : Value) (n' k o : Nat) (a0 a1 a2 a3 a4 : Value) : Prop where
  ci : CI w' cb co sv' n'
  fr : Fr cb co w sv n w' sv' n'
  vn : VN w' (Nw cb co w sv n w' sv' n') k o a0 a1 a2 a3 a4
section
variable {cb co : Nat} {w : World} {sv : Value} {n : Nat} {w' : World} {sv' : Value} {n' k o : Nat} {a0 a1 a2 a3 a4 : Value}
theorem Nw.write {w' : World} {k' o' : Nat} {k o : Nat} {v : Value} (h : Nw cb co w sv n w' sv' n' k o) : Nw cb co w sv n (w'.setCell ⟨k', o', none⟩ v) sv' n' k o := ⟨h.1, by simpa using h.2.1, h.2.2⟩
theorem Node.at (h : Node cb co w sv n w' sv' n' k o a0 a1 a2 a3 a4) (i : Nat) (hi : i < 5) (v : Value) :
    CI (w'.setCell ⟨k, o + i, none⟩ v) cb co sv' n' ∧ Fr cb co w sv n (w'.setCell ⟨k, o + i, none⟩ v) sv' n' :=
  ⟨h.ci.write v (h.vn.sure i hi).2.2, h.fr.write v (by rcases (h.vn.sure i hi).1 with h1 | h1; exact Or.inl h1; exact Or.inr (Or.inr h1))⟩
theorem Node.set4 (h : Node cb co w sv n w' sv' n' k o a0 a1 a2 a3 a4) (v : Value) : Node cb co w sv n (w'.setCell ⟨k, o + 4, none⟩ v) sv' n' k o a0 a1 a2 a3 v :=
  ⟨(h.at 4 (by omega) v).1, (h.at 4 (by omega) v).2, (h.vn.set4 v).sub fun _ _ hs => Nw.write hs⟩
theorem Node.set3 (h : Node cb co w sv n w' sv' n' k o a0 a1 a2 a3 a4) (v : Value) : Node cb co w sv n (w'.setCell ⟨k, o + 3, none⟩ v) sv' n' k o a0 a1 a2 v a4 :=
  ⟨(h.at 3 (by omega) v).1, (h.at 3 (by omega) v).2, (h.vn.set3 v).sub fun _ _ hs => Nw.write hs⟩
theorem Node.set2 (h : Node cb co w sv n w' sv' n' k o a0 a1 a2 a3 a4) (v : Value) : Node cb co w sv n (w'.setCell ⟨k, o + 2, none⟩ v) sv' n' k o a0 a1 v a3 a4 :=
  ⟨(h.at 2 (by omega) v).1, (h.at 2 (by omega) v).2, (h.vn.set2 v).sub fun _ _ hs => Nw.write hs⟩
theorem Node.set1 (h : Node cb co w sv n w' sv' n' k o a0 a1 a2 a3 a4) (v : Value) : Node cb co w sv n (w'.setCell ⟨k, o + 1, none⟩ v) sv' n' k o a0 v a2 a3 a4 :=
  ⟨(h.at 1 (by omega) v).1, (h.at 1 (by omega) v).2, (h.vn.set1 v).sub fun _ _ hs => Nw.write hs⟩
theorem Node.set0 (h : Node cb co w sv n w' sv' n' k o a0 a1 a2 a3 a4) (v : Value) : Node cb co w sv n (w'.setCell ⟨k, o, none⟩ v) sv' n' k o v a1 a2 a3 a4 :=
  ⟨(h.at 0 (by omega) v).1, (h.at 0 (by omega) v).2, (h.vn.set0 v).sub fun _ _ hs => Nw.write hs⟩
theorem Node.draws (h : Node cb co w sv n w' sv' n' k o a0 a1 a2 a3 a4) (m : Nat) : Node cb co w sv n (w'.drewN m) sv' n' k o a0 a1 a2 a3 a4 :=
  ⟨h.ci.step (Nat.le_refl _) (fun _ _ => rfl), h.fr.step rfl rfl rfl (Nat.le_refl _) (fun _ _ => rfl), (h.vn.draws m).sub fun _ _ hs => hs⟩
end

/-- A call of getValue, by the cache. -/
theorem getValue_ci (cb co : Nat) (w : World) (sv : Value) (n : Nat) (h : CI w cb co sv n) (hn : n < 1000000000000) :
    Calls Tryz.prog 160 #[.pointer (some ⟨cb, co, none⟩)] w fun e w' => ∃ g sv', e = .returned (.pointer (some ⟨g, n * 5, none⟩)) ∧
      Node cb co w sv n w' sv' (n + 1) g (n * 5) (.slice none 0 0) (.bool false) (.slice none 0 0) (.string (B [])) (.int .i64 0) := by
  obtain ⟨xs, hr⟩ := h.row
  refine (getValue_any cb co n sv w h.cell h.free h.lt xs hr hn).mono fun e w' hg => ?_
  obtain ⟨g, sv', he, h1, h2, h3⟩ := grew_ci h hr hg
  exact ⟨g, sv', he, h1, h2, h3⟩

set_option maxRecDepth 100000 in
set_option maxHeartbeats 1000000 in
theorem arr_nil (cb co d : Nat) (dp : Int) (s : Bs) (w : World) (sv : Value) (n : Nat) (hs : jSkip s = []) (hl : s.length < 4294967296) :
    Calls Tryz.prog 158 #[.pointer (some ⟨cb, co, none⟩), .string (B s), .int .i64 dp] w (PV cb co w sv n (parr d s) (n + s.length + 1)) := by
  have HP : Hid (parr d s = none) := by show parr d s = none; unfold parr; rw [hs]
  have HS := Lib.hid (skip_any s w hl)
  rw [hs] at HS
  clear hs
  go_enter Tryz.func158, Tryz.ntmps158
  go_wp2_with (first | (go_at_call 142; refine HS.out.mono ?_; rintro e w' ⟨rfl, rfl⟩) | (go_at_call 109; refine (errorsNew_any _ _).mono ?_; rintro e w' ⟨rfl, rfl⟩))
  go_ret3
  exact PV.err none [] _ _ sv n HP.out (frame_err (Fr.refl _ _ _ _ _) _)

set_option maxRecDepth 100000 in
set_option maxHeartbeats 1000000 in
theorem arr_close (cb co d : Nat) (dp : Int) (s u : Bs) (w : World) (sv : Value) (n : Nat) (h : CI w cb co sv n) (hs : jSkip s = 93 :: u) (hl : s.length < 4294967296) (hn : n < 1000000000000) :
    Calls Tryz.prog 158 #[.pointer (some ⟨cb, co, none⟩), .string (B s), .int .i64 dp] w (PV cb co w sv n (parr d s) (n + s.length + 1)) := by
  have HP : Hid (parr d s = some (.arr [], u)) := by show parr d s = _; unfold parr; rw [hs]; rfl
  have HL : Hid (u.length + 1 ≤ s.length) := by
    have := jSkip_len s
    rw [hs] at this; exact this
  have HS := Lib.hid (skip_any s w hl)
  rw [hs] at HS
  have HG := Lib.hid (getValue_ci cb co w sv n h hn)
  have hu : u.length < 4294967296 := by have := HL.out; omega
  have h0 : ((u.length : Int) + 1 == 0) = false := by rw [beq_eq_false_iff_ne]; omega
  clear hs h
  go_enter Tryz.func158, Tryz.ntmps158
  go_wp2_with (first | (go_at_call 142; refine HS.out.mono ?_; rintro e w' ⟨rfl, rfl⟩) | (go_at_call 160; refine HG.out.mono ?_; rintro e w1 ⟨g, sv1, rfl, hN⟩; have HN := Lib.hid hN; have k2 := hN.vn.c2; have k4 := hN.vn.c4; have f2 := hN.vn.free 2 (by omega); have f4 := hN.vn.free 4 (by omega); clear hN))
  go_quiet (fail)
  go_wp2
  go_ret3
  rw [HP.out]
  have hN := ((HN.out.set4 (.int .i64 2)).set2 (.slice none 0 0)).draws nq
  exact ⟨g, n * 5, sv1, n + 1, rfl, hN.ci, hN.fr, by have := HL.out; omega, .arr (ps := []) hN.vn rfl (Or.inl ⟨rfl, rfl⟩) (fun i p t h => by simp at h)⟩
end Go.Proofs.YtppkpcijmfdfmaaGreatDoor

/- The reader's memory while a list is read: no walk. -/
namespace Go.Proofs.YtppkpcijmfdfmaaGreatDoor
open Go.RowKit

def ptrV (p : Nat × Nat) : Value := .pointer (some ⟨p.1, p.2, none⟩)
theorem info156 : (Tryz.prog.info? 156).map (fun i => (i.zero, i.size, i.bytes)) = some (some (.pointer none), 1, 8) := by kernel_rfl
def zero156 : Array Value := #[.pointer none]

theorem RowZ.shape {w : World} {e : TypeId} {z : Array Value} {sv : Value} {n : Nat} {xs : List Value} (h : RowZ w e z sv n xs) (g : Nat) (hg : sv.ownBlock = some g) : (w.shape? g).map (·.1) = some e := by
  rcases h with ⟨rfl, _⟩ | ⟨g', cap, cur, rfl, hh, _⟩
  · cases hg
  · cases hg
    unfold World.shape?
    simp only [hh]
    rfl
theorem RowZ.cells {w : World} {e : TypeId} {z : Array Value} {g n cap : Nat} {xs : List Value} (h : RowZ w e z (.slice (some ⟨g, 0, none⟩) n cap) n xs) (i : Nat) (u : Value) (hu : xs[i]? = some u) :
    w.cell? ⟨g, i, none⟩ = some u ∧ w.frozen? ⟨g, i, none⟩ = false := by
  rcases h with ⟨h0, _⟩ | ⟨g', cap', cur, h0, hh, hnc, hcm, hcs, htake, _⟩
  · cases h0
  · cases h0
    have hi : i < n * z.size := by
      have h1 : i < xs.length := by
        rcases Nat.lt_or_ge i xs.length with h | h
        · exact h
        · rw [List.getElem?_eq_none h] at hu; cases hu
      rw [← htake, List.length_take] at h1
      omega
    rw [← htake, List.getElem?_take_of_lt hi, Array.getElem?_toList] at hu
    constructor
    · unfold World.cell?; simp only [hh]; simpa using hu
    · unfold World.frozen?; simp only [hh]; simp
theorem CI.keep {w w' : World} {cb co : Nat} {sv : Value} {n : Nat} (h : CI w cb co sv n) (hs : w.heap.size ≤ w'.heap.size) (hc : w'.heap[cb]? = w.heap[cb]?) (hb : ∀ g, sv.ownBlock = some g → w'.heap[g]? = w.heap[g]?) : CI w' cb co sv n where
  cell := (World.cell?_of_block (a := ⟨cb, co, none⟩) hc).trans h.cell
  free := (World.frozen?_of_block (a := ⟨cb, co, none⟩) hc).trans h.free
  lt := Nat.lt_of_lt_of_le h.lt hs
  row := by obtain ⟨xs, hr⟩ := h.row; exact ⟨xs, hr.keep hb⟩
  ne := h.ne
theorem CI.shape {w : World} {cb co : Nat} {sv : Value} {n : Nat} (h : CI w cb co sv n) (g : Nat) (hg : sv.ownBlock = some g) : (w.shape? g).map (·.1) = some 185 := by
  obtain ⟨xs, hr⟩ := h.row; exact hr.shape g hg

section
variable {cb co : Nat} {w0 : World} {sv0 : Value} {n0 : Nat}
theorem Nw.later {w w' : World} {sv sv' : Value} {n n' k o : Nat} (h : Nw cb co w0 sv0 n0 w sv n k o) (f : Fr cb co w sv n w' sv' n') : Nw cb co w0 sv0 n0 w' sv' n' k o ∧ Same w w' k o :=
  ⟨⟨h.1, Nat.lt_of_lt_of_le h.2.1 f.size, fun hl => h.2.2 (f.loose h.2.1 hl)⟩, f.keep k o h.2.1 h.2.2⟩
/-- What a later call of the reader made was made by all of them. -/
theorem Nw.earlier {w w' : World} {sv sv' : Value} {n n' k o : Nat} (f : Fr cb co w0 sv0 n0 w sv n) (h : Nw cb co w sv n w' sv' n' k o) : Nw cb co w0 sv0 n0 w' sv' n' k o := by
  refine ⟨?_, h.2⟩
  rcases h.1 with h1 | ⟨h1, h2⟩
  · exact Or.inl (Nat.le_trans f.size h1)
  · rcases f.vs k h1 with h3 | h3
    · exact Or.inr ⟨h3, by have := f.le; omega⟩
    · exact Or.inl h3

/-- The cells of the elements of a list: not those of the list itself. -/
def Kid (cb co : Nat) (w0 : World) (sv0 : Value) (n0 : Nat) (w : World) (sv : Value) (n k o : Nat) (av : Value) (k' o' : Nat) : Prop :=
  Nw cb co w0 sv0 n0 w sv n k' o' ∧ ¬ (k' = k ∧ o ≤ o' ∧ o' < o + 5) ∧ av.ownBlock ≠ some k'

/-- A list of which some elements have been read. -/
structure ArrAt (cb co : Nat) (w0 : World) (sv0 : Value) (n0 k o : Nat) (ts : List J) (w : World) (sv : Value) (n : Nat) (av : Value) (ps : List (Nat × Nat)) : Prop where
  node : Node cb co w0 sv0 n0 w sv n k o (.slice none 0 0) (.bool false) av (.string (B [])) (.int .i64 2)
  row : RowZ w 156 zero156 av ps.length (ps.map ptrV)
  new : ∀ g, av.ownBlock = some g → w0.heap.size ≤ g
  len : ps.length = ts.length
  kids : ∀ (i : Nat) p t, ps[i]? = some p → ts[i]? = some t → RepV w (Kid cb co w0 sv0 n0 w sv n k o av) p.1 p.2 t

variable {k o : Nat} {ts : List J} {w : World} {sv : Value} {n : Nat} {av : Value} {ps : List (Nat × Nat)}
theorem ArrAt.ne_vs (h : ArrAt cb co w0 sv0 n0 k o ts w sv n av ps) {g : Nat} (hg : av.ownBlock = some g) : sv.ownBlock ≠ some g := by
  intro e
  have h1 := h.row.shape g hg
  rw [h.node.ci.shape g e] at h1; cases h1
theorem ArrAt.ne_node (h : ArrAt cb co w0 sv0 n0 k o ts w sv n av ps) : av.ownBlock ≠ some k := by
  intro e
  have h1 := h.row.shape k e
  rw [h.node.vn.shape] at h1; cases h1
theorem ArrAt.later (hcb : cb < w0.heap.size) (h : ArrAt cb co w0 sv0 n0 k o ts w sv n av ps) {w' : World} {sv' : Value} {n' : Nat} (f : Fr cb co w sv n w' sv' n') (c : CI w' cb co sv' n') :
    ArrAt cb co w0 sv0 n0 k o ts w' sv' n' av ps where
  node := ⟨c, h.node.fr.trans f, h.node.vn.mono fun _ _ hs => Nw.later hs f⟩
  row := h.row.keep fun g hg => f.block g (h.row.lt g hg) (fun e => by have := h.new g hg; omega) (h.ne_vs hg)
  new := h.new
  len := h.len
  kids i p t hp ht := (h.kids i p t hp ht).mono fun _ _ hs => ⟨⟨(Nw.later hs.1 f).1, hs.2⟩, (Nw.later hs.1 f).2⟩
theorem ArrAt.kid (h : ArrAt cb co w0 sv0 n0 k o ts w sv n av ps) {w' : World} {sv' : Value} {n' k' o' : Nat} (hk : Nw cb co w sv n w' sv' n' k' o') : Kid cb co w0 sv0 n0 w' sv' n' k o av k' o' := by
  refine ⟨Nw.earlier h.node.fr hk, ?_, ?_⟩
  · rintro ⟨rfl, h1, h2⟩
    have hs := h.node.vn.sure (o' - o) (by omega)
    rw [show o + (o' - o) = o' by omega] at hs
    rcases hk.1 with h3 | ⟨h3, h4⟩
    · have := hs.2.1; omega
    · exact hs.2.2 (Or.inr ⟨h3, h4⟩)
  · intro e
    rcases hk.1 with h3 | ⟨h3, h4⟩
    · have := h.row.lt k' e; omega
    · exact h.ne_vs e h3
theorem ArrAt.below (h : ArrAt cb co w0 sv0 n0 k o ts w sv n av ps) {w' : World} (hb : Below w.heap.size w w') : ArrAt cb co w0 sv0 n0 k o ts w' sv n av ps where
  node := ⟨h.node.ci.below hb, h.node.fr.below hb, h.node.vn.mono fun k1 o1 hs => ⟨⟨hs.1, Nat.lt_of_lt_of_le hs.2.1 hb.size, hs.2.2⟩, Same.of_block o1 (hb.block k1 hs.2.1)⟩⟩
  row := h.row.below hb
  new := h.new
  len := h.len
  kids i p t hp ht := (h.kids i p t hp ht).mono fun k1 o1 hs => ⟨⟨⟨hs.1.1, Nat.lt_of_lt_of_le hs.1.2.1 hb.size, hs.1.2.2⟩, hs.2⟩, Same.of_block o1 (hb.block k1 hs.1.2.1)⟩
theorem Kid.below {w' : World} {k' o' : Nat} (hk : Kid cb co w0 sv0 n0 w sv n k o av k' o') (hb : Below w.heap.size w w') : Kid cb co w0 sv0 n0 w' sv n k o av k' o' ∧ Same w w' k' o' :=
  ⟨⟨⟨hk.1.1, Nat.lt_of_lt_of_le hk.1.2.1 hb.size, hk.1.2.2⟩, hk.2⟩, Same.of_block o' (hb.block k' hk.1.2.1)⟩

theorem ArrAt.push (hcb : cb < w0.heap.size) (h : ArrAt cb co w0 sv0 n0 k o ts w sv n av ps) {p : Nat × Nat} {t : J} (hk : RepV w (Kid cb co w0 sv0 n0 w sv n k o av) p.1 p.2 t)
    {w' : World} {g cap : Nat} (hgb : w.grownBy w' av.ownBlock) (hg : av.ownBlock = some g ∨ w.heap.size ≤ g) (hrow : RowZ w' 156 zero156 (.slice (some ⟨g, 0, none⟩) (ps.length + 1) cap) (ps.length + 1) (ps.map ptrV ++ [ptrV p])) :
    ArrAt cb co w0 sv0 n0 k o (ts ++ [t]) (w'.setCell ⟨k, o + 2, none⟩ (.slice (some ⟨g, 0, none⟩) (ps.length + 1) cap)) sv n (.slice (some ⟨g, 0, none⟩) (ps.length + 1) cap) (ps ++ [p]) := by
  have hkl : k < w.heap.size := (h.node.vn.sure 0 (by omega)).2.1
  have hgk : g ≠ k := by
    intro e; subst e
    rcases hg with hg | hg
    · exact h.ne_node hg
    · omega
  have hblk : w'.heap[k]? = w.heap[k]? := hgb.block k hkl fun e => h.ne_node e.symm
  have hci : CI w' cb co sv n := h.node.ci.keep hgb.size (hgb.block cb h.node.ci.lt fun e => by have := h.new cb e.symm; omega)
    fun g' hg' => hgb.block g' (h.node.ci.own_lt hg') fun e => h.ne_vs e.symm hg'
  have hnode : Node cb co w0 sv0 n0 w' sv n k o (.slice none 0 0) (.bool false) av (.string (B [])) (.int .i64 2) :=
    ⟨hci, h.node.fr.grown hgb fun k1 hk1 => h.new k1 hk1,
      (h.node.vn.sub (S' := fun k1 o1 => Nw cb co w0 sv0 n0 w sv n k1 o1 ∧ k1 = k) fun _ _ hs => ⟨hs, rfl⟩).mono fun k1 o1 ⟨hs, e⟩ => by
        subst e; exact ⟨⟨hs.1, Nat.lt_of_lt_of_le hs.2.1 hgb.size, hs.2.2⟩, Same.of_block o1 hblk⟩⟩
  have hkid : ∀ (a b : Nat) (t : J), RepV w (Kid cb co w0 sv0 n0 w sv n k o av) a b t → RepV (w'.setCell ⟨k, o + 2, none⟩ (.slice (some ⟨g, 0, none⟩) (ps.length + 1) cap))
      (Kid cb co w0 sv0 n0 (w'.setCell ⟨k, o + 2, none⟩ (.slice (some ⟨g, 0, none⟩) (ps.length + 1) cap)) sv n k o (.slice (some ⟨g, 0, none⟩) (ps.length + 1) cap)) a b t := by
    intro a b t hr
    refine hr.mono fun k1 o1 hs => ⟨⟨⟨hs.1.1, by simpa using Nat.lt_of_lt_of_le hs.1.2.1 hgb.size, hs.1.2.2⟩, hs.2.1, ?_⟩, ?_⟩
    · intro e
      have e1 : g = k1 := Option.some.inj e
      subst e1
      rcases hg with hg | hg
      · exact hs.2.2 hg
      · have := hs.1.2.1; omega
    · refine (Same.of_block o1 (hgb.block k1 hs.1.2.1 fun e => hs.2.2 e.symm)).trans (Same.setCell w' _ ?_)
      rintro ⟨rfl, rfl⟩
      exact hs.2.1 ⟨rfl, by omega, by omega⟩
  refine ⟨hnode.set2 _, ?_, ?_, by simp [h.len], ?_⟩
  · have := hrow.keep (w' := w'.setCell ⟨k, o + 2, none⟩ (.slice (some ⟨g, 0, none⟩) (ps.length + 1) cap)) fun g' hg' => Below.heap_setCell _ _ _ _ (by have : g = g' := Option.some.inj hg'; simpa using fun e => hgk (this.trans e))
    simpa using this
  · intro g' hg'
    have e1 : g = g' := Option.some.inj hg'
    subst e1
    rcases hg with hg | hg
    · exact h.new g hg
    · exact Nat.le_trans h.node.fr.size hg
  · intro i p1 t1 hp ht
    rcases Nat.lt_or_ge i ps.length with hi | hi
    · rw [List.getElem?_append_left hi] at hp
      rw [List.getElem?_append_left (by rw [← h.len]; exact hi)] at ht
      exact hkid p1.1 p1.2 t1 (h.kids i p1 t1 hp ht)
    · have hi0 : i = ps.length := by
        rcases Nat.lt_or_ge ps.length i with h1 | h1
        · rw [List.getElem?_eq_none (by simp; omega)] at hp; cases hp
        · omega
      subst hi0
      rw [List.getElem?_append_right (Nat.le_refl _)] at hp
      rw [List.getElem?_append_right (by rw [h.len]; exact Nat.le_refl _)] at ht
      rw [h.len] at ht
      simp only [Nat.sub_self, List.getElem?_cons_zero, Option.some.injEq] at hp ht
      subst hp; subst ht
      exact hkid p.1 p.2 t hk
theorem ArrAt.cell2 (h : ArrAt cb co w0 sv0 n0 k o ts w sv n av ps) {w' : World} (hgb : w.grownBy w' av.ownBlock) : w'.cell? ⟨k, o + 2, none⟩ = some av ∧ w'.frozen? ⟨k, o + 2, none⟩ = false := by
  have hblk : w'.heap[k]? = w.heap[k]? := hgb.block k (h.node.vn.sure 0 (by omega)).2.1 fun e => h.ne_node e.symm
  exact ⟨(World.cell?_of_block (a := ⟨k, o + 2, none⟩) hblk).trans h.node.vn.c2, (World.frozen?_of_block (a := ⟨k, o + 2, none⟩) hblk).trans (h.node.vn.free 2 (by omega))⟩
theorem ArrAt.rep (hcb : cb < w0.heap.size) (h1 : 1 ≤ ts.length) (h : ArrAt cb co w0 sv0 n0 k o ts w sv n av ps) : RepV w (Nw cb co w0 sv0 n0 w sv n) k o (.arr ts) := by
  refine .arr h.node.vn h.len ?_ fun i p t hp ht => (h.kids i p t hp ht).mono fun _ _ hs => ⟨hs.1, Same.refl _ _ _⟩
  have hrow := h.row
  rcases h.row with ⟨rfl, h0, _⟩ | ⟨g, cap, cur, rfl, hh, hnc, _⟩
  · exact Or.inl ⟨rfl, List.eq_nil_of_length_eq_zero h0⟩
  · by_cases h0 : ps.length = 0
    · have := h.len; omega
    · refine Or.inr ⟨g, cap, rfl, by omega, hnc, hrow.shape g rfl, fun i p hp => ⟨⟨Or.inl (h.new g rfl), hrow.lt g rfl, ?_⟩, (hrow.cells i (ptrV p) (by simp [hp])).1⟩⟩
      rintro (⟨e, _⟩ | ⟨e, _⟩)
      · have := h.new g rfl; omega
      · exact h.ne_vs rfl e
end
end Go.Proofs.YtppkpcijmfdfmaaGreatDoor
