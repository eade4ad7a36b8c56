/- Kids in memory as rows of cells; rows of kids of a call's own; what is appended to them. -/
import Derived.Test.YtppkpcijmfdfmaaGreatDoorG9
import Derived.Test.YtppkpcijmfdfmaaGreatDoorA28
import Derived.Test.YtppkpcijmfdfmaaGreatDoorE3
set_option linter.unusedVariables false
set_option linter.unusedSimpArgs false
set_option linter.unusedVariables false
set_option linter.unusedSimpArgs false
namespace Go.Proofs.YtppkpcijmfdfmaaGreatDoor
open Go.RowKit
attribute [local go_sem] B_size B_get B_lit B_ext_to B_ext B_toList B_app

theorem NSB.up {w : World} {B0 B1 : Nat} {v : Value} {l : List Bs} (h : NSB w B0 v l) (hB : B0 ≤ B1) : NSB w B1 v l := by
  rcases h with h | ⟨b, off, c, rfl, hlt, hc⟩
  · exact Or.inl h
  · exact Or.inr ⟨b, off, c, rfl, ⟨Nat.lt_of_lt_of_le hlt.1 hB, hlt.2⟩, hc⟩
theorem RepT.up {w : World} {B0 B1 : Nat} (hB : B0 ≤ B1) : ∀ {d : Nat} {nv kv : Value} {t : HT}, RepT w B0 d nv kv t → RepT w B1 d nv kv t
  | 0, _, _, _, h => h.elim
  | d + 1, nv, kv, t, h => by
    obtain ⟨h1, h2, h3⟩ := h
    refine ⟨h1, h2.up hB, ?_⟩
    rcases h3 with h3 | ⟨b, off, c, rfl, hlt, hc⟩
    · exact Or.inl h3
    · refine Or.inr ⟨b, off, c, rfl, Nat.lt_of_lt_of_le hlt hB, fun i k hi => ?_⟩
      obtain ⟨nv', kv', hr, hcell⟩ := hc i k hi
      exact ⟨nv', kv', RepT.up hB hr, hcell⟩
theorem RepT.fuel {w : World} {B0 : Nat} : ∀ {d d' : Nat} {nv kv : Value} {t : HT}, RepT w B0 d nv kv t → d ≤ d' → RepT w B0 d' nv kv t
  | 0, _, _, _, _, h, _ => h.elim
  | d + 1, 0, _, _, _, _, hd => by omega
  | d + 1, e + 1, nv, kv, t, h, hd => by
    obtain ⟨h1, h2, h3⟩ := h
    refine ⟨h1, h2, ?_⟩
    rcases h3 with h3 | ⟨b, off, c, rfl, hlt, hc⟩
    · exact Or.inl h3
    · refine Or.inr ⟨b, off, c, rfl, hlt, fun i k hi => ?_⟩
      obtain ⟨nv', kv', hr, hcell⟩ := hc i k hi
      exact ⟨nv', kv', RepT.fuel hr (by omega), hcell⟩

/-- The cells of kids, one behind the other; their slices stand in ps. -/
def flatK : List HT → List (Value × Value) → List Value
  | [], _ => []
  | _ :: _, [] => []
  | k :: ks, p :: ps => tcells k p.1 p.2 ++ flatK ks ps
theorem flatK_cons (k : HT) (ks : List HT) (p : Value × Value) (ps : List (Value × Value)) : flatK (k :: ks) (p :: ps) = tcells k p.1 p.2 ++ flatK ks ps := rfl
theorem tcells_len (k : HT) (a b : Value) : (tcells k a b).length = 7 := rfl
theorem flatK_length : ∀ {ks : List HT} {ps : List (Value × Value)}, ks.length = ps.length → (flatK ks ps).length = ks.length * 7
  | [], _, _ => by simp [flatK]
  | _ :: _, [], h => by simp at h
  | k :: ks, p :: ps, h => by
    rw [flatK_cons, List.length_append, tcells_len, flatK_length (by simpa using h), List.length_cons]
    omega
theorem flatK_get : ∀ {ks : List HT} {ps : List (Value × Value)} {i : Nat} {k : HT} {p : Value × Value}, ks[i]? = some k → ps[i]? = some p → ∀ j, j < 7 → (flatK ks ps)[i * 7 + j]? = (tcells k p.1 p.2)[j]?
  | [], _, _, _, _, h, _, _, _ => by simp at h
  | _ :: _, [], _, _, _, _, h, _, _ => by simp at h
  | k :: ks, p :: ps, 0, _, _, h1, h2, j, hj => by
    simp at h1 h2
    subst h1
    subst h2
    rw [flatK_cons, List.getElem?_append_left (by rw [tcells_len]; omega)]
    congr 1
    omega
  | k :: ks, p :: ps, i + 1, _, _, h1, h2, j, hj => by
    rw [flatK_cons, List.getElem?_append_right (by rw [tcells_len]; omega), tcells_len, show (i + 1) * 7 + j - 7 = i * 7 + j by omega]
    exact flatK_get (by simpa using h1) (by simpa using h2) j hj
def OneP (ps : List (Value × Value)) : Prop := ∀ p ∈ ps, p.1.oneCell' = true ∧ p.2.oneCell' = true
/-- Kids' slices, each its kid's. -/
def RepP (w : World) (B d : Nat) (ks : List HT) (ps : List (Value × Value)) : Prop := ks.length = ps.length ∧ ∀ (i : Nat) k p, ks[i]? = some k → ps[i]? = some p → RepT w B d p.1 p.2 k
theorem RepP.below {w w' : World} {B d : Nat} {ks : List HT} {ps : List (Value × Value)} (h : RepP w B d ks ps) (hb : Below B w w') : RepP w' B d ks ps := ⟨h.1, fun i k p h1 h2 => (h.2 i k p h1 h2).below hb⟩
theorem RepP.up {w : World} {B B' d : Nat} {ks : List HT} {ps : List (Value × Value)} (h : RepP w B d ks ps) (hb : B ≤ B') : RepP w B' d ks ps := ⟨h.1, fun i k p h1 h2 => (h.2 i k p h1 h2).up hb⟩
theorem RepP.fuel {w : World} {B d d' : Nat} {ks : List HT} {ps : List (Value × Value)} (h : RepP w B d ks ps) (hd : d ≤ d') : RepP w B d' ks ps := ⟨h.1, fun i k p h1 h2 => (h.2 i k p h1 h2).fuel hd⟩
theorem RepP.one {w : World} {B d : Nat} {ks : List HT} {ps : List (Value × Value)} (h : RepP w B d ks ps) : OneP ps := by
  intro p hp
  obtain ⟨i, hi⟩ := List.mem_iff_getElem?.1 hp
  have hlt : i < ks.length := by rw [h.1]; exact (List.getElem?_eq_some_iff.1 hi).1
  obtain ⟨⟨a, c, e1⟩, a', c', e2⟩ := (h.2 i _ p (List.getElem?_eq_getElem hlt) hi).slices
  rw [e1, e2]
  exact ⟨rfl, rfl⟩
theorem RepP.app {w : World} {B d : Nat} {ks ks' : List HT} {ps ps' : List (Value × Value)} (h : RepP w B d ks ps) (g : RepP w B d ks' ps') : RepP w B d (ks ++ ks') (ps ++ ps') := by
  refine ⟨by rw [List.length_append, List.length_append, h.1, g.1], fun i k p h1 h2 => ?_⟩
  by_cases hi : i < ks.length
  · rw [List.getElem?_append_left hi] at h1
    rw [List.getElem?_append_left (by rw [← h.1]; exact hi)] at h2
    exact h.2 i k p h1 h2
  · rw [List.getElem?_append_right (by omega)] at h1
    rw [List.getElem?_append_right (by rw [← h.1]; omega), ← h.1] at h2
    exact g.2 _ k p h1 h2
theorem RepP.drop {w : World} {B d : Nat} {ks : List HT} {ps : List (Value × Value)} (h : RepP w B d ks ps) (m : Nat) : RepP w B d (ks.drop m) (ps.drop m) :=
  ⟨by rw [List.length_drop, List.length_drop, h.1], fun i k p h1 h2 => by rw [List.getElem?_drop] at h1 h2; exact h.2 _ k p h1 h2⟩
theorem RepP.take {w : World} {B d : Nat} {ks : List HT} {ps : List (Value × Value)} (h : RepP w B d ks ps) (m : Nat) : RepP w B d (ks.take m) (ps.take m) := by
  refine ⟨by rw [List.length_take, List.length_take, h.1], fun i k p h1 h2 => ?_⟩
  rw [List.getElem?_take] at h1 h2
  split at h1
  · rw [if_pos (by assumption)] at h2
    exact h.2 _ k p h1 h2
  · cases h1
theorem RepP.set {w : World} {B d : Nat} {ks : List HT} {ps : List (Value × Value)} (h : RepP w B d ks ps) (m : Nat) {v : HT} {q : Value × Value} (hv : RepT w B d q.1 q.2 v) : RepP w B d (ks.set m v) (ps.set m q) := by
  refine ⟨by rw [List.length_set, List.length_set, h.1], fun i k p h1 h2 => ?_⟩
  rw [List.getElem?_set] at h1 h2
  by_cases e : m = i
  · rw [if_pos e] at h1 h2
    split at h1
    · split at h2
      · cases h1; cases h2; exact hv
      · cases h2
    · cases h1
  · rw [if_neg e] at h1 h2
    exact h.2 i k p h1 h2
/-- Kids as cells in memory. -/
def KRow (w : World) (v : Value) (ks : List HT) (ps : List (Value × Value)) : Prop :=
  ks.length = ps.length ∧ ((∃ a c, v = .slice a 0 c ∧ ks = []) ∨ ∃ b off c, v = .slice (some ⟨b, off, none⟩) ks.length c ∧ b < w.heap.size ∧ ∀ (j : Nat) u, (flatK ks ps)[j]? = some u → w.cell? ⟨b, off + j, none⟩ = some u)
theorem KRow.below {w w' : World} {v : Value} {ks : List HT} {ps : List (Value × Value)} (h : KRow w v ks ps) (hb : Below w.heap.size w w') : KRow w' v ks ps := by
  obtain ⟨h0, h⟩ := h
  refine ⟨h0, ?_⟩
  rcases h with h | ⟨b, off, c, rfl, hlt, hc⟩
  · exact Or.inl h
  · exact Or.inr ⟨b, off, c, rfl, Nat.lt_of_lt_of_le hlt hb.size, fun j u hu => (hb.cell (p := ⟨b, off + j, none⟩) hlt).trans (hc j u hu)⟩
theorem KRow.kids {w : World} {B d : Nat} {v : Value} {ks : List HT} {ps : List (Value × Value)} (h : KRow w v ks ps) (hp : RepP w B d ks ps) (hB : w.heap.size ≤ B) : KidsB w B v ks (RepT w B d) := by
  obtain ⟨h0, ⟨a, c, rfl, rfl⟩ | ⟨b, off, c, rfl, hlt, hc⟩⟩ := h
  · exact Or.inl ⟨a, c, rfl, rfl⟩
  · refine Or.inr ⟨b, off, c, rfl, by omega, fun i k hi => ?_⟩
    have hlt' : i < ps.length := by rw [← h0]; exact (List.getElem?_eq_some_iff.1 hi).1
    have hpi := List.getElem?_eq_getElem hlt'
    refine ⟨_, _, hp.2 i k _ hi hpi, fun j u hu => ?_⟩
    have hj : j < 7 := (List.getElem?_eq_some_iff.1 hu).1
    rw [Nat.add_assoc]
    exact hc _ u ((flatK_get hi hpi j hj).trans hu)
/-- A row of kids of a call's own. -/
def OwnK (base : Nat) (w : World) (g cap : Nat) (ks : List HT) (ps : List (Value × Value)) : Prop := ks.length = ps.length ∧ w.ownsRow base 45 7 (.slice (some ⟨g, 0, none⟩) ks.length cap) ks.length (flatK ks ps)
theorem OwnK.row {base : Nat} {w : World} {g cap : Nat} {ks : List HT} {ps : List (Value × Value)} (h : OwnK base w g cap ks ps) : ∃ cur, base ≤ g ∧ w.heap[g]? = some (.cells cur 45 (0, 0)) ∧ ks.length ≤ cap ∧ cap ≤ maxLen ∧ cur.size = cap * 7 ∧ cur.toList.take (ks.length * 7) = flatK ks ps := by
  rcases h.2.2 with ⟨h, _⟩ | ⟨g', cap', cur, h1, h2, h3, h4, h5, h6, h7⟩
  · cases h
  · cases h1
    exact ⟨cur, h2, h3, h4, h5, h6, h7⟩
theorem OwnK.lt {base : Nat} {w : World} {g cap : Nat} {ks : List HT} {ps : List (Value × Value)} (h : OwnK base w g cap ks ps) : g < w.heap.size := by
  obtain ⟨cur, _, h3, _⟩ := h.row
  rcases Nat.lt_or_ge g w.heap.size with h' | h'
  · exact h'
  · rw [Array.getElem?_eq_none h'] at h3; cases h3
theorem OwnK.base {base : Nat} {w : World} {g cap : Nat} {ks : List HT} {ps : List (Value × Value)} (h : OwnK base w g cap ks ps) : base ≤ g := by
  obtain ⟨cur, h2, _⟩ := h.row
  exact h2
theorem OwnK.keep {base : Nat} {w w' : World} {g cap : Nat} {ks : List HT} {ps : List (Value × Value)} (h : OwnK base w g cap ks ps) (hk : w'.heap[g]? = w.heap[g]?) : OwnK base w' g cap ks ps := by
  obtain ⟨hl, h0, h⟩ := h
  refine ⟨hl, h0, ?_⟩
  rcases h with h | ⟨g', cap', cur, h1, h2, h3, h4⟩
  · exact Or.inl h
  · cases h1
    exact Or.inr ⟨g, cap, cur, rfl, h2, hk.trans h3, h4⟩
theorem OwnK.below {base : Nat} {w w' : World} {g cap : Nat} {ks : List HT} {ps : List (Value × Value)} (h : OwnK base w g cap ks ps) (hb : Below w.heap.size w w') : OwnK base w' g cap ks ps := h.keep (hb.block g h.lt)
theorem OwnK.cells {base : Nat} {w : World} {g cap : Nat} {ks : List HT} {ps : List (Value × Value)} (h : OwnK base w g cap ks ps) (j : Nat) (u : Value) (hu : (flatK ks ps)[j]? = some u) : w.cell? ⟨g, j, none⟩ = some u := by
  obtain ⟨cur, _, h3, _, _, _, h7⟩ := h.row
  have hlt := (List.getElem?_eq_some_iff.1 hu).1
  rw [flatK_length h.1] at hlt
  have e : cur[j]? = some u := by
    have : (cur.toList.take (ks.length * 7))[j]? = some u := by rw [h7]; exact hu
    rw [List.getElem?_take, if_pos hlt] at this
    simpa using this
  unfold World.cell?
  simp [h3, e]
end Go.Proofs.YtppkpcijmfdfmaaGreatDoor

/- The walks of slices.Clone of texts and of kids; one more behind a row that may be nil. -/
set_option linter.unusedVariables false
set_option linter.unusedSimpArgs false
namespace Go.Proofs.YtppkpcijmfdfmaaGreatDoor
open Go.RowKit
attribute [local go_sem] B_size B_get B_lit B_ext_to B_ext B_toList B_app

/-- A row of texts of a call's own, or nil. -/
def RowN (base : Nat) (w : World) (v : Value) (l : List Bs) : Prop := w.ownsRow base 9 1 v l.length (strs l)
/-- The same of kids. -/
def RowK (base : Nat) (w : World) (v : Value) (ks : List HT) (ps : List (Value × Value)) : Prop := ks.length = ps.length ∧ w.ownsRow base 45 7 v ks.length (flatK ks ps)
theorem RowN.form {base : Nat} {w : World} {v : Value} {l : List Bs} (h : RowN base w v l) : (v = .slice none 0 0 ∧ l = []) ∨ ∃ g cap, v = .slice (some ⟨g, 0, none⟩) l.length cap ∧ OwnG base w g cap l := by
  obtain ⟨h0, ⟨rfl, h1⟩ | ⟨g, cap, cur, rfl, h2⟩⟩ := h
  · exact Or.inl ⟨rfl, List.eq_nil_of_length_eq_zero h1⟩
  · exact Or.inr ⟨g, cap, rfl, h0, Or.inr ⟨g, cap, cur, rfl, h2⟩⟩
theorem RowK.form {base : Nat} {w : World} {v : Value} {ks : List HT} {ps : List (Value × Value)} (h : RowK base w v ks ps) : (v = .slice none 0 0 ∧ ks = []) ∨ ∃ g cap, v = .slice (some ⟨g, 0, none⟩) ks.length cap ∧ OwnK base w g cap ks ps := by
  obtain ⟨hl, h0, ⟨rfl, h1⟩ | ⟨g, cap, cur, rfl, h2⟩⟩ := h
  · exact Or.inl ⟨rfl, List.eq_nil_of_length_eq_zero h1⟩
  · exact Or.inr ⟨g, cap, rfl, hl, h0, Or.inr ⟨g, cap, cur, rfl, h2⟩⟩
theorem RowN.below {base : Nat} {w w' : World} {v : Value} {l : List Bs} (h : RowN base w v l) (hb : Below w.heap.size w w') : RowN base w' v l := by
  rcases h.form with ⟨rfl, rfl⟩ | ⟨g, cap, rfl, ho⟩
  · exact ⟨rfl, Or.inl ⟨rfl, rfl⟩⟩
  · exact ho.below hb
theorem RowK.below {base : Nat} {w w' : World} {v : Value} {ks : List HT} {ps : List (Value × Value)} (h : RowK base w v ks ps) (hb : Below w.heap.size w w') : RowK base w' v ks ps := by
  have h0 := h.1
  rcases h.form with ⟨rfl, rfl⟩ | ⟨g, cap, rfl, ho⟩
  · exact ⟨h0, rfl, Or.inl ⟨rfl, rfl⟩⟩
  · exact ho.below hb

/-- One text more. -/
theorem append_oneN {w : World} {base : Nat} {v : Value} {l : List Bs} (ty : TypeId) (h : RowN base w v l) {b : Nat} {s : Bs} (hc : w.cell? ⟨b, 0, none⟩ = some (.string (B s))) (hl : l.length < 1000000) (hb : base ≤ w.heap.size) :
    ∃ g cap w', (Builtin.append_ #[29, 29] ty #[v, .slice (some ⟨b, 0, none⟩) 1 1]).run Tryz.prog w = .ok (.slice (some ⟨g, 0, none⟩) (l ++ [s]).length cap) w' ∧ OwnG base w' g cap (l ++ [s]) ∧ w.grownBy w' v.ownBlock := by
  obtain ⟨i, hi, hz, hs, hby⟩ := info_parts info9
  obtain ⟨g', cap', w', h1, h2, h3, _, _⟩ := run_append_lies (P := Tryz.prog) w 29 ty base 9 i _ 1 16 Tryz.underlying29 hi hz hs hby rfl (by decide) _ l.length (strs l) h ⟨b, 0, none⟩ 1 1 (strs [s])
    (by rw [strs_length]; rfl) (fun j u hu => by
      obtain ⟨x, hx, rfl⟩ := strs_get hu
      match j, hx with
      | 0, hx => cases hx; exact hc) (strs_cell [s]) (by decide) (by unfold maxLen; omega) (by omega) hb w.heap.size rfl
  have e : l.length + 1 = (l ++ [s]).length := by simp
  rw [e] at h1 h2
  rw [← strs_app] at h2
  exact ⟨g', cap', w', h1, h2, h3⟩
end Go.Proofs.YtppkpcijmfdfmaaGreatDoor

/- What stays of a block, a tree with other fields in a box, and where the laws that make one come from. -/
set_option linter.unusedVariables false
set_option linter.unusedSimpArgs false
namespace Go.Proofs.YtppkpcijmfdfmaaGreatDoor
open Go.RowKit

theorem blk_alloc {X : World} {b : Nat} {o o' : Obj} (h : X.heap[b]? = some o) : (X.alloc o').heap[b]? = some o := by
  have hlt : b < X.heap.size := by
    rcases Nat.lt_or_ge b X.heap.size with h' | h'
    · exact h'
    · rw [Array.getElem?_eq_none h'] at h; cases h
  rw [Below.heap_alloc _ _ _ hlt]
  exact h
theorem blk_below {X Z : World} {b : Nat} {o : Obj} (hb : Below X.heap.size X Z) (h : X.heap[b]? = some o) : Z.heap[b]? = some o := by
  have hlt : b < X.heap.size := by
    rcases Nat.lt_or_ge b X.heap.size with h' | h'
    · exact h'
    · rw [Array.getElem?_eq_none h'] at h; cases h
  rw [hb.block b hlt]
  exact h
theorem blk_cell {X : World} {b : Nat} {l : List Value} {ty : TypeId} {fz : Nat × Nat} (h : X.heap[b]? = some (.cells l.toArray ty fz)) (j : Nat) (u : Value) (hu : l[j]? = some u) : X.cell? ⟨b, j, none⟩ = some u := by
  unfold World.cell?
  simp [h, hu]
theorem blk_free {X : World} {b : Nat} {l : Array Value} {ty : TypeId} (h : X.heap[b]? = some (.cells l ty (0, 0))) (j : Nat) : X.frozen? ⟨b, j, none⟩ = false := by
  unfold World.frozen?
  simp [h]
/-- Behind a first world, and a second one. -/
structure Past (w1 wu w' : World) : Prop where
  below : Below w1.heap.size w1 w'
  size : wu.heap.size ≤ w'.heap.size
theorem Past.alloc {w1 wu X : World} (h : Past w1 wu X) (o : Obj) : Past w1 wu (X.alloc o) := ⟨Below.to_alloc h.below o, by rw [World.size_alloc]; have := h.size; omega⟩
theorem Past.drew {w1 wu X : World} (h : Past w1 wu X) : Past w1 wu X.drew := ⟨h.below.drew, h.size⟩
theorem Past.next {w1 wu X Y : World} (h : Past w1 wu X) (k : Below X.heap.size X Y) : Past w1 wu Y := ⟨Below.to_next h.below k, Nat.le_trans h.size k.size⟩
theorem Past.grown {w1 wu X Y : World} {g : Nat} (h : Past w1 wu X) (k : X.grownBy Y (some g)) (hg : w1.heap.size ≤ g) : Past w1 wu Y := ⟨h.below.grown k h.below.size (fun b e => by cases e; exact hg), Nat.le_trans h.size k.size⟩
theorem Past.set {w1 wu X : World} {b : Nat} (h : Past w1 wu X) (hb : w1.heap.size ≤ b) (j : Nat) (v : Value) : Past w1 wu (X.setCell ⟨b, j, none⟩ v) := ⟨h.below.setCell hb v, by rw [World.size_setCell]; exact h.size⟩

end Go.Proofs.YtppkpcijmfdfmaaGreatDoor
