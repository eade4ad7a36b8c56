/- Kids in memory as rows of cells; rows of kids of a call's own; what is appended to them. -/
import Derived.Test.YtppkpcijmfdfmaaGreatDoorW71
import Derived.Test.YtppkpcijmfdfmaaGreatDoorA28
import Derived.Test.YtppkpcijmfdfmaaGreatDoorE3
set_option linter.unusedVariables false
set_option linter.unusedSimpArgs false
set_option linter.unusedVariables false
set_option linter.unusedSimpArgs false
namespace Go.Proofs.YtppkpcijmfdfmaaGreatDoor
open Go.RowKit
attribute [local go_sem] B_size B_get B_lit B_ext_to B_ext B_toList B_app

theorem NSB.up {w : World} {B0 B1 : Nat} {v : Value} {l : List Bs} (h : NSB w B0 v l) (hB : B0 ≤ B1) : NSB w B1 v l := by
  rcases h with h | ⟨b, off, c, rfl, hlt, hc⟩
  · exact Or.inl h
  · exact Or.inr ⟨b, off, c, rfl, ⟨Nat.lt_of_lt_of_le hlt.1 hB, hlt.2⟩, hc⟩
theorem RepT.up {w : World} {B0 B1 : Nat} (hB : B0 ≤ B1) : ∀ {d : Nat} {nv kv : Value} {t : HT}, RepT w B0 d nv kv t → RepT w B1 d nv kv t
  | 0, _, _, _, h => h.elim
  | d + 1, nv, kv, t, h => by
    obtain ⟨h1, h2, h3⟩ := h
    refine ⟨h1, h2.up hB, ?_⟩
    rcases h3 with h3 | ⟨b, off, c, rfl, hlt, hc⟩
    · exact Or.inl h3
    · refine Or.inr ⟨b, off, c, rfl, Nat.lt_of_lt_of_le hlt hB, fun i k hi => ?_⟩
      obtain ⟨nv', kv', hr, hcell⟩ := hc i k hi
      exact ⟨nv', kv', RepT.up hB hr, hcell⟩
theorem RepT.fuel {w : World} {B0 : Nat} : ∀ {d d' : Nat} {nv kv : Value} {t : HT}, RepT w B0 d nv kv t → d ≤ d' → RepT w B0 d' nv kv t
  | 0, _, _, _, _, h, _ => h.elim
  | d + 1, 0, _, _, _, _, hd => by omega
  | d + 1, e + 1, nv, kv, t, h, hd => by
    obtain ⟨h1, h2, h3⟩ := h
    refine ⟨h1, h2, ?_⟩
    rcases h3 with h3 | ⟨b, off, c, rfl, hlt, hc⟩
    · exact Or.inl h3
    · refine Or.inr ⟨b, off, c, rfl, hlt, fun i k hi => ?_⟩
      obtain ⟨nv', kv', hr, hcell⟩ := hc i k hi
      exact ⟨nv', kv', RepT.fuel hr (by omega), hcell⟩

/-- The cells of kids, one behind the other; their slices stand in ps. -/
def flatK : List HT → List (Value × Value) → List Value
  | [], _ => []
  | _ :: _, [] => []
  | k :: ks, p :: ps => tcells k p.1 p.2 ++ flatK ks ps
theorem flatK_cons (k : HT) (ks : List HT) (p : Value × Value) (ps : List (Value × Value)) : flatK (k :: ks) (p :: ps) = tcells k p.1 p.2 ++ flatK ks ps := rfl
theorem tcells_len (k : HT) (a b : Value) : (tcells k a b).length = 7 := rfl
theorem flatK_length : ∀ {ks : List HT} {ps : List (Value × Value)}, ks.length = ps.length → (flatK ks ps).length = ks.length * 7
  | [], _, _ => by simp [flatK]
  | _ :: _, [], h => by simp at h
  | k :: ks, p :: ps, h => by
    rw [flatK_cons, List.length_append, tcells_len, flatK_length (by simpa using h), List.length_cons]
    omega
theorem flatK_get : ∀ {ks : List HT} {ps : List (Value × Value)} {i : Nat} {k : HT} {p : Value × Value}, ks[i]? = some k → ps[i]? = some p → ∀ j, j < 7 → (flatK ks ps)[i * 7 + j]? = (tcells k p.1 p.2)[j]?
  | [], _, _, _, _, h, _, _, _ => by simp at h
  | _ :: _, [], _, _, _, _, h, _, _ => by simp at h
  | k :: ks, p :: ps, 0, _, _, h1, h2, j, hj => by
    simp at h1 h2
    subst h1
    subst h2
    rw [flatK_cons, List.getElem?_append_left (by rw [tcells_len]; omega)]
    congr 1
    omega
  | k :: ks, p :: ps, i + 1, _, _, h1, h2, j, hj => by
    rw [flatK_cons, List.getElem?_append_right (by rw [tcells_len]; omega), tcells_len, show (i + 1) * 7 + j - 7 = i * 7 + j by omega]
    exact flatK_get (by simpa using h1) (by simpa using h2) j hj
theorem flatK_app : ∀ {ks : List HT} {ps : List (Value × Value)} (ks' : List HT) (ps' : List (Value × Value)), ks.length = ps.length → flatK (ks ++ ks') (ps ++ ps') = flatK ks ps ++ flatK ks' ps'
  | [], [], _, _, _ => rfl
  | [], _ :: _, _, _, h => by simp at h
  | _ :: _, [], _, _, h => by simp at h
  | k :: ks, p :: ps, ks', ps', h => by
    rw [List.cons_append, List.cons_append, flatK_cons, flatK_cons, flatK_app ks' ps' (by simpa using h), List.append_assoc]
theorem flatK_drop : ∀ (ks : List HT) (ps : List (Value × Value)) (m : Nat), ks.length = ps.length → flatK (ks.drop m) (ps.drop m) = (flatK ks ps).drop (m * 7)
  | [], _, m, _ => by simp [flatK]
  | _ :: _, [], _, h => by simp at h
  | k :: ks, p :: ps, 0, _ => by simp
  | k :: ks, p :: ps, m + 1, h => by
    rw [List.drop_succ_cons, List.drop_succ_cons, flatK_drop ks ps m (by simpa using h), flatK_cons, show (m + 1) * 7 = 7 + m * 7 by omega, ← List.drop_drop]
    congr 1
theorem flatK_take : ∀ (ks : List HT) (ps : List (Value × Value)) (m : Nat), ks.length = ps.length → flatK (ks.take m) (ps.take m) = (flatK ks ps).take (m * 7)
  | [], _, m, _ => by simp [flatK]
  | _ :: _, [], _, h => by simp at h
  | k :: ks, p :: ps, 0, _ => by simp [flatK]
  | k :: ks, p :: ps, m + 1, h => by
    have e : (tcells k p.1 p.2 ++ flatK ks ps).take (7 + m * 7) = tcells k p.1 p.2 ++ (flatK ks ps).take (m * 7) := by
      rw [show 7 + m * 7 = (tcells k p.1 p.2).length + m * 7 from rfl]
      first
        | rw [List.take_length_add_append]
        | (simp [List.take_append])
    rw [List.take_succ_cons, List.take_succ_cons, flatK_cons, flatK_cons, flatK_take ks ps m (by simpa using h), show (m + 1) * 7 = 7 + m * 7 by omega, e]
def OneP (ps : List (Value × Value)) : Prop := ∀ p ∈ ps, p.1.oneCell' = true ∧ p.2.oneCell' = true
theorem flatK_one : ∀ {ks : List HT} {ps : List (Value × Value)}, OneP ps → ∀ u ∈ flatK ks ps, u.oneCell' = true
  | [], _, _, u, hu => by cases hu
  | _ :: _, [], _, u, hu => by cases hu
  | k :: ks, p :: ps, h, u, hu => by
    rw [flatK_cons] at hu
    rcases List.mem_append.1 hu with hu | hu
    · have := h p (by simp)
      simp only [tcells, List.mem_cons, List.not_mem_nil, or_false] at hu
      rcases hu with rfl | rfl | rfl | rfl | rfl | rfl | rfl
      all_goals first | rfl | exact this.1 | exact this.2
    · exact flatK_one (fun q hq => h q (by simp [hq])) u hu

/-- Kids' slices, each its kid's. -/
def RepP (w : World) (B d : Nat) (ks : List HT) (ps : List (Value × Value)) : Prop := ks.length = ps.length ∧ ∀ (i : Nat) k p, ks[i]? = some k → ps[i]? = some p → RepT w B d p.1 p.2 k
theorem RepP.below {w w' : World} {B d : Nat} {ks : List HT} {ps : List (Value × Value)} (h : RepP w B d ks ps) (hb : Below B w w') : RepP w' B d ks ps := ⟨h.1, fun i k p h1 h2 => (h.2 i k p h1 h2).below hb⟩
theorem RepP.up {w : World} {B B' d : Nat} {ks : List HT} {ps : List (Value × Value)} (h : RepP w B d ks ps) (hb : B ≤ B') : RepP w B' d ks ps := ⟨h.1, fun i k p h1 h2 => (h.2 i k p h1 h2).up hb⟩
theorem RepP.fuel {w : World} {B d d' : Nat} {ks : List HT} {ps : List (Value × Value)} (h : RepP w B d ks ps) (hd : d ≤ d') : RepP w B d' ks ps := ⟨h.1, fun i k p h1 h2 => (h.2 i k p h1 h2).fuel hd⟩
theorem RepP.one {w : World} {B d : Nat} {ks : List HT} {ps : List (Value × Value)} (h : RepP w B d ks ps) : OneP ps := by
  intro p hp
  obtain ⟨i, hi⟩ := List.mem_iff_getElem?.1 hp
  have hlt : i < ks.length := by rw [h.1]; exact (List.getElem?_eq_some_iff.1 hi).1
  obtain ⟨⟨a, c, e1⟩, a', c', e2⟩ := (h.2 i _ p (List.getElem?_eq_getElem hlt) hi).slices
  rw [e1, e2]
  exact ⟨rfl, rfl⟩
theorem RepP.app {w : World} {B d : Nat} {ks ks' : List HT} {ps ps' : List (Value × Value)} (h : RepP w B d ks ps) (g : RepP w B d ks' ps') : RepP w B d (ks ++ ks') (ps ++ ps') := by
  refine ⟨by rw [List.length_append, List.length_append, h.1, g.1], fun i k p h1 h2 => ?_⟩
  by_cases hi : i < ks.length
  · rw [List.getElem?_append_left hi] at h1
    rw [List.getElem?_append_left (by rw [← h.1]; exact hi)] at h2
    exact h.2 i k p h1 h2
  · rw [List.getElem?_append_right (by omega)] at h1
    rw [List.getElem?_append_right (by rw [← h.1]; omega), ← h.1] at h2
    exact g.2 _ k p h1 h2
theorem RepP.drop {w : World} {B d : Nat} {ks : List HT} {ps : List (Value × Value)} (h : RepP w B d ks ps) (m : Nat) : RepP w B d (ks.drop m) (ps.drop m) :=
  ⟨by rw [List.length_drop, List.length_drop, h.1], fun i k p h1 h2 => by rw [List.getElem?_drop] at h1 h2; exact h.2 _ k p h1 h2⟩
theorem RepP.take {w : World} {B d : Nat} {ks : List HT} {ps : List (Value × Value)} (h : RepP w B d ks ps) (m : Nat) : RepP w B d (ks.take m) (ps.take m) := by
  refine ⟨by rw [List.length_take, List.length_take, h.1], fun i k p h1 h2 => ?_⟩
  rw [List.getElem?_take] at h1 h2
  split at h1
  · rw [if_pos (by assumption)] at h2
    exact h.2 _ k p h1 h2
  · cases h1
theorem RepP.set {w : World} {B d : Nat} {ks : List HT} {ps : List (Value × Value)} (h : RepP w B d ks ps) (m : Nat) {v : HT} {q : Value × Value} (hv : RepT w B d q.1 q.2 v) : RepP w B d (ks.set m v) (ps.set m q) := by
  refine ⟨by rw [List.length_set, List.length_set, h.1], fun i k p h1 h2 => ?_⟩
  rw [List.getElem?_set] at h1 h2
  by_cases e : m = i
  · rw [if_pos e] at h1 h2
    split at h1
    · split at h2
      · cases h1; cases h2; exact hv
      · cases h2
    · cases h1
  · rw [if_neg e] at h1 h2
    exact h.2 i k p h1 h2
/-- Kids as cells in memory. -/
def KRow (w : World) (v : Value) (ks : List HT) (ps : List (Value × Value)) : Prop :=
  ks.length = ps.length ∧ ((∃ a c, v = .slice a 0 c ∧ ks = []) ∨ ∃ b off c, v = .slice (some ⟨b, off, none⟩) ks.length c ∧ b < w.heap.size ∧ ∀ (j : Nat) u, (flatK ks ps)[j]? = some u → w.cell? ⟨b, off + j, none⟩ = some u)
theorem KRow.below {w w' : World} {v : Value} {ks : List HT} {ps : List (Value × Value)} (h : KRow w v ks ps) (hb : Below w.heap.size w w') : KRow w' v ks ps := by
  obtain ⟨h0, h⟩ := h
  refine ⟨h0, ?_⟩
  rcases h with h | ⟨b, off, c, rfl, hlt, hc⟩
  · exact Or.inl h
  · exact Or.inr ⟨b, off, c, rfl, Nat.lt_of_lt_of_le hlt hb.size, fun j u hu => (hb.cell (p := ⟨b, off + j, none⟩) hlt).trans (hc j u hu)⟩
theorem KidsB.krow {w : World} {B0 d : Nat} {v : Value} {ks : List HT} (h : KidsB w B0 v ks (RepT w B0 d)) (hB : B0 ≤ w.heap.size) : ∃ ps, RepP w B0 d ks ps ∧ KRow w v ks ps := by
  rcases h with ⟨a, c, rfl, rfl⟩ | ⟨b, off, c, rfl, hlt, hc⟩
  · exact ⟨[], ⟨rfl, fun i k p h => by simp at h⟩, rfl, Or.inl ⟨a, c, rfl, rfl⟩⟩
  · obtain ⟨f, hf⟩ : ∃ f : Nat → Value × Value, ∀ (i : Nat) k, ks[i]? = some k → RepT w B0 d (f i).1 (f i).2 k ∧ ∀ (j : Nat) u, (tcells k (f i).1 (f i).2)[j]? = some u → w.cell? ⟨b, off + i * 7 + j, none⟩ = some u := by
      have h0 : ∀ i : Nat, ∃ p : Value × Value, ∀ k, ks[i]? = some k → RepT w B0 d p.1 p.2 k ∧ ∀ (j : Nat) u, (tcells k p.1 p.2)[j]? = some u → w.cell? ⟨b, off + i * 7 + j, none⟩ = some u := by
        intro i
        cases hi : ks[i]? with
        | none => exact ⟨(.bool false, .bool false), fun k hk => by cases hk⟩
        | some k =>
          obtain ⟨nv', kv', hr, hcell⟩ := hc i k hi
          exact ⟨(nv', kv'), fun k' hk => by cases hk; exact ⟨hr, hcell⟩⟩
      exact ⟨fun i => (h0 i).choose, fun i => (h0 i).choose_spec⟩
    have hl : ks.length = ((List.range ks.length).map f).length := by simp
    refine ⟨(List.range ks.length).map f, ⟨hl, fun i k p h1 h2 => ?_⟩, hl, Or.inr ⟨b, off, c, rfl, Nat.lt_of_lt_of_le hlt hB, fun j u hu => ?_⟩⟩
    · rw [List.getElem?_map, Option.map_eq_some_iff] at h2
      obtain ⟨x, h3, rfl⟩ := h2
      obtain ⟨hx, rfl⟩ := List.getElem?_eq_some_iff.1 h3
      rw [List.getElem_range]
      exact (hf i k h1).1
    · have hj : j < ks.length * 7 := by rw [← flatK_length hl]; exact (List.getElem?_eq_some_iff.1 hu).1
      have hi : ks[j / 7]? = some (ks[j / 7]'(by omega)) := List.getElem?_eq_getElem _
      have hp : ((List.range ks.length).map f)[j / 7]? = some (f (j / 7)) := by
        rw [List.getElem?_map, List.getElem?_range (by omega)]; rfl
      have e : j = j / 7 * 7 + j % 7 := by omega
      rw [e, flatK_get hi hp _ (Nat.mod_lt _ (by decide))] at hu
      have := (hf _ _ hi).2 _ u hu
      rw [show off + j = off + j / 7 * 7 + j % 7 by omega]
      exact this
theorem KRow.kids {w : World} {B d : Nat} {v : Value} {ks : List HT} {ps : List (Value × Value)} (h : KRow w v ks ps) (hp : RepP w B d ks ps) (hB : w.heap.size ≤ B) : KidsB w B v ks (RepT w B d) := by
  obtain ⟨h0, ⟨a, c, rfl, rfl⟩ | ⟨b, off, c, rfl, hlt, hc⟩⟩ := h
  · exact Or.inl ⟨a, c, rfl, rfl⟩
  · refine Or.inr ⟨b, off, c, rfl, by omega, fun i k hi => ?_⟩
    have hlt' : i < ps.length := by rw [← h0]; exact (List.getElem?_eq_some_iff.1 hi).1
    have hpi := List.getElem?_eq_getElem hlt'
    refine ⟨_, _, hp.2 i k _ hi hpi, fun j u hu => ?_⟩
    have hj : j < 7 := (List.getElem?_eq_some_iff.1 hu).1
    rw [Nat.add_assoc]
    exact hc _ u ((flatK_get hi hpi j hj).trans hu)
/-- A tree with other fields, in memory. -/
theorem RepT.re {w : World} {B d : Nat} {nv kv nv' kv' : Value} {t : HT} {ns : List Bs} {ks : List HT} (h : RepT w B (d + 1) nv kv t) (hn : NSB w B nv' ns) (hk : KidsB w B kv' ks (RepT w B d)) (hl1 : ns.length ≤ 1000000) (hl2 : ks.length ≤ 1000000) : RepT w B (d + 1) nv' kv' (t.re ns ks) :=
  ⟨⟨h.1.1, h.1.2.1, by show ns.length ≤ _; omega, by show ks.length ≤ _; omega⟩, hn, hk⟩
theorem OwnG.nsb {base : Nat} {w : World} {g cap : Nat} {l : List Bs} (h : OwnG base w g cap l) : NSB w w.heap.size (.slice (some ⟨g, 0, none⟩) l.length cap) l := by
  obtain ⟨cur, _, _, h3, _⟩ := h.row
  exact Or.inr ⟨g, 0, cap, rfl, ⟨h.lt, h3⟩, fun i s hi => by rw [Nat.zero_add]; exact h.cells i s hi⟩

/-- A row of kids of a call's own. -/
def OwnK (base : Nat) (w : World) (g cap : Nat) (ks : List HT) (ps : List (Value × Value)) : Prop := ks.length = ps.length ∧ w.ownsRow base 45 7 (.slice (some ⟨g, 0, none⟩) ks.length cap) ks.length (flatK ks ps)
theorem OwnK.row {base : Nat} {w : World} {g cap : Nat} {ks : List HT} {ps : List (Value × Value)} (h : OwnK base w g cap ks ps) : ∃ cur, base ≤ g ∧ w.heap[g]? = some (.cells cur 45 (0, 0)) ∧ ks.length ≤ cap ∧ cap ≤ maxLen ∧ cur.size = cap * 7 ∧ cur.toList.take (ks.length * 7) = flatK ks ps := by
  rcases h.2.2 with ⟨h, _⟩ | ⟨g', cap', cur, h1, h2, h3, h4, h5, h6, h7⟩
  · cases h
  · cases h1
    exact ⟨cur, h2, h3, h4, h5, h6, h7⟩
theorem OwnK.lt {base : Nat} {w : World} {g cap : Nat} {ks : List HT} {ps : List (Value × Value)} (h : OwnK base w g cap ks ps) : g < w.heap.size := by
  obtain ⟨cur, _, h3, _⟩ := h.row
  rcases Nat.lt_or_ge g w.heap.size with h' | h'
  · exact h'
  · rw [Array.getElem?_eq_none h'] at h3; cases h3
theorem OwnK.base {base : Nat} {w : World} {g cap : Nat} {ks : List HT} {ps : List (Value × Value)} (h : OwnK base w g cap ks ps) : base ≤ g := by
  obtain ⟨cur, h2, _⟩ := h.row
  exact h2
theorem OwnK.keep {base : Nat} {w w' : World} {g cap : Nat} {ks : List HT} {ps : List (Value × Value)} (h : OwnK base w g cap ks ps) (hk : w'.heap[g]? = w.heap[g]?) : OwnK base w' g cap ks ps := by
  obtain ⟨hl, h0, h⟩ := h
  refine ⟨hl, h0, ?_⟩
  rcases h with h | ⟨g', cap', cur, h1, h2, h3, h4⟩
  · exact Or.inl h
  · cases h1
    exact Or.inr ⟨g, cap, cur, rfl, h2, hk.trans h3, h4⟩
theorem OwnK.below {base : Nat} {w w' : World} {g cap : Nat} {ks : List HT} {ps : List (Value × Value)} (h : OwnK base w g cap ks ps) (hb : Below w.heap.size w w') : OwnK base w' g cap ks ps := h.keep (hb.block g h.lt)
theorem OwnK.cells {base : Nat} {w : World} {g cap : Nat} {ks : List HT} {ps : List (Value × Value)} (h : OwnK base w g cap ks ps) (j : Nat) (u : Value) (hu : (flatK ks ps)[j]? = some u) : w.cell? ⟨g, j, none⟩ = some u := by
  obtain ⟨cur, _, h3, _, _, _, h7⟩ := h.row
  have hlt := (List.getElem?_eq_some_iff.1 hu).1
  rw [flatK_length h.1] at hlt
  have e : cur[j]? = some u := by
    have : (cur.toList.take (ks.length * 7))[j]? = some u := by rw [h7]; exact hu
    rw [List.getElem?_take, if_pos hlt] at this
    simpa using this
  unfold World.cell?
  simp [h3, e]
theorem OwnK.krow {base : Nat} {w : World} {g cap : Nat} {ks : List HT} {ps : List (Value × Value)} (h : OwnK base w g cap ks ps) : KRow w (.slice (some ⟨g, 0, none⟩) ks.length cap) ks ps :=
  ⟨h.1, Or.inr ⟨g, 0, cap, rfl, h.lt, fun j u hu => by rw [Nat.zero_add]; exact h.cells j u hu⟩⟩
theorem info45 : (Tryz.prog.info? 45).map (fun i => (i.zero, i.size, i.bytes)) = some (some (.agg #[.int .u8 0, .bool false, .bool false, .int .u64 0, .string ⟨#[]⟩, .slice none 0 0, .slice none 0 0]), 7, 80) := by kernel_rfl
theorem krow_src {w : World} {v : Value} {ks : List HT} {ps : List (Value × Value)} (h : KRow w v ks ps) (h1 : OneP ps) : Src Tryz.prog 7 43 v ks.length (flatK ks ps) w := by
  obtain ⟨h0, ⟨a, c, rfl, rfl⟩ | ⟨b, off, c, rfl, hlt, hc⟩⟩ := h
  · cases a with
    | none => exact Src.ofNil w Tryz.underlying43 c
    | some a => exact Src.ofSlice w Tryz.underlying43 a 0 c [] (by simp) (by simp) (by simp)
  · refine Src.ofSlice w Tryz.underlying43 ⟨b, off, none⟩ ks.length c _ (flatK_length h0) (fun j u hu => ?_) (flatK_one h1)
    rw [add_lit0]
    exact hc j u hu
theorem append_kids {w : World} {base g cap : Nat} {ks : List HT} {ps : List (Value × Value)} (ty : TypeId) (h : OwnK base w g cap ks ps) {x : Value} {ks' : List HT} {ps' : List (Value × Value)} (ht : KRow w x ks' ps') (h1 : OneP ps') (hl : ks.length + ks'.length < 1000000) (hb : base ≤ w.heap.size) :
    ∃ g' cap' w', (Builtin.append_ #[43, 43] ty #[.slice (some ⟨g, 0, none⟩) ks.length cap, x]).run Tryz.prog w = .ok (.slice (some ⟨g', 0, none⟩) (ks ++ ks').length cap') w' ∧ OwnK base w' g' cap' (ks ++ ks') (ps ++ ps') ∧ w.grownBy w' (some g) := by
  obtain ⟨i, hi, hz, hs, hby⟩ := info_parts info45
  obtain ⟨ht0, ⟨a, c, rfl, rfl⟩ | ⟨b, off, c, rfl, hlt, hc⟩⟩ := ht
  · have hps : ps' = [] := List.eq_nil_of_length_eq_zero (by simpa using ht0.symm)
    subst hps
    have hsrc := krow_src (w := w) (v := .slice a 0 c) (ks := []) (ps := []) ⟨rfl, Or.inl ⟨a, c, rfl, rfl⟩⟩ (fun p hp => by cases hp)
    have hr := run_append_room_src (P := Tryz.prog) w 43 43 ty 45 i Tryz.underlying43 hi g 0 ks.length cap (.slice a 0 c) 0 [] (by rw [hs]; exact hsrc) (by obtain ⟨_, _, _, h3, _⟩ := h.row; omega) (by simp) (by simp)
    refine ⟨g, cap, _, by rw [List.append_nil]; exact hr, ?_, ?_⟩
    · rw [List.append_nil, List.append_nil]; simpa [World.setCells] using h
    · simp only [World.setCells]
      exact ⟨rfl, rfl, rfl, Nat.le_refl _, fun _ _ _ => rfl⟩
  · by_cases hm : ks' = []
    · subst hm
      have hps : ps' = [] := List.eq_nil_of_length_eq_zero (by simpa using ht0.symm)
      subst hps
      have hsrc := krow_src (w := w) (v := .slice (some ⟨b, off, none⟩) 0 c) (ks := []) (ps := []) ⟨rfl, Or.inl ⟨_, c, rfl, rfl⟩⟩ (fun p hp => by cases hp)
      have hr := run_append_room_src (P := Tryz.prog) w 43 43 ty 45 i Tryz.underlying43 hi g 0 ks.length cap (.slice (some ⟨b, off, none⟩) 0 c) 0 [] (by rw [hs]; exact hsrc) (by obtain ⟨_, _, _, h3, _⟩ := h.row; omega) (by simp) (by simp)
      refine ⟨g, cap, _, by rw [List.append_nil]; exact hr, ?_, ?_⟩
      · rw [List.append_nil, List.append_nil]; simpa [World.setCells] using h
      · simp only [World.setCells]
        exact ⟨rfl, rfl, rfl, Nat.le_refl _, fun _ _ _ => rfl⟩
    · obtain ⟨g', cap', w', e1, e2, e3, _, _⟩ := run_append_lies (P := Tryz.prog) w 43 ty base 45 i _ 7 80 Tryz.underlying43 hi hz hs hby rfl (by decide) _ ks.length (flatK ks ps) h.2 ⟨b, off, none⟩ ks'.length c (flatK ks' ps')
        (flatK_length ht0) (fun j u hu => by rw [add_lit0]; exact hc j u hu) (flatK_one h1) (List.length_pos_iff.2 hm) (by unfold maxLen; omega) (by omega) hb w.heap.size rfl
      rw [← List.length_append] at e1 e2
      rw [← flatK_app _ _ h.1] at e2
      exact ⟨g', cap', w', e1, ⟨by rw [List.length_append, List.length_append, h.1, ht0], e2⟩, e3⟩
theorem wpList_append_kids {w : World} {ops : Array Oper} {rest : List Oper} {o : Oper} {a : Act} {Q : Exit → Act → World → Prop} (hgd : o.guard = none) (s x : Operand)
    (ho : o.op = .call { callee := .builtin .append, args := #[s, x], argTypes := #[43, 43] }) {base g cap : Nat} {ks : List HT} {ps : List (Value × Value)} (h : OwnK base w g cap ks ps) (n : Nat) (hn : ks.length = n) (hs : a.eval s = .slice (some ⟨g, 0, none⟩) n cap) (v : Value) (ks' : List HT) (ps' : List (Value × Value))
    (hx : a.eval x = v) (ht : KRow w v ks' ps') (h1 : OneP ps') (hl : ks.length + ks'.length < 1000000) (hb : base ≤ w.heap.size)
    (hK : ∀ g' cap' w', OwnK base w' g' cap' (ks ++ ks') (ps ++ ps') → w.grownBy w' (some g) → wpList Tryz.prog ops Q rest (a.put o.dst (.slice (some ⟨g', 0, none⟩) (ks ++ ks').length cap')) w') : wpList Tryz.prog ops Q (o :: rest) a w := by
  subst hn
  obtain ⟨g', cap', w', e1, e2, e3⟩ := append_kids o.type h ht h1 hl hb
  exact Lib.wpList_append_run w hgd s x 43 43 ho _ _ hs hx _ _ e1 (hK g' cap' w' e2 e3)
end Go.Proofs.YtppkpcijmfdfmaaGreatDoor

/- The walks of slices.Clone of texts and of kids; one more behind a row that may be nil. -/
set_option linter.unusedVariables false
set_option linter.unusedSimpArgs false
namespace Go.Proofs.YtppkpcijmfdfmaaGreatDoor
open Go.RowKit
attribute [local go_sem] B_size B_get B_lit B_ext_to B_ext B_toList B_app

/-- A row of texts of a call's own, or nil. -/
def RowN (base : Nat) (w : World) (v : Value) (l : List Bs) : Prop := w.ownsRow base 9 1 v l.length (strs l)
/-- The same of kids. -/
def RowK (base : Nat) (w : World) (v : Value) (ks : List HT) (ps : List (Value × Value)) : Prop := ks.length = ps.length ∧ w.ownsRow base 45 7 v ks.length (flatK ks ps)
theorem RowN.form {base : Nat} {w : World} {v : Value} {l : List Bs} (h : RowN base w v l) : (v = .slice none 0 0 ∧ l = []) ∨ ∃ g cap, v = .slice (some ⟨g, 0, none⟩) l.length cap ∧ OwnG base w g cap l := by
  obtain ⟨h0, ⟨rfl, h1⟩ | ⟨g, cap, cur, rfl, h2⟩⟩ := h
  · exact Or.inl ⟨rfl, List.eq_nil_of_length_eq_zero h1⟩
  · exact Or.inr ⟨g, cap, rfl, h0, Or.inr ⟨g, cap, cur, rfl, h2⟩⟩
theorem RowK.form {base : Nat} {w : World} {v : Value} {ks : List HT} {ps : List (Value × Value)} (h : RowK base w v ks ps) : (v = .slice none 0 0 ∧ ks = []) ∨ ∃ g cap, v = .slice (some ⟨g, 0, none⟩) ks.length cap ∧ OwnK base w g cap ks ps := by
  obtain ⟨hl, h0, ⟨rfl, h1⟩ | ⟨g, cap, cur, rfl, h2⟩⟩ := h
  · exact Or.inl ⟨rfl, List.eq_nil_of_length_eq_zero h1⟩
  · exact Or.inr ⟨g, cap, rfl, hl, h0, Or.inr ⟨g, cap, cur, rfl, h2⟩⟩
theorem RowN.below {base : Nat} {w w' : World} {v : Value} {l : List Bs} (h : RowN base w v l) (hb : Below w.heap.size w w') : RowN base w' v l := by
  rcases h.form with ⟨rfl, rfl⟩ | ⟨g, cap, rfl, ho⟩
  · exact ⟨rfl, Or.inl ⟨rfl, rfl⟩⟩
  · exact ho.below hb
theorem RowK.below {base : Nat} {w w' : World} {v : Value} {ks : List HT} {ps : List (Value × Value)} (h : RowK base w v ks ps) (hb : Below w.heap.size w w') : RowK base w' v ks ps := by
  have h0 := h.1
  rcases h.form with ⟨rfl, rfl⟩ | ⟨g, cap, rfl, ho⟩
  · exact ⟨h0, rfl, Or.inl ⟨rfl, rfl⟩⟩
  · exact ho.below hb

theorem cloneN_any {w : World} {v : Value} {l : List Bs} (h : NS w v l) (hl : l.length ≤ 1000000) : Calls Tryz.prog 44 #[v] w fun e w' => ∃ v', e = .returned v' ∧ RowN w.heap.size w' v' l ∧ Below w.heap.size w w' := by
  rcases h with ⟨a, c, rfl, rfl⟩ | ⟨b, off, c, rfl, hlt, hc⟩
  · cases a with
    | none =>
      refine (Tryz.slices_Clone_string_nil 0 c w).mono ?_
      rintro e w' ⟨rfl, rfl⟩
      exact ⟨_, rfl, ⟨rfl, Or.inl ⟨rfl, rfl⟩⟩, Below.refl _ _⟩
    | some a =>
      refine (Tryz.slices_Clone_string_zero a c w).mono ?_
      rintro e w' ⟨v', rfl, ho, _, hb⟩
      exact ⟨v', rfl, ho, hb⟩
  · refine (Tryz.slices_Clone_string b off l.length c (l.map B) w (by simp) (by omega) (fun j hj => ?_)).mono ?_
    · rw [List.length_map] at hj
      have := hc j l[j] (List.getElem?_eq_getElem hj)
      rw [List.getD_eq_getElem?_getD, List.getElem?_map, List.getElem?_eq_getElem hj]
      exact this
    · rintro e w' ⟨v', rfl, ho, _, hb⟩
      refine ⟨v', rfl, ?_, hb⟩
      have e1 : (List.take l.length (l.map B)).map Value.string = strs l := by
        rw [List.take_of_length_le (by simp)]
        unfold strs
        rw [List.map_map]
        rfl
      rw [e1] at ho
      exact ho

set_option maxRecDepth 100000 in
set_option maxHeartbeats 2000000 in
theorem cloneK_at (w : World) (a : Addr) (c : Nat) (ks : List HT) (ps : List (Value × Value)) (hl : ks.length = ps.length) (h1 : OneP ps) (hn : ks.length ≤ 1000000) (hc : ∀ (j : Nat) u, (flatK ks ps)[j]? = some u → w.cell? (a.add j) = some u) :
    Calls Tryz.prog 45 #[.slice (some a) ks.length c] w fun e w' => ∃ v', e = .returned v' ∧ RowK w.heap.size w' v' ks ps ∧ Below w.heap.size w w' := by
  obtain ⟨i0, hi, hz0, hz1, hz2⟩ := info_parts info45
  have q43 : ∀ (w : World) (a : Option Addr) (n c n' c' : Nat), (binOp .eql 43 (.slice a n c) (.slice none n' c')).run Tryz.prog w = .ok (.bool a.isNone) w := fun w a n c n' c' => Lib.run_eql_slice_nil w _ _ a n c n' c' Tryz.underlying43
  have HC := Lib.hid hc
  have HLN := Lib.hid hl
  clear hc hl
  go_enter Tryz.func45, Tryz.ntmps45
  go_wp2_with (at_builtin; refine wpList_append_own _ rfl _ _ 43 rfl w.heap.size 45 i0 _ 7 80 Tryz.underlying43 hi hz0 hz1 hz2 rfl (by decide) _ _ _ rfl (World.ownsRow_made w #[] 0 (Nat.le_refl _) (Nat.zero_le _) (by simp)) a ks.length c (flatK ks ps) rfl ?qc1 ?qc2 ?qc3 ?qc4 ?qc5 ?qc6 ?_)
  case qc1 => exact flatK_length HLN.out
  case qc2 =>
    intro j u hj
    exact Lib.cell?_alloc_some _ (HC.out j u hj)
  case qc3 => exact flatK_one h1
  case qc4 => rw [Nat.zero_add]; unfold maxLen; omega
  case qc5 => rw [Nat.zero_add]; omega
  case qc6 => simp
  intro v' w1 hown hgrow hnil
  go_wp2
  go_ret
  refine ⟨v', rfl, ⟨HLN.out, by simpa using hown⟩, ?_⟩
  exact ((Below.refl _ w).alloc (Nat.le_refl _) _).grown hgrow (by simp) (by intro k hk; simp [Value.ownBlock] at hk; omega)
set_option maxRecDepth 100000 in
theorem cloneK_nil (w : World) (c : Nat) : Calls Tryz.prog 45 #[.slice none 0 c] w fun e w' => e = .returned (.slice none 0 0) ∧ w' = w := by
  have q43 : ∀ (w : World) (a : Option Addr) (n c n' c' : Nat), (binOp .eql 43 (.slice a n c) (.slice none n' c')).run Tryz.prog w = .ok (.bool a.isNone) w := fun w a n c n' c' => Lib.run_eql_slice_nil w _ _ a n c n' c' Tryz.underlying43
  go_enter Tryz.func45, Tryz.ntmps45
  go_wp2
  go_ret
  exact ⟨rfl, rfl⟩
theorem cloneK_any {w : World} {v : Value} {ks : List HT} {ps : List (Value × Value)} (h : KRow w v ks ps) (h1 : OneP ps) (hn : ks.length ≤ 1000000) : Calls Tryz.prog 45 #[v] w fun e w' => ∃ v', e = .returned v' ∧ RowK w.heap.size w' v' ks ps ∧ Below w.heap.size w w' := by
  obtain ⟨hl, ⟨a, c, rfl, rfl⟩ | ⟨b, off, c, rfl, hlt, hc⟩⟩ := h
  · cases a with
    | none =>
      refine (cloneK_nil w c).mono ?_
      rintro e w' ⟨rfl, rfl⟩
      exact ⟨_, rfl, ⟨hl, rfl, Or.inl ⟨rfl, rfl⟩⟩, Below.refl _ _⟩
    | some a => exact cloneK_at w a c [] ps hl h1 hn (fun j u hu => by simp [flatK] at hu)
  · exact cloneK_at w ⟨b, off, none⟩ c ks ps hl h1 hn (fun j u hu => by rw [add_lit0]; exact hc j u hu)

/-- One text more. -/
theorem append_oneN {w : World} {base : Nat} {v : Value} {l : List Bs} (ty : TypeId) (h : RowN base w v l) {b : Nat} {s : Bs} (hc : w.cell? ⟨b, 0, none⟩ = some (.string (B s))) (hl : l.length < 1000000) (hb : base ≤ w.heap.size) :
    ∃ g cap w', (Builtin.append_ #[29, 29] ty #[v, .slice (some ⟨b, 0, none⟩) 1 1]).run Tryz.prog w = .ok (.slice (some ⟨g, 0, none⟩) (l ++ [s]).length cap) w' ∧ OwnG base w' g cap (l ++ [s]) ∧ w.grownBy w' v.ownBlock := by
  obtain ⟨i, hi, hz, hs, hby⟩ := info_parts info9
  obtain ⟨g', cap', w', h1, h2, h3, _, _⟩ := run_append_lies (P := Tryz.prog) w 29 ty base 9 i _ 1 16 Tryz.underlying29 hi hz hs hby rfl (by decide) _ l.length (strs l) h ⟨b, 0, none⟩ 1 1 (strs [s])
    (by rw [strs_length]; rfl) (fun j u hu => by
      obtain ⟨x, hx, rfl⟩ := strs_get hu
      match j, hx with
      | 0, hx => cases hx; exact hc) (strs_cell [s]) (by decide) (by unfold maxLen; omega) (by omega) hb w.heap.size rfl
  have e : l.length + 1 = (l ++ [s]).length := by simp
  rw [e] at h1 h2
  rw [← strs_app] at h2
  exact ⟨g', cap', w', h1, h2, h3⟩
/-- One kid more. -/
theorem append_oneK {w : World} {base : Nat} {v : Value} {ks : List HT} {ps : List (Value × Value)} (ty : TypeId) (h : RowK base w v ks ps) {b : Nat} {k : HT} {p : Value × Value} (hc : ∀ (j : Nat) u, (tcells k p.1 p.2)[j]? = some u → w.cell? ⟨b, j, none⟩ = some u) (hp : OneP [p]) (hl : ks.length < 1000000) (hb : base ≤ w.heap.size) :
    ∃ g cap w', (Builtin.append_ #[43, 43] ty #[v, .slice (some ⟨b, 0, none⟩) 1 1]).run Tryz.prog w = .ok (.slice (some ⟨g, 0, none⟩) (ks ++ [k]).length cap) w' ∧ OwnK base w' g cap (ks ++ [k]) (ps ++ [p]) ∧ w.grownBy w' v.ownBlock := by
  obtain ⟨i, hi, hz, hs, hby⟩ := info_parts info45
  have ef : flatK [k] [p] = tcells k p.1 p.2 := by rw [flatK_cons]; simp [flatK]
  obtain ⟨g', cap', w', h1, h2, h3, _, _⟩ := run_append_lies (P := Tryz.prog) w 43 ty base 45 i _ 7 80 Tryz.underlying43 hi hz hs hby rfl (by decide) _ ks.length (flatK ks ps) h.2 ⟨b, 0, none⟩ 1 1 (flatK [k] [p])
    (by rw [ef]; rfl) (fun j u hu => by
      rw [ef] at hu
      rw [add_lit0, Nat.zero_add]
      exact hc j u hu) (flatK_one hp) (by decide) (by unfold maxLen; omega) (by omega) hb w.heap.size rfl
  have e : ks.length + 1 = (ks ++ [k]).length := by simp
  rw [e] at h1 h2
  rw [← flatK_app _ _ h.1] at h2
  exact ⟨g', cap', w', h1, ⟨by rw [List.length_append, List.length_append, h.1]; rfl, h2⟩, h3⟩
theorem step_append_oneN {w : World} {ops : Array Oper} {o : Oper} {a : Act} {K : Act → World → Prop} {Q : Exit → Act → World → Prop} {E : Prop} (hgd : o.guard = none) (s x : Operand)
    (ho : o.op = .call { callee := .builtin .append, args := #[s, x], argTypes := #[29, 29] }) {base : Nat} {v : Value} {l : List Bs} (h : RowN base w v l) (hs : a.eval s = v) (b : Nat) (m : Bs) (hx : a.eval x = .slice (some ⟨b, 0, none⟩) 1 1) (hc : w.cell? ⟨b, 0, none⟩ = some (.string (B m))) (hl : l.length < 1000000) (hb : base ≤ w.heap.size)
    (hK : ∀ g cap w', OwnG base w' g cap (l ++ [m]) → w.grownBy w' v.ownBlock → K (a.put o.dst (.slice (some ⟨g, 0, none⟩) (l ++ [m]).length cap)) w') :
    if Region.wanted o (yielded ops a.tmps) = true then Oper.wp Tryz.prog o a w K Q else E := by
  have hw : Region.wanted o (yielded ops a.tmps) = true := by simp [Region.wanted, hgd]
  rw [if_pos hw]
  obtain ⟨g', cap', w', h1, h2, h3⟩ := append_oneN o.type h hc hl hb
  exact Lib.wp_append_run w s x 29 29 ho _ _ hs hx _ _ h1 (hK g' cap' w' h2 h3)
theorem step_append_oneK {w : World} {ops : Array Oper} {o : Oper} {a : Act} {K : Act → World → Prop} {Q : Exit → Act → World → Prop} {E : Prop} (hgd : o.guard = none) (s x : Operand)
    (ho : o.op = .call { callee := .builtin .append, args := #[s, x], argTypes := #[43, 43] }) {base : Nat} {v : Value} {ks : List HT} {ps : List (Value × Value)} (h : RowK base w v ks ps) (hs : a.eval s = v) (b : Nat) (k : HT) (p : Value × Value) (hx : a.eval x = .slice (some ⟨b, 0, none⟩) 1 1) (hc : ∀ (j : Nat) u, (tcells k p.1 p.2)[j]? = some u → w.cell? ⟨b, j, none⟩ = some u)
    (hp : OneP [p]) (hl : ks.length < 1000000) (hb : base ≤ w.heap.size)
    (hK : ∀ g cap w', OwnK base w' g cap (ks ++ [k]) (ps ++ [p]) → w.grownBy w' v.ownBlock → K (a.put o.dst (.slice (some ⟨g, 0, none⟩) (ks ++ [k]).length cap)) w') :
    if Region.wanted o (yielded ops a.tmps) = true then Oper.wp Tryz.prog o a w K Q else E := by
  have hw : Region.wanted o (yielded ops a.tmps) = true := by simp [Region.wanted, hgd]
  rw [if_pos hw]
  obtain ⟨g', cap', w', h1, h2, h3⟩ := append_oneK o.type h hc hp hl hb
  exact Lib.wp_append_run w s x 43 43 ho _ _ hs hx _ _ h1 (hK g' cap' w' h2 h3)
end Go.Proofs.YtppkpcijmfdfmaaGreatDoor

/- What stays of a block, a tree with other fields in a box, and where the laws that make one come from. -/
set_option linter.unusedVariables false
set_option linter.unusedSimpArgs false
namespace Go.Proofs.YtppkpcijmfdfmaaGreatDoor
open Go.RowKit

theorem blk_alloc {X : World} {b : Nat} {o o' : Obj} (h : X.heap[b]? = some o) : (X.alloc o').heap[b]? = some o := by
  have hlt : b < X.heap.size := by
    rcases Nat.lt_or_ge b X.heap.size with h' | h'
    · exact h'
    · rw [Array.getElem?_eq_none h'] at h; cases h
  rw [Below.heap_alloc _ _ _ hlt]
  exact h
theorem blk_drew {X : World} {b : Nat} {o : Obj} (h : X.heap[b]? = some o) : X.drew.heap[b]? = some o := h
theorem blk_below {X Z : World} {b : Nat} {o : Obj} (hb : Below X.heap.size X Z) (h : X.heap[b]? = some o) : Z.heap[b]? = some o := by
  have hlt : b < X.heap.size := by
    rcases Nat.lt_or_ge b X.heap.size with h' | h'
    · exact h'
    · rw [Array.getElem?_eq_none h'] at h; cases h
  rw [hb.block b hlt]
  exact h
theorem blk_grown {X Z : World} {row : Option Nat} {b : Nat} {o : Obj} (hg : X.grownBy Z row) (h : X.heap[b]? = some o) (hne : some b ≠ row) : Z.heap[b]? = some o := by
  have hlt : b < X.heap.size := by
    rcases Nat.lt_or_ge b X.heap.size with h' | h'
    · exact h'
    · rw [Array.getElem?_eq_none h'] at h; cases h
  rw [hg.block b hlt hne]
  exact h
theorem blk_cell {X : World} {b : Nat} {l : List Value} {ty : TypeId} {fz : Nat × Nat} (h : X.heap[b]? = some (.cells l.toArray ty fz)) (j : Nat) (u : Value) (hu : l[j]? = some u) : X.cell? ⟨b, j, none⟩ = some u := by
  unfold World.cell?
  simp [h, hu]
theorem blk_free {X : World} {b : Nat} {l : Array Value} {ty : TypeId} (h : X.heap[b]? = some (.cells l ty (0, 0))) (j : Nat) : X.frozen? ⟨b, j, none⟩ = false := by
  unfold World.frozen?
  simp [h]
theorem OwnG.blk {base : Nat} {w w' : World} {g cap : Nat} {l : List Bs} (h : OwnG base w g cap l) (hk : ∀ o, w.heap[g]? = some o → w'.heap[g]? = some o) : OwnG base w' g cap l := by
  obtain ⟨cur, _, h3, _⟩ := h.row
  exact h.keep ((hk _ h3).trans h3.symm)
theorem OwnK.blk {base : Nat} {w w' : World} {g cap : Nat} {ks : List HT} {ps : List (Value × Value)} (h : OwnK base w g cap ks ps) (hk : ∀ o, w.heap[g]? = some o → w'.heap[g]? = some o) : OwnK base w' g cap ks ps := by
  obtain ⟨cur, _, h3, _⟩ := h.row
  exact h.keep ((hk _ h3).trans h3.symm)

/-- Behind a first world, and a second one. -/
structure Past (w1 wu w' : World) : Prop where
  below : Below w1.heap.size w1 w'
  size : wu.heap.size ≤ w'.heap.size
theorem Past.alloc {w1 wu X : World} (h : Past w1 wu X) (o : Obj) : Past w1 wu (X.alloc o) := ⟨Below.to_alloc h.below o, by rw [World.size_alloc]; have := h.size; omega⟩
theorem Past.drew {w1 wu X : World} (h : Past w1 wu X) : Past w1 wu X.drew := ⟨h.below.drew, h.size⟩
theorem Past.next {w1 wu X Y : World} (h : Past w1 wu X) (k : Below X.heap.size X Y) : Past w1 wu Y := ⟨Below.to_next h.below k, Nat.le_trans h.size k.size⟩
theorem Past.grown {w1 wu X Y : World} {g : Nat} (h : Past w1 wu X) (k : X.grownBy Y (some g)) (hg : w1.heap.size ≤ g) : Past w1 wu Y := ⟨h.below.grown k h.below.size (fun b e => by cases e; exact hg), Nat.le_trans h.size k.size⟩
theorem Past.set {w1 wu X : World} {b : Nat} (h : Past w1 wu X) (hb : w1.heap.size ≤ b) (j : Nat) (v : Value) : Past w1 wu (X.setCell ⟨b, j, none⟩ v) := ⟨h.below.setCell hb v, by rw [World.size_setCell]; exact h.size⟩

/-- A tree in a box. -/
def UBox (w1 wx : World) (bu D : Nat) (u : HT) : Prop :=
  Below w1.heap.size w1 wx ∧ bu < wx.heap.size ∧ ∃ an cn ak ck, RepT wx wx.heap.size D (.slice an u.names.length cn) (.slice ak u.kids.length ck) u ∧
    ∀ (j : Nat) x, (tcells u (.slice an u.names.length cn) (.slice ak u.kids.length ck))[j]? = some x → wx.cell? ⟨bu, j, none⟩ = some x

/-- The box behind two stores: other names, other kids. -/
theorem ubox_two {w1 wq : World} {bu D bn bk gn cn gk ck : Nat} {t : HT} {nv kv : Value} {ns : List Bs} {ks : List HT} {ps : List (Value × Value)} (hb : Below w1.heap.size w1 wq) (h1 : w1.heap.size ≤ bu)
    (hbox : wq.heap[bu]? = some (.cells (tcells t nv kv).toArray 45 (0, 0))) (hn : OwnG bn wq gn cn ns) (hk : OwnK bk wq gk ck ks ps) (hp : RepP wq w1.heap.size D ks ps) (hbn : bu < bn) (hbk : bu < bk) (hln : ns.length ≤ 1000000) (hlk : ks.length ≤ 1000000) (ht : t.kind < 256 ∧ t.num < 18446744073709551616) :
    UBox w1 ((wq.setCell ⟨bu, 5, none⟩ (.slice (some ⟨gn, 0, none⟩) ns.length cn)).setCell ⟨bu, 6, none⟩ (.slice (some ⟨gk, 0, none⟩) ks.length ck)) bu (D + 1) (t.re ns ks) := by
  obtain ⟨wx, hwx⟩ : ∃ wx, wx = (wq.setCell ⟨bu, 5, none⟩ (.slice (some ⟨gn, 0, none⟩) ns.length cn)).setCell ⟨bu, 6, none⟩ (.slice (some ⟨gk, 0, none⟩) ks.length ck) := ⟨_, rfl⟩
  rw [← hwx]
  have hlt : bu < wq.heap.size := by
    rcases Nat.lt_or_ge bu wq.heap.size with h' | h'
    · exact h'
    · rw [Array.getElem?_eq_none h'] at hbox; cases hbox
  have hsz : wx.heap.size = wq.heap.size := by rw [hwx, World.size_setCell, World.size_setCell]
  have hblk : ∀ b, b ≠ bu → wx.heap[b]? = wq.heap[b]? := fun b hb => by
    rw [hwx, Below.heap_setCell _ _ _ _ hb, Below.heap_setCell _ _ _ _ hb]
  have hbx : Below w1.heap.size w1 wx := by rw [hwx]; exact (hb.setCell h1 _).setCell h1 _
  have c := fun j u (hu : (tcells t nv kv)[j]? = some u) => blk_cell hbox j u hu
  have g1 := hn.base
  have g2 := hk.base
  have hn' : OwnG bn wx gn cn ns := hn.keep (hblk gn (by omega))
  have hk' : OwnK bk wx gk ck ks ps := hk.keep (hblk gk (by omega))
  have hp' : RepP wx w1.heap.size D ks ps := ⟨hp.1, fun i k p h2 h3 => (hp.2 i k p h2 h3).below (by
    rw [hwx]
    exact ((Below.refl _ wq).setCell h1 _).setCell h1 _)⟩
  refine ⟨hbx, by omega, some ⟨gn, 0, none⟩, cn, some ⟨gk, 0, none⟩, ck, ⟨⟨ht.1, ht.2, by show ns.length ≤ _; omega, by show ks.length ≤ _; omega⟩, hn'.nsb, hk'.krow.kids (hp'.up hbx.size) (Nat.le_refl _)⟩, fun j x hx => ?_⟩
  have hj : j < 7 := (List.getElem?_eq_some_iff.1 hx).1
  have d5 : (wq.setCell ⟨bu, 5, none⟩ (.slice (some ⟨gn, 0, none⟩) ns.length cn)).cell? ⟨bu, 5, none⟩ = some (.slice (some ⟨gn, 0, none⟩) ns.length cn) := World.cell?_setCell_same _ _ _ (c 5 _ rfl)
  have o5 : ∀ i, i ≠ 5 → (wq.setCell ⟨bu, 5, none⟩ (.slice (some ⟨gn, 0, none⟩) ns.length cn)).cell? ⟨bu, i, none⟩ = wq.cell? ⟨bu, i, none⟩ := fun i hi => World.cell?_setCell_other _ _ _ _ (by intro e; cases e; exact hi rfl)
  have o6 : ∀ i, i ≠ 6 → wx.cell? ⟨bu, i, none⟩ = (wq.setCell ⟨bu, 5, none⟩ (.slice (some ⟨gn, 0, none⟩) ns.length cn)).cell? ⟨bu, i, none⟩ := fun i hi => by rw [hwx]; exact World.cell?_setCell_other _ _ _ _ (by intro e; cases e; exact hi rfl)
  obtain h | h | h | h | h | h | h : j = 0 ∨ j = 1 ∨ j = 2 ∨ j = 3 ∨ j = 4 ∨ j = 5 ∨ j = 6 := by omega
  · subst h; cases hx; rw [o6 0 (by decide), o5 0 (by decide)]; exact c 0 _ rfl
  · subst h; cases hx; rw [o6 1 (by decide), o5 1 (by decide)]; exact c 1 _ rfl
  · subst h; cases hx; rw [o6 2 (by decide), o5 2 (by decide)]; exact c 2 _ rfl
  · subst h; cases hx; rw [o6 3 (by decide), o5 3 (by decide)]; exact c 3 _ rfl
  · subst h; cases hx; rw [o6 4 (by decide), o5 4 (by decide)]; exact c 4 _ rfl
  · subst h; cases hx; rw [o6 5 (by decide)]; exact d5
  · subst h; cases hx; rw [hwx]; exact World.cell?_setCell_same _ _ _ ((World.cell?_setCell_other _ _ _ _ (by intro e; cases e)).trans (c 6 _ rfl))
end Go.Proofs.YtppkpcijmfdfmaaGreatDoor
