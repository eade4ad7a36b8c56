/- One kid of a row stored anew; a tree with another kid in a box. -/
import Derived.Test.YtppkpcijmfdfmaaGreatDoorG2
import Derived.Laws.IdiomCopy
import Derived.Deep.Upon
set_option linter.unusedVariables false
set_option linter.unusedSimpArgs false
namespace Go.Proofs.YtppkpcijmfdfmaaGreatDoor
open Go.RowKit

theorem letterC {P : Program} {code : Code} {Q : Exit → Act → World → Prop} {a : Act} {X : World} (h : ∀ x, x = X → Code.wp P code Q a x) : Code.wp P code Q a X := h X rfl
theorem sizeSetK (x : World) (g : Nat) : ∀ (o : Nat) (vs : List Value), (x.setCells g o vs).heap.size = x.heap.size
  | _, [] => rfl
  | o, v :: r => by
    rw [World.setCells]
    have : ∀ (y : World) (o : Nat) (vs : List Value), (y.setCells g o vs).heap.size = y.heap.size := fun y o vs => by
      induction vs generalizing y o with
      | nil => rfl
      | cons a l ih => rw [World.setCells, ih, World.size_setCell]
    rw [this, World.size_setCell]
theorem belowSetK {n : Nat} (x : World) (g : Nat) : ∀ (o : Nat) (vs : List Value), n ≤ g → Below n x (x.setCells g o vs) := by
  intro o vs hn
  have : ∀ (y : World) (o : Nat), Below n x y → Below n x (y.setCells g o vs) := by
    induction vs with
    | nil => exact fun y o h => h
    | cons a l ih => exact fun y o h => by rw [World.setCells]; exact ih _ _ (h.setCell hn a)
  exact this x o (Below.refl _ _)
theorem flatK_set : ∀ {ks : List HT} {ps : List (Value × Value)} {i k : Nat} {v : HT} {p : Value × Value} (r : Nat), ks.length = ps.length → i < ks.length → r < 7 →
    (flatK (ks.set k v) (ps.set k p))[i * 7 + r]? = if i = k then (tcells v p.1 p.2)[r]? else (flatK ks ps)[i * 7 + r]? := by
  intro ks ps i k v p r hl hi hr
  have hi2 : i < ps.length := by omega
  by_cases e : i = k
  · subst e
    rw [if_pos rfl]
    refine flatK_get (k := v) (p := p) ?_ ?_ r hr
    · rw [List.getElem?_set, if_pos rfl, if_pos hi]
    · rw [List.getElem?_set, if_pos rfl, if_pos hi2]
  · rw [if_neg e]
    have h1 : (ks.set k v)[i]? = ks[i]? := by rw [List.getElem?_set, if_neg (fun h => e h.symm)]
    have h2 : (ps.set k p)[i]? = ps[i]? := by rw [List.getElem?_set, if_neg (fun h => e h.symm)]
    rw [flatK_get (h1.trans (List.getElem?_eq_getElem hi)) (h2.trans (List.getElem?_eq_getElem hi2)) r hr, flatK_get (List.getElem?_eq_getElem hi) (List.getElem?_eq_getElem hi2) r hr]
/-- What a row of kids tells of its cells, behind the store of one kid. -/
theorem krow_set {x : World} {g cap base : Nat} {ks : List HT} {ps : List (Value × Value)} (h : OwnK base x g cap ks ps) {k : Nat} (hk : k < ks.length) (v : HT) (p : Value × Value) :
    KRow (x.setCells g (k * 7) (tcells v p.1 p.2)) (.slice (some ⟨g, 0, none⟩) (ks.set k v).length cap) (ks.set k v) (ps.set k p) := by
  have hl : (ks.set k v).length = (ps.set k p).length := by rw [List.length_set, List.length_set]; exact h.1
  have hsize : (x.setCells g (k * 7) (tcells v p.1 p.2)).heap.size = x.heap.size := sizeSetK x g _ _
  refine ⟨hl, Or.inr ⟨g, 0, cap, rfl, by rw [hsize]; exact h.lt, fun j u hu => ?_⟩⟩
  have hj : j < ks.length * 7 := by
    have := (List.getElem?_eq_some_iff.1 hu).1
    rw [flatK_length hl, List.length_set] at this
    exact this
  have hi : j / 7 < ks.length := by omega
  have hr : j % 7 < 7 := Nat.mod_lt _ (by decide)
  have ej : j = j / 7 * 7 + j % 7 := by omega
  have he := flatK_set (v := v) (p := p) (k := k) (j % 7) h.1 hi hr
  rw [← ej, hu] at he
  rw [Nat.zero_add]
  by_cases e : j / 7 = k
  · rw [if_pos e] at he
    have hlen : j % 7 < (tcells v p.1 p.2).length := hr
    have e2 : j = k * 7 + j % 7 := by omega
    rw [e2, World.cell?_setCells_in g _ _ x (fun i hi => ?_) (j % 7) hlen, he, List.getElem?_eq_getElem hlen]
    have h7 : i < 7 := hi
    obtain ⟨u', hu'⟩ : ∃ u, (flatK ks ps)[k * 7 + i]? = some u := ⟨_, List.getElem?_eq_getElem (by rw [flatK_length h.1]; omega)⟩
    rw [h.cells _ u' hu']
    rfl
  · rw [if_neg e] at he
    rw [World.cell?_setCells_out g _ _ x _ (fun _ _ => ?_)]
    · exact h.cells j u he.symm
    · show j < k * 7 ∨ k * 7 + 7 ≤ j
      omega
/-- The box behind the store of a kid. -/
theorem ubox_set {w1 x : World} {bu D g ck base k : Nat} {an : Option Addr} {cn : Nat} {t v : HT} {ps : List (Value × Value)} {p : Value × Value} (hb : Below w1.heap.size w1 x) (h1 : w1.heap.size ≤ g)
    (hbox : ∀ (j : Nat) u, (tcells t (.slice an t.names.length cn) (.slice (some ⟨g, 0, none⟩) t.kids.length ck))[j]? = some u → x.cell? ⟨bu, j, none⟩ = some u) (hbu : bu < x.heap.size) (hne : bu ≠ g)
    (hk : OwnK base x g ck t.kids ps) (hkl : k < t.kids.length) (hp : RepP x w1.heap.size D t.kids ps) (hv : RepT x w1.heap.size D p.1 p.2 v) (hn : NSB x w1.heap.size (.slice an t.names.length cn) t.names)
    (hln : t.names.length ≤ 1000000) (hlk : t.kids.length ≤ 1000000) (ht : t.kind < 256 ∧ t.num < 18446744073709551616) :
    UBox w1 (x.setCells g (k * 7) (tcells v p.1 p.2)) bu (D + 1) (t.re t.names (t.kids.set k v)) := by
  obtain ⟨wx, hwx⟩ : ∃ wx, wx = x.setCells g (k * 7) (tcells v p.1 p.2) := ⟨_, rfl⟩
  have hrow := krow_set hk hkl v p
  rw [← hwx] at hrow ⊢
  have hsz : wx.heap.size = x.heap.size := by rw [hwx]; exact sizeSetK x g (k * 7) _
  have hblk : ∀ b, b < x.heap.size → b ≠ g → wx.heap[b]? = x.heap[b]? := fun b hb hne => by rw [hwx]; exact World.heap_setCells_other x g _ _ hb hne
  have hbb : Below w1.heap.size x wx := by
    rw [hwx]
    exact belowSetK x g (k * 7) _ h1
  have hbx : Below w1.heap.size w1 wx := hb.trans hbb
  refine ⟨hbx, by omega, an, cn, some ⟨g, 0, none⟩, ck, ?_, fun j u hu => ?_⟩
  · rw [show (t.re t.names (t.kids.set k v)).kids.length = (t.kids.set k v).length from rfl, show (t.re t.names (t.kids.set k v)).names.length = t.names.length from rfl]
    have hp' : RepP wx w1.heap.size D (t.kids.set k v) (ps.set k p) := (RepP.below hp hbb).set k (hv.below hbb)
    exact ⟨⟨ht.1, ht.2, by show t.names.length ≤ _; omega, by show (t.kids.set k v).length ≤ _; rw [List.length_set]; omega⟩, (hn.below hbb).up hbx.size, hrow.kids (hp'.up hbx.size) (Nat.le_refl _)⟩
  · have e : (tcells (t.re t.names (t.kids.set k v)) (.slice an t.names.length cn) (.slice (some ⟨g, 0, none⟩) (t.kids.set k v).length ck)) = tcells t (.slice an t.names.length cn) (.slice (some ⟨g, 0, none⟩) t.kids.length ck) := by
      rw [List.length_set]; rfl
    have hu' : (tcells t (.slice an t.names.length cn) (.slice (some ⟨g, 0, none⟩) t.kids.length ck))[j]? = some u := by rw [← e]; exact hu
    exact (World.cell?_of_block (a := ⟨bu, j, none⟩) (hblk bu hbu hne)).trans (hbox j u hu')
end Go.Proofs.YtppkpcijmfdfmaaGreatDoor
