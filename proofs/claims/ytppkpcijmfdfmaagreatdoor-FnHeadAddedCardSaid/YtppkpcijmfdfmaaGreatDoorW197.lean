/- Rows of a call's own that may be nil: what they own, and a world behind two others (its first part stands in W191 too). -/
import Derived.Test.YtppkpcijmfdfmaaGreatDoorG2
set_option linter.unusedVariables false
set_option linter.unusedSimpArgs false
namespace Go.Proofs.YtppkpcijmfdfmaaGreatDoor
open Go.RowKit
attribute [local go_sem] B_size B_get B_lit B_ext_to B_ext B_toList B_app

theorem RowN.slice {base : Nat} {w : World} {v : Value} {l : List Bs} (h : RowN base w v l) : ∃ a c, v = .slice a l.length c := by
  rcases h.form with ⟨rfl, rfl⟩ | ⟨g, cap, rfl, _⟩
  · exact ⟨none, 0, rfl⟩
  · exact ⟨_, _, rfl⟩
theorem RowK.slice {base : Nat} {w : World} {v : Value} {ks : List HT} {ps : List (Value × Value)} (h : RowK base w v ks ps) : ∃ a c, v = .slice a ks.length c := by
  rcases h.form with ⟨rfl, rfl⟩ | ⟨g, cap, rfl, _⟩
  · exact ⟨none, 0, rfl⟩
  · exact ⟨_, _, rfl⟩

theorem RowN.keep {base : Nat} {w w' : World} {v : Value} {l : List Bs} (h : RowN base w v l) (hk : ∀ g, base ≤ g → w'.heap[g]? = w.heap[g]?) : RowN base w' v l := by
  rcases h.form with ⟨rfl, rfl⟩ | ⟨g, cap, rfl, ho⟩
  · exact ⟨rfl, Or.inl ⟨rfl, rfl⟩⟩
  · exact ho.keep (hk g ho.base)
theorem RowK.keep {base : Nat} {w w' : World} {v : Value} {ks : List HT} {ps : List (Value × Value)} (h : RowK base w v ks ps) (hk : ∀ g, base ≤ g → w'.heap[g]? = w.heap[g]?) : RowK base w' v ks ps := by
  have h0 := h.1
  rcases h.form with ⟨rfl, rfl⟩ | ⟨g, cap, rfl, ho⟩
  · exact ⟨h0, rfl, Or.inl ⟨rfl, rfl⟩⟩
  · exact ho.keep (hk g ho.base)
theorem RowN.nsb {base : Nat} {w : World} {v : Value} {l : List Bs} (h : RowN base w v l) : NSB w w.heap.size v l := by
  rcases h.form with ⟨rfl, rfl⟩ | ⟨g, cap, rfl, ho⟩
  · exact Or.inl ⟨none, 0, rfl, rfl⟩
  · exact ho.nsb

theorem RowN.ownR {base : Nat} {w : World} {v : Value} {l : List Bs} (h : RowN base w v l) : ∀ g, v.ownBlock = some g → base ≤ g ∧ g < w.heap.size := by
  intro g e
  rcases h.form with ⟨rfl, rfl⟩ | ⟨g', cap, rfl, ho⟩
  · cases e
  · obtain rfl : g' = g := Option.some.inj e
    exact ⟨ho.base, ho.lt⟩
theorem RowK.ownR {base : Nat} {w : World} {v : Value} {ks : List HT} {ps : List (Value × Value)} (h : RowK base w v ks ps) : ∀ g, v.ownBlock = some g → base ≤ g ∧ g < w.heap.size := by
  intro g e
  rcases h.form with ⟨rfl, rfl⟩ | ⟨g', cap, rfl, ho⟩
  · cases e
  · obtain rfl : g' = g := Option.some.inj e
    exact ⟨ho.base, ho.lt⟩
theorem Past.grownR {w1 wu X Y : World} {r : Option Nat} (h : Past w1 wu X) (k : X.grownBy Y r) (hg : ∀ g, r = some g → w1.heap.size ≤ g) : Past w1 wu Y := ⟨h.below.grown k h.below.size (fun b e => hg b e), Nat.le_trans h.size k.size⟩
end Go.Proofs.YtppkpcijmfdfmaaGreatDoor
