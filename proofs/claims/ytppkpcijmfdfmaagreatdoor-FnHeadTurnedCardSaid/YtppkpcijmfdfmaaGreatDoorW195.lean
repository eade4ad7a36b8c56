/- Parts of slices of texts and of kids. -/
import Derived.Test.YtppkpcijmfdfmaaGreatDoorW191
set_option linter.unusedVariables false
set_option linter.unusedSimpArgs false
namespace Go.Proofs.YtppkpcijmfdfmaaGreatDoor
open Go.RowKit

theorem ns_drop {w : World} {b off c n : Nat} {l : List Bs} (hlt : b < w.heap.size) (hc : ∀ (i : Nat) s, l[i]? = some s → w.cell? ⟨b, off + i, none⟩ = some (.string (B s))) (k : Nat) (hn : n = (l.drop k).length) : NS w (.slice (some ⟨b, off + k, none⟩) n c) (l.drop k) := by
  subst hn
  refine Or.inr ⟨b, off + k, c, rfl, hlt, fun i s hi => ?_⟩
  rw [List.getElem?_drop] at hi
  rw [Nat.add_assoc]
  exact hc (k + i) s hi
theorem ns_take {w : World} {b off c n : Nat} {l : List Bs} (hlt : b < w.heap.size) (hc : ∀ (i : Nat) s, l[i]? = some s → w.cell? ⟨b, off + i, none⟩ = some (.string (B s))) (k : Nat) (hn : n = (l.take k).length) : NS w (.slice (some ⟨b, off, none⟩) n c) (l.take k) := by
  subst hn
  refine Or.inr ⟨b, off, c, rfl, hlt, fun i s hi => ?_⟩
  rw [List.getElem?_take] at hi
  split at hi
  · exact hc i s hi
  · cases hi
theorem krow_drop {w : World} {b off c n : Nat} {ks : List HT} {ps : List (Value × Value)} (hl : ks.length = ps.length) (hlt : b < w.heap.size) (hc : ∀ (j : Nat) u, (flatK ks ps)[j]? = some u → w.cell? ⟨b, off + j, none⟩ = some u) (k : Nat) (hn : n = (ks.drop k).length) : KRow w (.slice (some ⟨b, off + k * 7, none⟩) n c) (ks.drop k) (ps.drop k) := by
  subst hn
  refine ⟨by rw [List.length_drop, List.length_drop, hl], Or.inr ⟨b, off + k * 7, c, rfl, hlt, fun j u hu => ?_⟩⟩
  rw [flatK_drop ks ps k hl, List.getElem?_drop] at hu
  rw [Nat.add_assoc]
  exact hc _ u hu
theorem krow_take {w : World} {b off c n : Nat} {ks : List HT} {ps : List (Value × Value)} (hl : ks.length = ps.length) (hlt : b < w.heap.size) (hc : ∀ (j : Nat) u, (flatK ks ps)[j]? = some u → w.cell? ⟨b, off + j, none⟩ = some u) (k : Nat) (hn : n = (ks.take k).length) : KRow w (.slice (some ⟨b, off, none⟩) n c) (ks.take k) (ps.take k) := by
  subst hn
  refine ⟨by rw [List.length_take, List.length_take, hl], Or.inr ⟨b, off, c, rfl, hlt, fun j u hu => ?_⟩⟩
  rw [flatK_take ks ps k hl, List.getElem?_take] at hu
  split at hu
  · exact hc _ u hu
  · cases hu
theorem ns_drop_ad {w : World} {b off c n cap : Nat} {l : List Bs} {ad : Option Addr} (hlt : b < w.heap.size) (hc : ∀ (i : Nat) s, l[i]? = some s → w.cell? ⟨b, off + i, none⟩ = some (.string (B s))) (k : Nat) (hcap : l.length ≤ cap) (had : (if cap = k then (some ⟨b, off, none⟩ : Option Addr) else some ⟨b, off + k, none⟩) = ad) (hn : n = (l.drop k).length) : NS w (.slice ad n c) (l.drop k) := by
  by_cases e : cap = k
  · have h0 : l.drop k = [] := List.drop_of_length_le (by omega)
    rw [h0] at hn ⊢
    subst hn
    exact Or.inl ⟨ad, c, rfl, rfl⟩
  · rw [if_neg e] at had
    subst had
    exact ns_drop hlt hc k hn
theorem krow_drop_ad {w : World} {b off c n cap : Nat} {ks : List HT} {ps : List (Value × Value)} {ad : Option Addr} (hl : ks.length = ps.length) (hlt : b < w.heap.size) (hc : ∀ (j : Nat) u, (flatK ks ps)[j]? = some u → w.cell? ⟨b, off + j, none⟩ = some u) (k : Nat) (hcap : ks.length ≤ cap) (had : (if cap = k then (some ⟨b, off, none⟩ : Option Addr) else some ⟨b, off + k * 7, none⟩) = ad) (hn : n = (ks.drop k).length) : KRow w (.slice ad n c) (ks.drop k) (ps.drop k) := by
  by_cases e : cap = k
  · have h0 : ks.drop k = [] := List.drop_of_length_le (by omega)
    have h1 : ps.drop k = [] := List.drop_of_length_le (by omega)
    rw [h0] at hn
    rw [h0, h1]
    subst hn
    exact ⟨rfl, Or.inl ⟨ad, c, rfl, rfl⟩⟩
  · rw [if_neg e] at had
    subst had
    exact krow_drop hl hlt hc k hn
theorem ns_one {w : World} {b off c k : Nat} {l : List Bs} {s : Bs} (hlt : b < w.heap.size) (hc : ∀ (i : Nat) s, l[i]? = some s → w.cell? ⟨b, off + i, none⟩ = some (.string (B s))) (hs : l[k]? = some s) : NS w (.slice (some ⟨b, off + k, none⟩) 1 c) [s] := by
  refine Or.inr ⟨b, off + k, c, rfl, hlt, fun i s' hi => ?_⟩
  match i, hi with
  | 0, hi => cases hi; exact hc k s hs
theorem OneP.drop {ps : List (Value × Value)} (h : OneP ps) (k : Nat) : OneP (ps.drop k) := fun p hp => h p (List.mem_of_mem_drop hp)
theorem OneP.take {ps : List (Value × Value)} (h : OneP ps) (k : Nat) : OneP (ps.take k) := fun p hp => h p (List.mem_of_mem_take hp)
theorem blk_lt {w : World} {b : Nat} {o : Obj} (h : w.heap[b]? = some o) : b < w.heap.size := by
  rcases Nat.lt_or_ge b w.heap.size with h' | h'
  · exact h'
  · rw [Array.getElem?_eq_none h'] at h; cases h
theorem concatN_box {w : World} {b n1 n2 c1 c2 : Nat} {a1 a2 : Option Addr} {l1 l2 : List Bs} {ty : TypeId} (e1 : l1.length = n1) (e2 : l2.length = n2) (h1 : NS w (.slice a1 n1 c1) l1) (h2 : NS w (.slice a2 n2 c2) l2) (hb : w.heap[b]? = some (.cells ([Value.slice a1 n1 c1, Value.slice a2 n2 c2] : List Value).toArray ty (0, 0)))
    (hle1 : n1 ≤ 5000) (hle2 : n2 ≤ 5000) : Calls Tryz.prog 48 #[.slice (some ⟨b, 0, none⟩) 2 2] w fun e w' => ∃ a c, e = .returned (.slice a (l1 ++ l2).length c) ∧ RowN w.heap.size w' (.slice a (l1 ++ l2).length c) (l1 ++ l2) ∧ Below w.heap.size w w' := by
  subst e1 e2
  exact concatN_row w b a1 a2 c1 c2 l1 l2 h1 h2 (blk_cell hb 0 _ rfl) (blk_cell hb 1 _ rfl) (blk_lt hb) hle1 hle2
theorem concatK_box {w : World} {b n1 n2 c1 c2 : Nat} {a1 a2 : Option Addr} {l1 l2 : List HT} {ps1 ps2 : List (Value × Value)} {ty : TypeId} (e1 : l1.length = n1) (e2 : l2.length = n2) (h1 : KRow w (.slice a1 n1 c1) l1 ps1) (h2 : KRow w (.slice a2 n2 c2) l2 ps2) (o1 : OneP ps1) (o2 : OneP ps2) (hb : w.heap[b]? = some (.cells ([Value.slice a1 n1 c1, Value.slice a2 n2 c2] : List Value).toArray ty (0, 0)))
    (hle1 : n1 ≤ 5000) (hle2 : n2 ≤ 5000) : Calls Tryz.prog 49 #[.slice (some ⟨b, 0, none⟩) 2 2] w fun e w' => ∃ a c, e = .returned (.slice a (l1 ++ l2).length c) ∧ RowK w.heap.size w' (.slice a (l1 ++ l2).length c) (l1 ++ l2) (ps1 ++ ps2) ∧ Below w.heap.size w w' := by
  subst e1 e2
  exact concatK_row w b a1 a2 c1 c2 l1 l2 ps1 ps2 h1 h2 o1 o2 (blk_cell hb 0 _ rfl) (blk_cell hb 1 _ rfl) (blk_lt hb) hle1 hle2
end Go.Proofs.YtppkpcijmfdfmaaGreatDoor
