/- Lengths of what FnHeadWrongWord writes; a tree less deep. -/
import Derived.Test.YtppkpcijmfdfmaaGreatDoorC2
import Derived.Test.YtppkpcijmfdfmaaGreatDoorC1
namespace Go.Proofs.YtppkpcijmfdfmaaGreatDoor
theorem outTo_mono (ns : List Bs) (vals : List (List Bs)) (m : Nat) : ∀ j, m + j ≤ vals.length → (outTo ns vals m).length ≤ (outTo ns vals (m + j)).length
  | 0, _ => Nat.le_refl _
  | j + 1, h => by
    refine Nat.le_trans (outTo_mono ns vals m j (by omega)) ?_
    rw [← Nat.add_assoc, outTo_step ns vals (m + j) _ (List.getElem?_eq_getElem (by omega))]
    simp only [List.length_append]
    omega
theorem outTo_le (ns : List Bs) (vals : List (List Bs)) (m : Nat) (h : m ≤ vals.length) : (outTo ns vals m).length ≤ (outTo ns vals vals.length).length := by
  have := outTo_mono ns vals m (vals.length - m) (by omega)
  rwa [Nat.add_sub_cancel' h] at this
theorem outTo_all (ns : List Bs) (vals : List (List Bs)) : outTo ns vals vals.length = 123 :: (vKids ns vals).flatten := by
  unfold outTo; rw [List.take_length]
theorem wrong_length {d : Nat} {t : HT} {n : Nat} (h : Sized 200 60 (d + 1) t 1 n) (h5 : t.kind = 5) (k : Nat) (hk : k < t.kids.length) (w : Bs) (hw : w.length ≤ 9) (m : Nat) (hm : m ≤ t.kids.length) :
    (outTo t.names ((t.kids.map (hToks d)).set k [w]) m).length ≤ 80000009 := by
  refine Nat.le_trans (outTo_le _ _ m (by simpa using hm)) ?_
  rw [outTo_all]
  have hp := print_length h (sized_le h (by decide)) 0
  have e5 : (t.kind == 5) = true := by rw [h5]; rfl
  have e0 : hToks (d + 1) t = [123] :: (vKids t.names (t.kids.map (hToks d)) ++ [[125]]) := by
    rw [hToks, if_neg (by omega), if_pos h5, if_pos h5, e5, vKids_eq]
  rw [hPrint_zero, ← hToks_flat, e0] at hp
  obtain ⟨A, B, hsp, _⟩ := vKids_split (t.kids.map (hToks d)) t.names k (by simpa using hk)
  have hV : (t.kids.map (hToks d)).set k (hToks d t.kids[k]) = t.kids.map (hToks d) := by
    have : hToks d t.kids[k] = (t.kids.map (hToks d))[k]'(by simpa using hk) := by simp
    rw [this, List.set_getElem_self]
  rw [← hV, hsp] at hp
  rw [hsp]
  simp only [List.flatten_append, List.flatten_cons, List.flatten_nil, List.length_append, List.length_cons, List.length_nil] at hp ⊢
  omega
theorem sized_less {N M : Nat} : ∀ {d : Nat} {t : HT} {deep deep' n : Nat}, deep' ≤ deep → Sized N M d t deep n → Sized N M d t deep' n
  | 0, _, _, _, _, _, h => h.elim
  | d + 1, t, deep, deep', n, hd, h => by
    obtain ⟨h1, h2, h3, h4, h5, h6⟩ := h
    refine ⟨h1, ⟨by omega, h2.2⟩, h3, h4, h5, ?_⟩
    rcases h6 with h6 | ⟨h6, h7, ms, h8, h9⟩
    · exact Or.inl h6
    · exact Or.inr ⟨h6, h7, ms, All2.imp (fun k m hk => sized_less (by omega) hk) h8, h9⟩
/-- A text as a tree. -/
def tText (s : Bs) : HT := .mk 3 false false 0 s [] []
theorem tText_sized {s : Bs} (h : s.length ≤ 200) (hv : Lib.validD s = true) : Sized 200 60 1 (tText s) 1 1 := by
  refine ⟨show 3 ≤ 5 by decide, ⟨by decide, show 0 < 18446744073709551616 by decide⟩, Nat.zero_le _, fun h => (by cases (show 3 = 5 from h)), ?_, Or.inl ⟨show 3 < 4 by decide, rfl⟩⟩
  intro x hx
  have : x = s := by simpa [HT.texts, tText, HT.kind, HT.text] using hx
  rw [this]
  exact ⟨h, hv⟩
theorem tText_print (s : Bs) : hPrint 1 (tText s) 0 = (hText s 0).1 := by
  rw [hPrint_zero, hTree, if_pos (show (tText s).kind < 4 from (by show 3 < 4; decide))]
  rfl
theorem print_toks (d : Nat) (t : HT) : hPrint d t 0 = (hToks d t).flatten := by rw [hPrint_zero, hToks_flat]
theorem word_short : ∀ w ∈ wrongWords, w.length ≤ 9 := by decide
theorem set_at {α : Type} (l : List α) (k m : Nat) (a : α) (x : α) (h : l[m]? = some x) : (l.set k a)[m]? = some (if m = k then a else x) := by
  have hlt := (List.getElem?_eq_some_iff.1 h).1
  rw [List.getElem?_set]
  by_cases e : k = m
  · subst e
    simp [hlt]
  · rw [if_neg e, if_neg (fun e' => e e'.symm), h]
end Go.Proofs.YtppkpcijmfdfmaaGreatDoor
