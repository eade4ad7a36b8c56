/- Tokens lost and doubled, of a tree; joined texts. No program in sight. -/
import Derived.Test.YtppkpcijmfdfmaaGreatDoorA20
namespace Go.Proofs.YtppkpcijmfdfmaaGreatDoor
theorem toks_nonempty {N M d deep n : Nat} {t : HT} (h : Sized N M d t deep n) : ∀ s ∈ hToks d t, s ≠ [] := by
  obtain ⟨ks, hks, _⟩ := toks_pt d t deep n h
  intro s hs
  obtain ⟨i, hi⟩ := List.mem_iff_getElem?.1 hs
  obtain ⟨k, _, hk⟩ := hks.at i s hi
  obtain ⟨c, r, rfl, _⟩ := tkb_head hk
  simp
theorem toks_edge {d : Nat} {t : HT} (h5 : t.kind = 5) (k : Nat) (h : (hToks (d + 1) t)[k]? = some [44]) : 0 < k ∧ k + 1 < (hToks (d + 1) t).length := by
  rw [hToks_obj h5] at h ⊢
  have hlt := (List.getElem?_eq_some_iff.1 h).1
  refine ⟨?_, ?_⟩
  · rcases Nat.eq_zero_or_pos k with rfl | hk
    · simp at h
    · exact hk
  · rcases Nat.lt_or_ge (k + 1) ([123] :: (tKids (hToks d) true t.names t.kids ++ [[125]])).length with h1 | h1
    · exact h1
    · exfalso
      simp only [List.length_cons, List.length_append, List.length_nil] at hlt h1
      obtain rfl : k = (tKids (hToks d) true t.names t.kids).length + 1 := by omega
      rw [List.getElem?_cons_succ, List.getElem?_append_right (Nat.le_refl _), Nat.sub_self] at h
      simp at h
theorem toks_two {d : Nat} {t : HT} (h5 : t.kind = 5) : 2 ≤ (hToks (d + 1) t).length := by
  rw [hToks_obj h5]; simp
theorem flat_take (l : List Bs) (k : Nat) : (l.take k).flatten.length ≤ l.flatten.length := by
  have := congrArg (fun x : List Bs => x.flatten.length) (List.take_append_drop k l)
  simp only [List.flatten_append, List.length_append] at this
  omega
theorem flat_drop (l : List Bs) (k : Nat) : (l.drop k).flatten.length ≤ l.flatten.length := by
  have := congrArg (fun x : List Bs => x.flatten.length) (List.take_append_drop k l)
  simp only [List.flatten_append, List.length_append] at this
  omega
end Go.Proofs.YtppkpcijmfdfmaaGreatDoor
