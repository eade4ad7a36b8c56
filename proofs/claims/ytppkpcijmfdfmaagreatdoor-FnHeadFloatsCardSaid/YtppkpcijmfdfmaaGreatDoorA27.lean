/- The plain side: the field with a name, as a function, and what is done to fields; at style 0 a name is always written alike. No program in sight. -/
import Derived.Test.YtppkpcijmfdfmaaGreatDoorC1
import Derived.Test.YtppkpcijmfdfmaaGreatDoorC1
set_option linter.unusedVariables false
set_option linter.unusedSimpArgs false
namespace Go.Proofs.YtppkpcijmfdfmaaGreatDoor
variable {N M : Nat}

/-- The kid with a name: the first. -/
def kidIn : List Bs → List HT → Bs → Option HT
  | [], _, _ => none
  | _ :: _, [], _ => none
  | n :: ns, k :: ks, s => if n = s then some k else kidIn ns ks s
theorem kidIn_cons (n : Bs) (ns : List Bs) (k : HT) (ks : List HT) (s : Bs) : kidIn (n :: ns) (k :: ks) s = if n = s then some k else kidIn ns ks s := rfl
theorem kidIn_none : ∀ {ns : List Bs} {ks : List HT} {s : Bs}, s ∉ ns → kidIn ns ks s = none
  | [], _, _, _ => rfl
  | _ :: _, [], _, _ => rfl
  | n :: ns, k :: ks, s, h => by
    rw [kidIn_cons, if_neg (fun e => h (by rw [e]; simp)), kidIn_none (fun hs => h (by simp [hs]))]
theorem kidIn_at : ∀ {ns : List Bs} {ks : List HT} {s : Bs} {i : Nat} {c : HT}, ns[i]? = some s → ks[i]? = some c → (∀ i' : Nat, i' < i → ns[i']? ≠ some s) → kidIn ns ks s = some c
  | [], _, _, _, _, h, _, _ => by simp at h
  | _ :: _, [], _, _, _, _, h, _ => by simp at h
  | n :: ns, k :: ks, s, 0, c, h1, h2, _ => by
    simp at h1 h2
    rw [kidIn_cons, if_pos h1, h2]
  | n :: ns, k :: ks, s, i + 1, c, h1, h2, h3 => by
    have hn : n ≠ s := fun e => h3 0 (by omega) (by simp [e])
    rw [kidIn_cons, if_neg hn]
    exact kidIn_at (i := i) (by simpa using h1) (by simpa using h2) fun i' hi' e => h3 (i' + 1) (by omega) (by simpa using e)
/-! ### What is done to fields -/
/-! ### At style 0 a name is always written alike -/
/-- How long a text is, with up to a thousand nodes. -/
theorem print_length2 {d : Nat} {t : HT} {n : Nat} (h : Sized N M d t 1 n) (hn : n ≤ 1000) (x : Nat) : (hPrint d t x).length ≤ 450000000 := by
  have h1 := tree_length d t 1 n h (blank x).2
  have h2 := blank_length x
  have h3 := blank_length (hTree d t (blank x).2).2
  unfold hPrint
  simp only [List.length_append]
  omega
/-- A tree made of rights ones is right, within larger bounds. -/
theorem Sized.mono {N' M' : Nat} (hN : N ≤ N') (hM : M ≤ M') : ∀ {d : Nat} {t : HT} {deep n : Nat}, Sized N M d t deep n → Sized N' M' d t deep n
  | 0, _, _, _, h => h.elim
  | d + 1, t, deep, n, h => by
    obtain ⟨h1, h2, h3, h4, h5, h6⟩ := h
    refine ⟨h1, ⟨by omega, h2.2⟩, by omega, h4, h5, ?_⟩
    rcases h6 with h6 | ⟨h6, h7, ms, h8, h9⟩
    · exact Or.inl h6
    · exact Or.inr ⟨h6, by omega, ms, h8.imp fun k m hs => Sized.mono hN hM hs, h9⟩
end Go.Proofs.YtppkpcijmfdfmaaGreatDoor
