/- The plain side: sizes of trees that are made of others. No program in sight. -/
import Derived.Test.YtppkpcijmfdfmaaGreatDoorA27
import Derived.Test.YtppkpcijmfdfmaaGreatDoorC2
set_option linter.unusedVariables false
set_option linter.unusedSimpArgs false
namespace Go.Proofs.YtppkpcijmfdfmaaGreatDoor
variable {N M : Nat}

theorem All2.app {α β : Type} {R : α → β → Prop} : ∀ {l : List α} {m : List β} {l' : List α} {m' : List β}, All2 R l m → All2 R l' m' → All2 R (l ++ l') (m ++ m')
  | [], [], _, _, _, h => h
  | _ :: _, _ :: _, _, _, h, h' => ⟨h.1, All2.app h.2 h'⟩
  | [], _ :: _, _, _, h, _ => h.elim
  | _ :: _, [], _, _, h, _ => h.elim
theorem All2.put {α β : Type} {R : α → β → Prop} : ∀ {l : List α} {m : List β} (k : Nat) {a : α} {b : β}, All2 R l m → R a b → All2 R (l.set k a) (m.set k b)
  | [], [], _, _, _, _, _ => trivial
  | _ :: _, _ :: _, 0, _, _, h, r => ⟨r, h.2⟩
  | _ :: _, _ :: _, k + 1, _, _, h, r => ⟨h.1, All2.put k h.2 r⟩
  | [], _ :: _, _, _, _, h, _ => h.elim
  | _ :: _, [], _, _, _, h, _ => h.elim
theorem Sized.fuel : ∀ {d d' : Nat} {t : HT} {deep n : Nat}, Sized N M d t deep n → d ≤ d' → Sized N M d' t deep n
  | 0, _, _, _, _, h, _ => h.elim
  | d + 1, 0, _, _, _, _, hd => by omega
  | d + 1, e + 1, t, deep, n, h, hd => by
    obtain ⟨h1, h2, h3, h4, h5, h6⟩ := h
    refine ⟨h1, h2, h3, h4, h5, ?_⟩
    rcases h6 with h6 | ⟨h6, h7, ms, h8, h9⟩
    · exact Or.inl h6
    · exact Or.inr ⟨h6, h7, ms, h8.imp fun k m hs => Sized.fuel hs (by omega), h9⟩

/-- What is known of a right object. -/
theorem sized_obj {d n : Nat} {t : HT} (h : Sized N M d t 1 n) (h5 : t.kind = 5) : ∃ e ms, d = e + 1 ∧ t.num < 18446744073709551616 ∧ t.kids.length ≤ N ∧ t.names.length = t.kids.length ∧ TextsOk t.names ∧ All2 (fun k m => Sized N M e k 2 m) t.kids ms ∧ n = 1 + ms.sum ∧ n ≤ N := by
  cases d with
  | zero => exact h.elim
  | succ d =>
    obtain ⟨_, h2, h3, h4, h5', h6⟩ := h
    unfold HT.texts at h5'
    rw [if_neg (by omega), if_pos h5] at h5'
    rcases h6 with h6 | ⟨_, h7, ms, h8, h9⟩
    · omega
    · exact ⟨d, ms, rfl, h2.2, h3, h4 h5, h5', h8, h9, h7⟩
theorem TextsOk.app {a b : List Bs} (h : TextsOk a) (g : TextsOk b) : TextsOk (a ++ b) := fun s hs => (List.mem_append.1 hs).elim (h s) (g s)
theorem TextsOk.sub {a b : List Bs} (h : TextsOk a) (g : ∀ s ∈ b, s ∈ a) : TextsOk b := fun s hs => h s (g s hs)

end Go.Proofs.YtppkpcijmfdfmaaGreatDoor
