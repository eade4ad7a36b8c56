/- The plain side: fields of a header as trees. No program in sight. -/
import Derived.Test.YtppkpcijmfdfmaaGreatDoorA28
set_option linter.unusedVariables false
set_option linter.unusedSimpArgs false
namespace Go.Proofs.YtppkpcijmfdfmaaGreatDoor

/-- A field of a header, as it came. -/
structure HF where
  name : Bs
  kind : Nat
  is : Bool
  minus : Bool
  num : Nat
  text : Bs
  list : List Bs
def fText (s : Bs) : HT := .mk 3 false false 0 s [] []
def fNum (n : Nat) : HT := .mk 2 false false n [] [] []
/-- The tree of a field's value. -/
def HF.tree (f : HF) : HT :=
  if f.kind = 5 then .mk 5 false false 0 [] [f.text] [fNum 1]
  else if f.kind = 4 then .mk 4 false false 0 [] [] (f.list.map fText)
  else if f.kind = 6 then .mk 4 false false 0 [] [] (f.list.map fun s => fNum s.length)
  else .mk f.kind f.is f.minus f.num f.text [] []
def fTree (l : List HF) : HT := .mk 5 false false 0 [] (l.map (·.name)) (l.map HF.tree)
structure HF.Ok (f : HF) : Prop where
  kind : f.kind ≤ 6
  num : f.num < 18446744073709551616
  few : f.list.length ≤ 30
  texts : TextsOk (f.name :: f.text :: f.list)
def HF.size (f : HF) : Nat := if f.kind = 5 then 2 else if f.kind = 4 ∨ f.kind = 6 then 1 + f.list.length else 1

theorem All2.maps {α β γ : Type} {R : β → γ → Prop} {f : α → β} {g : α → γ} : ∀ {l : List α}, (∀ a ∈ l, R (f a) (g a)) → All2 R (l.map f) (l.map g)
  | [], _ => trivial
  | a :: l, h => ⟨h a (by simp), All2.maps fun b hb => h b (by simp [hb])⟩
theorem sum_ones {α : Type} (l : List α) : (l.map fun _ => 1).sum = l.length := by
  induction l with
  | nil => rfl
  | cons a l ih => rw [List.map_cons, List.sum_cons, ih, List.length_cons]; omega
theorem fNum_sized {n : Nat} (h : n < 18446744073709551616) (deep : Nat) (hd : deep ≤ 60) : Sized 1000 60 1 (fNum n) deep 1 := by
  refine ⟨by show 2 ≤ 5; decide, ⟨hd, h⟩, by show 0 ≤ 1000; decide, fun e => (by cases e), fun s hs => ?_, Or.inl ⟨by show 2 < 4; decide, rfl⟩⟩
  cases hs
theorem fText_sized {s : Bs} (h : s.length ≤ 200 ∧ Lib.validD s = true) (deep : Nat) (hd : deep ≤ 60) : Sized 1000 60 1 (fText s) deep 1 := by
  refine ⟨by show 3 ≤ 5; decide, ⟨hd, by show 0 < 18446744073709551616; decide⟩, by show 0 ≤ 1000; decide, fun e => (by cases e), fun s' hs => ?_, Or.inl ⟨by show 3 < 4; decide, rfl⟩⟩
  have : s' = s := by simpa [HT.texts, fText, HT.kind, HT.text] using hs
  rw [this]
  exact h
theorem HF.sized {f : HF} (h : f.Ok) : Sized 1000 60 2 f.tree 2 f.size := by
  have ht : f.text.length ≤ 200 ∧ Lib.validD f.text = true := h.texts f.text (by simp)
  have hl : ∀ s ∈ f.list, s.length ≤ 200 ∧ Lib.validD s = true := fun s hs => h.texts s (by simp [hs])
  have hfew := h.few
  have hk := h.kind
  have hn := h.num
  unfold HF.tree HF.size
  by_cases h5 : f.kind = 5
  · rw [if_pos h5, if_pos h5]
    refine ⟨by show 5 ≤ 5; decide, ⟨by decide, by show 0 < 18446744073709551616; decide⟩, by show 1 ≤ 1000; decide, fun _ => rfl, fun s hs => ?_, Or.inr ⟨by show 4 ≤ 5; decide, by decide, [1], ⟨fNum_sized (by decide) 3 (by decide), trivial⟩, rfl⟩⟩
    have : s = f.text := by simpa [HT.texts, HT.kind, HT.names] using hs
    rw [this]; exact ht
  rw [if_neg h5, if_neg h5]
  by_cases h4 : f.kind = 4
  · rw [if_pos h4, if_pos (Or.inl h4)]
    refine ⟨by show 4 ≤ 5; decide, ⟨by decide, by show 0 < 18446744073709551616; decide⟩, by show (f.list.map fText).length ≤ 1000; rw [List.length_map]; omega, fun e => (by cases e), fun s hs => (by cases hs), Or.inr ⟨by show 4 ≤ 4; decide, by omega, f.list.map fun _ => 1, All2.maps fun s hs => fText_sized (hl s hs) 3 (by decide), by rw [sum_ones]⟩⟩
  rw [if_neg h4]
  by_cases h6 : f.kind = 6
  · rw [if_pos h6, if_pos (Or.inr h6)]
    refine ⟨by show 4 ≤ 5; decide, ⟨by decide, by show 0 < 18446744073709551616; decide⟩, by show (f.list.map _).length ≤ 1000; rw [List.length_map]; omega, fun e => (by cases e), fun s hs => (by cases hs), Or.inr ⟨by show 4 ≤ 4; decide, by omega, f.list.map fun _ => 1, All2.maps fun s hs => fNum_sized (by have := (hl s hs).1; omega) 3 (by decide), by rw [sum_ones]⟩⟩
  rw [if_neg h6, if_neg (by omega)]
  refine ⟨by show f.kind ≤ 5; omega, ⟨by decide, hn⟩, by show 0 ≤ 1000; decide, fun e => absurd e h5, fun s hs => ?_, Or.inl ⟨by show f.kind < 4; omega, rfl⟩⟩
  by_cases h3 : f.kind = 3
  · have : s = f.text := by simpa [HT.texts, HT.kind, HT.text, h3] using hs
    rw [this]; exact ht
  · exfalso
    revert hs
    simp [HT.texts, HT.kind, h3, h5]
theorem size_sum : ∀ {l : List HF}, (∀ f ∈ l, f.Ok) → (l.map HF.size).sum ≤ 31 * l.length
  | [], _ => by simp
  | f :: l, h => by
    have h1 := size_sum (l := l) fun g hg => h g (by simp [hg])
    have h2 := (h f (by simp)).few
    have h3 : f.size ≤ 31 := by unfold HF.size; repeat' split
                                all_goals omega
    rw [List.map_cons, List.sum_cons, List.length_cons]
    omega
theorem fTree_sized {l : List HF} (h : ∀ f ∈ l, f.Ok) (hl : l.length ≤ 30) : ∃ n, Sized 1000 60 3 (fTree l) 1 n := by
  have hs := size_sum h
  refine ⟨1 + (l.map HF.size).sum, by show 5 ≤ 5; decide, ⟨by decide, by show 0 < 18446744073709551616; decide⟩, by show (l.map HF.tree).length ≤ 1000; rw [List.length_map]; omega, fun _ => by show (l.map _).length = (l.map _).length; rw [List.length_map, List.length_map], fun s hs' => ?_,
    Or.inr ⟨by show 4 ≤ 5; decide, by omega, l.map HF.size, All2.maps fun f hf => HF.sized (h f hf), rfl⟩⟩
  have : s ∈ l.map (·.name) := by simpa [HT.texts, HT.kind, HT.names, fTree] using hs'
  obtain ⟨f, hf, rfl⟩ := List.mem_map.1 this
  exact (h f hf).texts f.name (by simp)
/-- The field with a name: the first. -/
def findF (l : List HF) (s : Bs) : Option HF := l.find? (·.name == s)
theorem kid_find (s : Bs) : ∀ l : List HF, kidIn (l.map (·.name)) (l.map HF.tree) s = (findF l s).map HF.tree
  | [] => rfl
  | f :: l => by
    rw [List.map_cons, List.map_cons, kidIn_cons]
    unfold findF
    rw [List.find?_cons]
    by_cases h : f.name = s
    · have : (f.name == s) = true := by rw [h]; exact beq_self_eq_true s
      rw [if_pos h, this]; rfl
    · have : (f.name == s) = false := by rw [beq_eq_false_iff_ne]; exact h
      rw [if_neg h, this]
      exact kid_find s l
theorem tree_two (f : HF) : f.tree.kind = 2 ↔ f.kind = 2 := by
  unfold HF.tree
  by_cases h5 : f.kind = 5
  · rw [if_pos h5, h5]; show 5 = 2 ↔ 5 = 2; rfl
  rw [if_neg h5]
  by_cases h4 : f.kind = 4
  · rw [if_pos h4, h4]; show 4 = 2 ↔ 4 = 2; rfl
  rw [if_neg h4]
  by_cases h6 : f.kind = 6
  · rw [if_pos h6, h6]; show 4 = 2 ↔ 6 = 2; decide
  rw [if_neg h6]; rfl
theorem tree_num {f : HF} (h : f.kind = 2) : f.tree.minus = f.minus ∧ f.tree.num = f.num := by
  unfold HF.tree
  rw [if_neg (by omega), if_neg (by omega), if_neg (by omega)]
  exact ⟨rfl, rfl⟩
end Go.Proofs.YtppkpcijmfdfmaaGreatDoor
