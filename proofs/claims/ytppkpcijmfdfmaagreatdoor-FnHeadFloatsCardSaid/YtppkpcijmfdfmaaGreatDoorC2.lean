/- The plain side: the tokens of a text, and what a text that reads as a value must weigh. No program in sight. -/
import Derived.Test.YtppkpcijmfdfmaaGreatDoorC1
set_option linter.unusedVariables false
set_option linter.unusedSimpArgs false
namespace Go.Proofs.YtppkpcijmfdfmaaGreatDoor

/-- A token: a sign, or a text, a number, a word. -/
inductive Tk where
  | sign (c : UInt8)
  | leaf (num : Bool)
def isSign (c : UInt8) : Bool := c == 123 || c == 125 || c == 91 || c == 93 || c == 58 || c == 44
theorem map_cons (x : Option (List Tk)) (a : Tk) (b : List Tk) : (x.map (b ++ ·)).map (a :: ·) = x.map ((a :: b) ++ ·) := by
  rw [Option.map_map]
  congr 1
/-! ### What they weigh -/
def Tk.w1 : Tk → Int | .sign c => if c = 123 then 1 else if c = 125 then -1 else 0 | .leaf _ => 0
def Tk.w2 : Tk → Int | .sign c => if c = 91 then 1 else if c = 93 then -1 else 0 | .leaf _ => 0
def Tk.w3 : Tk → Int | .sign c => if c = 58 ∨ c = 44 then -1 else 0 | .leaf _ => 1
def Tk.closes : Tk → Bool | .sign c => c == 125 || c == 93 | .leaf _ => false
end Go.Proofs.YtppkpcijmfdfmaaGreatDoor

/- The plain side: the tokens of a tree; a text with a sign lost or doubled is none. No program in sight. -/
namespace Go.Proofs.YtppkpcijmfdfmaaGreatDoor
variable {N M : Nat}

/-- What stands ahead of a kid's tokens. -/
def tName (ob : Bool) (ns : List Bs) : List Bs := if ob = true then [(hText (ns.headD []) 0).1, [58]] else []
def tMore (f : HT → List Bs) (ob : Bool) : List Bs → List HT → List Bs
  | _, [] => []
  | ns, k :: r => [44] :: (tName ob ns ++ (f k ++ tMore f ob ns.tail r))
def tKids (f : HT → List Bs) (ob : Bool) (ns : List Bs) : List HT → List Bs
  | [] => []
  | k :: r => tName ob ns ++ (f k ++ tMore f ob ns.tail r)
/-- A token as it is written. -/
def TkB (b : Bs) (k : Tk) : Prop := (∃ c, isSign c = true ∧ b = [c] ∧ k = .sign c) ∨
  ∃ c r, b = c :: r ∧ jWs c = false ∧ isSign c = false ∧ k = .leaf (jNumCh c) ∧ (jNumCh c = true → c.toNat = 45 ∨ (48 ≤ c.toNat ∧ c.toNat ≤ 57)) ∧ ∀ s, (jNumCh c = true → NumEnd s) → ∃ v, jVal 1 (b ++ s) = some (v, s)
theorem TkB.sign {c : UInt8} (h : isSign c = true) : TkB [c] (.sign c) := Or.inl ⟨c, h, rfl, rfl⟩
theorem All2.append {α β : Type} {R : α → β → Prop} : ∀ {l : List α} {m : List β} {l' : List α} {m' : List β}, All2 R l m → All2 R l' m' → All2 R (l ++ l') (m ++ m')
  | [], [], _, _, _, h => h
  | [], _ :: _, _, _, h, _ => h.elim
  | _ :: _, [], _, _, h, _ => h.elim
  | _ :: _, _ :: _, _, _, h, g => ⟨h.1, h.2.append g⟩
theorem All2.one {α β : Type} {R : α → β → Prop} {a : α} {b : β} (h : R a b) : All2 R [a] [b] := ⟨h, trivial⟩
theorem All2.length {α β : Type} {R : α → β → Prop} : ∀ {l : List α} {m : List β}, All2 R l m → l.length = m.length
  | [], [], _ => rfl
  | [], _ :: _, h => h.elim
  | _ :: _, [], h => h.elim
  | _ :: _, _ :: _, h => by rw [List.length_cons, List.length_cons, h.2.length]
theorem All2.at {α β : Type} {R : α → β → Prop} : ∀ {l : List α} {m : List β}, All2 R l m → ∀ (i : Nat) a, l[i]? = some a → ∃ b, m[i]? = some b ∧ R a b
  | [], [], _, i, a, h => by simp at h
  | [], _ :: _, h, _, _, _ => h.elim
  | _ :: _, [], h, _, _, _ => h.elim
  | x :: l, y :: m, h, 0, a, e => by
    simp at e
    subst e
    exact ⟨y, rfl, h.1⟩
  | x :: l, y :: m, h, i + 1, a, e => h.2.at i a (by simpa using e)
theorem All2.take {α β : Type} {R : α → β → Prop} : ∀ {l : List α} {m : List β}, All2 R l m → ∀ n, All2 R (l.take n) (m.take n)
  | [], [], _, n => by simp [All2]
  | [], _ :: _, h, _ => h.elim
  | _ :: _, [], h, _ => h.elim
  | x :: l, y :: m, h, 0 => trivial
  | x :: l, y :: m, h, n + 1 => ⟨h.1, h.2.take n⟩
theorem All2.drop {α β : Type} {R : α → β → Prop} : ∀ {l : List α} {m : List β}, All2 R l m → ∀ n, All2 R (l.drop n) (m.drop n)
  | [], [], _, n => by simp [All2]
  | [], _ :: _, h, _ => h.elim
  | _ :: _, [], h, _ => h.elim
  | x :: l, y :: m, h, 0 => h
  | x :: l, y :: m, h, n + 1 => h.2.drop n
end Go.Proofs.YtppkpcijmfdfmaaGreatDoor

/- The plain side: an object with a word that is none of JSON in the place of a value is none. No program in sight. -/
namespace Go.Proofs.YtppkpcijmfdfmaaGreatDoor
variable {N M : Nat}

/-! ### An odd quotation mark -/
/-- No quotation mark stands ahead of the first reverse solidus. -/
def NQ : Bs → Prop
  | [] => True
  | c :: r => c = 92 ∨ (c ≠ 34 ∧ NQ r)
theorem NQ.drop : ∀ {w r : Bs}, NQ (w ++ r) → (∀ c ∈ w, c ≠ 92) → NQ r
  | [], _, h, _ => h
  | c :: w, r, h, hw => by
    rcases h with h | h
    · exact absurd h (hw c (by simp))
    · exact NQ.drop (w := w) h.2 fun d hd => hw d (by simp [hd])
/-! ### A wrong word -/
theorem All2.split {α β : Type} {R : α → β → Prop} : ∀ {a b : List α} {m : List β}, All2 R (a ++ b) m → ∃ x y, m = x ++ y ∧ All2 R a x ∧ All2 R b y
  | [], b, m, h => ⟨[], m, rfl, trivial, h⟩
  | _ :: _, _, [], h => h.elim
  | z :: a, b, y :: m, h => by
    obtain ⟨p, q, rfl, h1, h2⟩ := All2.split (a := a) (b := b) h.2
    exact ⟨y :: p, q, rfl, ⟨h.1, h1⟩, h2⟩

end Go.Proofs.YtppkpcijmfdfmaaGreatDoor

/- One value more in an object that is written with values of one's own (for FnHeadWrongWord's loop). -/
namespace Go.Proofs.YtppkpcijmfdfmaaGreatDoor
end Go.Proofs.YtppkpcijmfdfmaaGreatDoor
