/- The plain side: the tokens of a text, and what a text that reads as a value must weigh. No program in sight. -/
import Derived.Test.YtppkpcijmfdfmaaGreatDoorC1
set_option linter.unusedVariables false
set_option linter.unusedSimpArgs false
namespace Go.Proofs.YtppkpcijmfdfmaaGreatDoor

/-- A token: a sign, or a text, a number, a word. -/
inductive Tk where
  | sign (c : UInt8)
  | leaf (num : Bool)
def isSign (c : UInt8) : Bool := c == 123 || c == 125 || c == 91 || c == 93 || c == 58 || c == 44
theorem isSign_cases {c : UInt8} (h : isSign c = true) : c = 123 ∨ c = 125 ∨ c = 91 ∨ c = 93 ∨ c = 58 ∨ c = 44 := by
  unfold isSign at h
  simpa [or_assoc] using h
theorem jWs_cases {c : UInt8} (h : jWs c = true) : c = 32 ∨ c = 10 ∨ c = 9 ∨ c = 13 := by
  unfold jWs at h
  simpa [or_assoc] using h

/-- The tokens of a text. -/
def jLex : Nat → Bs → Option (List Tk)
  | 0, s => if s = [] then some [] else none
  | _ + 1, [] => some []
  | n + 1, c :: r =>
    if jWs c = true then jLex n r
    else if isSign c = true then (jLex n r).map (Tk.sign c :: ·)
    else match jVal 1 (c :: r) with
      | none => none
      | some (_, t) => (jLex n t).map (Tk.leaf (jNumCh c) :: ·)
theorem jLex_fuel : ∀ (n m : Nat) (s : Bs), s.length ≤ n → s.length ≤ m → jLex n s = jLex m s
  | n, m, [], _, _ => by cases n <;> cases m <;> rfl
  | 0, _, c :: r, hn, _ => by simp at hn
  | _ + 1, 0, c :: r, _, hm => by simp at hm
  | n + 1, m + 1, c :: r, hn, hm => by
    simp only [List.length_cons] at hn hm
    rw [jLex, jLex]
    split
    · exact jLex_fuel n m r (by omega) (by omega)
    · split
      · rw [jLex_fuel n m r (by omega) (by omega)]
      · cases hv : jVal 1 (c :: r) with
        | none => rfl
        | some p =>
          obtain ⟨v, t⟩ := p
          have := jVal_len 1 _ _ _ hv
          simp only [List.length_cons] at this
          simp only
          rw [jLex_fuel n m t (by omega) (by omega)]
def lex (s : Bs) : Option (List Tk) := jLex s.length s
theorem lex_nil : lex [] = some [] := rfl
theorem lex_cons (c : UInt8) (r : Bs) : lex (c :: r) =
    if jWs c = true then lex r
    else if isSign c = true then (lex r).map (Tk.sign c :: ·)
    else match jVal 1 (c :: r) with
      | none => none
      | some (_, t) => (lex t).map (Tk.leaf (jNumCh c) :: ·) := by
  show jLex (r.length + 1) (c :: r) = _
  rw [jLex]
  split
  · rfl
  · split
    · rfl
    · cases hv : jVal 1 (c :: r) with
      | none => rfl
      | some p =>
        obtain ⟨v, t⟩ := p
        have := jVal_len 1 _ _ _ hv
        simp only [List.length_cons] at this
        simp only
        rw [jLex_fuel r.length t.length t (by omega) (Nat.le_refl _)]
        rfl
theorem lex_ws {c : UInt8} (h : jWs c = true) (r : Bs) : lex (c :: r) = lex r := by rw [lex_cons, if_pos h]
theorem lex_sign {c : UInt8} (h : isSign c = true) (r : Bs) : lex (c :: r) = (lex r).map (Tk.sign c :: ·) := by
  rw [lex_cons, if_neg, if_pos h]
  rcases isSign_cases h with rfl | rfl | rfl | rfl | rfl | rfl <;> decide
theorem lex_skip (s : Bs) : lex (jSkip s) = lex s := by
  induction s with
  | nil => rfl
  | cons c r ih =>
    by_cases h : jWs c = true
    · rw [jSkip_blank h, lex_ws h, ih]
    · rw [jSkip_stop (by simpa using h)]
theorem num_none {c : UInt8} (r : Bs) (h1 : jNumCh c = false) (h2 : jLow c ≠ 105) (h3 : jLow c ≠ 110) : jNum (c :: r) = none := by
  have e1 : (c :: r).takeWhile jNumCh = [] := by simp [h1]
  have e2 : (c :: r).dropWhile jNumCh = c :: r := by simp [h1]
  unfold jNum
  simp only [e1, e2]
  rw [if_neg (by simp), if_pos (Or.inl trivial), if_neg]
  rintro ⟨_, h | h⟩
  · unfold jFold at h
    have := eq_of_beq h
    have e := congrArg (fun l => l[0]?) this
    simp [jInf] at e
    exact h2 e
  · unfold jFold at h
    have := eq_of_beq h
    have e := congrArg (fun l => l[0]?) this
    simp [jNan] at e
    exact h3 e
/-- A byte at which no value but a list or an object begins. -/
theorem val_bad {c : UInt8} (D : Nat) (r : Bs) (h0 : c ≠ 123) (h1 : c ≠ 91) (h2 : c ≠ 34) (h3 : c ≠ 116) (h4 : c ≠ 102) (h5 : c ≠ 110) (k1 : jNumCh c = false) (k2 : jLow c ≠ 105) (k3 : jLow c ≠ 110) : jVal D (c :: r) = none := by
  cases D with
  | zero => rfl
  | succ D =>
    rw [jVal_cons, if_neg h0, if_neg h1, if_neg h2, if_neg h3, if_neg h4, if_neg h5, num_none r k1 k2 k3]
    rfl
theorem val_ws {c : UInt8} (D : Nat) (r : Bs) (h : jWs c = true) : jVal D (c :: r) = none := by
  rcases jWs_cases h with rfl | rfl | rfl | rfl <;> exact val_bad D r (by decide) (by decide) (by decide) (by decide) (by decide) (by decide) (by decide) (by decide) (by decide)
theorem val_sign {c : UInt8} (D : Nat) (r : Bs) (h : isSign c = true) (h0 : c ≠ 123) (h1 : c ≠ 91) : jVal D (c :: r) = none := by
  rcases isSign_cases h with rfl | rfl | rfl | rfl | rfl | rfl
  · exact absurd rfl h0
  · exact val_bad D r (by decide) (by decide) (by decide) (by decide) (by decide) (by decide) (by decide) (by decide) (by decide)
  · exact absurd rfl h1
  · exact val_bad D r (by decide) (by decide) (by decide) (by decide) (by decide) (by decide) (by decide) (by decide) (by decide)
  · exact val_bad D r (by decide) (by decide) (by decide) (by decide) (by decide) (by decide) (by decide) (by decide) (by decide)
  · exact val_bad D r (by decide) (by decide) (by decide) (by decide) (by decide) (by decide) (by decide) (by decide) (by decide)
theorem val_one {c : UInt8} (D : Nat) (r : Bs) (h0 : c ≠ 123) (h1 : c ≠ 91) : jVal (D + 1) (c :: r) = jVal 1 (c :: r) := by
  rw [jVal_cons, jVal_cons, if_neg h0, if_neg h1, if_neg h0, if_neg h1]

/-- The tokens of a value, of elements, of members. -/
inductive PT : List Tk → Prop
  | leaf (b : Bool) : PT [.leaf b]
  | list0 : PT [.sign 91, .sign 93]
  | obj0 : PT [.sign 123, .sign 125]
  | key {v : List Tk} : PT v → PT (.leaf false :: .sign 58 :: v)
  | more {a b : List Tk} : PT a → PT b → PT (a ++ .sign 44 :: b)
  | list {l : List Tk} : PT l → PT (.sign 91 :: (l ++ [.sign 93]))
  | obj {l : List Tk} : PT l → PT (.sign 123 :: (l ++ [.sign 125]))

/-- What is asked of a reader of values. -/
def Lexed (f : Bs → Option (J × Bs)) : Prop := ∀ s v r, f s = some (v, r) → ∃ l, PT l ∧ lex s = (lex r).map (l ++ ·)
theorem map_app (x : Option (List Tk)) (a b : List Tk) : (x.map (b ++ ·)).map (a ++ ·) = x.map ((a ++ b) ++ ·) := by
  rw [Option.map_map]
  congr 1
  funext z
  simp
theorem map_cons (x : Option (List Tk)) (a : Tk) (b : List Tk) : (x.map (b ++ ·)).map (a :: ·) = x.map ((a :: b) ++ ·) := by
  rw [Option.map_map]
  congr 1
theorem lex_to {s t : Bs} {c : UInt8} (h : jSkip s = c :: t) (hc : isSign c = true) : lex s = (lex t).map ([Tk.sign c] ++ ·) := by
  rw [← lex_skip, h, lex_sign hc]
  rfl
theorem elems_lexed {f : Bs → Option (J × Bs)} (hf : Lexed f) : ∀ (n : Nat) (s : Bs) (l : List J) (r : Bs), jElems f n s = some (l, r) → ∃ k, PT k ∧ lex s = (lex r).map ((k ++ [.sign 93]) ++ ·) := by
  intro n
  induction n with
  | zero => intro s l r h; cases h
  | succ n ih =>
    intro s l r h
    rw [jElems] at h
    cases hv : f (jSkip s) with
    | none => rw [hv] at h; cases h
    | some p =>
      obtain ⟨v, t⟩ := p
      simp only [hv] at h
      obtain ⟨k, hk, hl⟩ := hf _ _ _ hv
      rw [lex_skip] at hl
      cases ht : jSkip t with
      | nil => simp only [ht] at h; cases h
      | cons c u =>
        simp only [ht] at h
        split at h
        · rename_i hc
          subst hc
          simp only [Option.map_eq_some_iff, Prod.exists, Prod.mk.injEq] at h
          obtain ⟨a, b, hab, rfl, rfl⟩ := h
          obtain ⟨k2, hk2, hl2⟩ := ih _ _ _ hab
          refine ⟨k ++ .sign 44 :: k2, hk.more hk2, ?_⟩
          rw [hl, lex_to ht (by decide), hl2, map_app, map_app]
          simp
        · split at h
          · rename_i hc
            subst hc
            simp only [Option.some.injEq, Prod.mk.injEq] at h
            obtain ⟨rfl, rfl⟩ := h
            refine ⟨k, hk, ?_⟩
            rw [hl, lex_to ht (by decide), map_app]
          · cases h
theorem lex_str {r a b : Bs} (h : jRaw r = some (a, b)) : lex (34 :: r) = (lex b).map (Tk.leaf false :: ·) := by
  rw [lex_cons, if_neg (by decide), if_neg (by decide)]
  have e : jVal 1 (34 :: r) = some (.str a, b) := by
    rw [jVal_cons, if_neg (by decide), if_neg (by decide), if_pos rfl, h]
    rfl
  rw [e]
  rfl
theorem members_lexed {f : Bs → Option (J × Bs)} (hf : Lexed f) : ∀ (n : Nat) (s : Bs) (l : List (Bs × J)) (r : Bs), jMembers f n s = some (l, r) → ∃ k, PT k ∧ lex s = (lex r).map ((k ++ [.sign 125]) ++ ·) := by
  intro n
  induction n with
  | zero => intro s l r h; cases h
  | succ n ih =>
    intro s l r h
    rw [jMembers] at h
    cases hs : jSkip s with
    | nil => simp only [hs] at h; cases h
    | cons q r0 =>
      simp only [hs] at h
      by_cases hq : q = 34
      · rw [if_pos hq] at h
        subst hq
        cases hk : jRaw r0 with
        | none => simp only [hk] at h; cases h
        | some p =>
          obtain ⟨k, r1⟩ := p
          simp only [hk] at h
          cases h1 : jSkip r1 with
          | nil => simp only [h1] at h; cases h
          | cons c r2 =>
            simp only [h1] at h
            by_cases hc : c = 58
            · rw [if_pos hc] at h
              subst hc
              cases hv : f (jSkip r2) with
              | none => simp only [hv] at h; cases h
              | some p =>
                obtain ⟨v, t⟩ := p
                simp only [hv] at h
                obtain ⟨kt, hkt, hl⟩ := hf _ _ _ hv
                rw [lex_skip] at hl
                have hpre : lex s = (lex t).map ((.leaf false :: .sign 58 :: kt) ++ ·) := by
                  rw [← lex_skip, hs, lex_str hk, lex_to h1 (by decide), hl, map_app, map_cons]
                  rfl
                cases ht : jSkip t with
                | nil => simp only [ht] at h; cases h
                | cons e u =>
                  simp only [ht] at h
                  split at h
                  · rename_i he
                    subst he
                    simp only [Option.map_eq_some_iff, Prod.exists, Prod.mk.injEq] at h
                    obtain ⟨a, b, hab, rfl, rfl⟩ := h
                    obtain ⟨k2, hk2, hl2⟩ := ih _ _ _ hab
                    refine ⟨(.leaf false :: .sign 58 :: kt) ++ .sign 44 :: k2, hkt.key.more hk2, ?_⟩
                    rw [hpre, lex_to ht (by decide), hl2, map_app, map_app]
                    simp
                  · split at h
                    · rename_i he
                      subst he
                      simp only [Option.some.injEq, Prod.mk.injEq] at h
                      obtain ⟨rfl, rfl⟩ := h
                      refine ⟨_, hkt.key, ?_⟩
                      rw [hpre, lex_to ht (by decide), map_app]
                    · cases h
            · rw [if_neg hc] at h; cases h
      · rw [if_neg hq] at h; cases h
theorem val_lexed (D : Nat) : Lexed (jVal D) := by
  induction D with
  | zero => intro s v r h; cases h
  | succ D ih =>
    intro s v r h
    cases s with
    | nil => cases h
    | cons c s =>
      by_cases h0 : c = 123
      · subst h0
        rw [jVal_obj] at h
        unfold pobj at h
        rw [lex_sign (by decide)]
        cases hs : jSkip s with
        | nil => simp only [hs] at h; cases h
        | cons e u =>
          simp only [hs] at h
          split at h
          · rename_i he
            subst he
            simp only [Option.some.injEq, Prod.mk.injEq] at h
            obtain ⟨rfl, rfl⟩ := h
            refine ⟨_, .obj0, ?_⟩
            rw [lex_to hs (by decide), map_cons]
          · simp only [Option.map_eq_some_iff, Prod.exists, Prod.mk.injEq] at h
            obtain ⟨a, b, hab, rfl, rfl⟩ := h
            rw [← hs] at hab
            obtain ⟨k, hk, hl⟩ := members_lexed ih _ _ _ _ hab
            rw [lex_skip] at hl
            refine ⟨_, hk.obj, ?_⟩
            rw [hl, map_cons]
      · by_cases h1 : c = 91
        · subst h1
          rw [jVal_arr] at h
          unfold parr at h
          rw [lex_sign (by decide)]
          cases hs : jSkip s with
          | nil => simp only [hs] at h; cases h
          | cons e u =>
            simp only [hs] at h
            split at h
            · rename_i he
              subst he
              simp only [Option.some.injEq, Prod.mk.injEq] at h
              obtain ⟨rfl, rfl⟩ := h
              refine ⟨_, .list0, ?_⟩
              rw [lex_to hs (by decide), map_cons]
            · simp only [Option.map_eq_some_iff, Prod.exists, Prod.mk.injEq] at h
              obtain ⟨a, b, hab, rfl, rfl⟩ := h
              rw [← hs] at hab
              obtain ⟨k, hk, hl⟩ := elems_lexed ih _ _ _ _ hab
              rw [lex_skip] at hl
              refine ⟨_, hk.list, ?_⟩
              rw [hl, map_cons]
        · rw [val_one D s h0 h1] at h
          have hw : ¬ jWs c = true := by
            intro hw; rw [val_ws 1 s hw] at h; cases h
          have hg : ¬ isSign c = true := by
            intro hg; rw [val_sign 1 s hg h0 h1] at h; cases h
          refine ⟨[.leaf (jNumCh c)], .leaf _, ?_⟩
          rw [lex_cons, if_neg hw, if_neg hg, h]
          rfl
theorem parse_lexed {s : Bs} {v : J} (h : jParse s = some v) : ∃ l, PT l ∧ lex s = some l := by
  unfold jParse at h
  cases hv : jVal 300 (jSkip s) with
  | none => rw [hv] at h; cases h
  | some p =>
    obtain ⟨j, t⟩ := p
    simp only [hv] at h
    split at h
    · rename_i ht
      obtain ⟨l, hl, e⟩ := val_lexed 300 _ _ _ hv
      rw [lex_skip, ← lex_skip t, ht, lex_nil] at e
      exact ⟨l, hl, by rw [e]; simp⟩
    · cases h

/-! ### What they weigh -/
def Tk.w1 : Tk → Int | .sign c => if c = 123 then 1 else if c = 125 then -1 else 0 | .leaf _ => 0
def Tk.w2 : Tk → Int | .sign c => if c = 91 then 1 else if c = 93 then -1 else 0 | .leaf _ => 0
def Tk.w3 : Tk → Int | .sign c => if c = 58 ∨ c = 44 then -1 else 0 | .leaf _ => 1
def Tk.opens : Tk → Bool | .sign c => c == 123 || c == 91 | .leaf _ => false
def Tk.closes : Tk → Bool | .sign c => c == 125 || c == 93 | .leaf _ => false
def Tk.isLeaf : Tk → Bool | .sign _ => false | .leaf _ => true
def sumW (f : Tk → Int) (l : List Tk) : Int := (l.map f).sum
theorem sumW_nil (f : Tk → Int) : sumW f [] = 0 := rfl
theorem sumW_cons (f : Tk → Int) (a : Tk) (l : List Tk) : sumW f (a :: l) = f a + sumW f l := by simp [sumW]
theorem sumW_app (f : Tk → Int) (a b : List Tk) : sumW f (a ++ b) = sumW f a + sumW f b := by simp [sumW]
/-- How many lists and objects are empty. -/
def emp : List Tk → Int
  | [] => 0
  | [_] => 0
  | a :: b :: l => (if a.opens = true ∧ b.closes = true then 1 else 0) + emp (b :: l)
theorem emp_cons (a : Tk) (l : List Tk) : emp (a :: l) = (match l with | [] => 0 | b :: _ => if a.opens = true ∧ b.closes = true then 1 else 0) + emp l := by
  cases l with
  | nil => rfl
  | cons b l => rfl
theorem emp_noOpen {a : Tk} (l : List Tk) (h : a.opens = false) : emp (a :: l) = emp l := by
  rw [emp_cons]
  cases l with
  | nil => simp
  | cons b l => simp [h]
theorem emp_mid : ∀ (a : List Tk) (c : Tk) (b : List Tk), c.opens = false → c.closes = false → emp (a ++ c :: b) = emp a + emp b
  | [], c, b, h, _ => by rw [List.nil_append, emp_noOpen b h]; simp [emp]
  | [x], c, b, h, h2 => by
    rw [List.singleton_append, emp_cons, emp_noOpen b h]
    simp [h2, emp]
  | x :: y :: l, c, b, h, h2 => by
    have := emp_mid (y :: l) c b h h2
    rw [List.cons_append, emp_cons, this, emp_cons x (y :: l)]
    simp only [List.cons_append]
    omega
theorem emp_last : ∀ (a : List Tk) (z c : Tk), z.opens = false → emp (a ++ [z, c]) = emp (a ++ [z])
  | [], z, c, h => by rw [List.nil_append, emp_noOpen _ h]; rfl
  | x :: l, z, c, h => by
    have := emp_last l z c h
    rw [List.cons_append, List.cons_append, emp_cons, emp_cons x, this]
    cases l <;> rfl
theorem emp_nonneg : ∀ l : List Tk, 0 ≤ emp l
  | [] => Int.le_refl _
  | [_] => Int.le_refl _
  | a :: b :: l => by
    have := emp_nonneg (b :: l)
    have h : (0 : Int) ≤ if a.opens = true ∧ b.closes = true then 1 else 0 := by split <;> omega
    rw [emp_cons]
    simp only
    omega
theorem emp_super : ∀ (a b : List Tk), emp a + emp b ≤ emp (a ++ b)
  | [], b => by simp [emp]
  | [x], b => by
    rw [List.singleton_append, emp_cons x b, show emp [x] = 0 from rfl]
    cases b with
    | nil => simp [emp]
    | cons y b =>
      have h : (0 : Int) ≤ if x.opens = true ∧ y.closes = true then 1 else 0 := by split <;> omega
      simp only
      omega
  | x :: y :: l, b => by
    have := emp_super (y :: l) b
    rw [List.cons_append, emp_cons x (y :: l), emp_cons x (y :: l ++ b)]
    simp only [List.cons_append] at this ⊢
    omega
theorem emp_app {a b : List Tk} {z : Tk} {l : List Tk} (ha : a = l ++ [z]) (hz : z.opens = false) : emp (a ++ b) = emp a + emp b := by
  subst ha
  induction l with
  | nil => rw [List.nil_append, List.singleton_append, emp_noOpen b hz]; simp [emp]
  | cons x l ih =>
    rw [List.cons_append, List.cons_append, emp_cons, ih, emp_cons x (l ++ [z])]
    cases l with
    | nil => simp only [List.nil_append, List.singleton_append]; omega
    | cons y l => simp only [List.cons_append]; omega

/-- What stands beside what. -/
def nextOk (a b : Tk) : Prop := ¬ (a.isLeaf = true ∧ b.isLeaf = true) ∧ ¬ (a.isLeaf = true ∧ b.opens = true) ∧ ¬ (a.closes = true ∧ b.isLeaf = true) ∧ (b = .sign 58 → a = .leaf false)
def pairsOk : List Tk → Prop
  | [] => True
  | [_] => True
  | a :: b :: l => nextOk a b ∧ pairsOk (b :: l)
theorem pairsOk_app : ∀ {a b : List Tk}, pairsOk a → pairsOk b → (∀ x y l m, a = l ++ [x] → b = y :: m → nextOk x y) → pairsOk (a ++ b)
  | [], b, _, hb, _ => hb
  | [x], b, _, hb, h => by
    cases b with
    | nil => trivial
    | cons y b => exact ⟨h x y [] b rfl rfl, hb⟩
  | x :: y :: l, b, ha, hb, h => by
    have := pairsOk_app (a := y :: l) (b := b) ha.2 hb (fun x' y' l' m' e1 e2 => h x' y' (x :: l') m' (by rw [e1]; rfl) e2)
    exact ⟨ha.1, this⟩
theorem pairsOk_split : ∀ {l m : List Tk} {x y : Tk}, pairsOk (l ++ x :: y :: m) → nextOk x y
  | [], _, _, _, h => h.1
  | [a], _, _, _, h => h.2.1
  | a :: b :: l, m, x, y, h => pairsOk_split (l := b :: l) h.2
/-- What the tokens of a value weigh. -/
structure Weighs (l : List Tk) : Prop where
  b1 : sumW Tk.w1 l = 0
  b2 : sumW Tk.w2 l = 0
  b3 : sumW Tk.w3 l + emp l = 1
  head : ∃ a m, l = a :: m ∧ (a.isLeaf = true ∨ a.opens = true)
  last : ∃ m z, l = m ++ [z] ∧ (z.isLeaf = true ∨ z.closes = true)
  pairs : pairsOk l
theorem leaf_not_open {a : Tk} (h : a.isLeaf = true) : a.opens = false ∧ a.closes = false := by
  cases a with
  | sign c => cases h
  | leaf b => exact ⟨rfl, rfl⟩
theorem open_not_close {a : Tk} (h : a.opens = true) : a.closes = false ∧ a.isLeaf = false := by
  cases a with
  | leaf b => cases h
  | sign c =>
    simp only [Tk.opens, Bool.or_eq_true, beq_iff_eq] at h
    rcases h with rfl | rfl <;> exact ⟨by decide, rfl⟩
theorem close_not_open {a : Tk} (h : a.closes = true) : a.opens = false ∧ a.isLeaf = false := by
  cases a with
  | leaf b => cases h
  | sign c =>
    simp only [Tk.closes, Bool.or_eq_true, beq_iff_eq] at h
    rcases h with rfl | rfl <;> exact ⟨by decide, rfl⟩
theorem wrap_weighs {l : List Tk} (h : Weighs l) (o c : UInt8) (ho : (o = 91 ∧ c = 93) ∨ (o = 123 ∧ c = 125)) : Weighs (.sign o :: (l ++ [.sign c])) := by
  obtain ⟨a, m, ha, hah⟩ := h.head
  obtain ⟨m2, z, hz, hzl⟩ := h.last
  have hno : z.opens = false := by
    rcases hzl with e | e
    · exact (leaf_not_open e).1
    · exact (close_not_open e).1
  have hnc : a.closes = false := by
    rcases hah with e | e
    · exact (leaf_not_open e).2
    · exact (open_not_close e).1
  have hop : (Tk.sign o).opens = true ∧ (Tk.sign c).closes = true ∧ (Tk.sign c).opens = false := by
    rcases ho with ⟨rfl, rfl⟩ | ⟨rfl, rfl⟩ <;> exact ⟨by decide, by decide, by decide⟩
  have h1 := h.b1
  have h2 := h.b2
  have h3 := h.b3
  have he : emp (.sign o :: (l ++ [.sign c])) = emp l := by
    rw [emp_cons]
    have e1 : emp (l ++ [.sign c]) = emp l := by
      rw [emp_app hz hno]; simp [emp]
    rw [e1, ha]
    simp only [List.cons_append]
    rw [if_neg (by simp [hnc])]
    omega
  refine ⟨?_, ?_, ?_, ⟨_, _, rfl, Or.inr hop.1⟩, ⟨.sign o :: l, .sign c, by simp, Or.inr hop.2.1⟩, ?_⟩
  · rw [sumW_cons, sumW_app, sumW_cons, sumW_nil, h1]
    rcases ho with ⟨rfl, rfl⟩ | ⟨rfl, rfl⟩ <;> decide
  · rw [sumW_cons, sumW_app, sumW_cons, sumW_nil, h2]
    rcases ho with ⟨rfl, rfl⟩ | ⟨rfl, rfl⟩ <;> decide
  · rw [sumW_cons, sumW_app, sumW_cons, sumW_nil, he]
    have e3 : (Tk.sign o).w3 = 0 ∧ (Tk.sign c).w3 = 0 := by
      rcases ho with ⟨rfl, rfl⟩ | ⟨rfl, rfl⟩ <;> exact ⟨by decide, by decide⟩
    rw [e3.1, e3.2]
    omega
  · have hp : pairsOk (l ++ [.sign c]) := by
      refine pairsOk_app h.pairs trivial fun x y l' m' e1 e2 => ?_
      obtain ⟨rfl, _⟩ := List.cons.inj e2
      refine ⟨fun e => (by cases e.2), fun e => ?_, fun e => (by cases e.2), fun e => ?_⟩
      · rw [hop.2.2] at e; cases e.2
      · rcases ho with ⟨rfl, rfl⟩ | ⟨rfl, rfl⟩
        · revert e; simp
        · revert e; simp
    rw [ha] at hp ⊢
    refine ⟨⟨fun e => (by cases e.1), fun e => (by cases e.1), fun e => ?_, fun e => ?_⟩, hp⟩
    · have := e.1
      rw [(open_not_close hop.1).1] at this
      cases this
    · subst e
      rcases hah with e | e
      · cases e
      · exact absurd e (by decide)
theorem PT.weighs {l : List Tk} (h : PT l) : Weighs l := by
  induction h with
  | leaf b => exact ⟨rfl, rfl, rfl, ⟨_, _, rfl, Or.inl rfl⟩, ⟨[], _, rfl, Or.inl rfl⟩, trivial⟩
  | list0 => exact ⟨by decide, by decide, by decide, ⟨_, _, rfl, Or.inr (by decide)⟩, ⟨[.sign 91], _, rfl, Or.inr (by decide)⟩, ⟨⟨by decide, by decide, by decide, by simp⟩, trivial⟩⟩
  | obj0 => exact ⟨by decide, by decide, by decide, ⟨_, _, rfl, Or.inr (by decide)⟩, ⟨[.sign 123], _, rfl, Or.inr (by decide)⟩, ⟨⟨by decide, by decide, by decide, by simp⟩, trivial⟩⟩
  | @key v _ ih =>
    obtain ⟨m2, z, hz, hzl⟩ := ih.last
    have h1 := ih.b1
    have h2 := ih.b2
    have h3 := ih.b3
    obtain ⟨a, m, ha, hah⟩ := ih.head
    refine ⟨?_, ?_, ?_, ⟨_, _, rfl, Or.inl rfl⟩, ⟨.leaf false :: .sign 58 :: m2, z, by rw [hz]; rfl, hzl⟩, ?_⟩
    · rw [sumW_cons, sumW_cons, h1]; decide
    · rw [sumW_cons, sumW_cons, h2]; decide
    · rw [sumW_cons, sumW_cons, emp_noOpen _ rfl, emp_noOpen _ (by decide)]
      have e3 : (Tk.leaf false).w3 = 1 ∧ (Tk.sign 58).w3 = -1 := by decide
      rw [e3.1, e3.2]
      omega
    · refine ⟨⟨by decide, by decide, by decide, fun _ => rfl⟩, ?_⟩
      rw [ha]
      have hpp := ih.pairs
      rw [ha] at hpp
      refine ⟨⟨fun e => (by cases e.1), fun e => (by cases e.1), fun e => (by revert e; simp [Tk.closes]), fun e => ?_⟩, hpp⟩
      subst e
      rcases hah with e | e
      · cases e
      · exact absurd e (by decide)
  | @more a b _ _ iha ihb =>
    obtain ⟨m2, z, hz, hzl⟩ := ihb.last
    obtain ⟨x, m, hx, hxh⟩ := iha.head
    obtain ⟨y, n, hy, hyh⟩ := ihb.head
    have h1 := iha.b1
    have h2 := iha.b2
    have h3 := iha.b3
    have g1 := ihb.b1
    have g2 := ihb.b2
    have g3 := ihb.b3
    have e3 : (Tk.sign 44).w1 = 0 ∧ (Tk.sign 44).w2 = 0 ∧ (Tk.sign 44).w3 = -1 := by decide
    refine ⟨?_, ?_, ?_, ⟨x, m ++ .sign 44 :: b, by rw [hx]; rfl, hxh⟩, ⟨a ++ .sign 44 :: m2, z, by rw [hz]; simp, hzl⟩, ?_⟩
    · rw [sumW_app, sumW_cons, h1, g1, e3.1]; rfl
    · rw [sumW_app, sumW_cons, h2, g2, e3.2.1]; rfl
    · rw [sumW_app, sumW_cons, emp_mid _ _ _ (by decide) (by decide), e3.2.2]
      omega
    · refine pairsOk_app iha.pairs ?_ fun x' y' l' m' e1 e2 => ?_
      · rw [hy]
        have hpp := ihb.pairs
        rw [hy] at hpp
        refine ⟨⟨fun e => (by cases e.1), fun e => (by cases e.1), fun e => (by revert e; simp [Tk.closes]), fun e => ?_⟩, hpp⟩
        subst e
        rcases hyh with e | e
        · cases e
        · exact absurd e (by decide)
      · obtain ⟨rfl, _⟩ := List.cons.inj e2
        exact ⟨fun e => (by cases e.2), fun e => (by revert e; simp [Tk.opens]), fun e => (by cases e.2), fun e => (by revert e; simp)⟩
  | list _ ih => exact wrap_weighs ih 91 93 (Or.inl ⟨rfl, rfl⟩)
  | obj _ ih => exact wrap_weighs ih 123 125 (Or.inr ⟨rfl, rfl⟩)
end Go.Proofs.YtppkpcijmfdfmaaGreatDoor

/- The plain side: the tokens of a tree; a text with a sign lost or doubled is none. No program in sight. -/
namespace Go.Proofs.YtppkpcijmfdfmaaGreatDoor
variable {N M : Nat}

/-- What stands ahead of a kid's tokens. -/
def tName (ob : Bool) (ns : List Bs) : List Bs := if ob = true then [(hText (ns.headD []) 0).1, [58]] else []
def tMore (f : HT → List Bs) (ob : Bool) : List Bs → List HT → List Bs
  | _, [] => []
  | ns, k :: r => [44] :: (tName ob ns ++ (f k ++ tMore f ob ns.tail r))
def tKids (f : HT → List Bs) (ob : Bool) (ns : List Bs) : List HT → List Bs
  | [] => []
  | k :: r => tName ob ns ++ (f k ++ tMore f ob ns.tail r)
/-- The tokens of a tree. -/
def hToks : Nat → HT → List Bs
  | 0, _ => []
  | d + 1, t => if t.kind < 4 then [(hScalar t 0).1] else [if t.kind = 5 then 123 else 91] :: (tKids (hToks d) (t.kind == 5) t.names t.kids ++ [[if t.kind = 5 then 125 else 93]])

theorem tName_flat (ob : Bool) (ns : List Bs) : (tName ob ns).flatten = (hName ob ns 0).1 := by
  unfold tName hName
  split
  · simp only [hText_zero, blank_zero, List.flatten_cons, List.flatten_nil, List.nil_append, List.append_nil]
  · rfl
theorem tMore_flat {f : HT → List Bs} {g : HT → Nat → Bs × Nat} (hz : ∀ k, (g k 0).2 = 0) (hf : ∀ k, (f k).flatten = (g k 0).1) (ob : Bool) : ∀ (l : List HT) (ns : List Bs), (tMore f ob ns l).flatten = (hMore g ob ns l 0).1
  | [], _ => rfl
  | k :: r, ns => by
    unfold tMore hMore hKid
    simp only [blank_zero, hName_zero, hz, List.flatten_cons, List.flatten_append, tName_flat, hf, tMore_flat hz hf ob r, List.nil_append, List.append_nil, List.cons_append, List.append_assoc]
theorem tKids_flat {f : HT → List Bs} {g : HT → Nat → Bs × Nat} (hz : ∀ k, (g k 0).2 = 0) (hf : ∀ k, (f k).flatten = (g k 0).1) (ob : Bool) (l : List HT) (ns : List Bs) : (tKids f ob ns l).flatten = (hKids g ob ns l 0).1 := by
  cases l with
  | nil => rfl
  | cons k r =>
    unfold tKids hKids hKid
    simp only [blank_zero, hName_zero, hz, List.flatten_append, tName_flat, hf, tMore_flat hz hf ob r, List.append_nil, List.append_assoc]
theorem hToks_flat (d : Nat) : ∀ t, (hToks d t).flatten = (hTree d t 0).1 := by
  induction d with
  | zero => intro t; rfl
  | succ d ih =>
    intro t
    rw [hToks, hTree]
    split
    · simp
    · simp only [blank_zero, List.flatten_cons, List.flatten_append, tKids_flat (hTree_zero d) ih, List.flatten_nil, List.append_nil, List.nil_append, List.cons_append]

/-- A token as it is written. -/
def TkB (b : Bs) (k : Tk) : Prop := (∃ c, isSign c = true ∧ b = [c] ∧ k = .sign c) ∨
  ∃ c r, b = c :: r ∧ jWs c = false ∧ isSign c = false ∧ k = .leaf (jNumCh c) ∧ (jNumCh c = true → c.toNat = 45 ∨ (48 ≤ c.toNat ∧ c.toNat ≤ 57)) ∧ ∀ s, (jNumCh c = true → NumEnd s) → ∃ v, jVal 1 (b ++ s) = some (v, s)
theorem TkB.sign {c : UInt8} (h : isSign c = true) : TkB [c] (.sign c) := Or.inl ⟨c, h, rfl, rfl⟩
theorem All2.append {α β : Type} {R : α → β → Prop} : ∀ {l : List α} {m : List β} {l' : List α} {m' : List β}, All2 R l m → All2 R l' m' → All2 R (l ++ l') (m ++ m')
  | [], [], _, _, _, h => h
  | [], _ :: _, _, _, h, _ => h.elim
  | _ :: _, [], _, _, h, _ => h.elim
  | _ :: _, _ :: _, _, _, h, g => ⟨h.1, h.2.append g⟩
theorem All2.one {α β : Type} {R : α → β → Prop} {a : α} {b : β} (h : R a b) : All2 R [a] [b] := ⟨h, trivial⟩
theorem text_tkb {s : Bs} (h : Lib.validD s = true) : TkB (hText s 0).1 (.leaf false) := by
  refine Or.inr ⟨34, _, rfl, by decide, by decide, rfl, fun e => by revert e; decide, fun r _ => ?_⟩
  obtain ⟨raw, e1, e2, _⟩ := text_back h 0 r
  refine ⟨.str raw, ?_⟩
  rw [e1, jVal_cons, if_neg (by decide), if_neg (by decide), if_pos rfl, e2]
  rfl
theorem not_sign_of {c : UInt8} (h : c.toNat = 45 ∨ (48 ≤ c.toNat ∧ c.toNat ≤ 57)) : jWs c = false ∧ isSign c = false ∧ jNumCh c = true := by
  refine ⟨?_, ?_, ?_⟩
  · cases hw : jWs c with
    | false => rfl
    | true => rcases jWs_cases hw with rfl | rfl | rfl | rfl <;> (revert h; decide)
  · cases hw : isSign c with
    | false => rfl
    | true => rcases isSign_cases hw with rfl | rfl | rfl | rfl | rfl | rfl <;> (revert h; decide)
  · rcases h with h | h
    · have : c = 45 := UInt8.toNat_inj.1 h
      subst this
      rfl
    · exact digit_numCh h
theorem scalar_tkb {t : HT} (h : t.kind < 4) (ht : TextsOk t.texts) : ∃ b, TkB (hScalar t 0).1 (.leaf b) := by
  unfold hScalar
  by_cases h0 : t.kind = 0
  · rw [if_pos h0]
    exact ⟨false, Or.inr ⟨110, _, rfl, by decide, by decide, rfl, fun e => (by revert e; decide), fun r _ => ⟨.null, rfl⟩⟩⟩
  rw [if_neg h0]
  by_cases h1 : t.kind = 1
  · rw [if_pos h1]
    cases t.is with
    | true => exact ⟨false, Or.inr ⟨116, _, rfl, by decide, by decide, rfl, fun e => (by revert e; decide), fun r _ => ⟨.tru, rfl⟩⟩⟩
    | false => exact ⟨false, Or.inr ⟨102, _, rfl, by decide, by decide, rfl, fun e => (by revert e; decide), fun r _ => ⟨.fls, rfl⟩⟩⟩
  rw [if_neg h1]
  by_cases h2 : t.kind = 2
  · rw [if_pos h2]
    obtain ⟨c, u, hc, hcr⟩ := hNum_head t.minus t.num
    obtain ⟨n1, n2, n3⟩ := not_sign_of hcr
    refine ⟨true, Or.inr ⟨c, u, hc, n1, n2, by rw [n3], fun _ => hcr, fun r hr => ⟨.num (hNum t.minus t.num), ?_⟩⟩⟩
    have hb := hNum_back t.minus t.num r (hr n3)
    simp only
    rw [hc] at hb ⊢
    rw [List.cons_append] at hb ⊢
    have hne : ∀ k : UInt8, ¬ (k.toNat = 45 ∨ (48 ≤ k.toNat ∧ k.toNat ≤ 57)) → c ≠ k := by
      intro k hk e; subst e; exact hk hcr
    rw [jVal_cons, if_neg (hne 123 (by decide)), if_neg (hne 91 (by decide)), if_neg (hne 34 (by decide)), if_neg (hne 116 (by decide)), if_neg (hne 102 (by decide)), if_neg (hne 110 (by decide)), hb]
    rfl
  · rw [if_neg h2]
    have h3 : t.kind = 3 := by omega
    exact ⟨false, text_tkb (ht t.text (by unfold HT.texts; rw [if_pos h3]; simp)).2⟩

theorem more_pt {f : HT → List Bs} {ob : Bool} : ∀ (ks : List HT) (k : HT) (ns : List Bs), (∀ k' ∈ k :: ks, ∃ l, All2 TkB (f k') l ∧ PT l) → (ob = true → ns.length = (k :: ks).length ∧ ∀ s ∈ ns, Lib.validD s = true) →
    ∃ l, All2 TkB (tKids f ob ns (k :: ks)) l ∧ PT l := by
  intro ks
  induction ks with
  | nil =>
    intro k ns hf hn
    obtain ⟨l, h1, h2⟩ := hf k (by simp)
    have e : tKids f ob ns [k] = tName ob ns ++ f k := by
      show tName ob ns ++ (f k ++ []) = _
      rw [List.append_nil]
    rw [e]
    unfold tName
    split
    · rename_i hob
      obtain ⟨n1, n2⟩ := hn hob
      match ns, n1 with
      | [s], _ => exact ⟨.leaf false :: .sign 58 :: l, ⟨text_tkb (n2 s (by simp)), TkB.sign rfl, h1⟩, h2.key⟩
    · exact ⟨l, h1, h2⟩
  | cons k2 ks ih =>
    intro k ns hf hn
    obtain ⟨l, h1, h2⟩ := hf k (by simp)
    obtain ⟨m, g1, g2⟩ := ih k2 ns.tail (fun k' hk' => hf k' (by simp [List.mem_cons.1 hk'])) (fun hob => by
      obtain ⟨n1, n2⟩ := hn hob
      exact ⟨by rw [List.length_tail, n1]; simp, fun s hs => n2 s (List.mem_of_mem_tail hs)⟩)
    have e : tMore f ob ns.tail (k2 :: ks) = [44] :: tKids f ob ns.tail (k2 :: ks) := rfl
    have hm : All2 TkB (tMore f ob ns.tail (k2 :: ks)) (.sign 44 :: m) := by
      rw [e]
      exact ⟨TkB.sign rfl, g1⟩
    rw [tKids]
    unfold tName
    split
    · rename_i hob
      obtain ⟨n1, n2⟩ := hn hob
      match ns, n1 with
      | s :: ns', _ =>
        refine ⟨(.leaf false :: .sign 58 :: l) ++ .sign 44 :: m, ?_, h2.key.more g2⟩
        exact ⟨text_tkb (n2 s (by simp)), TkB.sign rfl, h1.append hm⟩
    · exact ⟨l ++ .sign 44 :: m, h1.append hm, h2.more g2⟩
theorem toks_pt (d : Nat) : ∀ (t : HT) (deep n : Nat), Sized N M d t deep n → ∃ l, All2 TkB (hToks d t) l ∧ PT l := by
  induction d with
  | zero => intro t deep n h; cases h
  | succ d ih =>
    intro t deep n h
    obtain ⟨h1, h2, h3, h4, h5, h6⟩ := h
    rw [hToks]
    by_cases hk : t.kind < 4
    · rw [if_pos hk]
      obtain ⟨b, hb⟩ := scalar_tkb hk h5
      exact ⟨[.leaf b], All2.one hb, .leaf b⟩
    · rw [if_neg hk]
      obtain ⟨ms, ha, hn⟩ : ∃ ms : List Nat, All2 (fun k m => Sized N M d k (deep + 1) m) t.kids ms ∧ n = 1 + ms.sum := by
        rcases h6 with h6 | h6
        · exact absurd h6.1 hk
        · exact h6.2.2
      have hf : ∀ k ∈ t.kids, ∃ l, All2 TkB (hToks d k) l ∧ PT l := by
        intro k hkm
        obtain ⟨m, _, hs⟩ := ha.of_mem k hkm
        exact ih k _ _ hs
      have hnm : (t.kind == 5) = true → t.names.length = t.kids.length ∧ ∀ s ∈ t.names, Lib.validD s = true := by
        intro e
        have k5 := eq_of_beq e
        refine ⟨h4 k5, fun s hs => (h5 s ?_).2⟩
        unfold HT.texts
        rw [if_neg (by omega), if_pos k5]
        exact hs
      have hkids : ∀ o c : UInt8, isSign o = true → isSign c = true → (∀ {l}, PT l → PT (.sign o :: (l ++ [.sign c]))) → PT [.sign o, .sign c] →
          ∃ l, All2 TkB ([o] :: (tKids (hToks d) (t.kind == 5) t.names t.kids ++ [[c]])) l ∧ PT l := by
        intro o c ho hc hw h0
        rcases hks : t.kids with _ | ⟨k, ks⟩
        · exact ⟨[.sign o, .sign c], ⟨TkB.sign ho, TkB.sign hc, trivial⟩, h0⟩
        · rw [hks] at hf hnm
          obtain ⟨l, g1, g2⟩ := more_pt (ob := (t.kind == 5)) ks k t.names hf hnm
          exact ⟨.sign o :: (l ++ [.sign c]), ⟨TkB.sign ho, g1.append (All2.one (TkB.sign hc))⟩, hw g2⟩
      by_cases k5 : t.kind = 5
      · simp only [if_pos k5]
        exact hkids 123 125 rfl rfl (fun h => h.obj) .obj0
      · simp only [if_neg k5]
        exact hkids 91 93 rfl rfl (fun h => h.list) .list0

/-- No two numbers stand side by side. -/
def numOk : List Tk → Prop
  | [] => True
  | [_] => True
  | a :: b :: l => ¬ (a = .leaf true ∧ b = .leaf true) ∧ numOk (b :: l)
theorem pairs_num : ∀ {l : List Tk}, pairsOk l → numOk l
  | [], _ => trivial
  | [_], _ => trivial
  | a :: b :: l, h => ⟨fun e => h.1.1 ⟨by rw [e.1]; rfl, by rw [e.2]; rfl⟩, pairs_num (l := b :: l) h.2⟩
theorem numOk_app : ∀ {a b : List Tk}, numOk a → numOk b → (∀ x y l m, a = l ++ [x] → b = y :: m → ¬ (x = .leaf true ∧ y = .leaf true)) → numOk (a ++ b)
  | [], b, _, hb, _ => hb
  | [x], b, _, hb, h => by
    cases b with
    | nil => trivial
    | cons y b => exact ⟨h x y [] b rfl rfl, hb⟩
  | x :: y :: l, b, ha, hb, h => by
    have := numOk_app (a := y :: l) (b := b) ha.2 hb (fun x' y' l' m' e1 e2 => h x' y' (x :: l') m' (by rw [e1]; rfl) e2)
    exact ⟨ha.1, this⟩
theorem numOk_left : ∀ {a b : List Tk}, numOk (a ++ b) → numOk a
  | [], _, _ => trivial
  | [_], _, _ => trivial
  | x :: y :: l, b, h => ⟨h.1, numOk_left (a := y :: l) (b := b) h.2⟩
theorem numOk_tail {a : Tk} : ∀ {l : List Tk}, numOk (a :: l) → numOk l
  | [], _ => trivial
  | _ :: _, h => h.2
theorem numOk_right : ∀ {a b : List Tk}, numOk (a ++ b) → numOk b
  | [], _, h => h
  | x :: l, b, h => numOk_right (a := l) (b := b) (numOk_tail h)
/-- How the next token begins. -/
theorem tkb_head {b : Bs} {k : Tk} (h : TkB b k) : ∃ c r, b = c :: r ∧ (jNumCh c = true → k = .leaf true) := by
  rcases h with ⟨c, hc, rfl, rfl⟩ | ⟨c, r, rfl, _, _, rfl, _⟩
  · refine ⟨c, [], rfl, fun e => ?_⟩
    rcases isSign_cases hc with rfl | rfl | rfl | rfl | rfl | rfl <;> exact absurd e (by decide)
  · exact ⟨c, r, rfl, fun e => by rw [e]⟩
theorem lex_tok {b : Bs} {k : Tk} (h : TkB b k) (s : Bs) (hs : k = .leaf true → NumEnd s) : lex (b ++ s) = (lex s).map (k :: ·) := by
  rcases h with ⟨c, hc, rfl, rfl⟩ | ⟨c, r, rfl, h1, h2, rfl, _, h3⟩
  · exact lex_sign hc s
  · obtain ⟨v, hv⟩ := h3 s (fun e => hs (by rw [e]))
    rw [List.cons_append] at hv ⊢
    rw [lex_cons, if_neg (by simp [h1]), if_neg (by simp [h2]), hv]
theorem flat_end {l : List Bs} {ks : List Tk} (h : All2 TkB l ks) (hn : ∀ k m, ks = k :: m → k ≠ .leaf true) : NumEnd l.flatten := by
  match l, ks, h with
  | [], _, _ => intro c t e; cases e
  | b :: l, k :: ks, h =>
    obtain ⟨c, r, rfl, hc⟩ := tkb_head h.1
    intro c' t e
    rw [List.flatten_cons, List.cons_append] at e
    obtain ⟨rfl, _⟩ := List.cons.inj e
    cases hx : jNumCh c with
    | false => rfl
    | true => exact absurd (hc hx) (hn k ks rfl)
theorem lex_flat : ∀ {l : List Bs} {ks : List Tk}, All2 TkB l ks → numOk ks → ∀ s, (∀ m, ks = m ++ [.leaf true] → NumEnd s) → lex (l.flatten ++ s) = (lex s).map (ks ++ ·)
  | [], [], _, _, s, _ => by simp
  | [], _ :: _, h, _, _, _ => h.elim
  | _ :: _, [], h, _, _, _ => h.elim
  | b :: l, k :: ks, h, hn, s, hs => by
    have ih := lex_flat (l := l) (ks := ks) h.2 (numOk_tail hn) s (fun m e => hs (k :: m) (by rw [e]; rfl))
    rw [List.flatten_cons, List.append_assoc, lex_tok h.1 (l.flatten ++ s), ih, map_cons]
    intro hk
    subst hk
    match l, ks, h.2, hn with
    | [], [], _, _ => exact hs [] rfl
    | b2 :: l, k2 :: ks, h2, hn =>
      obtain ⟨c, r, rfl, hc⟩ := tkb_head h2.1
      intro c' t e
      rw [List.flatten_cons, List.append_assoc, List.cons_append] at e
      obtain ⟨rfl, _⟩ := List.cons.inj e
      cases hx : jNumCh c with
      | false => rfl
      | true => exact absurd ⟨rfl, hc hx⟩ hn.1
theorem lex_all {l : List Bs} {ks : List Tk} (h : All2 TkB l ks) (hn : numOk ks) : lex l.flatten = some ks := by
  have := lex_flat h hn [] (fun _ _ c t e => by cases e)
  rw [List.append_nil, lex_nil] at this
  simpa using this
theorem All2.length {α β : Type} {R : α → β → Prop} : ∀ {l : List α} {m : List β}, All2 R l m → l.length = m.length
  | [], [], _ => rfl
  | [], _ :: _, h => h.elim
  | _ :: _, [], h => h.elim
  | _ :: _, _ :: _, h => by rw [List.length_cons, List.length_cons, h.2.length]
theorem All2.at {α β : Type} {R : α → β → Prop} : ∀ {l : List α} {m : List β}, All2 R l m → ∀ (i : Nat) a, l[i]? = some a → ∃ b, m[i]? = some b ∧ R a b
  | [], [], _, i, a, h => by simp at h
  | [], _ :: _, h, _, _, _ => h.elim
  | _ :: _, [], h, _, _, _ => h.elim
  | x :: l, y :: m, h, 0, a, e => by
    simp at e
    subst e
    exact ⟨y, rfl, h.1⟩
  | x :: l, y :: m, h, i + 1, a, e => h.2.at i a (by simpa using e)
theorem All2.take {α β : Type} {R : α → β → Prop} : ∀ {l : List α} {m : List β}, All2 R l m → ∀ n, All2 R (l.take n) (m.take n)
  | [], [], _, n => by simp [All2]
  | [], _ :: _, h, _ => h.elim
  | _ :: _, [], h, _ => h.elim
  | x :: l, y :: m, h, 0 => trivial
  | x :: l, y :: m, h, n + 1 => ⟨h.1, h.2.take n⟩
theorem All2.drop {α β : Type} {R : α → β → Prop} : ∀ {l : List α} {m : List β}, All2 R l m → ∀ n, All2 R (l.drop n) (m.drop n)
  | [], [], _, n => by simp [All2]
  | [], _ :: _, h, _ => h.elim
  | _ :: _, [], h, _ => h.elim
  | x :: l, y :: m, h, 0 => h
  | x :: l, y :: m, h, n + 1 => h.2.drop n
/-- A number's first byte, as the statement asks it. -/
def isNumB (b : Bs) : Bool := match b with | [] => false | c :: _ => c == 45 || (48 ≤ c && c ≤ 57)
theorem tkb_num {b : Bs} {k : Tk} (h : TkB b k) (hk : k = .leaf true) : isNumB b = true := by
  subst hk
  rcases h with ⟨c, hc, rfl, e⟩ | ⟨c, r, rfl, _, _, e, hn, _⟩
  · cases e
  · have e2 : jNumCh c = true := (Tk.leaf.inj e).symm
    rcases hn e2 with h | h
    · have : c = 45 := UInt8.toNat_inj.1 h
      subst this
      rfl
    · unfold isNumB
      have h1 : (48 : UInt8) ≤ c := by rw [UInt8.le_iff_toNat_le]; exact h.1
      have h2 : c ≤ (57 : UInt8) := by rw [UInt8.le_iff_toNat_le]; exact h.2
      simp [h1, h2]
theorem tkb_sign {c : UInt8} {k : Tk} (h : TkB [c] k) (hc : isSign c = true) : k = .sign c := by
  rcases h with ⟨c', _, e, rfl⟩ | ⟨c', r, e, _, h2, _⟩
  · rw [(List.cons.inj e).1]
  · rw [← (List.cons.inj e).1, hc] at h2
    cases h2
theorem split_at {α : Type} {l : List α} {k : Nat} {a : α} (h : l[k]? = some a) : l = l.take k ++ a :: l.drop (k + 1) := by
  have hlt := (List.getElem?_eq_some_iff.1 h).1
  have := List.take_append_drop k l
  rw [List.drop_eq_getElem_cons hlt, (List.getElem?_eq_some_iff.1 h).2] at this
  exact this.symm
theorem last_at {α : Type} {l m : List α} {k : Nat} {x : α} (h : l.take k = m ++ [x]) (hk : k ≤ l.length) : k = m.length + 1 ∧ l[m.length]? = some x := by
  have e := congrArg List.length h
  rw [List.length_take, List.length_append, List.length_cons, List.length_nil, Nat.min_eq_left hk] at e
  refine ⟨e, ?_⟩
  have := congrArg (fun z => z[m.length]?) h
  simp only [List.getElem?_append_right (Nat.le_refl _), Nat.sub_self, List.getElem?_cons_zero] at this
  rw [← this, List.getElem?_take_of_lt (by omega)]
theorem head_at {α : Type} {l m : List α} {k : Nat} {y : α} (h : l.drop k = y :: m) : l[k]? = some y := by
  have := congrArg (fun z => z[0]?) h
  simpa using this

theorem w_other {c : UInt8} (h : isSign c = true) (h1 : (Tk.sign c).w1 = 0) (h2 : (Tk.sign c).w2 = 0) : (Tk.sign c).w3 = -1 ∧ (Tk.sign c).opens = false ∧ (Tk.sign c).closes = false := by
  rcases isSign_cases h with rfl | rfl | rfl | rfl | rfl | rfl
  · revert h1; decide
  · revert h1; decide
  · revert h2; decide
  · revert h2; decide
  · decide
  · decide
/-- A text without one of its signs is none (but a comma between two numbers). -/
theorem lost_none {l : List Bs} {ks : List Tk} (h : All2 TkB l ks) (hp : PT ks) (k : Nat) (c : UInt8) (hk : l[k]? = some [c]) (hc : isSign c = true)
    (hg : c = 44 → ∀ x y, 0 < k → l[k - 1]? = some x → l[k + 1]? = some y → ¬ (isNumB x = true ∧ isNumB y = true)) : jParse (l.take k ++ l.drop (k + 1)).flatten = none := by
  obtain ⟨t, ht, hb⟩ := h.at k [c] hk
  obtain rfl := tkb_sign hb hc
  have hlt : k < ks.length := (List.getElem?_eq_some_iff.1 ht).1
  have hw := hp.weighs
  have hsp := split_at ht
  have hn := pairs_num hw.pairs
  rw [hsp] at hn
  have hnj : numOk (ks.take k ++ ks.drop (k + 1)) := by
    refine numOk_app (numOk_left hn) (numOk_tail (numOk_right hn)) fun x y l' m' e1 e2 => ?_
    rintro ⟨rfl, rfl⟩
    obtain ⟨hk1, hx⟩ := last_at e1 (by omega)
    have hy := head_at e2
    have hpr := hw.pairs
    rw [hsp, e1, e2, List.append_assoc] at hpr
    have n1 := pairsOk_split hpr
    have hpr2 : pairsOk ((l' ++ [.leaf true]) ++ .sign c :: .leaf true :: m') := by rw [List.append_assoc]; exact hpr
    have n2 := pairsOk_split hpr2
    rcases isSign_cases hc with rfl | rfl | rfl | rfl | rfl | rfl
    · exact n1.2.1 ⟨rfl, by decide⟩
    · exact n2.2.2.1 ⟨by decide, rfl⟩
    · exact n1.2.1 ⟨rfl, by decide⟩
    · exact n2.2.2.1 ⟨by decide, rfl⟩
    · have := n1.2.2.2 rfl
      cases this
    · have hlen := h.length
      have hkl : k + 1 < ks.length := (List.getElem?_eq_some_iff.1 hy).1
      have g1 : l[k - 1]? = some (l[k - 1]'(by omega)) := List.getElem?_eq_getElem (by omega)
      have g2 : l[k + 1]? = some (l[k + 1]'(by omega)) := List.getElem?_eq_getElem (by omega)
      obtain ⟨t1, a1, a2⟩ := h.at _ _ g1
      obtain ⟨t2, b1, b2⟩ := h.at _ _ g2
      rw [show k - 1 = l'.length by omega, hx] at a1
      rw [hy] at b1
      exact hg rfl _ _ (by omega) g1 g2 ⟨tkb_num a2 (Option.some.inj a1).symm, tkb_num b2 (Option.some.inj b1).symm⟩
  have hlex := lex_all ((h.take k).append (h.drop (k + 1))) hnj
  cases hj : jParse (l.take k ++ l.drop (k + 1)).flatten with
  | none => rfl
  | some v =>
    exfalso
    obtain ⟨m, hm, he⟩ := parse_lexed hj
    rw [hlex] at he
    obtain rfl := Option.some.inj he
    have g := hm.weighs
    have e1 := hw.b1
    have e2 := hw.b2
    have e3 := hw.b3
    rw [hsp, sumW_app, sumW_cons] at e1 e2 e3
    have f1 := g.b1
    have f2 := g.b2
    have f3 := g.b3
    rw [sumW_app] at f1 f2 f3
    obtain ⟨c3, co, cc⟩ := w_other hc (by omega) (by omega)
    rw [emp_mid _ _ _ co cc, c3] at e3
    have := emp_super (ks.take k) (ks.drop (k + 1))
    omega
/-- A text with one of its signs twice is none. -/
theorem doubled_none {l : List Bs} {ks : List Tk} (h : All2 TkB l ks) (hp : PT ks) (k : Nat) (c : UInt8) (hk : l[k]? = some [c]) (hc : isSign c = true) : jParse (l.take (k + 1) ++ l.drop k).flatten = none := by
  obtain ⟨t, ht, hb⟩ := h.at k [c] hk
  obtain rfl := tkb_sign hb hc
  have hlt : k < ks.length := (List.getElem?_eq_some_iff.1 ht).1
  have hw := hp.weighs
  have hsp := split_at ht
  have hn := pairs_num hw.pairs
  have hdr : ks.drop k = .sign c :: ks.drop (k + 1) := by rw [List.drop_eq_getElem_cons hlt, (List.getElem?_eq_some_iff.1 ht).2]
  have htk : ks.take (k + 1) = ks.take k ++ [.sign c] := by rw [List.take_succ_eq_append_getElem hlt, (List.getElem?_eq_some_iff.1 ht).2]
  have hnj : numOk (ks.take (k + 1) ++ ks.drop k) := by
    refine numOk_app (numOk_left (b := ks.drop (k + 1)) (by rwa [List.take_append_drop])) (numOk_right (a := ks.take k) (by rwa [List.take_append_drop])) fun x y l' m' e1 e2 => ?_
    rw [hdr] at e2
    obtain ⟨rfl, _⟩ := List.cons.inj e2
    rintro ⟨_, e⟩
    cases e
  have hlex := lex_all ((h.take (k + 1)).append (h.drop k)) hnj
  cases hj : jParse (l.take (k + 1) ++ l.drop k).flatten with
  | none => rfl
  | some v =>
    exfalso
    obtain ⟨m, hm, he⟩ := parse_lexed hj
    rw [hlex] at he
    obtain rfl := Option.some.inj he
    have g := hm.weighs
    have e1 := hw.b1
    have e2 := hw.b2
    have e3 := hw.b3
    rw [hsp, sumW_app, sumW_cons] at e1 e2 e3
    have f1 := g.b1
    have f2 := g.b2
    have f3 := g.b3
    rw [htk, hdr, List.append_assoc, List.singleton_append, sumW_app, sumW_cons, sumW_cons] at f1 f2 f3
    obtain ⟨c3, co, cc⟩ := w_other hc (by omega) (by omega)
    rw [emp_mid _ _ _ co cc, c3] at e3
    rw [emp_mid _ _ _ co cc, emp_noOpen _ co, c3] at f3
    omega
end Go.Proofs.YtppkpcijmfdfmaaGreatDoor

/- The plain side: an object with a word that is none of JSON in the place of a value is none. No program in sight. -/
namespace Go.Proofs.YtppkpcijmfdfmaaGreatDoor
variable {N M : Nat}

/-! ### An odd quotation mark -/
/-- No quotation mark stands ahead of the first reverse solidus. -/
def NQ : Bs → Prop
  | [] => True
  | c :: r => c = 92 ∨ (c ≠ 34 ∧ NQ r)
theorem NQ.drop : ∀ {w r : Bs}, NQ (w ++ r) → (∀ c ∈ w, c ≠ 92) → NQ r
  | [], _, h, _ => h
  | c :: w, r, h, hw => by
    rcases h with h | h
    · exact absurd h (hw c (by simp))
    · exact NQ.drop (w := w) h.2 fun d hd => hw d (by simp [hd])
theorem take_inside {w : Bs} : ∀ {r s : Bs}, (r ++ 34 :: s).take w.length = w → (∀ c ∈ w, c ≠ 34) → ∃ r', r = w ++ r' := by
  induction w with
  | nil => intro r s _ _; exact ⟨r, rfl⟩
  | cons c w ih =>
    intro r s h hw
    cases r with
    | nil =>
      rw [List.nil_append, List.length_cons, List.take_succ_cons] at h
      exact absurd (List.cons.inj h).1.symm (hw c (by simp))
    | cons d r =>
      rw [List.cons_append, List.length_cons, List.take_succ_cons] at h
      obtain ⟨rfl, h2⟩ := List.cons.inj h
      obtain ⟨r', rfl⟩ := ih h2 fun e he => hw e (by simp [he])
      exact ⟨r', rfl⟩
theorem dropWhile_stop {p : UInt8 → Bool} (x : Bs) (c : UInt8) (s : Bs) (h : p c = false) : (x ++ c :: s).dropWhile p = x.dropWhile p ++ c :: s ∧ (x ++ c :: s).takeWhile p = x.takeWhile p := by
  induction x with
  | nil => simp [h]
  | cons d x ih =>
    by_cases hd : p d = true
    · simp [hd, ih]
    · simp [hd]
theorem fold_three {l w : Bs} (h : jFold l w = true) : l.map jLow = w := eq_of_beq h
theorem low_ne (c : UInt8) : (c = 34 → jLow c = 34) ∧ (c = 92 → jLow c = 92) := ⟨fun e => by subst e; rfl, fun e => by subst e; rfl⟩
theorem takeWhile_mem {p : UInt8 → Bool} : ∀ (x : Bs) (c : UInt8), c ∈ x.takeWhile p → p c = true
  | [], c, h => by cases h
  | d :: x, c, h => by
    rw [List.takeWhile_cons] at h
    split at h
    · rename_i hd
      rcases List.mem_cons.1 h with rfl | h
      · exact hd
      · exact takeWhile_mem x c h
    · cases h
theorem num_inside {x s a t : Bs} (h : jNum (x ++ 34 :: s) = some (a, t)) (hq : NQ x) : ∃ r', NQ r' ∧ t = r' ++ 34 :: s ∧ r'.length ≤ x.length := by
  obtain ⟨e1, e2⟩ := dropWhile_stop (p := jNumCh) x 34 s (by decide)
  have hq2 : NQ (x.dropWhile jNumCh) := by
    refine NQ.drop (w := x.takeWhile jNumCh) (by rwa [List.takeWhile_append_dropWhile]) fun c hc e => ?_
    have := takeWhile_mem x c hc
    subst e
    revert this
    decide
  have hl : (x.dropWhile jNumCh).length ≤ x.length := (List.dropWhile_suffix _).length_le
  unfold jNum at h
  simp only [e1, e2] at h
  rw [if_neg (by simp)] at h
  split at h
  · split at h
    · rename_i h3
      simp only [Option.some.injEq, Prod.mk.injEq] at h
      obtain ⟨_, rfl⟩ := h
      have hlow : ((x.dropWhile jNumCh ++ 34 :: s).take 3).map jLow = jInf ∨ ((x.dropWhile jNumCh ++ 34 :: s).take 3).map jLow = jNan := by
        rcases h3.2 with h | h
        · exact Or.inl (fold_three h)
        · exact Or.inr (fold_three h)
      have hno : ∀ c ∈ (x.dropWhile jNumCh ++ 34 :: s).take 3, c ≠ 34 ∧ c ≠ 92 := by
        intro c hc
        have hm : jLow c ∈ ((x.dropWhile jNumCh ++ 34 :: s).take 3).map jLow := List.mem_map_of_mem hc
        constructor
        · intro e
          rw [(low_ne c).1 e] at hm
          rcases hlow with h | h <;> (rw [h] at hm; revert hm; decide)
        · intro e
          rw [(low_ne c).2 e] at hm
          rcases hlow with h | h <;> (rw [h] at hm; revert hm; decide)
      have hlen : ((x.dropWhile jNumCh ++ 34 :: s).take 3).length = 3 := by rw [List.length_take]; have := h3.1; omega
      obtain ⟨r', hr⟩ := take_inside (w := (x.dropWhile jNumCh ++ 34 :: s).take 3) (r := x.dropWhile jNumCh) (s := s) (by rw [hlen]) (fun c hc => (hno c hc).1)
      generalize hw : (x.dropWhile jNumCh ++ 34 :: s).take 3 = w at *
      rw [hr] at hq2 hl
      refine ⟨r', hq2.drop fun c hc => (hno c hc).2, ?_, by rw [List.length_append] at hl; omega⟩
      rw [hr, List.append_assoc, ← hlen, List.drop_left]
    · cases h
  · simp only [Option.some.injEq, Prod.mk.injEq] at h
    obtain ⟨_, rfl⟩ := h
    exact ⟨_, hq2, rfl, hl⟩
theorem word_inside {x s w : Bs} {n : Nat} (h : (x ++ 34 :: s).take n = w) (hn : w.length = n) (hw : ∀ c ∈ w, c ≠ 34 ∧ c ≠ 92) (hq : NQ x) : ∃ r', NQ r' ∧ (x ++ 34 :: s).drop n = r' ++ 34 :: s ∧ r'.length ≤ x.length := by
  subst hn
  obtain ⟨r', rfl⟩ := take_inside h fun c hc => (hw c hc).1
  refine ⟨r', hq.drop fun c hc => (hw c hc).2, ?_, by rw [List.length_append]; omega⟩
  rw [List.append_assoc, List.drop_left]
theorem val_inside {c : UInt8} {r s : Bs} {v : J} {t : Bs} (h : jVal 1 (c :: (r ++ 34 :: s)) = some (v, t)) (h0 : c ≠ 123) (h1 : c ≠ 91) (h2 : c ≠ 34) (h3 : c ≠ 92) (hq : NQ r) : ∃ r', NQ r' ∧ t = r' ++ 34 :: s ∧ r'.length ≤ (c :: r).length := by
  have hq' : NQ (c :: r) := Or.inr ⟨h2, hq⟩
  rw [jVal_cons, if_neg h0, if_neg h1, if_neg h2] at h
  by_cases h4 : c = 116
  · rw [if_pos h4] at h
    split at h
    · rename_i ht
      simp only [Option.some.injEq, Prod.mk.injEq] at h
      obtain ⟨_, rfl⟩ := h
      rw [← List.cons_append] at ht
      exact word_inside ht rfl (by decide) hq'
    · cases h
  rw [if_neg h4] at h
  by_cases h5 : c = 102
  · rw [if_pos h5] at h
    split at h
    · rename_i ht
      simp only [Option.some.injEq, Prod.mk.injEq] at h
      obtain ⟨_, rfl⟩ := h
      rw [← List.cons_append] at ht
      exact word_inside ht rfl (by decide) hq'
    · cases h
  rw [if_neg h5] at h
  by_cases h6 : c = 110
  · rw [if_pos h6] at h
    split at h
    · rename_i ht
      simp only [Option.some.injEq, Prod.mk.injEq] at h
      obtain ⟨_, rfl⟩ := h
      rw [← List.cons_append] at ht
      exact word_inside ht rfl (by decide) hq'
    · split at h
      · rename_i ht
        simp only [Option.some.injEq, Prod.mk.injEq] at h
        obtain ⟨_, rfl⟩ := h
        rw [← List.cons_append] at ht
        have hlow := fold_three ht.2
        refine word_inside (n := 3) (w := (c :: r ++ 34 :: s).take 3) rfl (by rw [List.length_take]; have := ht.1; omega) (fun d hd => ?_) hq'
        have hm : jLow d ∈ ((c :: r ++ 34 :: s).take 3).map jLow := List.mem_map_of_mem hd
        rw [hlow] at hm
        constructor
        · intro e
          rw [(low_ne d).1 e] at hm
          revert hm; decide
        · intro e
          rw [(low_ne d).2 e] at hm
          revert hm; decide
      · cases h
  rw [if_neg h6] at h
  simp only [Option.map_eq_some_iff, Prod.exists, Prod.mk.injEq] at h
  obtain ⟨a, b, hab, _, rfl⟩ := h
  rw [← List.cons_append] at hab
  exact num_inside hab hq'
theorem odd_inside (n : Nat) : ∀ (x s : Bs), x.length ≤ n → NQ x → lex (34 :: s) = none → lex (x ++ 34 :: s) = none := by
  induction n with
  | zero =>
    intro x s hn _ h
    have : x = [] := List.eq_nil_of_length_eq_zero (by omega)
    subst this
    exact h
  | succ n ih =>
    intro x s hn hq h
    cases x with
    | nil => exact h
    | cons c r =>
      simp only [List.length_cons] at hn
      rw [List.cons_append, lex_cons]
      by_cases h92 : c = 92
      · subst h92
        rw [if_neg (by decide), if_neg (by decide), val_bad 1 _ (by decide) (by decide) (by decide) (by decide) (by decide) (by decide) (by decide) (by decide) (by decide)]
      · have hq2 : c ≠ 34 ∧ NQ r := by
          rcases hq with hq | hq
          · exact absurd hq h92
          · exact hq
        split
        · exact ih r s (by omega) hq2.2 h
        · split
          · rw [ih r s (by omega) hq2.2 h]; rfl
          · rename_i hs
            have h0 : c ≠ 123 := by intro e; subst e; exact hs rfl
            have h1 : c ≠ 91 := by intro e; subst e; exact hs rfl
            cases hv : jVal 1 (c :: (r ++ 34 :: s)) with
            | none => rfl
            | some p =>
              obtain ⟨v, t⟩ := p
              have hlen := jVal_len 1 _ _ _ hv
              obtain ⟨r', g1, g2, g3⟩ := val_inside hv h0 h1 hq2.1 h92 hq2.2
              subst g2
              simp only [List.length_cons, List.length_append] at hlen g3
              simp only
              rw [ih r' s (by omega) g1 h]
              rfl
/-- A token, as far as quotation marks go. -/
def TkQ (b : Bs) : Prop := (∀ c ∈ b, c ≠ 34 ∧ c ≠ 92) ∨ ∃ raw, b = 34 :: (raw ++ [34]) ∧ NQ raw
theorem odd_none : ∀ (l : List Bs) (p : Bs), (∀ b ∈ l, TkQ b) → (∀ c ∈ p, c ≠ 34 ∧ c ≠ 92) → lex (34 :: (p ++ l.flatten)) = none
  | [], p, _, hp => by
    rw [lex_cons, if_neg (by decide), if_neg (by decide), jVal_cons, if_neg (by decide), if_neg (by decide), if_pos rfl]
    have : jRaw (p ++ [].flatten) = none := by
      refine jRaw_none _ fun j e => ?_
      have := List.mem_of_getElem? e
      simp at this
      exact (hp 34 this).1 rfl
    rw [this]
    rfl
  | b :: l, p, hl, hp => by
    rcases hl b (by simp) with hb | ⟨raw, rfl, hraw⟩
    · have := odd_none l (p ++ b) (fun b' hb' => hl b' (by simp [hb'])) (fun c hc => by
        rcases List.mem_append.1 hc with hc | hc
        · exact hp c hc
        · exact hb c hc)
      rw [List.flatten_cons, ← List.append_assoc]
      exact this
    · have ih := odd_none l [] (fun b' hb' => hl b' (by simp [hb'])) (fun c hc => by cases hc)
      rw [List.nil_append] at ih
      have hj : jRaw (p ++ ((34 :: (raw ++ [34])) :: l).flatten) = some (p, raw ++ 34 :: l.flatten) := by
        rw [List.flatten_cons, List.cons_append, List.append_assoc, List.singleton_append, (piece_plain p hp).2, jRaw_cons, if_pos rfl]
        simp
      rw [lex_str hj, odd_inside _ raw l.flatten (Nat.le_refl _) hraw ih]
      rfl

theorem nq_raw : ∀ {raw r : Bs}, jRaw (raw ++ 34 :: r) = some (raw, r) → NQ raw
  | [], _, _ => trivial
  | c :: x, r, h => by
    by_cases h92 : c = 92
    · exact Or.inl h92
    · rw [List.cons_append, jRaw_cons] at h
      by_cases h34 : c = 34
      · rw [if_pos h34] at h
        simp at h
      · rw [if_neg h34, if_neg h92] at h
        simp only [Option.map_eq_some_iff, Prod.exists, Prod.mk.injEq, List.cons.injEq, true_and] at h
        obtain ⟨a, b, hab, rfl, rfl⟩ := h
        exact Or.inr ⟨h34, nq_raw hab⟩
theorem text_tkq {s : Bs} (h : Lib.validD s = true) : TkQ (hText s 0).1 := by
  obtain ⟨raw, e1, e2, _⟩ := text_back h 0 []
  refine Or.inr ⟨raw, ?_, nq_raw e2⟩
  rw [List.append_nil] at e1
  exact e1
theorem num_plain (minus : Bool) (n : Nat) : ∀ c ∈ hNum minus n, c ≠ 34 ∧ c ≠ 92 := by
  intro c hc
  have := hNum_ch minus n c hc
  constructor <;> (intro e; subst e; revert this; decide)
theorem scalar_tkq {t : HT} (h : t.kind < 4) (ht : TextsOk t.texts) : TkQ (hScalar t 0).1 := by
  unfold hScalar
  split
  · exact Or.inl (by decide)
  · split
    · refine Or.inl ?_
      cases t.is <;> decide
    · split
      · exact Or.inl (num_plain _ _)
      · have h3 : t.kind = 3 := by omega
        exact text_tkq (ht t.text (by unfold HT.texts; rw [if_pos h3]; simp)).2
theorem sign_tkq {c : UInt8} (h : isSign c = true) : TkQ [c] := by
  refine Or.inl fun d hd => ?_
  simp only [List.mem_cons, List.not_mem_nil, or_false] at hd
  subst hd
  rcases isSign_cases h with rfl | rfl | rfl | rfl | rfl | rfl <;> decide
theorem more_tkq {f : HT → List Bs} {ob : Bool} : ∀ (ks : List HT) (ns : List Bs), (∀ k ∈ ks, ∀ b ∈ f k, TkQ b) → (ob = true → ns.length = ks.length ∧ ∀ s ∈ ns, Lib.validD s = true) → ∀ b ∈ tMore f ob ns ks, TkQ b := by
  intro ks
  induction ks with
  | nil => intro ns _ _ b hb; cases hb
  | cons k ks ih =>
    intro ns hf hn b hb
    rw [tMore] at hb
    simp only [List.mem_cons, List.mem_append] at hb
    rcases hb with rfl | hb | hb | hb
    · exact sign_tkq rfl
    · unfold tName at hb
      split at hb
      · rename_i hob
        obtain ⟨n1, n2⟩ := hn hob
        match ns, n1 with
        | s :: ns', _ =>
          simp only [List.headD_cons, List.mem_cons, List.not_mem_nil, or_false] at hb
          rcases hb with rfl | rfl
          · exact text_tkq (n2 s (by simp))
          · exact sign_tkq rfl
      · cases hb
    · exact hf k (by simp) b hb
    · refine ih ns.tail (fun k' hk' => hf k' (by simp [hk'])) (fun hob => ?_) b hb
      obtain ⟨n1, n2⟩ := hn hob
      exact ⟨by rw [List.length_tail, n1]; simp, fun s hs => n2 s (List.mem_of_mem_tail hs)⟩
theorem toks_tkq (d : Nat) : ∀ (t : HT) (deep n : Nat), Sized N M d t deep n → ∀ b ∈ hToks d t, TkQ b := by
  induction d with
  | zero => intro t deep n h; cases h
  | succ d ih =>
    intro t deep n h b hb
    obtain ⟨h1, h2, h3, h4, h5, h6⟩ := h
    rw [hToks] at hb
    by_cases hk : t.kind < 4
    · rw [if_pos hk] at hb
      simp only [List.mem_cons, List.not_mem_nil, or_false] at hb
      subst hb
      exact scalar_tkq hk h5
    · rw [if_neg hk] at hb
      obtain ⟨ms, ha, hn⟩ : ∃ ms : List Nat, All2 (fun k m => Sized N M d k (deep + 1) m) t.kids ms ∧ n = 1 + ms.sum := by
        rcases h6 with h6 | h6
        · exact absurd h6.1 hk
        · exact h6.2.2
      have hf : ∀ k ∈ t.kids, ∀ b ∈ hToks d k, TkQ b := by
        intro k hkm
        obtain ⟨m, _, hs⟩ := ha.of_mem k hkm
        exact ih k _ _ hs
      have hnm : (t.kind == 5) = true → t.names.length = t.kids.length ∧ ∀ s ∈ t.names, Lib.validD s = true := by
        intro e
        have k5 := eq_of_beq e
        refine ⟨h4 k5, fun s hs => (h5 s ?_).2⟩
        unfold HT.texts
        rw [if_neg (by omega), if_pos k5]
        exact hs
      simp only [List.mem_cons, List.mem_append, List.not_mem_nil, or_false] at hb
      rcases hb with rfl | hb | rfl
      · split <;> exact sign_tkq rfl
      · have : b ∈ tMore (hToks d) (t.kind == 5) t.names t.kids := by
          cases hks : t.kids with
          | nil => rw [hks] at hb; cases hb
          | cons k ks =>
            rw [hks] at hb
            rw [tMore]
            exact List.mem_cons_of_mem _ hb
        exact more_tkq t.kids t.names hf hnm b this
      · split <;> exact sign_tkq rfl

/-! ### A wrong word -/
/-- Members by the tokens of their values. -/
def vMore : List Bs → List (List Bs) → List Bs
  | _, [] => []
  | ns, v :: r => [44] :: ((hText (ns.headD []) 0).1 :: [58] :: (v ++ vMore ns.tail r))
def vKids (ns : List Bs) : List (List Bs) → List Bs
  | [] => []
  | v :: r => (hText (ns.headD []) 0).1 :: [58] :: (v ++ vMore ns.tail r)
theorem vMore_eq (f : HT → List Bs) : ∀ (ks : List HT) (ns : List Bs), tMore f true ns ks = vMore ns (ks.map f)
  | [], _ => rfl
  | k :: ks, ns => by
    rw [tMore, vMore_eq f ks]
    rfl
theorem vKids_eq (f : HT → List Bs) (ks : List HT) (ns : List Bs) : tKids f true ns ks = vKids ns (ks.map f) := by
  cases ks with
  | nil => rfl
  | cons k ks => rw [tKids, vMore_eq f ks]; rfl
theorem vMore_split : ∀ (vs : List (List Bs)) (ns : List Bs) (k : Nat), k < vs.length → ∃ A B, (∀ W, vMore ns (vs.set k W) = A ++ ([58] :: (W ++ B))) ∧ (B = [] ∨ ∃ B', B = [44] :: B')
  | [], _, _, h => by simp at h
  | v :: vs, ns, 0, _ => by
    refine ⟨[[44], (hText (ns.headD []) 0).1], vMore ns.tail vs, fun W => rfl, ?_⟩
    cases vs with
    | nil => exact Or.inl rfl
    | cons v2 vs => exact Or.inr ⟨_, rfl⟩
  | v :: vs, ns, k + 1, h => by
    obtain ⟨A, B, h1, h2⟩ := vMore_split vs ns.tail k (by simpa using h)
    refine ⟨[44] :: (hText (ns.headD []) 0).1 :: [58] :: (v ++ A), B, fun W => ?_, h2⟩
    rw [List.set_cons_succ, vMore, h1]
    simp
theorem vKids_split (vs : List (List Bs)) (ns : List Bs) (k : Nat) (h : k < vs.length) : ∃ A B, (∀ W, vKids ns (vs.set k W) = A ++ ([58] :: (W ++ B))) ∧ (B = [] ∨ ∃ B', B = [44] :: B') := by
  cases vs with
  | nil => simp at h
  | cons v vs =>
    cases k with
    | zero =>
      refine ⟨[(hText (ns.headD []) 0).1], vMore ns.tail vs, fun W => rfl, ?_⟩
      cases vs with
      | nil => exact Or.inl rfl
      | cons v2 vs => exact Or.inr ⟨_, rfl⟩
    | succ k =>
      obtain ⟨A, B, h1, h2⟩ := vMore_split vs ns.tail k (by simpa using h)
      refine ⟨(hText (ns.headD []) 0).1 :: [58] :: (v ++ A), B, fun W => ?_, h2⟩
      rw [List.set_cons_succ, vKids, h1]
      simp
theorem All2.split {α β : Type} {R : α → β → Prop} : ∀ {a b : List α} {m : List β}, All2 R (a ++ b) m → ∃ x y, m = x ++ y ∧ All2 R a x ∧ All2 R b y
  | [], b, m, h => ⟨[], m, rfl, trivial, h⟩
  | _ :: _, _, [], h => h.elim
  | z :: a, b, y :: m, h => by
    obtain ⟨p, q, rfl, h1, h2⟩ := All2.split (a := a) (b := b) h.2
    exact ⟨y :: p, q, rfl, ⟨h.1, h1⟩, h2⟩

/-- The words. -/
def wrongWords : List Bs := [[116, 114, 117], [84, 114, 117, 101], [102, 97, 108, 115, 121], [110, 117, 108], [110, 111, 110, 101], [121, 101, 115], [117, 110, 100, 101, 102, 105, 110, 101, 100], [39, 97, 39], [97], [],
  [116, 114, 117, 101, 116, 114, 117, 101], [34], [34, 97], [92, 117, 48, 48, 54, 49], [91], [93], [123], [125], [44], [58]]
theorem lex_bad {c : UInt8} (r : Bs) (hw : jWs c = false) (hs : isSign c = false) (h2 : c ≠ 34) (h3 : c ≠ 116) (h4 : c ≠ 102) (h5 : c ≠ 110) (k1 : jNumCh c = false) (k2 : jLow c ≠ 105) (k3 : jLow c ≠ 110) : lex (c :: r) = none := by
  have h0 : c ≠ 123 := by intro e; subst e; cases hs
  have h1 : c ≠ 91 := by intro e; subst e; cases hs
  rw [lex_cons, if_neg (by simp [hw]), if_neg (by simp [hs]), val_bad 1 r h0 h1 h2 h3 h4 h5 k1 k2 k3]
/-- A word that is none of JSON, ahead of a comma or a brace. -/
theorem wrong_lex {KB : List Tk} {B : List Bs} {c0 : UInt8} {r0 : Bs} (hB : All2 TkB B KB) (hq : ∀ b ∈ B, TkQ b) (hn : numOk KB) (hb : B.flatten = c0 :: r0) (hc : c0 = 44 ∨ c0 = 125) (w : Bs) (hw : w ∈ wrongWords) :
    lex (w ++ B.flatten) = none ∨ ∃ KW, lex (w ++ B.flatten) = some (KW ++ KB) ∧ ¬ (sumW Tk.w1 KW = 0 ∧ sumW Tk.w2 KW = 0 ∧ sumW Tk.w3 KW + emp (KW ++ KB) = 1 + emp KB) := by
  have hBl := lex_all hB hn
  have hsg : ∀ c : UInt8, isSign c = true → lex ([c] ++ B.flatten) = some ([Tk.sign c] ++ KB) := by
    intro c hc
    rw [List.singleton_append, lex_sign hc, hBl]
    rfl
  simp only [wrongWords, List.mem_cons, List.not_mem_nil, or_false] at hw
  rcases hw with rfl | rfl | rfl | rfl | rfl | rfl | rfl | rfl | rfl | rfl | rfl | rfl | rfl | rfl | rfl | rfl | rfl | rfl | rfl | rfl
  · left
    rw [hb]
    rcases hc with rfl | rfl <;> rfl
  · left; exact lex_bad _ (by decide) (by decide) (by decide) (by decide) (by decide) (by decide) (by decide) (by decide) (by decide)
  · left; rfl
  · left
    rw [hb]
    rcases hc with rfl | rfl <;> rfl
  · left; rfl
  · left; exact lex_bad _ (by decide) (by decide) (by decide) (by decide) (by decide) (by decide) (by decide) (by decide) (by decide)
  · left; exact lex_bad _ (by decide) (by decide) (by decide) (by decide) (by decide) (by decide) (by decide) (by decide) (by decide)
  · left; exact lex_bad _ (by decide) (by decide) (by decide) (by decide) (by decide) (by decide) (by decide) (by decide) (by decide)
  · left; exact lex_bad _ (by decide) (by decide) (by decide) (by decide) (by decide) (by decide) (by decide) (by decide) (by decide)
  · right
    refine ⟨[], hBl, fun h => ?_⟩
    have := h.2.2
    rw [List.nil_append, sumW_nil] at this
    omega
  · right
    refine ⟨[.leaf false, .leaf false], ?_, fun h => ?_⟩
    · have e : ∀ s, lex ([116, 114, 117, 101] ++ s) = (lex s).map (Tk.leaf false :: ·) := by
        intro s
        show lex (116 :: ([114, 117, 101] ++ s)) = _
        rw [lex_cons, if_neg (by decide), if_neg (by decide)]
        rfl
      show lex ([116, 114, 117, 101] ++ ([116, 114, 117, 101] ++ B.flatten)) = _
      rw [e, e, hBl]
      rfl
    · have := h.2.2
      rw [List.cons_append, List.cons_append, emp_noOpen _ rfl, emp_noOpen _ rfl, List.nil_append] at this
      have e2 : sumW Tk.w3 [.leaf false, .leaf false] = 2 := by decide
      omega
  · left
    have := odd_none B [] hq (fun c hc => by cases hc)
    exact this
  · left
    exact odd_none B [97] hq (by decide)
  · left; exact lex_bad _ (by decide) (by decide) (by decide) (by decide) (by decide) (by decide) (by decide) (by decide) (by decide)
  · right; exact ⟨_, hsg 91 rfl, fun h => by have := h.2.1; revert this; decide⟩
  · right; exact ⟨_, hsg 93 rfl, fun h => by have := h.2.1; revert this; decide⟩
  · right; exact ⟨_, hsg 123 rfl, fun h => by have := h.1; revert this; decide⟩
  · right; exact ⟨_, hsg 125 rfl, fun h => by have := h.1; revert this; decide⟩
  · right
    refine ⟨_, hsg 44 rfl, fun h => ?_⟩
    have := h.2.2
    rw [List.singleton_append, emp_noOpen _ (by decide)] at this
    have e2 : sumW Tk.w3 [.sign 44] = -1 := by decide
    omega
  · right
    refine ⟨_, hsg 58 rfl, fun h => ?_⟩
    have := h.2.2
    rw [List.singleton_append, emp_noOpen _ (by decide)] at this
    have e2 : sumW Tk.w3 [.sign 58] = -1 := by decide
    omega
/-- An object with a wrong word in the place of a value. -/
theorem wrong_none {d : Nat} {t : HT} {n : Nat} (h : Sized N M (d + 1) t 1 n) (h5 : t.kind = 5) (k : Nat) (hk : k < t.kids.length) (w : Bs) (hw : w ∈ wrongWords) :
    jParse (123 :: ((vKids t.names ((t.kids.map (hToks d)).set k [w])).flatten ++ [125])) = none := by
  obtain ⟨ks, hks, hpt⟩ := toks_pt _ _ _ _ h
  have hq := toks_tkq _ _ _ _ h
  have e5 : (t.kind == 5) = true := by rw [h5]; rfl
  have e0 : hToks (d + 1) t = [123] :: (vKids t.names (t.kids.map (hToks d)) ++ [[125]]) := by
    rw [hToks, if_neg (by omega), if_pos h5, if_pos h5, e5, vKids_eq]
  obtain ⟨A, B, hsp, hB⟩ := vKids_split (t.kids.map (hToks d)) t.names k (by simpa using hk)
  have hV : (t.kids.map (hToks d)).set k (hToks d t.kids[k]) = t.kids.map (hToks d) := by
    have : hToks d t.kids[k] = (t.kids.map (hToks d))[k]'(by simpa using hk) := by simp
    rw [this, List.set_getElem_self]
  have hl : hToks (d + 1) t = ([123] :: (A ++ [[58]])) ++ (hToks d t.kids[k] ++ (B ++ [[125]])) := by
    rw [e0, ← hV, hsp]
    simp
  rw [hl] at hks hq
  obtain ⟨KA, K2, rfl, hKA, hK2⟩ := hks.split
  obtain ⟨KV, KB, rfl, hKV, hKB⟩ := hK2.split
  have hkid : ∃ m, Sized N M d t.kids[k] 2 m := by
    obtain ⟨_, _, _, _, _, h6⟩ := h
    rcases h6 with h6 | h6
    · omega
    · obtain ⟨_, _, ms, ha, _⟩ := h6
      obtain ⟨m, _, hs⟩ := ha.of_mem _ (List.getElem_mem hk)
      exact ⟨m, hs⟩
  obtain ⟨m, hm⟩ := hkid
  obtain ⟨KV', hKV', hptV⟩ := toks_pt _ _ _ _ hm
  have hu : KV = KV' := by
    have hx : ∀ {l : List Bs} {a b : List Tk}, All2 TkB l a → All2 TkB l b → a = b := by
      intro l
      induction l with
      | nil =>
        intro a b ha hb
        cases a with
        | cons => exact ha.elim
        | nil =>
          cases b with
          | cons => exact hb.elim
          | nil => rfl
      | cons x l ih =>
        intro a b ha hb
        cases a with
        | nil => exact ha.elim
        | cons y a =>
          cases b with
          | nil => exact hb.elim
          | cons z b =>
            rw [ih ha.2 hb.2]
            have : y = z := by
              rcases ha.1 with ⟨c, hc, e1, rfl⟩ | ⟨c, r, e1, _, hs, rfl, _⟩
              · rcases hb.1 with ⟨c', _, e2, rfl⟩ | ⟨c', r', e2, _, hs', _, _⟩
                · rw [e1] at e2
                  rw [(List.cons.inj e2).1]
                · rw [e1] at e2
                  rw [← (List.cons.inj e2).1, hc] at hs'
                  cases hs'
              · rcases hb.1 with ⟨c', hc', e2, rfl⟩ | ⟨c', r', e2, _, hs', rfl, _⟩
                · rw [e1] at e2
                  rw [(List.cons.inj e2).1, hc'] at hs
                  cases hs
                · rw [e1] at e2
                  rw [(List.cons.inj e2).1]
            rw [this]
    exact hx hKV hKV'
  subst hu
  have hW := hpt.weighs
  have hWV := hptV.weighs
  have hnum := pairs_num hW.pairs
  have hKAl : ∃ KA', KA = KA' ++ [.sign 58] := by
    rw [← List.cons_append] at hKA
    obtain ⟨x, y, rfl, _, hy⟩ := hKA.split
    match y, hy with
    | [z], hz => exact ⟨x, by rw [tkb_sign hz.1 rfl]⟩
  obtain ⟨KA', rfl⟩ := hKAl
  obtain ⟨m2, z, hz, hzl⟩ := hWV.last
  have hno : z.opens = false := by
    rcases hzl with e | e
    · exact (leaf_not_open e).1
    · exact (close_not_open e).1
  have s58 : (Tk.sign 58).opens = false := by decide
  have w1 := hW.b1
  have w2 := hW.b2
  have w3 := hW.b3
  have v1 := hWV.b1
  have v2 := hWV.b2
  have v3 := hWV.b3
  simp only [sumW_app] at w1 w2 w3
  rw [emp_app (l := KA') (z := .sign 58) rfl s58, emp_app hz hno] at w3
  have hflat : 123 :: ((vKids t.names ((t.kids.map (hToks d)).set k [w])).flatten ++ [125]) = ([123] :: (A ++ [[58]])).flatten ++ (w ++ (B ++ [[125]]).flatten) := by
    rw [hsp]
    simp
  have hBq : ∀ b ∈ B ++ [[125]], TkQ b := fun b hb => hq b (List.mem_append_right _ (List.mem_append_right _ hb))
  obtain ⟨c0, r0, hc0, hcc⟩ : ∃ c0 r0, (B ++ [[125]]).flatten = c0 :: r0 ∧ (c0 = 44 ∨ c0 = 125) := by
    rcases hB with rfl | ⟨B', rfl⟩
    · exact ⟨125, [], rfl, Or.inr rfl⟩
    · exact ⟨44, _, rfl, Or.inl rfl⟩
  rw [hflat]
  have hlexA := fun s => lex_flat hKA (numOk_left hnum) s (fun m e => by
    have := List.append_inj_right' e rfl
    cases this)
  cases hj : jParse (([123] :: (A ++ [[58]])).flatten ++ (w ++ (B ++ [[125]]).flatten)) with
  | none => rfl
  | some v =>
    exfalso
    obtain ⟨L, hL, he⟩ := parse_lexed hj
    rw [hlexA] at he
    rcases wrong_lex hKB hBq (numOk_right (numOk_right hnum)) hc0 hcc w hw with hx | ⟨KW, hx, hnot⟩
    · rw [hx] at he
      cases he
    · rw [hx] at he
      obtain rfl := Option.some.inj he
      have g := hL.weighs
      have g1 := g.b1
      have g2 := g.b2
      have g3 := g.b3
      simp only [sumW_app] at g1 g2 g3
      rw [emp_app (l := KA') (z := .sign 58) rfl s58] at g3
      exact hnot ⟨by omega, by omega, by omega⟩
end Go.Proofs.YtppkpcijmfdfmaaGreatDoor

/- One value more in an object that is written with values of one's own (for FnHeadWrongWord's loop). -/
namespace Go.Proofs.YtppkpcijmfdfmaaGreatDoor
theorem getD_tail (ns : List Bs) (n : Nat) : ns.tail.getD n [] = ns.getD (n + 1) [] := by
  cases ns <;> simp
theorem vMore_snoc : ∀ (vs : List (List Bs)) (ns : List Bs) (v : List Bs), vMore ns (vs ++ [v]) = vMore ns vs ++ ([44] :: (hText (ns.getD vs.length []) 0).1 :: [58] :: v)
  | [], ns, v => by
    cases ns <;> simp [vMore]
  | u :: vs, ns, v => by
    rw [List.cons_append, vMore, vMore, vMore_snoc vs ns.tail v, getD_tail, List.length_cons]
    simp
theorem vKids_snoc (u : List Bs) (vs : List (List Bs)) (ns : List Bs) (v : List Bs) : vKids ns (u :: vs ++ [v]) = vKids ns (u :: vs) ++ ([44] :: (hText (ns.getD (vs.length + 1) []) 0).1 :: [58] :: v) := by
  rw [List.cons_append, vKids, vKids, vMore_snoc vs ns.tail v, getD_tail]
  simp
theorem vKids_one (ns : List Bs) (v : List Bs) : vKids ns [v] = (hText (ns.getD 0 []) 0).1 :: [58] :: v := by
  cases ns <;> simp [vKids, vMore]
/-- The text that a loop over the values has written behind i of them. -/
def outTo (ns : List Bs) (vals : List (List Bs)) (i : Nat) : Bs := 123 :: (vKids ns (vals.take i)).flatten
theorem outTo_zero (ns : List Bs) (vals : List (List Bs)) : outTo ns vals 0 = [123] := by simp [outTo, vKids]
theorem outTo_step (ns : List Bs) (vals : List (List Bs)) (i : Nat) (v : List Bs) (h : vals[i]? = some v) :
    outTo ns vals (i + 1) = outTo ns vals i ++ ((if i = 0 then [] else [44]) ++ ((hText (ns.getD i []) 0).1 ++ (58 :: v.flatten))) := by
  unfold outTo
  rw [List.take_add_one, h]
  have hi : i < vals.length := (List.getElem?_eq_some_iff.1 h).1
  cases hv : vals.take i with
  | nil =>
    have h0 : i = 0 := by
      have := congrArg List.length hv
      rw [List.length_take, List.length_nil] at this
      omega
    subst h0
    rw [List.nil_append, Option.toList_some, vKids_one]
    simp [vKids]
  | cons u vs =>
    have h1 : vs.length + 1 = i := by
      have := congrArg List.length hv
      rw [List.length_take, List.length_cons] at this
      omega
    rw [Option.toList_some, vKids_snoc, h1, if_neg (by omega)]
    simp
end Go.Proofs.YtppkpcijmfdfmaaGreatDoor
