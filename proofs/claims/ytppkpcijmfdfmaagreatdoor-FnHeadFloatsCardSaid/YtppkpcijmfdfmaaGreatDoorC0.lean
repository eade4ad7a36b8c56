/- The plain side, first part: bytes, and a reader of JSON texts as plain functions on lists of bytes: blanks, raw texts, raw numbers, values. No program in sight. -/
import Derived.Laws.Runes
set_option linter.unusedVariables false
set_option linter.unusedSimpArgs false
namespace Go.Proofs.YtppkpcijmfdfmaaGreatDoor

abbrev Bs := List UInt8

/-- A blank of JSON. -/
def jWs (c : UInt8) : Bool := c == 32 || c == 10 || c == 9 || c == 13

/-- A text behind its first blanks. -/
def jSkip (s : Bs) : Bs := s.dropWhile jWs

/-- What stands ahead of the first quotation mark that no reverse solidus escapes, and what stands behind it. -/
def jRaw : Bs → Option (Bs × Bs)
  | [] => none
  | c :: r =>
    if c = 34 then some ([], r)
    else if c = 92 then
      match r with
      | [] => none
      | e :: r' => (jRaw r').map fun p => (c :: e :: p.1, p.2)
    else (jRaw r).map fun p => (c :: p.1, p.2)

/-- A byte of a number as the reader takes it. -/
def jNumCh (c : UInt8) : Bool := (48 ≤ c && c ≤ 57) || c == 46 || c == 45 || c == 101 || c == 69 || c == 43

/-- A small letter for a capital one. -/
def jLow (c : UInt8) : UInt8 := if 65 ≤ c && c ≤ 90 then c + 32 else c

/-- Whether a text is three small letters, whatever its case. -/
def jFold (s small : Bs) : Bool := s.map jLow == small

def jInf : Bs := [105, 110, 102]
def jNan : Bs := [110, 97, 110]

/-- The raw number ahead of a text, and what stands behind it. -/
def jNum (s : Bs) : Option (Bs × Bs) :=
  let n := s.takeWhile jNumCh
  let r := s.dropWhile jNumCh
  if r = [] then some (s, [])
  else if n = [] ∨ n = [45] ∨ n = [43] then
    if 3 ≤ r.length ∧ (jFold (r.take 3) jInf = true ∨ jFold (r.take 3) jNan = true) then some (n ++ r.take 3, r.drop 3) else none
  else some (n, r)

/-- A value as the reader has it: texts and numbers raw. -/
inductive J where
  | null | tru | fls
  | num (s : Bs)
  | str (s : Bs)
  | arr (l : List J)
  | obj (l : List (Bs × J))

/-- The elements of a list behind its bracket, by a reader of values. -/
def jElems (f : Bs → Option (J × Bs)) : Nat → Bs → Option (List J × Bs)
  | 0, _ => none
  | n + 1, s =>
    match f (jSkip s) with
    | none => none
    | some (v, t) =>
      match jSkip t with
      | [] => none
      | c :: u =>
        if c = 44 then (jElems f n u).map fun p => (v :: p.1, p.2)
        else if c = 93 then some ([v], u)
        else none

/-- The members of an object behind its brace, by a reader of values. -/
def jMembers (f : Bs → Option (J × Bs)) : Nat → Bs → Option (List (Bs × J) × Bs)
  | 0, _ => none
  | n + 1, s =>
    match jSkip s with
    | [] => none
    | q :: r =>
      if q = 34 then
        match jRaw r with
        | none => none
        | some (k, r1) =>
          match jSkip r1 with
          | [] => none
          | c :: r2 =>
            if c = 58 then
              match f (jSkip r2) with
              | none => none
              | some (v, t) =>
                match jSkip t with
                | [] => none
                | e :: u =>
                  if e = 44 then (jMembers f n u).map fun p => ((k, v) :: p.1, p.2)
                  else if e = 125 then some ([(k, v)], u)
                  else none
            else none
      else none

def jTrue : Bs := [116, 114, 117, 101]
def jFalse : Bs := [102, 97, 108, 115, 101]
def jNull : Bs := [110, 117, 108, 108]

/-- The value ahead of a text, and what stands behind it; `d` levels may be opened. -/
def jVal : Nat → Bs → Option (J × Bs)
  | 0, _ => none
  | _ + 1, [] => none
  | d + 1, c :: r =>
    if c = 123 then
      match jSkip r with
      | [] => none
      | e :: u => if e = 125 then some (.obj [], u) else (jMembers (jVal d) (e :: u).length (e :: u)).map fun p => (.obj p.1, p.2)
    else if c = 91 then
      match jSkip r with
      | [] => none
      | e :: u => if e = 93 then some (.arr [], u) else (jElems (jVal d) (e :: u).length (e :: u)).map fun p => (.arr p.1, p.2)
    else if c = 34 then (jRaw r).map fun p => (.str p.1, p.2)
    else if c = 116 then if (c :: r).take 4 = jTrue then some (.tru, r.drop 3) else none
    else if c = 102 then if (c :: r).take 5 = jFalse then some (.fls, r.drop 4) else none
    else if c = 110 then
      if (c :: r).take 4 = jNull then some (.null, r.drop 3)
      else if 3 ≤ (c :: r).length ∧ jFold ((c :: r).take 3) jNan = true then some (.num ((c :: r).take 3), r.drop 2)
      else none
    else (jNum (c :: r)).map fun p => (.num p.1, p.2)

/-- A whole text read. -/
def jParse (s : Bs) : Option J :=
  match jVal 300 (jSkip s) with
  | none => none
  | some (v, t) => if jSkip t = [] then some v else none

end Go.Proofs.YtppkpcijmfdfmaaGreatDoor

/- The plain side, second part: where the raw text ahead of a quotation mark ends, told by the signs that stand ahead of the first quotation mark. -/
namespace Go.Proofs.YtppkpcijmfdfmaaGreatDoor

theorem jRaw_cons (c : UInt8) (r : Bs) : jRaw (c :: r) =
    if c = 34 then some ([], r)
    else if c = 92 then
      match r with
      | [] => none
      | e :: r' => (jRaw r').map fun p => (c :: e :: p.1, p.2)
    else (jRaw r).map fun p => (c :: p.1, p.2) := by
  conv => lhs; rw [jRaw.eq_def]
  rfl

/-- The first quotation mark of a text is its n-th byte. -/
def quoteAt (q : Bs) (n : Nat) : Prop := q[n]? = some 34 ∧ ∀ j : Nat, j < n → q[j]? ≠ some 34

theorem quoteAt_lt {q : Bs} {n : Nat} (h : quoteAt q n) : n < q.length := by
  rcases Nat.lt_or_ge n q.length with h' | h'
  · exact h'
  · have := h.1; rw [List.getElem?_eq_none h'] at this; cases this

theorem jRaw_none (q : Bs) (h : ∀ j : Nat, q[j]? ≠ some 34) : jRaw q = none := by
  match q with
  | [] => rfl
  | c :: r =>
    have hc : c ≠ 34 := by intro e; exact h 0 (by simp [e])
    have hr := jRaw_none r (fun j => by have := h (j + 1); simpa using this)
    rw [jRaw_cons, if_neg hc]
    by_cases h92 : c = 92
    · rw [if_pos h92]
      match r with
      | [] => rfl
      | e :: r' =>
        have hr' := jRaw_none r' (fun j => by have := h (j + 2); simpa using this)
        simp [hr']
    · rw [if_neg h92, hr]; rfl
termination_by q.length

/-- The reverse solidi ahead of the first quotation mark are counted: an even number of them leaves it a quotation mark, an odd one escapes it. -/
theorem jRaw_trail (q : Bs) (n i : Nat) (h : quoteAt q n) (hi : i ≤ n) (hall : ∀ j : Nat, i ≤ j → j < n → q[j]? = some 92) (hend : i = 0 ∨ q[i - 1]? ≠ some 92) :
    jRaw q = if (n - i) % 2 = 0 then some (q.take n, q.drop (n + 1)) else (jRaw (q.drop (n + 1))).map fun p => (q.take (n + 1) ++ p.1, p.2) := by
  match q, n with
  | [], n => exact absurd h.1 (by simp)
  | c :: r, 0 =>
    have hc : c = 34 := by have := h.1; simpa using this
    obtain rfl : i = 0 := by omega
    rw [jRaw_cons, if_pos hc]; simp
  | c :: r, n + 1 =>
    have hc : c ≠ 34 := by have := h.2 0 (by omega); simpa using this
    have hr : quoteAt r n := ⟨by have := h.1; simpa using this, fun j hj => by have := h.2 (j + 1) (by omega); simpa using this⟩
    rw [jRaw_cons, if_neg hc]
    by_cases h92 : c = 92
    · rw [if_pos h92]
      have hi1 : i ≠ 1 := by
        intro e; subst e
        rcases hend with h' | h'
        · cases h'
        · exact h' (by simp [h92])
      match r, n with
      | [], n => exact absurd hr.1 (by simp)
      | e :: r', 0 =>
        have he : e = 34 := by have := hr.1; simpa using this
        obtain rfl : i = 0 := by omega
        simp [he, h92]
      | e :: r', n + 1 =>
        have hr' : quoteAt r' n := ⟨by have := hr.1; simpa using this, fun j hj => by have := hr.2 (j + 1) (by omega); simpa using this⟩
        have key := jRaw_trail r' n (i - 2) hr' (by omega)
          (fun j h1 h2 => by
            have := hall (j + 2) (by omega) (by omega); simpa using this)
          (by
            by_cases h0 : i - 2 = 0
            · exact Or.inl h0
            · right
              rcases hend with h' | h'
              · omega
              · obtain ⟨m, rfl⟩ : ∃ m, i = m + 3 := ⟨i - 3, by omega⟩
                simpa using h')
        simp only [key]
        by_cases hp : (n + 1 + 1 - i) % 2 = 0
        · rw [if_pos hp, if_pos (by omega)]
          simp
        · rw [if_neg hp, if_neg (by omega)]
          simp [Option.map_map, Function.comp_def]
    · rw [if_neg h92]
      have hi0 : i ≠ 0 := by
        intro e; subst e
        have := hall 0 (by omega) (by omega)
        simp at this; exact h92 this
      have key := jRaw_trail r n (i - 1) hr (by omega)
        (fun j h1 h2 => by
          have := hall (j + 1) (by omega) (by omega); simpa using this)
        (by
          by_cases h0 : i - 1 = 0
          · exact Or.inl h0
          · right
            rcases hend with h' | h'
            · omega
            · obtain ⟨m, rfl⟩ : ∃ m, i = m + 2 := ⟨i - 2, by omega⟩
              simpa using h')
      rw [key]
      by_cases hp : (n + 1 - i) % 2 = 0
      · rw [if_pos hp, if_pos (by omega)]
        simp
      · rw [if_neg hp, if_neg (by omega)]
        simp [Option.map_map, Function.comp_def]
termination_by q.length

/-- A text ahead of which no quotation mark and no reverse solidus stands. -/
theorem jRaw_upto (s : Bs) (k : Nat) (hk : k ≤ s.length) (h : ∀ j : Nat, j < k → s[j]? ≠ some 34 ∧ s[j]? ≠ some 92) :
    jRaw s = (jRaw (s.drop k)).map fun p => (s.take k ++ p.1, p.2) := by
  induction k generalizing s with
  | zero => simp
  | succ k ih =>
    match s with
    | [] => simp at hk
    | c :: r =>
      have h0 := h 0 (by omega)
      have hc : c ≠ 34 ∧ c ≠ 92 := by simpa using h0
      rw [jRaw_cons, if_neg hc.1, if_neg hc.2, ih r (by simpa using hk) (fun j hj => by have := h (j + 1) (by omega); simpa using this)]
      simp [Option.map_map, Function.comp_def]

theorem jRaw_len_n (n : Nat) : ∀ s a b : Bs, s.length ≤ n → jRaw s = some (a, b) → a.length + b.length + 1 = s.length := by
  induction n with
  | zero =>
    intro s a b hn h
    match s, hn, h with
    | [], _, h => simp [jRaw] at h
  | succ n ih =>
    intro s a b hn h
    match s, hn, h with
    | [], _, h => simp [jRaw] at h
    | c :: r, hn, h =>
      rw [jRaw_cons] at h
      by_cases h34 : c = 34
      · rw [if_pos h34] at h
        simp only [Option.some.injEq, Prod.mk.injEq] at h
        obtain ⟨rfl, rfl⟩ := h
        simp
      · rw [if_neg h34] at h
        by_cases h92 : c = 92
        · rw [if_pos h92] at h
          match r, hn, h with
          | [], _, h => simp at h
          | e :: r', hn, h =>
            simp only [Option.map_eq_some_iff, Prod.exists, Prod.mk.injEq] at h
            obtain ⟨a', b', h1, rfl, rfl⟩ := h
            have := ih r' a' b' (by simp at hn; omega) h1
            simp; omega
        · rw [if_neg h92] at h
          simp only [Option.map_eq_some_iff, Prod.exists, Prod.mk.injEq] at h
          obtain ⟨a', b', h1, rfl, rfl⟩ := h
          have := ih r a' b' (by simp at hn; omega) h1
          simp; omega
theorem jRaw_len {s a b : Bs} (h : jRaw s = some (a, b)) : a.length + b.length + 1 = s.length := jRaw_len_n s.length s a b (Nat.le_refl _) h
end Go.Proofs.YtppkpcijmfdfmaaGreatDoor

/- The plain side: raw numbers, by the place of the first byte that is none of a number's. -/
namespace Go.Proofs.YtppkpcijmfdfmaaGreatDoor

def numUpto (s : Bs) (k : Nat) : Prop := ∀ j : Nat, j < k → ∀ c, s[j]? = some c → jNumCh c = true

theorem takeWhile_at {p : UInt8 → Bool} (s : Bs) (k : Nat) (h : ∀ j : Nat, j < k → ∀ c, s[j]? = some c → p c = true) (hk : k < s.length) (hc : p s[k] = false) :
    s.takeWhile p = s.take k ∧ s.dropWhile p = s.drop k := by
  induction k generalizing s with
  | zero =>
    match s, hk, hc with
    | c :: r, _, hc => simp at hc; simp [hc]
  | succ k ih =>
    match s, hk, hc with
    | c :: r, hk, hc =>
      have h0 := h 0 (by omega) c (by simp)
      have := ih r (fun j hj c hc => h (j + 1) (by omega) c (by simpa using hc)) (by simpa using hk) (by simpa using hc)
      simp [h0, this]
theorem takeWhile_all {p : UInt8 → Bool} (s : Bs) (h : ∀ j : Nat, j < s.length → ∀ c, s[j]? = some c → p c = true) :
    s.takeWhile p = s ∧ s.dropWhile p = [] := by
  induction s with
  | nil => simp
  | cons c r ih =>
    have h0 := h 0 (by simp) c (by simp)
    have := ih (fun j hj c hc => h (j + 1) (by simp; omega) c (by simpa using hc))
    simp [h0, this]

theorem jNum_all (s : Bs) (h : numUpto s s.length) : jNum s = some (s, []) := by
  unfold jNum
  simp only [(takeWhile_all s h).2, if_true]

/-- Whether a number's text has no digit yet: nothing, or a sign. -/
def numStop (s : Bs) (k : Nat) : Prop := s.take k = [] ∨ s.take k = [45] ∨ s.take k = [43]

theorem jNum_at (s : Bs) (k : Nat) (h : numUpto s k) (hk : k < s.length) (hc : jNumCh s[k] = false) :
    (¬ numStop s k → jNum s = some (s.take k, s.drop k)) ∧
    (numStop s k → 3 ≤ s.length - k → (jFold ((s.take (k + 3)).drop k) jInf = true ∨ jFold ((s.take (k + 3)).drop k) jNan = true) → jNum s = some (s.take (k + 3), s.drop (k + 3))) ∧
    (numStop s k → (¬ 3 ≤ s.length - k ∨ (jFold ((s.take (k + 3)).drop k) jInf = false ∧ jFold ((s.take (k + 3)).drop k) jNan = false)) → jNum s = none) := by
  obtain ⟨h1, h2⟩ := takeWhile_at s k h hk hc
  have hne : ¬ (s.drop k = []) := by intro e; have := congrArg List.length e; simp at this; omega
  have ht : (s.take (k + 3)).drop k = (s.drop k).take 3 := by rw [List.drop_take]; congr 1; omega
  unfold jNum
  simp only [h1, h2, hne, if_false, ht]
  unfold numStop
  refine ⟨fun hs => by rw [if_neg hs], fun hs h3 hf => ?_, fun hs hf => ?_⟩
  · rw [if_pos hs, if_pos ⟨by simpa using h3, hf⟩, List.drop_drop]
    congr 2
    rw [show s.take (k + 3) = s.take k ++ (s.drop k).take 3 from List.take_add]
  · rw [if_pos hs, if_neg]
    rintro ⟨h3, hf'⟩
    rcases hf with hf | ⟨hf1, hf2⟩
    · exact hf (by simpa using h3)
    · rcases hf' with hf' | hf' <;> simp_all

theorem numStop_zero (s : Bs) : numStop s 0 := Or.inl (by simp)
theorem numStop_one {s : Bs} (h : 0 < s.length) : numStop s 1 ↔ s[0] = 45 ∨ s[0] = 43 := by
  match s, h with
  | c :: r, _ => simp [numStop]
theorem numStop_more {s : Bs} {k : Nat} (h2 : 2 ≤ k) (h : k ≤ s.length) : ¬ numStop s k := by
  intro hs
  have hl : (s.take k).length = k := by rw [List.length_take]; omega
  rcases hs with e | e | e <;> (rw [e] at hl; simp at hl; omega)
theorem jNum_len {s a b : Bs} (h : jNum s = some (a, b)) (hne : s ≠ []) : a.length + b.length = s.length ∧ 1 ≤ a.length := by
  have hl : (s.takeWhile jNumCh).length + (s.dropWhile jNumCh).length = s.length := by
    rw [← List.length_append, List.takeWhile_append_dropWhile]
  unfold jNum at h
  simp only at h
  split at h
  · simp only [Option.some.injEq, Prod.mk.injEq] at h
    obtain ⟨rfl, rfl⟩ := h
    have : 1 ≤ s.length := by
      rcases s with _ | ⟨c, r⟩
      · exact absurd rfl hne
      · simp
    simp; omega
  · split at h
    · split at h
      · rename_i h3
        simp only [Option.some.injEq, Prod.mk.injEq] at h
        obtain ⟨rfl, rfl⟩ := h
        simp; omega
      · cases h
    · rename_i hx
      simp only [Option.some.injEq, Prod.mk.injEq] at h
      obtain ⟨rfl, rfl⟩ := h
      refine ⟨hl, ?_⟩
      rcases he : s.takeWhile jNumCh with _ | ⟨c, r⟩
      · exact absurd (Or.inl he) hx
      · simp
end Go.Proofs.YtppkpcijmfdfmaaGreatDoor

/- The plain side: a value that is read takes at least one byte; lists and objects, element by element. -/
namespace Go.Proofs.YtppkpcijmfdfmaaGreatDoor

theorem jSkip_length (s : Bs) : (jSkip s).length ≤ s.length := by
  unfold jSkip; exact (List.dropWhile_suffix _).length_le

theorem jElems_len {f : Bs → Option (J × Bs)} (hf : ∀ s v t, f s = some (v, t) → t.length ≤ s.length) : ∀ (N : Nat) (s : Bs) (l : List J) (t : Bs), jElems f N s = some (l, t) → t.length ≤ s.length := by
  intro N
  induction N with
  | zero => intro s l t h; simp [jElems] at h
  | succ N ih =>
    intro s l t h
    rw [jElems] at h
    cases hv : f (jSkip s) with
    | none => simp [hv] at h
    | some p =>
      obtain ⟨v, r⟩ := p
      simp only [hv] at h
      have h1 := hf _ _ _ hv
      have h2 := jSkip_length s
      have h3 := jSkip_length r
      cases hr : jSkip r with
      | nil => simp [hr] at h
      | cons c u =>
        simp only [hr] at h
        rw [hr] at h3
        simp only [List.length_cons] at h3
        split at h
        · simp only [Option.map_eq_some_iff, Prod.exists, Prod.mk.injEq] at h
          obtain ⟨a, b, hab, _, rfl⟩ := h
          have := ih _ _ _ hab
          omega
        · split at h
          · simp only [Option.some.injEq, Prod.mk.injEq] at h
            obtain ⟨_, rfl⟩ := h
            omega
          · cases h

theorem jMembers_len {f : Bs → Option (J × Bs)} (hf : ∀ s v t, f s = some (v, t) → t.length ≤ s.length) : ∀ (N : Nat) (s : Bs) (l : List (Bs × J)) (t : Bs), jMembers f N s = some (l, t) → t.length ≤ s.length := by
  intro N
  induction N with
  | zero => intro s l t h; simp [jMembers] at h
  | succ N ih =>
    intro s l t h
    rw [jMembers] at h
    have h0 := jSkip_length s
    cases hs : jSkip s with
    | nil => simp [hs] at h
    | cons q r =>
      simp only [hs] at h
      rw [hs] at h0
      simp only [List.length_cons] at h0
      split at h
      · cases hk : jRaw r with
        | none => simp [hk] at h
        | some p =>
          obtain ⟨k, r1⟩ := p
          simp only [hk] at h
          have h1 := jRaw_len hk
          have h2 := jSkip_length r1
          cases hr1 : jSkip r1 with
          | nil => simp [hr1] at h
          | cons c r2 =>
            simp only [hr1] at h
            rw [hr1] at h2
            simp only [List.length_cons] at h2
            split at h
            · cases hv : f (jSkip r2) with
              | none => simp [hv] at h
              | some p =>
                obtain ⟨v, x⟩ := p
                simp only [hv] at h
                have h3 := hf _ _ _ hv
                have h4 := jSkip_length r2
                have h5 := jSkip_length x
                cases hx : jSkip x with
                | nil => simp [hx] at h
                | cons e u =>
                  simp only [hx] at h
                  rw [hx] at h5
                  simp only [List.length_cons] at h5
                  split at h
                  · simp only [Option.map_eq_some_iff, Prod.exists, Prod.mk.injEq] at h
                    obtain ⟨a, b, hab, _, rfl⟩ := h
                    have := ih _ _ _ hab
                    omega
                  · split at h
                    · simp only [Option.some.injEq, Prod.mk.injEq] at h
                      obtain ⟨_, rfl⟩ := h
                      omega
                    · cases h
            · cases h
      · cases h

/-- A list's text behind its bracket, read. -/
def parr (d : Nat) (s : Bs) : Option (J × Bs) :=
  match jSkip s with
  | [] => none
  | e :: u => if e = 93 then some (.arr [], u) else (jElems (jVal d) (e :: u).length (e :: u)).map fun p => (.arr p.1, p.2)
/-- An object's text behind its brace, read. -/
def pobj (d : Nat) (s : Bs) : Option (J × Bs) :=
  match jSkip s with
  | [] => none
  | e :: u => if e = 125 then some (.obj [], u) else (jMembers (jVal d) (e :: u).length (e :: u)).map fun p => (.obj p.1, p.2)

theorem jVal_cons (d : Nat) (c : UInt8) (r : Bs) : jVal (d + 1) (c :: r) =
    if c = 123 then pobj d r
    else if c = 91 then parr d r
    else if c = 34 then (jRaw r).map fun p => (.str p.1, p.2)
    else if c = 116 then if (c :: r).take 4 = jTrue then some (.tru, r.drop 3) else none
    else if c = 102 then if (c :: r).take 5 = jFalse then some (.fls, r.drop 4) else none
    else if c = 110 then
      if (c :: r).take 4 = jNull then some (.null, r.drop 3)
      else if 3 ≤ (c :: r).length ∧ jFold ((c :: r).take 3) jNan = true then some (.num ((c :: r).take 3), r.drop 2)
      else none
    else (jNum (c :: r)).map fun p => (.num p.1, p.2) := rfl
theorem jVal_nil (d : Nat) : jVal d [] = none := by cases d <;> rfl

theorem parr_len {d : Nat} (hf : ∀ s v t, jVal d s = some (v, t) → t.length ≤ s.length) {s : Bs} {j : J} {t : Bs} (h : parr d s = some (j, t)) : t.length ≤ s.length := by
  unfold parr at h
  have h0 := jSkip_length s
  cases hs : jSkip s with
  | nil => simp [hs] at h
  | cons e u =>
    rw [hs] at h h0
    simp only [List.length_cons] at h0
    simp only at h
    split at h
    · simp only [Option.some.injEq, Prod.mk.injEq] at h
      obtain ⟨_, rfl⟩ := h
      omega
    · simp only [Option.map_eq_some_iff, Prod.exists, Prod.mk.injEq] at h
      obtain ⟨a, b, hab, _, rfl⟩ := h
      have := jElems_len hf _ _ _ _ hab
      simp only [List.length_cons] at this
      omega
theorem pobj_len {d : Nat} (hf : ∀ s v t, jVal d s = some (v, t) → t.length ≤ s.length) {s : Bs} {j : J} {t : Bs} (h : pobj d s = some (j, t)) : t.length ≤ s.length := by
  unfold pobj at h
  have h0 := jSkip_length s
  cases hs : jSkip s with
  | nil => simp [hs] at h
  | cons e u =>
    rw [hs] at h h0
    simp only [List.length_cons] at h0
    simp only at h
    split at h
    · simp only [Option.some.injEq, Prod.mk.injEq] at h
      obtain ⟨_, rfl⟩ := h
      omega
    · simp only [Option.map_eq_some_iff, Prod.exists, Prod.mk.injEq] at h
      obtain ⟨a, b, hab, _, rfl⟩ := h
      have := jMembers_len hf _ _ _ _ hab
      simp only [List.length_cons] at this
      omega

theorem jVal_len (d : Nat) : ∀ (s : Bs) (v : J) (t : Bs), jVal d s = some (v, t) → t.length + 1 ≤ s.length := by
  induction d with
  | zero => intro s v t h; cases h
  | succ d ih =>
    intro s v t h
    have ih' : ∀ s v t, jVal d s = some (v, t) → t.length ≤ s.length := fun s v t h => by have := ih s v t h; omega
    match s with
    | [] => cases h
    | c :: r =>
      rw [jVal_cons] at h
      simp only [List.length_cons]
      split at h
      · have := pobj_len ih' h; omega
      split at h
      · have := parr_len ih' h; omega
      split at h
      · simp only [Option.map_eq_some_iff, Prod.exists, Prod.mk.injEq] at h
        obtain ⟨a, b, hab, _, rfl⟩ := h
        have := jRaw_len hab; omega
      split at h
      · split at h
        · simp only [Option.some.injEq, Prod.mk.injEq] at h
          obtain ⟨_, rfl⟩ := h
          simp
        · cases h
      split at h
      · split at h
        · simp only [Option.some.injEq, Prod.mk.injEq] at h
          obtain ⟨_, rfl⟩ := h
          simp
        · cases h
      split at h
      · split at h
        · simp only [Option.some.injEq, Prod.mk.injEq] at h
          obtain ⟨_, rfl⟩ := h
          simp
        · split at h
          · simp only [Option.some.injEq, Prod.mk.injEq] at h
            obtain ⟨_, rfl⟩ := h
            simp
          · cases h
      · simp only [Option.map_eq_some_iff, Prod.exists, Prod.mk.injEq] at h
        obtain ⟨a, b, hab, _, rfl⟩ := h
        have := jNum_len hab (by simp)
        simp at this; omega

/-- A list of which some elements have been read, by its text. -/
def ArrPure (d : Nat) (s : Bs) (ts : List J) (N : Nat) (u : Bs) : Prop := parr d s = ((jElems (jVal d) N u).map fun p => (.arr (ts ++ p.1), p.2)) ∧ u.length ≤ N
theorem ArrPure.start {d : Nat} {s : Bs} {c : UInt8} {u : Bs} (h : jSkip s = c :: u) (hc : c ≠ 93) : ArrPure d s [] (c :: u).length (c :: u) := by
  refine ⟨?_, Nat.le_refl _⟩
  unfold parr
  rw [h]
  simp only [if_neg hc, List.nil_append]
theorem ArrPure.bad {d : Nat} {s : Bs} {ts : List J} {N : Nat} {u : Bs} (h : ArrPure d s ts N u) (hv : jVal d (jSkip u) = none) : parr d s = none := by
  rw [h.1]
  cases N with
  | zero => rfl
  | succ N => simp [jElems, hv]
theorem ArrPure.pos {d : Nat} {s : Bs} {ts : List J} {N : Nat} {u : Bs} (h : ArrPure d s ts N u) {v : J} {t : Bs} (hv : jVal d (jSkip u) = some (v, t)) : ∃ M, N = M + 1 := by
  cases N with
  | zero =>
    have := h.2
    have h0 : u = [] := List.eq_nil_of_length_eq_zero (by omega)
    subst h0
    rw [show jSkip [] = [] from rfl, jVal_nil] at hv
    cases hv
  | succ M => exact ⟨M, rfl⟩
theorem ArrPure.stop {d : Nat} {s : Bs} {ts : List J} {N : Nat} {u : Bs} (h : ArrPure d s ts N u) {v : J} {t : Bs} (hv : jVal d (jSkip u) = some (v, t)) (ht : jSkip t = []) : parr d s = none := by
  obtain ⟨M, rfl⟩ := h.pos hv
  rw [h.1]; simp [jElems, hv, ht]
theorem ArrPure.comma {d : Nat} {s : Bs} {ts : List J} {N : Nat} {u : Bs} (h : ArrPure d s ts N u) {v : J} {t x : Bs} (hv : jVal d (jSkip u) = some (v, t)) (ht : jSkip t = 44 :: x) :
    ArrPure d s (ts ++ [v]) (N - 1) x ∧ x.length < u.length ∧ x.length + 1 ≤ t.length := by
  obtain ⟨M, rfl⟩ := h.pos hv
  have h1 := jVal_len d _ _ _ hv
  have h2 := jSkip_length u
  have h3 := jSkip_length t
  rw [ht] at h3
  simp only [List.length_cons] at h3
  have h4 := h.2
  refine ⟨⟨?_, by simp; omega⟩, by omega, by omega⟩
  rw [h.1]
  simp [jElems, hv, ht, Option.map_map, Function.comp_def]
theorem ArrPure.close {d : Nat} {s : Bs} {ts : List J} {N : Nat} {u : Bs} (h : ArrPure d s ts N u) {v : J} {t x : Bs} (hv : jVal d (jSkip u) = some (v, t)) (ht : jSkip t = 93 :: x) :
    parr d s = some (.arr (ts ++ [v]), x) ∧ x.length + 1 ≤ t.length := by
  obtain ⟨M, rfl⟩ := h.pos hv
  have h3 := jSkip_length t
  rw [ht] at h3
  refine ⟨?_, h3⟩
  rw [h.1]
  simp [jElems, hv, ht]
theorem ArrPure.other {d : Nat} {s : Bs} {ts : List J} {N : Nat} {u : Bs} (h : ArrPure d s ts N u) {v : J} {t x : Bs} {c : UInt8} (hv : jVal d (jSkip u) = some (v, t)) (ht : jSkip t = c :: x) (h1 : c ≠ 44) (h2 : c ≠ 93) :
    parr d s = none := by
  obtain ⟨M, rfl⟩ := h.pos hv
  rw [h.1]
  simp [jElems, hv, ht, h1, h2]
end Go.Proofs.YtppkpcijmfdfmaaGreatDoor

/- The plain side: an object, member by member. -/
namespace Go.Proofs.YtppkpcijmfdfmaaGreatDoor

/-- An object of which some members have been read, by its text. -/
def ObjPure (d : Nat) (s : Bs) (ms : List (Bs × J)) (N : Nat) (u : Bs) : Prop := pobj d s = ((jMembers (jVal d) N u).map fun p => (.obj (ms ++ p.1), p.2)) ∧ u.length ≤ N
theorem ObjPure.start {d : Nat} {s : Bs} {c : UInt8} {u : Bs} (h : jSkip s = c :: u) (hc : c ≠ 125) : ObjPure d s [] (c :: u).length (c :: u) := by
  refine ⟨?_, Nat.le_refl _⟩
  unfold pobj
  rw [h]
  simp only [if_neg hc, List.nil_append]
section
variable {d : Nat} {s : Bs} {ms : List (Bs × J)} {N : Nat} {u : Bs}
theorem ObjPure.bad1 (h : ObjPure d s ms N u) (hu : jSkip u = []) : pobj d s = none := by
  rw [h.1]
  cases N with
  | zero => rfl
  | succ N => simp [jMembers, hu]
theorem ObjPure.bad2 (h : ObjPure d s ms N u) {q : UInt8} {r : Bs} (hu : jSkip u = q :: r) (hq : q ≠ 34) : pobj d s = none := by
  rw [h.1]
  cases N with
  | zero => rfl
  | succ N => simp [jMembers, hu, hq]
theorem ObjPure.pos (h : ObjPure d s ms N u) {q : UInt8} {r : Bs} (hu : jSkip u = q :: r) : ∃ M, N = M + 1 := by
  cases N with
  | zero =>
    have := h.2
    have h0 : u = [] := List.eq_nil_of_length_eq_zero (by omega)
    subst h0
    cases hu
  | succ M => exact ⟨M, rfl⟩
theorem ObjPure.bad3 (h : ObjPure d s ms N u) {r : Bs} (hu : jSkip u = 34 :: r) (hk : jRaw r = none) : pobj d s = none := by
  obtain ⟨M, rfl⟩ := h.pos hu
  rw [h.1]; simp [jMembers, hu, hk]
theorem ObjPure.bad4 (h : ObjPure d s ms N u) {r k r1 : Bs} (hu : jSkip u = 34 :: r) (hk : jRaw r = some (k, r1)) (h1 : jSkip r1 = []) : pobj d s = none := by
  obtain ⟨M, rfl⟩ := h.pos hu
  rw [h.1]; simp [jMembers, hu, hk, h1]
theorem ObjPure.bad5 (h : ObjPure d s ms N u) {r k r1 r2 : Bs} {c : UInt8} (hu : jSkip u = 34 :: r) (hk : jRaw r = some (k, r1)) (h1 : jSkip r1 = c :: r2) (hc : c ≠ 58) : pobj d s = none := by
  obtain ⟨M, rfl⟩ := h.pos hu
  rw [h.1]; simp [jMembers, hu, hk, h1, hc]
theorem ObjPure.bad6 (h : ObjPure d s ms N u) {r k r1 r2 : Bs} (hu : jSkip u = 34 :: r) (hk : jRaw r = some (k, r1)) (h1 : jSkip r1 = 58 :: r2) (hv : jVal d (jSkip r2) = none) : pobj d s = none := by
  obtain ⟨M, rfl⟩ := h.pos hu
  rw [h.1]; simp [jMembers, hu, hk, h1, hv]
theorem ObjPure.bad7 (h : ObjPure d s ms N u) {r k r1 r2 t : Bs} {v : J} (hu : jSkip u = 34 :: r) (hk : jRaw r = some (k, r1)) (h1 : jSkip r1 = 58 :: r2) (hv : jVal d (jSkip r2) = some (v, t)) (ht : jSkip t = []) : pobj d s = none := by
  obtain ⟨M, rfl⟩ := h.pos hu
  rw [h.1]; simp [jMembers, hu, hk, h1, hv, ht]
theorem ObjPure.other (h : ObjPure d s ms N u) {r k r1 r2 t x : Bs} {v : J} {c : UInt8} (hu : jSkip u = 34 :: r) (hk : jRaw r = some (k, r1)) (h1 : jSkip r1 = 58 :: r2) (hv : jVal d (jSkip r2) = some (v, t)) (ht : jSkip t = c :: x)
    (hc1 : c ≠ 44) (hc2 : c ≠ 125) : pobj d s = none := by
  obtain ⟨M, rfl⟩ := h.pos hu
  rw [h.1]; simp [jMembers, hu, hk, h1, hv, ht, hc1, hc2]
/-- The lengths on the way through one member. -/
theorem member_len {r k r1 r2 t : Bs} {v : J} (hu : jSkip u = 34 :: r) (hk : jRaw r = some (k, r1)) (h1 : jSkip r1 = 58 :: r2) (hv : jVal d (jSkip r2) = some (v, t)) :
    r.length + 1 ≤ u.length ∧ r1.length + 1 ≤ r.length ∧ r2.length + 1 ≤ r1.length ∧ (jSkip r2).length ≤ r2.length ∧ t.length + 1 ≤ (jSkip r2).length := by
  have a1 := jSkip_length u
  have a2 := jRaw_len hk
  have a3 := jSkip_length r1
  have a4 := jSkip_length r2
  have a5 := jVal_len d _ _ _ hv
  rw [hu] at a1
  rw [h1] at a3
  simp only [List.length_cons] at a1 a3
  exact ⟨a1, by omega, a3, a4, a5⟩
theorem ObjPure.comma (h : ObjPure d s ms N u) {r k r1 r2 t x : Bs} {v : J} (hu : jSkip u = 34 :: r) (hk : jRaw r = some (k, r1)) (h1 : jSkip r1 = 58 :: r2) (hv : jVal d (jSkip r2) = some (v, t)) (ht : jSkip t = 44 :: x) :
    ObjPure d s (ms ++ [(k, v)]) (N - 1) x ∧ x.length + 1 ≤ u.length ∧ x.length + 1 ≤ t.length := by
  obtain ⟨M, rfl⟩ := h.pos hu
  obtain ⟨b1, b2, b3, b4, b5⟩ := member_len hu hk h1 hv
  have h3 := jSkip_length t
  rw [ht] at h3
  simp only [List.length_cons] at h3
  have h4 := h.2
  refine ⟨⟨?_, by simp; omega⟩, by omega, by omega⟩
  rw [h.1]
  simp [jMembers, hu, hk, h1, hv, ht, Option.map_map, Function.comp_def]
theorem ObjPure.close (h : ObjPure d s ms N u) {r k r1 r2 t x : Bs} {v : J} (hu : jSkip u = 34 :: r) (hk : jRaw r = some (k, r1)) (h1 : jSkip r1 = 58 :: r2) (hv : jVal d (jSkip r2) = some (v, t)) (ht : jSkip t = 125 :: x) :
    pobj d s = some (.obj (ms ++ [(k, v)]), x) ∧ x.length + 1 ≤ t.length := by
  obtain ⟨M, rfl⟩ := h.pos hu
  have h3 := jSkip_length t
  rw [ht] at h3
  refine ⟨?_, h3⟩
  rw [h.1]
  simp [jMembers, hu, hk, h1, hv, ht]
end
end Go.Proofs.YtppkpcijmfdfmaaGreatDoor

/- The plain side: raw texts unescaped (well-formed escapes alone). -/
namespace Go.Proofs.YtppkpcijmfdfmaaGreatDoor

/-- A character's bytes. -/
def jEnc (n : Nat) : Bs := (Utf8.encode n).data.toList

def jHex1 (c : UInt8) : Option Nat :=
  if 48 ≤ c.toNat ∧ c.toNat ≤ 57 then some (c.toNat - 48)
  else if 97 ≤ c.toNat ∧ c.toNat ≤ 102 then some (c.toNat - 87)
  else if 65 ≤ c.toNat ∧ c.toNat ≤ 70 then some (c.toNat - 55)
  else none
def jHex4 (a b c d : UInt8) : Option Nat :=
  match jHex1 a, jHex1 b, jHex1 c, jHex1 d with
  | some p, some q, some r, some s => some (((p * 16 + q) * 16 + r) * 16 + s)
  | _, _, _, _ => none

/-- What one byte behind a reverse solidus means. -/
def uShort (e : UInt8) : Option UInt8 :=
  if e = 34 then some 34 else if e = 92 then some 92 else if e = 47 then some 47 else if e = 98 then some 8
  else if e = 102 then some 12 else if e = 110 then some 10 else if e = 114 then some 13 else if e = 116 then some 9 else none

/-- What stands behind a reverse solidus and the letter u: a character, or two halves of one. -/
def uHex : Bs → Option (Bs × Bs)
  | a :: b :: c :: d :: r =>
    match jHex4 a b c d with
    | none => none
    | some x =>
      if x < 55296 ∨ 57344 ≤ x then some (jEnc x, r)
      else
        match r with
        | p :: q :: a2 :: b2 :: c2 :: d2 :: t =>
          if p = 92 ∧ q = 117 then
            match jHex4 a2 b2 c2 d2 with
            | none => none
            | some y => if x < 56320 ∧ 56320 ≤ y ∧ y < 57344 then some (jEnc (65536 + (x - 55296) * 1024 + (y - 56320)), t) else none
          else none
        | _ => none
  | _ => none
/-- What stands behind a reverse solidus: its meaning, and the rest. -/
def uStep : Bs → Option (Bs × Bs)
  | [] => none
  | e :: r =>
    match uShort e with
    | some x => some ([x], r)
    | none => if e = 117 then uHex r else none

theorem uHex_len {s o t : Bs} (h : uHex s = some (o, t)) : t.length < s.length := by
  unfold uHex at h
  split at h
  · split at h
    · cases h
    · split at h
      · simp only [Option.some.injEq, Prod.mk.injEq] at h; obtain ⟨_, rfl⟩ := h; simp only [List.length_cons]; omega
      · split at h
        · split at h
          · split at h
            · cases h
            · split at h
              · simp only [Option.some.injEq, Prod.mk.injEq] at h; obtain ⟨_, rfl⟩ := h; simp only [List.length_cons]; omega
              · cases h
          · cases h
        · cases h
  · cases h
theorem uStep_len {s o t : Bs} (h : uStep s = some (o, t)) : t.length < s.length := by
  unfold uStep at h
  split at h
  · cases h
  · split at h
    · cases h; simp
    · split at h
      · have := uHex_len h; simp; omega
      · cases h

/-- A raw text unescaped. -/
def jUn (s : Bs) : Option Bs :=
  match s with
  | [] => some []
  | c :: r =>
    if c = 92 then
      match h : uStep r with
      | none => none
      | some (o, t) => (jUn t).map (o ++ ·)
    else (jUn r).map (c :: ·)
termination_by s.length
decreasing_by
  · have := uStep_len h; simp; omega
  · simp

theorem jUn_nil : jUn [] = some [] := by rw [jUn]
theorem jUn_cons {c : UInt8} (r : Bs) (h : c ≠ 92) : jUn (c :: r) = (jUn r).map (c :: ·) := by rw [jUn, if_neg h]
theorem jUn_esc {r o t : Bs} (h : uStep r = some (o, t)) : jUn (92 :: r) = (jUn t).map (o ++ ·) := by
  rw [jUn]
  simp only [if_true]
  split
  · rename_i h2; rw [h] at h2; cases h2
  · rename_i o2 t2 h2; rw [h] at h2; cases h2; rfl
theorem jUn_bad {r : Bs} (h : uStep r = none) : jUn (92 :: r) = none := by
  rw [jUn]
  simp only [if_true]
  split
  · rfl
  · rename_i o2 t2 h2; rw [h] at h2; cases h2
theorem jUn_plain (s : Bs) (h : (92 : UInt8) ∉ s) : jUn s = some s := by
  induction s with
  | nil => exact jUn_nil
  | cons c r ih =>
    simp only [List.mem_cons, not_or] at h
    rw [jUn_cons r (fun e => h.1 e.symm), ih h.2]
    rfl

end Go.Proofs.YtppkpcijmfdfmaaGreatDoor

/- The plain side: the generator of styles, and why blanks end. No program in sight. -/
namespace Go.Proofs.YtppkpcijmfdfmaaGreatDoor

/-- One step of a style's generator. -/
def lcg (x : Nat) : Nat := (x * 6364136223846793005 + 1442695040888963407) % 18446744073709551616
/-- The number that a state tells. -/
def told (x n : Nat) : Nat := x / 8589934592 % n

theorem lcg_mod (x : Nat) : lcg x % 34359738368 = (6364136223846793005 * x + 1442695040888963407) % 34359738368 := by
  unfold lcg
  rw [Nat.mul_comm x]
  exact Nat.mod_mod_of_dvd _ ⟨536870912, by decide⟩
attribute [irreducible] lcg

/-- A state after some double steps. -/
def bTop (x : Nat) : Nat → Nat
  | 0 => x
  | k + 1 => bTop (lcg (lcg x)) k
theorem bTop_add (x a b : Nat) : bTop x (a + b) = bTop (bTop x a) b := by
  induction a generalizing x with
  | zero => rw [Nat.zero_add]; rfl
  | succ a ih => rw [Nat.succ_add]; exact ih _
theorem bTop_lcg (x k : Nat) : lcg (bTop x k) = bTop (lcg x) k := by
  induction k generalizing x with
  | zero => rfl
  | succ k ih => exact ih _

/-- Double steps of a number that is a power of two, on 35 bits: x to A x + C. -/
def dbl : Nat → Nat × Nat
  | 0 => (6364136223846793005 * 6364136223846793005 % 34359738368, (6364136223846793005 + 1) * 1442695040888963407 % 34359738368)
  | m + 1 => let p := dbl m; (p.1 * p.1 % 34359738368, (p.1 + 1) * p.2 % 34359738368)

theorem mod_affine (a c y z M : Nat) (h : y % M = z % M) : (a * y + c) % M = (a * z + c) % M := by
  rw [Nat.add_mod, Nat.mul_mod, h, ← Nat.mul_mod, ← Nat.add_mod]
theorem affine_twice (A C x : Nat) (M : Nat) : (A * (A * x + C) + C) % M = (A * A % M * x + (A + 1) * C % M) % M := by
  rw [Nat.add_mod (_ % M * x), Nat.mul_mod (_ % M), Nat.mod_mod, Nat.mod_mod, ← Nat.mul_mod, ← Nat.add_mod]
  congr 1
  rw [Nat.mul_add, Nat.add_mul, Nat.one_mul, Nat.mul_assoc]
  omega
theorem step_affine (x : Nat) : bTop x 1 % 34359738368 = ((dbl 0).1 * x + (dbl 0).2) % 34359738368 := by
  have h1 : bTop x 1 = lcg (lcg x) := rfl
  rw [h1, lcg_mod, mod_affine 6364136223846793005 1442695040888963407 _ _ _ (lcg_mod x), affine_twice]
  rfl
theorem dbl_affine (m : Nat) : ∀ x, bTop x (2 ^ m) % 34359738368 = ((dbl m).1 * x + (dbl m).2) % 34359738368 := by
  induction m with
  | zero => intro x; exact step_affine x
  | succ m ih =>
    intro x
    rw [Nat.pow_succ, Nat.mul_two, bTop_add, ih, mod_affine _ _ _ _ _ (ih x), affine_twice]
    rfl

/-- Where the blanks end. -/
def bStop (x : Nat) : Prop := x = 0 ∨ told (lcg x) 4 ≠ 0
theorem told_zero {x : Nat} (h : told x 4 = 0) : x % 34359738368 < 8589934592 := by
  unfold told at h
  omega
theorem far_eq (z0 z1 z2 t s : Int) (h1 : z1 = 31463833601 * z0 + 5822021632 + 34359738368 * t) (h2 : z2 = 31463833601 * z1 + 5822021632 + 34359738368 * s) : z2 + z0 - 2 * z1 - 17179869184 = 34359738368 * (28812001250 * z0 + 5331330462 + 31463833599 * t + s) := by
  subst h2
  subst h1
  omega
theorem three_far (z0 z1 z2 : Nat) (h1 : z1 % 34359738368 = ((dbl 15).1 * z0 + (dbl 15).2) % 34359738368) (h2 : z2 % 34359738368 = ((dbl 15).1 * z1 + (dbl 15).2) % 34359738368)
    (b0 : z0 % 34359738368 < 8589934592) (b1 : z1 % 34359738368 < 8589934592) (b2 : z2 % 34359738368 < 8589934592) : False := by
  have e : dbl 15 = (31463833601, 5822021632) := by decide +kernel
  rw [e] at h1 h2
  simp only at h1 h2
  have e1 := far_eq z0 z1 z2 ((z1 / 34359738368 : Int) - ((31463833601 * z0 + 5822021632 : Int) / 34359738368)) ((z2 / 34359738368 : Int) - ((31463833601 * z1 + 5822021632 : Int) / 34359738368)) (by omega) (by omega)
  generalize (28812001250 * (z0 : Int) + 5331330462 + 31463833599 * ((z1 / 34359738368 : Int) - ((31463833601 * z0 + 5822021632 : Int) / 34359738368)) + ((z2 / 34359738368 : Int) - ((31463833601 * z1 + 5822021632 : Int) / 34359738368))) = X at e1
  clear h1 h2
  omega
theorem bStop_some (x : Nat) : ∃ k, k ≤ 65536 ∧ bStop (bTop x k) := by
  apply Classical.byContradiction
  intro h
  have hall : ∀ k, k ≤ 65536 → told (bTop (lcg x) k) 4 = 0 := by
    intro k hk
    apply Classical.byContradiction
    intro e
    rw [← bTop_lcg] at e
    exact h ⟨k, hk, Or.inr e⟩
  have h1 := dbl_affine 15 (lcg x)
  have h2 := dbl_affine 15 (bTop (lcg x) (2 ^ 15))
  rw [← bTop_add] at h2
  exact three_far _ _ _ h1 h2 (told_zero (hall 0 (by decide))) (told_zero (hall (2 ^ 15) (by decide))) (told_zero (hall (2 ^ 15 + 2 ^ 15) (by decide)))
theorem least {p : Nat → Prop} (h : ∃ k, p k) : ∃ k, p k ∧ ∀ j, j < k → ¬ p j := by
  obtain ⟨k, hk⟩ := h
  induction k using Nat.strongRecOn with
  | ind k ih =>
    by_cases hj : ∃ j, j < k ∧ p j
    · obtain ⟨j, hlt, hp⟩ := hj
      exact ih j hlt hp
    · exact ⟨k, hk, fun j hlt hp => hj ⟨j, hlt, hp⟩⟩
/-- How many blanks. -/
noncomputable def bCount (x : Nat) : Nat := (least (let ⟨k, _, h⟩ := bStop_some x; ⟨k, h⟩ : ∃ k, bStop (bTop x k))).choose
theorem bCount_spec (x : Nat) : bStop (bTop x (bCount x)) ∧ ∀ j, j < bCount x → ¬ bStop (bTop x j) := (least (let ⟨k, _, h⟩ := bStop_some x; ⟨k, h⟩ : ∃ k, bStop (bTop x k))).choose_spec
theorem bCount_le (x : Nat) : bCount x ≤ 65536 := by
  obtain ⟨k, hk, h⟩ := bStop_some x
  rcases Nat.lt_or_ge k (bCount x) with h1 | h1
  · exact absurd h ((bCount_spec x).2 k h1)
  · omega
theorem bCount_zero {x : Nat} (h : bStop x) : bCount x = 0 := by
  rcases Nat.eq_zero_or_pos (bCount x) with h1 | h1
  · exact h1
  · exact absurd h ((bCount_spec x).2 0 h1)
theorem bCount_succ {x : Nat} (h : ¬ bStop x) : bCount x = bCount (lcg (lcg x)) + 1 := by
  obtain ⟨h1, h2⟩ := bCount_spec x
  obtain ⟨h3, h4⟩ := bCount_spec (lcg (lcg x))
  have h0 : bCount x ≠ 0 := by
    intro e
    rw [e] at h1
    exact h h1
  obtain ⟨n, hn⟩ := Nat.exists_eq_succ_of_ne_zero h0
  rw [hn] at h1 h2 ⊢
  have e1 : bTop x n.succ = bTop (lcg (lcg x)) n := rfl
  rw [e1] at h1
  rcases Nat.lt_trichotomy n (bCount (lcg (lcg x))) with hlt | rfl | hgt
  · exact absurd h1 (h4 n hlt)
  · rfl
  · exact absurd h3 (h2 (bCount (lcg (lcg x)) + 1) (Nat.succ_lt_succ hgt))

/-- A blank by its number. -/
def bChar (n : Nat) : UInt8 := if n = 0 then 32 else if n = 1 then 9 else if n = 2 then 10 else 13
theorem bChar_ws (n : Nat) : jWs (bChar n) = true := by
  unfold bChar
  split
  · rfl
  · split
    · rfl
    · split <;> rfl
def bRun : Nat → Nat → Bs × Nat
  | 0, x => ([], if x = 0 then 0 else lcg x)
  | n + 1, x => let r := bRun n (lcg (lcg x)); (bChar (told (lcg (lcg x)) 4) :: r.1, r.2)
/-- Blanks, and the state behind them. -/
noncomputable def blank (x : Nat) : Bs × Nat := bRun (bCount x) x
theorem blank_stop {x : Nat} (h : bStop x) : blank x = ([], if x = 0 then 0 else lcg x) := by
  unfold blank; rw [bCount_zero h]; rfl
theorem blank_go {x : Nat} (h : ¬ bStop x) : blank x = (bChar (told (lcg (lcg x)) 4) :: (blank (lcg (lcg x))).1, (blank (lcg (lcg x))).2) := by
  unfold blank; rw [bCount_succ h]; rfl
theorem bRun_ws (n : Nat) : ∀ x, ∀ c ∈ (bRun n x).1, jWs c = true := by
  induction n with
  | zero => intro x c hc; cases hc
  | succ n ih =>
    intro x c hc
    rcases List.mem_cons.1 hc with rfl | hc
    · exact bChar_ws _
    · exact ih _ c hc
theorem blank_ws (x : Nat) : ∀ c ∈ (blank x).1, jWs c = true := bRun_ws _ _
theorem blank_zero : blank 0 = ([], 0) := blank_stop (Or.inl rfl)
theorem lcg_lt (x : Nat) : lcg x < 18446744073709551616 := by
  unfold lcg
  exact Nat.mod_lt _ (by decide)
end Go.Proofs.YtppkpcijmfdfmaaGreatDoor
