/- The plain side of decimals that are shifted to the right and to the left: digits, and what they read as. No program in sight. -/
import Derived.Test.YtppkpcijmfdfmaaGreatDoorC0
import Ieee.Arith
import GoSem.Op.Equal
import Derived.Test.YtppkpcijmfdfmaaGreatDoorC1
import GoSem.Core.Float
import GoSem.Op.Unary
set_option linter.unusedVariables false
set_option linter.unusedSimpArgs false
set_option linter.unusedVariables false
set_option linter.unusedSimpArgs false
namespace Go.Proofs.YtppkpcijmfdfmaaGreatDoor

/-- The number that digits read as, behind a number. -/
def dA (a : Nat) (l : List Nat) : Nat := l.foldl (fun n d => n * 10 + d) a
def dN (l : List Nat) : Nat := dA 0 l
theorem dA_nil (a : Nat) : dA a [] = a := rfl
theorem dA_cons (a d : Nat) (l : List Nat) : dA a (d :: l) = dA (a * 10 + d) l := rfl
theorem dA_app (a : Nat) (l m : List Nat) : dA a (l ++ m) = dA (dA a l) m := by simp [dA]
theorem dA_eq : ∀ (l : List Nat) (a : Nat), dA a l = a * 10 ^ l.length + dN l
  | [], a => by simp [dA, dN]
  | d :: l, a => by
    have h1 := dA_eq l (a * 10 + d)
    have h2 := dA_eq l (0 * 10 + d)
    rw [dA_cons, h1]
    show _ = _ + dA 0 (d :: l)
    rw [dA_cons, h2, List.length_cons, Nat.pow_succ, Nat.add_mul, Nat.zero_mul, Nat.zero_add, Nat.mul_assoc, Nat.mul_comm 10 (10 ^ l.length)]
    omega
theorem dN_push (l : List Nat) (d : Nat) : dN (l ++ [d]) = dN l * 10 + d := by simp [dN, dA]
theorem dN_app (l m : List Nat) : dN (l ++ m) = dN l * 10 ^ m.length + dN m := by
  unfold dN; rw [dA_app, dA_eq]; rfl
theorem dN_cons (d : Nat) (l : List Nat) : dN (d :: l) = d * 10 ^ l.length + dN l := by
  have := dN_app [d] l
  simpa [dN, dA] using this
/-- Digits. -/
def Digs (l : List Nat) : Prop := ∀ d ∈ l, d ≤ 9
theorem Digs.nil : Digs [] := fun _ h => by cases h
theorem Digs.cons {d : Nat} {l : List Nat} (h : d ≤ 9) (hl : Digs l) : Digs (d :: l) := fun x hx => by
  rcases List.mem_cons.1 hx with rfl | hx
  · exact h
  · exact hl x hx
theorem Digs.head {d : Nat} {l : List Nat} (h : Digs (d :: l)) : d ≤ 9 := h d (by simp)
theorem Digs.tail {d : Nat} {l : List Nat} (h : Digs (d :: l)) : Digs l := fun x hx => h x (by simp [hx])
theorem Digs.app {l m : List Nat} (h : Digs l) (g : Digs m) : Digs (l ++ m) := fun x hx => by
  rcases List.mem_append.1 hx with hx | hx
  · exact h x hx
  · exact g x hx
theorem dN_lt : ∀ {l : List Nat}, Digs l → dN l < 10 ^ l.length
  | [], _ => by simp [dN, dA]
  | d :: l, h => by
    have h1 := dN_lt h.tail
    have h2 := h.head
    have h3 : d * 10 ^ l.length ≤ 9 * 10 ^ l.length := Nat.mul_le_mul_right _ h2
    rw [dN_cons, List.length_cons, Nat.pow_succ]
    omega
/-- With a first digit that is not zero. -/
def Lead (l : List Nat) : Prop := ∃ d t, l = d :: t ∧ 0 < d
theorem dN_ge {l : List Nat} (h : Lead l) : 10 ^ (l.length - 1) ≤ dN l := by
  obtain ⟨d, t, rfl, hd⟩ := h
  rw [dN_cons, List.length_cons, Nat.add_sub_cancel]
  have : 1 * 10 ^ t.length ≤ d * 10 ^ t.length := Nat.mul_le_mul_right _ hd
  omega

/-! ### Zeros at the end -/
def trimZ : List Nat → List Nat
  | [] => []
  | d :: l => if d = 0 ∧ trimZ l = [] then [] else d :: trimZ l
theorem trimZ_push (l : List Nat) (d : Nat) : trimZ (l ++ [d]) = if d = 0 then trimZ l else l ++ [d] := by
  induction l with
  | nil => by_cases h : d = 0 <;> simp [trimZ, h]
  | cons a l ih =>
    rw [List.cons_append, trimZ, ih]
    by_cases h : d = 0
    · simp [h, trimZ]
    · simp [h]
theorem trimZ_val : ∀ (l : List Nat), dN l * 10 ^ (trimZ l).length = dN (trimZ l) * 10 ^ l.length
  | [] => rfl
  | d :: l => by
    have ih := trimZ_val l
    rw [trimZ]
    split
    · rename_i h
      obtain ⟨rfl, h⟩ := h
      rw [h] at ih
      rw [dN_cons]
      simp [dN, dA] at ih ⊢
      exact ih
    · rw [dN_cons, dN_cons, List.length_cons, List.length_cons, Nat.pow_succ, Nat.pow_succ, Nat.add_mul, Nat.add_mul]
      have e1 : dN l * (10 ^ (trimZ l).length * 10) = dN (trimZ l) * (10 ^ l.length * 10) := by
        rw [← Nat.mul_assoc, ← Nat.mul_assoc, ih]
      have e2 : d * 10 ^ l.length * (10 ^ (trimZ l).length * 10) = d * 10 ^ (trimZ l).length * (10 ^ l.length * 10) := by
        simp only [Nat.mul_assoc, Nat.mul_comm, Nat.mul_left_comm]
      rw [e1, e2]
theorem trimZ_digs : ∀ {l : List Nat}, Digs l → Digs (trimZ l)
  | [], h => h
  | d :: l, h => by
    rw [trimZ]
    split
    · exact Digs.nil
    · exact Digs.cons h.head (trimZ_digs h.tail)
theorem trimZ_lead {l : List Nat} (h : Lead l) : Lead (trimZ l) := by
  obtain ⟨d, t, rfl, hd⟩ := h
  rw [trimZ, if_neg (by omega)]
  exact ⟨d, _, rfl, hd⟩
theorem trimZ_length (l : List Nat) : (trimZ l).length ≤ l.length := by
  induction l with
  | nil => exact Nat.le_refl _
  | cons d l ih =>
    rw [trimZ]
    split
    · simp
    · simp only [List.length_cons]; omega
/-- No zero at the end. -/
theorem trimZ_idem (l : List Nat) : trimZ (trimZ l) = trimZ l := by
  induction l with
  | nil => rfl
  | cons d l ih =>
    rw [trimZ]
    split
    · rfl
    · rename_i h
      rw [trimZ, ih, if_neg h]

/-! ### To the right -/
/-- What is put down behind the last digit. -/
def rTail (k : Nat) : Nat → Nat → List Nat
  | 0, _ => []
  | f + 1, n => if n = 0 then [] else n / 2 ^ k :: rTail k f (n % 2 ^ k * 10)
/-- A digit is picked up, a digit is put down. -/
def rOut (k : Nat) : Nat → List Nat → List Nat
  | n, [] => rTail k (k + 1) n
  | n, c :: t => n / 2 ^ k :: rOut k (n % 2 ^ k * 10 + c) t
/-- Zeros are picked up until there is enough. -/
def rPad (k : Nat) : Nat → Nat → Nat → Nat × Nat
  | 0, n, r => (n, r)
  | f + 1, n, r => if 2 ^ k ≤ n then (n, r) else rPad k f (n * 10) (r + 1)
/-- Digits are picked up until there is enough: the number, how many, what is left. -/
def rLead (k : Nat) (n r : Nat) : List Nat → Nat × Nat × List Nat
  | [] => if 2 ^ k ≤ n then (n, r, []) else ((rPad k k n r).1, (rPad k k n r).2, [])
  | c :: t => if 2 ^ k ≤ n then (n, r, c :: t) else rLead k (n * 10 + c) (r + 1) t
theorem rLead_stop {k n r : Nat} {l : List Nat} (h : 2 ^ k ≤ n) : rLead k n r l = (n, r, l) := by cases l <;> rw [rLead, if_pos h]
theorem rLead_go {k n r c : Nat} {l : List Nat} (h : ¬ 2 ^ k ≤ n) : rLead k n r (c :: l) = rLead k (n * 10 + c) (r + 1) l := by rw [rLead, if_neg h]
theorem rLead_end {k n r : Nat} (h : ¬ 2 ^ k ≤ n) : rLead k n r [] = ((rPad k k n r).1, (rPad k k n r).2, []) := by rw [rLead, if_neg h]
def rOk (k f n : Nat) : Prop := n = 0 ∨ (1 ≤ f ∧ 2 ^ (k + 1 - f) ∣ n)
theorem rOk_start (k n : Nat) : rOk k (k + 1) n := Or.inr ⟨by omega, by rw [Nat.sub_self]; exact Nat.one_dvd _⟩
theorem rOk_step {k f n : Nat} (h : rOk k f n) (hf : f ≤ k + 1) (hn : n ≠ 0) : ∃ g, f = g + 1 ∧ rOk k g (n % 2 ^ k * 10) := by
  rcases h with h | ⟨h1, h2⟩
  · exact absurd h hn
  obtain ⟨g, rfl⟩ : ∃ g, f = g + 1 := ⟨f - 1, by omega⟩
  refine ⟨g, rfl, ?_⟩
  by_cases hg : g = 0
  · subst hg
    have : k + 1 - (0 + 1) = k := by omega
    rw [this] at h2
    exact Or.inl (by rw [Nat.mod_eq_zero_of_dvd h2])
  · refine Or.inr ⟨by omega, ?_⟩
    have e : k + 1 - g = (k + 1 - (g + 1)) + 1 := by omega
    rw [e, Nat.pow_succ]
    have hd : 2 ^ (k + 1 - (g + 1)) ∣ n % 2 ^ k := (Nat.dvd_mod_iff (Nat.pow_dvd_pow 2 (by omega))).2 h2
    exact Nat.mul_dvd_mul hd (by decide)
theorem rTail_val (k : Nat) : ∀ (f n : Nat), rOk k f n → f ≤ k + 1 → n < 10 * 2 ^ k → n * 10 ^ (rTail k f n).length = dN (rTail k f n) * 10 * 2 ^ k ∧ Digs (rTail k f n) ∧ (rTail k f n).length ≤ f := by
  intro f
  induction f with
  | zero =>
    intro n h _ _
    rcases h with rfl | ⟨h, _⟩
    · exact ⟨by simp [rTail, dN, dA], Digs.nil, Nat.le_refl _⟩
    · omega
  | succ f ih =>
    intro n h hf hn
    rw [rTail]
    by_cases h0 : n = 0
    · subst h0
      rw [if_pos rfl]
      exact ⟨by simp [dN, dA], Digs.nil, by simp⟩
    rw [if_neg h0]
    obtain ⟨g, e, hg⟩ := rOk_step h hf h0
    obtain rfl : f = g := by omega
    have hp : 0 < 2 ^ k := Nat.pow_pos (by decide)
    have hm : n % 2 ^ k < 2 ^ k := Nat.mod_lt _ hp
    obtain ⟨i1, i2, i3⟩ := ih _ hg (by omega) (by omega)
    refine ⟨?_, Digs.cons ?_ i2, by simp only [List.length_cons]; omega⟩
    · rw [dN_cons, List.length_cons, Nat.pow_succ]
      have e := Nat.div_add_mod n (2 ^ k)
      generalize rTail k f (n % 2 ^ k * 10) = t at i1 ⊢
      generalize n / 2 ^ k = q at e ⊢
      generalize n % 2 ^ k = m at e i1 ⊢
      generalize 2 ^ k = K at e i1 ⊢
      generalize 10 ^ t.length = T at i1 ⊢
      subst e
      have : (K * q + m) * (T * 10) = q * T * 10 * K + m * 10 * T := by
        rw [Nat.add_mul]
        congr 1
        · simp only [Nat.mul_assoc, Nat.mul_comm, Nat.mul_left_comm]
        · simp only [Nat.mul_assoc, Nat.mul_comm, Nat.mul_left_comm]
      rw [this, i1, Nat.add_mul, Nat.add_mul]
    · have : n / 2 ^ k < 10 := (Nat.div_lt_iff_lt_mul hp).2 hn
      omega
theorem rOut_val (k : Nat) : ∀ (l : List Nat) (n : Nat), Digs l → n < 10 * 2 ^ k → dA n l * 10 ^ (rOut k n l).length = dN (rOut k n l) * 10 * 2 ^ k * 10 ^ l.length ∧ Digs (rOut k n l) ∧ (rOut k n l).length ≤ l.length + k + 1 := by
  intro l
  induction l with
  | nil =>
    intro n _ hn
    obtain ⟨h1, h2, h3⟩ := rTail_val k (k + 1) n (rOk_start k n) (Nat.le_refl _) hn
    refine ⟨?_, h2, by rw [rOut]; simp only [List.length_nil]; omega⟩
    rw [dA_nil, rOut, h1]
    simp
  | cons c l ih =>
    intro n hd hn
    have hp : 0 < 2 ^ k := Nat.pow_pos (by decide)
    have hm : n % 2 ^ k < 2 ^ k := Nat.mod_lt _ hp
    have hc := hd.head
    obtain ⟨i1, i2, i3⟩ := ih (n % 2 ^ k * 10 + c) hd.tail (by omega)
    rw [rOut]
    refine ⟨?_, Digs.cons ?_ i2, by simp only [List.length_cons]; omega⟩
    · rw [dA_cons, dN_cons, List.length_cons, List.length_cons, Nat.pow_succ, Nat.pow_succ]
      rw [dA_eq] at i1 ⊢
      have e := Nat.div_add_mod n (2 ^ k)
      generalize rOut k (n % 2 ^ k * 10 + c) l = t at i1 ⊢
      generalize n / 2 ^ k = q at e ⊢
      generalize n % 2 ^ k = m at e i1 ⊢
      generalize 2 ^ k = K at e i1 ⊢
      generalize 10 ^ t.length = T at i1 ⊢
      generalize 10 ^ l.length = L at i1 ⊢
      generalize dN l = D at i1 ⊢
      generalize dN t = X at i1 ⊢
      subst e
      have e1 : ((K * q + m) * 10 + c) * L + D = q * K * 10 * L + ((m * 10 + c) * L + D) := by
        have : (K * q + m) * 10 + c = q * K * 10 + (m * 10 + c) := by rw [Nat.mul_comm K q]; omega
        rw [this, Nat.add_mul, Nat.add_assoc]
      have e2 : (q * T + X) * 10 * K * (L * 10) = q * K * 10 * L * (T * 10) + X * 10 * K * L * 10 := by
        simp only [Nat.add_mul]
        congr 1 <;> simp only [Nat.mul_assoc, Nat.mul_comm, Nat.mul_left_comm]
      rw [e1, e2, Nat.add_mul, ← i1]
      congr 1
      simp only [Nat.mul_assoc, Nat.mul_comm, Nat.mul_left_comm]
    · have : n / 2 ^ k < 10 := (Nat.div_lt_iff_lt_mul hp).2 hn
      omega
theorem rOut_lead {k n : Nat} (l : List Nat) (h : 2 ^ k ≤ n) : Lead (rOut k n l) := by
  have hp : 0 < 2 ^ k := Nat.pow_pos (by decide)
  have hq : 0 < n / 2 ^ k := Nat.div_pos h hp
  cases l with
  | nil => rw [rOut, rTail, if_neg (by omega)]; exact ⟨_, _, rfl, hq⟩
  | cons c l => rw [rOut]; exact ⟨_, _, rfl, hq⟩
theorem rPad_spec (k : Nat) : ∀ (f n r : Nat), 2 ^ k ≤ n * 2 ^ f → n < 10 * 2 ^ k → ∃ j, (rPad k f n r).1 = n * 10 ^ j ∧ (rPad k f n r).2 = r + j ∧ 2 ^ k ≤ (rPad k f n r).1 ∧ (rPad k f n r).1 < 10 * 2 ^ k := by
  intro f
  induction f with
  | zero => intro n r h hn; exact ⟨0, by simp [rPad], rfl, by simpa [rPad] using h, by simpa [rPad] using hn⟩
  | succ f ih =>
    intro n r h hn
    rw [rPad]
    by_cases hk : 2 ^ k ≤ n
    · rw [if_pos hk]; exact ⟨0, by simp, rfl, hk, hn⟩
    rw [if_neg hk]
    have hlt : n * 10 < 10 * 2 ^ k := by omega
    have hge : 2 ^ k ≤ n * 10 * 2 ^ f := by
      refine Nat.le_trans h ?_
      rw [Nat.pow_succ, Nat.mul_assoc, Nat.mul_comm (2 ^ f) 2]
      exact Nat.mul_le_mul_left _ (Nat.mul_le_mul_right _ (by decide))
    obtain ⟨j, h1, h2, h3, h4⟩ := ih (n * 10) (r + 1) hge hlt
    exact ⟨j + 1, by rw [h1, Nat.pow_succ, Nat.mul_assoc, Nat.mul_comm 10], by rw [h2]; omega, h3, h4⟩
/-- What has been picked up, and what is left: the digits, with zeros behind them. -/
theorem rLead_spec (k : Nat) : ∀ (l : List Nat) (n r : Nat), Digs l → n < 10 * 2 ^ k → 0 < dA n l → ∃ j, dA (rLead k n r l).1 (rLead k n r l).2.2 = dA n l * 10 ^ j ∧ (rLead k n r l).2.1 + (rLead k n r l).2.2.length = r + l.length + j ∧
    (0 < j → (rLead k n r l).2.2 = []) ∧ 2 ^ k ≤ (rLead k n r l).1 ∧ (rLead k n r l).1 < 10 * 2 ^ k ∧ Digs (rLead k n r l).2.2 := by
  intro l
  induction l with
  | nil =>
    intro n r hd hn h0
    by_cases hk : 2 ^ k ≤ n
    · rw [rLead_stop hk]; exact ⟨0, by simp, rfl, fun h => by omega, hk, hn, hd⟩
    rw [rLead_end hk]
    have hp : 2 ^ k ≤ n * 2 ^ k := by
      have : 1 * 2 ^ k ≤ n * 2 ^ k := Nat.mul_le_mul_right _ h0
      omega
    obtain ⟨j, h1, h2, h3, h4⟩ := rPad_spec k k n r hp hn
    exact ⟨j, by simp only [dA_nil]; exact h1, by simp only [List.length_nil]; omega, fun _ => rfl, h3, h4, Digs.nil⟩
  | cons c l ih =>
    intro n r hd hn h0
    by_cases hk : 2 ^ k ≤ n
    · rw [rLead_stop hk]; exact ⟨0, by simp, rfl, fun h => by omega, hk, hn, hd⟩
    rw [rLead_go hk]
    have hc := hd.head
    obtain ⟨j, h1, h2, h3⟩ := ih (n * 10 + c) (r + 1) hd.tail (by omega) h0
    exact ⟨j, h1, by rw [h2, List.length_cons]; omega, h3⟩

/-- A shift to the right: the digits, and by how many places the point moves to the left. -/
def rDigs (k : Nat) (l : List Nat) : List Nat := trimZ (rOut k (rLead k 0 0 l).1 (rLead k 0 0 l).2.2)
def rMove (k : Nat) (l : List Nat) : Nat := (rLead k 0 0 l).2.1 - 1
theorem rLead_pos {k : Nat} {l : List Nat} : ∀ {n r : Nat}, n < 2 ^ k → 2 ^ k ≤ (rLead k n r l).1 → r < (rLead k n r l).2.1 := by
  induction l with
  | nil =>
    intro n r hn h
    rw [rLead_end (by omega)] at h ⊢
    have key : ∀ f n r, r ≤ (rPad k f n r).2 ∧ ((rPad k f n r).2 = r → (rPad k f n r).1 = n) := by
      intro f
      induction f with
      | zero => intro n r; exact ⟨Nat.le_refl _, fun _ => rfl⟩
      | succ f ih =>
        intro n r
        rw [rPad]
        split
        · exact ⟨Nat.le_refl _, fun _ => rfl⟩
        · have := (ih (n * 10) (r + 1)).1
          exact ⟨by omega, fun e => by omega⟩
    obtain ⟨h1, h2⟩ := key k n r
    simp only at h ⊢
    rcases Nat.lt_or_ge r (rPad k k n r).2 with h3 | h3
    · exact h3
    · have := h2 (by omega); omega
  | cons c l ih =>
    intro n r hn h
    rw [rLead_go (by omega)] at h ⊢
    by_cases hk : 2 ^ k ≤ n * 10 + c
    · rw [rLead_stop hk]; exact Nat.lt_succ_self r
    · have := ih (n := n * 10 + c) (r := r + 1) (by omega) h
      omega
/-- The value, by the digits and the point: what is shifted is what was, divided. -/
theorem right_val {k : Nat} {l : List Nat} (hd : Digs l) (h0 : 0 < dN l) : dN l * 10 ^ rMove k l * 10 ^ (rDigs k l).length = dN (rDigs k l) * 2 ^ k * 10 ^ l.length ∧ Digs (rDigs k l) ∧ Lead (rDigs k l) ∧ trimZ (rDigs k l) = rDigs k l ∧ (rDigs k l).length ≤ l.length + k + 1 := by
  have hp : 0 < 2 ^ k := Nat.pow_pos (by decide)
  obtain ⟨j, h1, h2, h3, h4, h5, h6⟩ := rLead_spec k l 0 0 hd (by omega) h0
  have hr := rLead_pos (k := k) (l := l) (n := 0) (r := 0) hp h4
  obtain ⟨v1, v2, v3⟩ := rOut_val k _ _ h6 h5
  unfold rDigs rMove
  generalize rLead k 0 0 l = z at h1 h2 h3 h4 h5 h6 hr v1 v2 v3 ⊢
  obtain ⟨n, r, m⟩ := z
  simp only at h1 h2 h3 h4 h5 h6 hr v1 v2 v3 ⊢
  have hl : m.length ≤ l.length := by
    rcases Nat.eq_zero_or_pos j with hj | hj
    · omega
    · rw [h3 hj]; simp
  refine ⟨?_, trimZ_digs v2, trimZ_lead (rOut_lead m h4), trimZ_idem _, Nat.le_trans (trimZ_length _) (by omega)⟩
  have t := trimZ_val (rOut k n m)
  generalize rOut k n m = o at v1 v2 v3 t ⊢
  rw [h1] at v1
  -- dN l * 10^j * 10^|o| = dN o * 10 * 2^k * 10^|m|, r + |m| = |l| + j
  have e : 10 ^ (r - 1) * 10 * 10 ^ m.length = 10 ^ l.length * 10 ^ j := by
    rw [← Nat.pow_succ, ← Nat.pow_add, ← Nat.pow_add]
    congr 1
    omega
  have hpo : 0 < 10 ^ o.length := Nat.pow_pos (by decide)
  have hpm : 0 < 10 ^ m.length := Nat.pow_pos (by decide)
  have hpj : 0 < 10 ^ j := Nat.pow_pos (by decide)
  refine Nat.eq_of_mul_eq_mul_right (Nat.mul_pos (Nat.mul_pos hpo hpj) (Nat.mul_pos hpm (show 0 < 10 by decide))) ?_
  show dN l * 10 ^ (r - 1) * 10 ^ (trimZ o).length * (10 ^ o.length * 10 ^ j * (10 ^ m.length * 10)) = _
  have a1 : dN l * 10 ^ (r - 1) * 10 ^ (trimZ o).length * (10 ^ o.length * 10 ^ j * (10 ^ m.length * 10)) = (dN l * 10 ^ j * 10 ^ o.length) * (10 ^ (trimZ o).length * (10 ^ (r - 1) * 10 * 10 ^ m.length)) := by
    simp only [Nat.mul_assoc, Nat.mul_comm, Nat.mul_left_comm]
  have a2 : dN (trimZ o) * 2 ^ k * 10 ^ l.length * (10 ^ o.length * 10 ^ j * (10 ^ m.length * 10)) = (dN (trimZ o) * 10 ^ o.length) * (10 * 2 ^ k * 10 ^ m.length * (10 ^ l.length * 10 ^ j)) := by
    simp only [Nat.mul_assoc, Nat.mul_comm, Nat.mul_left_comm]
  have v1 : dN l * 10 ^ j * 10 ^ o.length = dN o * 10 * 2 ^ k * 10 ^ m.length := v1
  rw [a1, a2, ← t, v1, e]
  simp only [Nat.mul_assoc, Nat.mul_comm, Nat.mul_left_comm]

/-! ### To the left -/
/-- A number by so many digits. -/
def toD : Nat → Nat → List Nat
  | 0, _ => []
  | m + 1, n => toD m (n / 10) ++ [n % 10]
theorem toD_length : ∀ m n, (toD m n).length = m
  | 0, _ => rfl
  | m + 1, n => by rw [toD, List.length_append, toD_length]; rfl
theorem toD_digs : ∀ m n, Digs (toD m n)
  | 0, _ => Digs.nil
  | m + 1, n => (toD_digs m _).app (Digs.cons (by omega) Digs.nil)
theorem toD_val : ∀ m n, n < 10 ^ m → dN (toD m n) = n
  | 0, n, h => by simp at h; subst h; rfl
  | m + 1, n, h => by
    rw [Nat.pow_succ] at h
    rw [toD, dN_push, toD_val m (n / 10) (by omega)]
    omega
theorem toD_lead {m n : Nat} (h : n < 10 ^ m) (h2 : 10 ^ (m - 1) ≤ n) (hm : 0 < m) : Lead (toD m n) := by
  obtain ⟨m, rfl⟩ : ∃ k, m = k + 1 := ⟨m - 1, by omega⟩
  have hl := toD_length (m + 1) n
  have hv := toD_val _ _ h
  cases hq : toD (m + 1) n with
  | nil => rw [hq] at hl; simp at hl
  | cons d t =>
    refine ⟨d, t, rfl, ?_⟩
    rcases Nat.eq_zero_or_pos d with rfl | hd
    · rw [hq, dN_cons] at hv
      rw [hq, List.length_cons] at hl
      have hdg := toD_digs (m + 1) n
      rw [hq] at hdg
      have := dN_lt hdg.tail
      have e : t.length = m := by omega
      rw [e] at this
      simp only [Nat.add_sub_cancel] at h2
      omega
    · exact hd
end Go.Proofs.YtppkpcijmfdfmaaGreatDoor

/- The plain side of a whole number of 20 digits that is read as a number of floating point by decimals: the shifts, and what they end in. No program in sight. -/
set_option linter.unusedVariables false
set_option linter.unusedSimpArgs false
namespace Go.Proofs.YtppkpcijmfdfmaaGreatDoor

theorem right_move {k : Nat} {l : List Nat} (hd : Digs l) (hl : Lead l) : 10 ^ rMove k l < 10 * 2 ^ k := by
  have hge := dN_ge hl
  have h0 : 0 < dN l := Nat.lt_of_lt_of_le (Nat.pow_pos (by decide)) hge
  obtain ⟨h1, h2, _⟩ := right_val (k := k) hd h0
  have hlt := dN_lt h2
  have hn : 0 < l.length := by obtain ⟨d, t, rfl, _⟩ := hl; simp
  have hp : 0 < 10 ^ (rDigs k l).length := Nat.pow_pos (by decide)
  have hq : 0 < 10 ^ l.length := Nat.pow_pos (by decide)
  have hk : 0 < 2 ^ k := Nat.pow_pos (by decide)
  have a : dN l * 10 ^ rMove k l * 10 ^ (rDigs k l).length < 2 ^ k * 10 ^ l.length * 10 ^ (rDigs k l).length := by
    rw [h1, Nat.mul_assoc, Nat.mul_comm (2 ^ k * 10 ^ l.length)]
    exact Nat.mul_lt_mul_of_pos_right hlt (Nat.mul_pos hk hq)
  have b := Nat.lt_of_mul_lt_mul_right a
  have c : 10 ^ (l.length - 1) * 10 ^ rMove k l ≤ dN l * 10 ^ rMove k l := Nat.mul_le_mul_right _ hge
  have e : 2 ^ k * 10 ^ l.length = 10 ^ (l.length - 1) * (10 * 2 ^ k) := by
    obtain ⟨m, hm⟩ : ∃ m, l.length = m + 1 := ⟨l.length - 1, by omega⟩
    rw [hm, Nat.add_sub_cancel, Nat.pow_succ]
    simp only [Nat.mul_assoc, Nat.mul_comm, Nat.mul_left_comm]
  rw [e] at b
  exact Nat.lt_of_mul_lt_mul_left (Nat.lt_of_le_of_lt c b)

/-- By how many places of two a number with so many digits ahead of the point is shifted. -/
def pw (dp : Nat) : Nat := if 9 ≤ dp then 27 else [1, 3, 6, 9, 13, 16, 19, 23, 26].getD dp 0
theorem pw_move {dp : Nat} (h : 0 < dp) {m : Nat} (hm : 10 ^ m < 10 * 2 ^ pw dp) : m ≤ dp := by
  rcases Nat.lt_or_ge dp m with hlt | hge
  · exfalso
    have hp : 10 ^ (dp + 1) ≤ 10 ^ m := Nat.pow_le_pow_right (by decide) hlt
    unfold pw at hm
    by_cases h9 : 9 ≤ dp
    · rw [if_pos h9] at hm
      have h10 : 10 ^ 10 ≤ 10 ^ (dp + 1) := Nat.pow_le_pow_right (by decide) (by omega)
      omega
    · rw [if_neg h9] at hm
      have : dp = 1 ∨ dp = 2 ∨ dp = 3 ∨ dp = 4 ∨ dp = 5 ∨ dp = 6 ∨ dp = 7 ∨ dp = 8 := by omega
      rcases this with rfl | rfl | rfl | rfl | rfl | rfl | rfl | rfl <;> · simp at hm hp; omega
  · exact hge
theorem pw_range (dp : Nat) : 1 ≤ pw dp ∧ pw dp ≤ 27 := by
  unfold pw
  split
  · omega
  · rename_i h
    have : dp = 0 ∨ dp = 1 ∨ dp = 2 ∨ dp = 3 ∨ dp = 4 ∨ dp = 5 ∨ dp = 6 ∨ dp = 7 ∨ dp = 8 := by omega
    rcases this with rfl | rfl | rfl | rfl | rfl | rfl | rfl | rfl | rfl <;> decide

/-- Digits with a point behind so many of them, shifted so far: the number that it was. -/
structure Dec (N : Nat) (l : List Nat) (dp e : Nat) : Prop where
  digs : Digs l
  lead : Lead l
  val : dN l * 10 ^ dp * 2 ^ e = N * 10 ^ l.length
theorem Dec.pos {N : Nat} {l : List Nat} {dp e : Nat} (h : Dec N l dp e) : 0 < dN l := Nat.lt_of_lt_of_le (Nat.pow_pos (by decide)) (dN_ge h.lead)
theorem Dec.down {N : Nat} {l : List Nat} {dp e : Nat} (h : Dec N l dp e) (h0 : 0 < dp) : rMove (pw dp) l ≤ dp ∧ Dec N (rDigs (pw dp) l) (dp - rMove (pw dp) l) (e + pw dp) ∧ (rDigs (pw dp) l).length ≤ l.length + 2 * pw dp := by
  have hm := pw_move h0 (right_move (k := pw dp) h.digs h.lead)
  obtain ⟨h1, h2, h3, _, h5⟩ := right_val (k := pw dp) h.digs h.pos
  have hr := pw_range dp
  refine ⟨hm, ⟨h2, h3, ?_⟩, by omega⟩
  have hv := h.val
  have e1 : 10 ^ (dp - rMove (pw dp) l) * 10 ^ rMove (pw dp) l = 10 ^ dp := by rw [← Nat.pow_add]; congr 1; omega
  rw [Nat.pow_add]
  generalize 10 ^ (dp - rMove (pw dp) l) = x at e1 ⊢
  generalize 10 ^ (rDigs (pw dp) l).length = y at h1 ⊢
  have hq : 0 < 10 ^ l.length := Nat.pow_pos (by decide)
  have hz : 0 < 10 ^ rMove (pw dp) l := Nat.pow_pos (by decide)
  generalize 10 ^ rMove (pw dp) l = z at e1 h1 hz ⊢
  generalize 10 ^ l.length = q at h1 hv hq ⊢
  generalize 10 ^ dp = t at e1 hv ⊢
  refine Nat.eq_of_mul_eq_mul_right (Nat.mul_pos hz hq) ?_
  have a1 : dN (rDigs (pw dp) l) * x * (2 ^ e * 2 ^ pw dp) * (z * q) = (dN (rDigs (pw dp) l) * 2 ^ pw dp * q) * (x * z) * 2 ^ e := by
    simp only [Nat.mul_assoc, Nat.mul_comm, Nat.mul_left_comm]
  rw [a1, ← h1, e1]
  have a2 : dN l * z * y * t * 2 ^ e = (dN l * t * 2 ^ e) * (z * y) := by simp only [Nat.mul_assoc, Nat.mul_comm, Nat.mul_left_comm]
  rw [a2, hv]
  simp only [Nat.mul_assoc, Nat.mul_comm, Nat.mul_left_comm]
/-- With a digit ahead of the point it has not been shifted further than the number's own places. -/
theorem Dec.shifted {N : Nat} {l : List Nat} {dp e : Nat} (h : Dec N l dp e) (h0 : 0 < dp) (hN : N < 18446744073709551616) : e < 64 := by
  rcases Nat.lt_or_ge e 64 with h1 | h1
  · exact h1
  · exfalso
    have hv := h.val
    have hge := dN_ge h.lead
    have hn : 0 < l.length := by obtain ⟨d, t, e', _⟩ := h.lead; rw [e']; simp
    have p1 : 10 ^ (l.length - 1) * 10 ^ dp ≤ dN l * 10 ^ dp := Nat.mul_le_mul_right _ hge
    have p2 : 10 ^ l.length ≤ 10 ^ (l.length - 1) * 10 ^ dp := by
      rw [← Nat.pow_add]; exact Nat.pow_le_pow_right (by decide) (by omega)
    have p3 : 2 ^ 64 ≤ 2 ^ e := Nat.pow_le_pow_right (by decide) h1
    have p4 : 10 ^ l.length * 2 ^ 64 ≤ dN l * 10 ^ dp * 2 ^ e := Nat.mul_le_mul (Nat.le_trans p2 p1) p3
    rw [hv, Nat.mul_comm N] at p4
    have hq : 0 < 10 ^ l.length := Nat.pow_pos (by decide)
    have := Nat.le_of_mul_le_mul_left p4 hq
    omega
/-- Behind the point: the number is less than the shift. -/
theorem Dec.less {N : Nat} {l : List Nat} {e : Nat} (h : Dec N l 0 e) : N < 2 ^ e := by
  have hv := h.val
  have hlt := dN_lt h.digs
  rw [Nat.pow_zero, Nat.mul_one] at hv
  have hp : 0 < 2 ^ e := Nat.pow_pos (by decide)
  have : N * 10 ^ l.length < 2 ^ e * 10 ^ l.length := by
    rw [← hv, Nat.mul_comm (2 ^ e)]
    exact Nat.mul_lt_mul_of_pos_right hlt hp
  exact Nat.lt_of_mul_lt_mul_right this
/-- The digits that a shift to the left by one gives where the first digit is less than 5. -/
def lOne (l : List Nat) : List Nat := trimZ (toD l.length (dN l * 2))
theorem head_small {d : Nat} {t : List Nat} (h : Digs (d :: t)) (hd : d < 5) : dN (d :: t) * 2 < 10 ^ (d :: t).length := by
  have h1 := dN_lt h.tail
  have h3 : d * 10 ^ t.length ≤ 4 * 10 ^ t.length := Nat.mul_le_mul_right _ (by omega)
  rw [dN_cons, List.length_cons, Nat.pow_succ]
  omega
theorem Dec.up {N : Nat} {d : Nat} {t : List Nat} {e : Nat} (h : Dec N (d :: t) 0 (e + 1)) (hd : d < 5) : Dec N (lOne (d :: t)) 0 e ∧ (lOne (d :: t)).length ≤ (d :: t).length := by
  have hs := head_small h.digs hd
  have hge := dN_ge h.lead
  have hv := h.val
  have hl : Lead (toD (d :: t).length (dN (d :: t) * 2)) := toD_lead hs (by omega) (by simp)
  have tv := trimZ_val (toD (d :: t).length (dN (d :: t) * 2))
  rw [toD_val _ _ hs, toD_length] at tv
  refine ⟨⟨trimZ_digs (toD_digs _ _), trimZ_lead hl, ?_⟩, ?_⟩
  · show dN (trimZ _) * 10 ^ 0 * 2 ^ e = _
    rw [Nat.pow_zero, Nat.mul_one] at hv ⊢
    have hq : 0 < 10 ^ (d :: t).length := Nat.pow_pos (by decide)
    unfold lOne
    generalize trimZ (toD (d :: t).length (dN (d :: t) * 2)) = o at tv ⊢
    generalize 10 ^ (d :: t).length = q at hv tv hq ⊢
    generalize dN (d :: t) = D at hv tv ⊢
    refine Nat.eq_of_mul_eq_mul_right hq ?_
    have a1 : dN o * 2 ^ e * q = (dN o * q) * 2 ^ e := by simp only [Nat.mul_assoc, Nat.mul_comm, Nat.mul_left_comm]
    rw [a1, ← tv]
    rw [Nat.pow_succ] at hv
    have a2 : D * 2 * 10 ^ o.length * 2 ^ e = (D * (2 ^ e * 2)) * 10 ^ o.length := by simp only [Nat.mul_assoc, Nat.mul_comm, Nat.mul_left_comm]
    rw [a2, hv]
    simp only [Nat.mul_assoc, Nat.mul_comm, Nat.mul_left_comm]
  · have h1 := trimZ_length (toD (d :: t).length (dN (d :: t) * 2))
    rw [toD_length] at h1
    exact h1

/-! ### Digits are known by their number -/
theorem digs_eq : ∀ {l m : List Nat}, Digs l → Digs m → l.length = m.length → dN l = dN m → l = m
  | [], [], _, _, _, _ => rfl
  | [], _ :: _, _, _, h, _ => by simp at h
  | _ :: _, [], _, _, h, _ => by simp at h
  | a :: l, b :: m, hl, hm, h, hv => by
    have h' : l.length = m.length := by simpa using h
    rw [dN_cons, dN_cons, h'] at hv
    have l1 := dN_lt hl.tail
    have l2 := dN_lt hm.tail
    rw [h'] at l1
    have hp : 0 < 10 ^ m.length := Nat.pow_pos (by decide)
    have e1 : a = b := by
      have x : (a * 10 ^ m.length + dN l) / 10 ^ m.length = a := by rw [Nat.mul_comm, Nat.mul_add_div hp, Nat.div_eq_of_lt l1, Nat.add_zero]
      have y : (b * 10 ^ m.length + dN m) / 10 ^ m.length = b := by rw [Nat.mul_comm, Nat.mul_add_div hp, Nat.div_eq_of_lt l2, Nat.add_zero]
      rw [← x, ← y, hv]
    subst e1
    rw [digs_eq hl.tail hm.tail h' (by omega)]
theorem dN_zeros (n : Nat) : dN (List.replicate n 0) = 0 := by
  induction n with
  | zero => rfl
  | succ n ih => rw [List.replicate_succ, dN_cons, ih]; simp
theorem trim_zeros (l : List Nat) (n : Nat) : trimZ (l ++ List.replicate n 0) = trimZ l := by
  induction n with
  | zero => simp
  | succ n ih => rw [List.replicate_succ', ← List.append_assoc, trimZ_push, if_pos rfl, ih]
/-- Digits without zeros at the end are known by what they are behind a point. -/
theorem canon {l m : List Nat} (hl : Digs l) (hm : Digs m) (tl : trimZ l = l) (tm : trimZ m = m) (h : dN l * 10 ^ m.length = dN m * 10 ^ l.length) : l = m := by
  have key : ∀ {l m : List Nat}, Digs l → Digs m → trimZ l = l → trimZ m = m → dN l * 10 ^ m.length = dN m * 10 ^ l.length → l.length ≤ m.length → l = m := by
    intro l m hl hm tl tm h hle
    have hq : 0 < 10 ^ l.length := Nat.pow_pos (by decide)
    have e : dN m = dN (l ++ List.replicate (m.length - l.length) 0) := by
      rw [dN_app, dN_zeros, List.length_replicate, Nat.add_zero]
      refine Nat.eq_of_mul_eq_mul_right hq ?_
      rw [← h, Nat.mul_assoc, ← Nat.pow_add, Nat.sub_add_cancel hle]
    have hz : Digs (l ++ List.replicate (m.length - l.length) 0) := hl.app fun d hd => by rw [List.eq_of_mem_replicate hd]; omega
    have := digs_eq hm hz (by simp; omega) e
    have t := trim_zeros l (m.length - l.length)
    rw [← this, tm, tl] at t
    exact t.symm
  rcases Nat.le_total l.length m.length with hle | hle
  · exact key hl hm tl tm h hle
  · exact (key hm hl tm tl h.symm hle).symm
/-- The digits that a number of 64 places of two ends in: shifted by 64 to the right, and by 53 to the left. -/
def lastDigs (N : Nat) : List Nat := trimZ (toD 27 (N * 48828125))
def lBig (l : List Nat) : List Nat := trimZ (toD (l.length + 16) (dN l * 9007199254740992))
theorem big_lt {l : List Nat} (h : Digs l) : dN l * 9007199254740992 < 10 ^ (l.length + 16) := by
  have := dN_lt h
  rw [Nat.pow_add]
  have e : (10 : Nat) ^ 16 = 10000000000000000 := by decide
  rw [e]
  omega
theorem Dec.last {N : Nat} {l : List Nat} (h : Dec N l 0 64) (hN : N < 18446744073709551616) : lBig l = lastDigs N := by
  have hv := h.val
  have hb := big_lt h.digs
  have e64 : (2 : Nat) ^ 64 = 18446744073709551616 := by decide
  rw [Nat.pow_zero, Nat.mul_one, e64] at hv
  have t1 := trimZ_val (toD (l.length + 16) (dN l * 9007199254740992))
  have t2 := trimZ_val (toD 27 (N * 48828125))
  rw [toD_val _ _ hb, toD_length] at t1
  have e27 : (10 : Nat) ^ 27 = 1000000000000000000000000000 := by decide
  have l27 : N * 48828125 < 10 ^ 27 := by
    rw [e27]
    exact Nat.lt_of_lt_of_le (Nat.mul_lt_mul_of_pos_right hN (by decide)) (by decide)
  rw [toD_val _ _ l27, toD_length] at t2
  unfold lBig lastDigs
  refine canon (trimZ_digs (toD_digs _ _)) (trimZ_digs (toD_digs _ _)) (trimZ_idem _) (trimZ_idem _) ?_
  generalize trimZ (toD (l.length + 16) (dN l * 9007199254740992)) = a at t1 ⊢
  generalize trimZ (toD 27 (N * 48828125)) = b at t2 ⊢
  -- dN l * 2^53 * 10^|a| = dN a * 10^(nd+16); N * 5^11 * 10^|b| = dN b * 10^27; dN l * 2^64 = N * 10^nd
  have hq : 0 < 10 ^ l.length := Nat.pow_pos (by decide)
  have e16 : (10 : Nat) ^ 16 = 10000000000000000 := by decide
  rw [Nat.pow_add, e16] at t1
  rw [e27] at t2
  generalize 10 ^ l.length = q at hv t1 hq
  generalize 10 ^ a.length = x at t1 ⊢
  generalize 10 ^ b.length = y at t2 ⊢
  generalize dN a = A at t1 ⊢
  generalize dN b = C at t2 ⊢
  generalize dN l = D at hv t1
  refine Nat.eq_of_mul_eq_mul_right (Nat.mul_pos hq (show 0 < 10000000000000000 * 100000000000 by decide)) ?_
  have a1 : A * y * (q * (10000000000000000 * 100000000000)) = (A * (q * 10000000000000000)) * (y * 100000000000) := by simp only [Nat.mul_assoc, Nat.mul_comm, Nat.mul_left_comm]
  have a2 : C * x * (q * (10000000000000000 * 100000000000)) = (C * 1000000000000000000000000000) * (x * q) := by
    have : (10000000000000000 * 100000000000 : Nat) = 1000000000000000000000000000 := by decide
    rw [this]; simp only [Nat.mul_assoc, Nat.mul_comm, Nat.mul_left_comm]
  rw [a1, a2, ← t1, ← t2]
  have a3 : D * 9007199254740992 * x * (y * 100000000000) = (D * 18446744073709551616) * (48828125 * (x * y)) := by
    have : (9007199254740992 * 100000000000 : Nat) = 18446744073709551616 * 48828125 := by decide
    have l1 : D * 9007199254740992 * x * (y * 100000000000) = (9007199254740992 * 100000000000) * (D * x * y) := by simp only [Nat.mul_assoc, Nat.mul_comm, Nat.mul_left_comm]
    rw [l1, this]; simp only [Nat.mul_assoc, Nat.mul_comm, Nat.mul_left_comm]
  rw [a3, hv]
  simp only [Nat.mul_assoc, Nat.mul_comm, Nat.mul_left_comm]
end Go.Proofs.YtppkpcijmfdfmaaGreatDoor

/- The plain side of numbers of floating point: what is written is no NaN, and equal to itself; signs; quotients that are exact. No program in sight. -/
namespace Go.Proofs.YtppkpcijmfdfmaaGreatDoor
open Ieee (Datum double)

theorem order_self {d : Datum} (h : d.isNaN = false) : Datum.order d d = some .eq := by
  cases d with
  | number s m i => simp [Datum.order, Std.ReflCmp.compare_self]
  | infinity s => simp [Datum.order, Std.ReflCmp.compare_self]
  | nan s t => cases h
theorem word_read (neg : Bool) {r : Nat} (h : r ≤ double.infRung) : (double.read (double.word neg r)).isNaN = false := by
  have e1 : double.infRung = 9218868437227405312 := by decide
  have e2 : double.signWeight = 9223372036854775808 := by decide
  rw [e1] at h
  have e3 : double.word neg r % double.signWeight = r := by
    unfold Ieee.Format.word
    rw [e2]
    cases neg
    · simp only [Bool.false_eq_true, if_false]; omega
    · simp only [if_true]; omega
  unfold Ieee.Format.read
  simp only [e3, e1]
  split
  · rfl
  · split
    · rfl
    · split
      · rfl
      · omega
theorem nearest_read (neg : Bool) (m : Nat) (p : Int) : (double.read (double.nearest neg m p)).isNaN = false := by
  unfold Ieee.Format.nearest
  split
  · exact word_read neg (by decide)
  · exact word_read neg (by omega)
end Go.Proofs.YtppkpcijmfdfmaaGreatDoor

/- The plain side of one number in an object. No program in sight. -/
namespace Go.Proofs.YtppkpcijmfdfmaaGreatDoor

/-- What stands as a number. -/
def Numeral (num : Bs) : Prop := (∀ c ∈ num, jNumCh c = true) ∧ num ≠ [45] ∧ ∃ c t, num = c :: t ∧ (c.toNat = 45 ∨ (48 ≤ c.toNat ∧ c.toNat ≤ 57))
theorem Numeral.val {num : Bs} (h : Numeral num) (d : Nat) (r : Bs) (hr : NumEnd r) : jSkip (num ++ r) = num ++ r ∧ jVal (d + 1) (num ++ r) = some (.num num, r) := by
  obtain ⟨h1, h2, c, t, rfl, h3⟩ := h
  have hb := jNum_back (c :: t) r h1 (by simp) h2 (by
    intro e
    injection e with e1 e2
    subst e1
    revert h3; decide) hr
  have ne : ∀ k : UInt8, k.toNat ≠ 45 → (k.toNat < 48 ∨ 57 < k.toNat) → c ≠ k := by
    rintro k hk1 hk2 rfl
    omega
  constructor
  · rw [List.cons_append]
    refine jSkip_stop ?_ _
    unfold jWs
    have := ne 32 (by decide) (by decide)
    have := ne 10 (by decide) (by decide)
    have := ne 9 (by decide) (by decide)
    have := ne 13 (by decide) (by decide)
    simp_all
  · rw [List.cons_append, jVal_cons, if_neg (ne 123 (by decide) (by decide)), if_neg (ne 91 (by decide) (by decide)), if_neg (ne 34 (by decide) (by decide)), if_neg (ne 116 (by decide) (by decide)), if_neg (ne 102 (by decide) (by decide)), if_neg (ne 110 (by decide) (by decide)), ← List.cons_append, hb]
    rfl
end Go.Proofs.YtppkpcijmfdfmaaGreatDoor

/- The plain side of products of numbers of floating point: what a product is, is equal to itself. -/
namespace Go.Proofs.YtppkpcijmfdfmaaGreatDoor
open Ieee (Datum double)
theorem order_read {q : Nat} (h : (double.read q).isNaN = false) : (FloatKind.f64.format.order q q == some .eq) = true := by
  show (double.order q q == some .eq) = true
  unfold Ieee.Format.order
  rw [order_self h]
  rfl
end Go.Proofs.YtppkpcijmfdfmaaGreatDoor

/- The plain side of quotients that are exact: a multiple of a power of one half, however it is divided. No program in sight. -/
namespace Go.Proofs.YtppkpcijmfdfmaaGreatDoor
open Ieee (Datum double Toward)

theorem dbl_inf : double.infRung = 9218868437227405312 := by decide
theorem dbl_sign : double.signWeight = 9223372036854775808 := by decide
/-- Another sign. -/
theorem neg_word {r : Nat} (h : r < 9223372036854775808) : Go.Op.negFloat .f64 (double.word false r) = double.word true r := by
  have e : (FloatKind.f64.format.exponentBits + FloatKind.f64.format.fractionBits) = 63 := rfl
  unfold Go.Op.negFloat Ieee.Format.word
  rw [e, dbl_sign]
  simp only [Bool.false_eq_true, if_false, if_true]
  rw [show (9223372036854775808 : Nat) = 2 ^ 63 by decide] at h ⊢
  refine Nat.eq_of_testBit_eq fun i => ?_
  rw [Nat.testBit_xor]
  rcases Nat.lt_trichotomy i 63 with hi | hi | hi
  · rw [Nat.testBit_two_pow_add_gt hi, Nat.testBit_two_pow_of_ne (by omega), Bool.xor_false]
  · subst hi
    rw [Nat.testBit_two_pow_add_eq, Nat.testBit_two_pow_self, Nat.testBit_lt_two_pow h]
    rfl
  · rw [Nat.testBit_two_pow_of_ne (by omega), Bool.xor_false, Nat.testBit_lt_two_pow (Nat.lt_of_lt_of_le h (Nat.pow_le_pow_right (by omega) (by omega))), Nat.testBit_lt_two_pow (x := 2 ^ 63 + r)]
    have : 2 ^ 64 ≤ 2 ^ i := Nat.pow_le_pow_right (by omega) (by omega)
    omega
theorem nearest_word {m : Nat} (hm : m ≠ 0) (p : Int) : ∃ r, r ≤ 9218868437227405312 ∧ ∀ b, double.nearest b m p = double.word b r := by
  refine ⟨min ((max (p + m.log2 - double.fractionBits) double.leastPlace - double.leastPlace).toNat * double.binade + Toward.even.cut false (m <<< (p - max (p + m.log2 - double.fractionBits) double.leastPlace).toNat) (max (p + m.log2 - double.fractionBits) double.leastPlace - p).toNat) double.infRung, ?_, fun b => ?_⟩
  · rw [dbl_inf]; omega
  · unfold Ieee.Format.nearest
    rw [if_neg hm]
    rfl
theorem neg_nearest {m : Nat} (hm : m ≠ 0) (p : Int) : Go.Op.negFloat .f64 (double.nearest false m p) = double.nearest true m p := by
  obtain ⟨r, hr, h⟩ := nearest_word hm p
  rw [h, h, neg_word (by omega)]
end Go.Proofs.YtppkpcijmfdfmaaGreatDoor

/- The plain side of a whole number that is scaled to a number of floating point: its bits. No program in sight. -/
namespace Go.Proofs.YtppkpcijmfdfmaaGreatDoor

/-- A mark of what a scaling lost. -/
def pfSticky (x m : Nat) : Nat := if x * m / 18446744073709551616 % 256 = 0 ∧ x * m % 18446744073709551616 ≤ 1 then 0 else 1
def pfU (x m : Nat) : Nat := (x * m / 18446744073709551616 / 256) ||| pfSticky x m
def pfBig (u : Nat) : Nat := if 36028797018963966 ≤ u then 1 else 0
def pfFit (u : Nat) : Nat := (u / 2 ^ pfBig u) ||| (u % 2)
def pfRound (v : Nat) : Nat := (v + 1 + v / 4 % 2) / 4
def pfPack (r e : Nat) : Nat := if r / 4503599627370496 % 2 = 0 then r else r - 4503599627370496 + (1075 + e) * 4503599627370496
theorem pfSticky_le (x m : Nat) : pfSticky x m ≤ 1 := by unfold pfSticky; split <;> omega
theorem pfBig_le (u : Nat) : pfBig u ≤ 1 := by unfold pfBig; split <;> omega
theorem pfU_lt {x m : Nat} (hx : x < 18446744073709551616) (hm : m < 18446744073709551616) : pfU x m < 72057594037927936 := by
  have h1 : x * m < 18446744073709551616 * 18446744073709551616 := Nat.mul_lt_mul'' hx hm
  have h2 : x * m / 18446744073709551616 < 18446744073709551616 := Nat.div_lt_of_lt_mul h1
  have h3 : x * m / 18446744073709551616 / 256 < 2 ^ 56 := by
    have : (2 : Nat) ^ 56 = 72057594037927936 := by decide
    omega
  have h4 : pfSticky x m < 2 ^ 56 := Nat.lt_of_le_of_lt (pfSticky_le x m) (by decide)
  exact Nat.or_lt_two_pow h3 h4
theorem pfFit_lt {u : Nat} (h : u < 72057594037927936) : pfFit u < 36028797018963968 := by
  have e : (2 : Nat) ^ 55 = 36028797018963968 := by decide
  have h1 : u / 2 ^ pfBig u < 2 ^ 55 := by
    unfold pfBig
    split
    · omega
    · omega
  have h2 : u % 2 < 2 ^ 55 := by omega
  have := Nat.or_lt_two_pow h1 h2
  unfold pfFit
  omega
theorem pfRound_le {v : Nat} (h : v < 36028797018963968) : pfRound v ≤ 9007199254740992 := by unfold pfRound; omega
theorem pfPack_le {r e : Nat} (hr : r ≤ 9007199254740992) (he : e ≤ 900) : pfPack r e ≤ 9218868437227405312 := by
  unfold pfPack
  split
  · omega
  · have : (1075 + e) * 4503599627370496 ≤ 1975 * 4503599627370496 := Nat.mul_le_mul_right _ (by omega)
    omega
/-- The bits of a number of 64 bits, times ten or not. -/
def pfBits (b d p : Nat) : Nat :=
  let u := pfU (d * 2 ^ (64 - b)) (if p = 0 then 9223372036854775808 else 11529215046068469760)
  pfPack (pfRound (pfFit u)) (b + 3 * p + pfBig u - 53)
theorem pfBits_le {b d p : Nat} (hd : d < 2 ^ b) (hb : b ≤ 64) (hp : p ≤ 1) : pfBits b d p ≤ 9218868437227405312 := by
  have hx : d * 2 ^ (64 - b) < 18446744073709551616 := by
    have h1 : d * 2 ^ (64 - b) < 2 ^ b * 2 ^ (64 - b) := Nat.mul_lt_mul_of_pos_right hd (Nat.two_pow_pos _)
    rw [← Nat.pow_add, show b + (64 - b) = 64 by omega] at h1
    exact h1
  have hm : (if p = 0 then 9223372036854775808 else 11529215046068469760) < 18446744073709551616 := by split <;> omega
  have hu := pfU_lt hx hm
  have := pfBig_le (pfU (d * 2 ^ (64 - b)) (if p = 0 then 9223372036854775808 else 11529215046068469760))
  exact pfPack_le (pfRound_le (pfFit_lt hu)) (by omega)
end Go.Proofs.YtppkpcijmfdfmaaGreatDoor

/- The plain side of raw texts, keys and lists: none is longer than the text that was read. No program in sight. -/
namespace Go.Proofs.YtppkpcijmfdfmaaGreatDoor

/-- Texts, keys and lists of a value, so many levels down, are no longer than that. -/
def JLe (n : Nat) : Nat → J → Prop
  | 0, _ => True
  | d + 1, j => (∀ s, j = .str s → s.length ≤ n) ∧ (∀ l, j = .arr l → l.length ≤ n ∧ ∀ v ∈ l, JLe n d v) ∧ ∀ l, j = .obj l → l.length ≤ n ∧ ∀ m ∈ l, m.1.length ≤ n ∧ JLe n d m.2
def LeF (n d : Nat) (f : Bs → Option (J × Bs)) : Prop := ∀ s j t, f s = some (j, t) → s.length ≤ n → JLe n d j ∧ t.length ≤ n
theorem JLe.plain {n d : Nat} {j : J} (h1 : ∀ s, j ≠ .str s) (h2 : ∀ l, j ≠ .arr l) (h3 : ∀ l, j ≠ .obj l) : JLe n d j := by
  cases d with
  | zero => trivial
  | succ d => exact ⟨fun s e => absurd e (h1 s), fun l e => absurd e (h2 l), fun l e => absurd e (h3 l)⟩

theorem elems_le {n d : Nat} {f : Bs → Option (J × Bs)} (hf : LeF n d f) : ∀ (k : Nat) (s : Bs) (l : List J) (t : Bs), jElems f k s = some (l, t) → s.length ≤ n → l.length ≤ k ∧ (∀ v ∈ l, JLe n d v) ∧ t.length ≤ n := by
  intro k
  induction k with
  | zero => intro s l t h _; cases h
  | succ k ih =>
    intro s l t h hs
    rw [jElems] at h
    have h0 := jSkip_length s
    cases h1 : f (jSkip s) with
    | none => rw [h1] at h; cases h
    | some p =>
      obtain ⟨v, t1⟩ := p
      rw [h1] at h
      obtain ⟨a1, a2⟩ := hf _ _ _ h1 (by omega)
      have h2 := jSkip_length t1
      cases h3 : jSkip t1 with
      | nil => simp only [h3] at h; cases h
      | cons c u =>
        simp only [h3] at h
        rw [h3, List.length_cons] at h2
        split at h
        · cases h4 : jElems f k u with
          | none => rw [h4] at h; cases h
          | some q =>
            obtain ⟨l1, t2⟩ := q
            rw [h4] at h
            obtain ⟨b1, b2, b3⟩ := ih u l1 t2 h4 (by omega)
            cases h
            refine ⟨by show l1.length + 1 ≤ k + 1; omega, fun w hw => ?_, b3⟩
            rcases List.mem_cons.1 hw with rfl | hw
            · exact a1
            · exact b2 w hw
        · split at h
          · cases h
            refine ⟨by simp, fun w hw => ?_, by omega⟩
            rw [List.mem_singleton.1 hw]
            exact a1
          · cases h
theorem members_le {n d : Nat} {f : Bs → Option (J × Bs)} (hf : LeF n d f) : ∀ (k : Nat) (s : Bs) (l : List (Bs × J)) (t : Bs), jMembers f k s = some (l, t) → s.length ≤ n → l.length ≤ k ∧ (∀ m ∈ l, m.1.length ≤ n ∧ JLe n d m.2) ∧ t.length ≤ n := by
  intro k
  induction k with
  | zero => intro s l t h _; cases h
  | succ k ih =>
    intro s l t h hs
    rw [jMembers] at h
    have h0 := jSkip_length s
    cases h1 : jSkip s with
    | nil => simp only [h1] at h; cases h
    | cons q r =>
      simp only [h1] at h
      rw [h1, List.length_cons] at h0
      split at h
      · cases h2 : jRaw r with
        | none => simp only [h2] at h; cases h
        | some p =>
          obtain ⟨key, r1⟩ := p
          simp only [h2] at h
          have h3 := jRaw_len h2
          have h4 := jSkip_length r1
          cases h5 : jSkip r1 with
          | nil => simp only [h5] at h; cases h
          | cons c r2 =>
            simp only [h5] at h
            rw [h5, List.length_cons] at h4
            split at h
            · have h6 := jSkip_length r2
              cases h7 : f (jSkip r2) with
              | none => simp only [h7] at h; cases h
              | some p =>
                obtain ⟨v, t1⟩ := p
                simp only [h7] at h
                obtain ⟨a1, a2⟩ := hf _ _ _ h7 (by omega)
                have h8 := jSkip_length t1
                cases h9 : jSkip t1 with
                | nil => simp only [h9] at h; cases h
                | cons e u =>
                  simp only [h9] at h
                  rw [h9, List.length_cons] at h8
                  split at h
                  · cases h10 : jMembers f k u with
                    | none => rw [h10] at h; cases h
                    | some q =>
                      obtain ⟨l1, t2⟩ := q
                      rw [h10] at h
                      obtain ⟨b1, b2, b3⟩ := ih u l1 t2 h10 (by omega)
                      cases h
                      refine ⟨by show l1.length + 1 ≤ k + 1; omega, fun m hm => ?_, b3⟩
                      rcases List.mem_cons.1 hm with rfl | hm
                      · exact ⟨by show key.length ≤ n; omega, a1⟩
                      · exact b2 m hm
                  · split at h
                    · cases h
                      refine ⟨by simp, fun m hm => ?_, by omega⟩
                      rw [List.mem_singleton.1 hm]
                      exact ⟨by show key.length ≤ n; omega, a1⟩
                    · cases h
            · cases h
      · cases h
theorem obj_le {n d D : Nat} (hf : LeF n d (jVal D)) {s : Bs} {j : J} {t : Bs} (h : pobj D s = some (j, t)) (hs : s.length ≤ n) : JLe n (d + 1) j ∧ t.length ≤ n := by
  unfold pobj at h
  have h0 := jSkip_length s
  cases h1 : jSkip s with
  | nil => simp only [h1] at h; cases h
  | cons e u =>
    simp only [h1] at h
    rw [h1, List.length_cons] at h0
    split at h
    · cases h
      exact ⟨⟨fun s e => (by cases e), fun l e => (by cases e), fun l e => (by cases e; exact ⟨Nat.zero_le _, fun m hm => (by cases hm)⟩)⟩, by omega⟩
    · cases h2 : jMembers (jVal D) (e :: u).length (e :: u) with
      | none => rw [h2] at h; cases h
      | some q =>
        obtain ⟨l, t2⟩ := q
        rw [h2] at h
        obtain ⟨b1, b2, b3⟩ := members_le hf _ _ _ _ h2 (by rw [List.length_cons]; omega)
        cases h
        rw [List.length_cons] at b1
        exact ⟨⟨fun s e => (by cases e), fun l e => (by cases e), fun l e => (by cases e; exact ⟨by show List.length l ≤ n; omega, b2⟩)⟩, b3⟩
theorem arr_le {n d D : Nat} (hf : LeF n d (jVal D)) {s : Bs} {j : J} {t : Bs} (h : parr D s = some (j, t)) (hs : s.length ≤ n) : JLe n (d + 1) j ∧ t.length ≤ n := by
  unfold parr at h
  have h0 := jSkip_length s
  cases h1 : jSkip s with
  | nil => simp only [h1] at h; cases h
  | cons e u =>
    simp only [h1] at h
    rw [h1, List.length_cons] at h0
    split at h
    · cases h
      exact ⟨⟨fun s e => (by cases e), fun l e => (by cases e; exact ⟨Nat.zero_le _, fun m hm => (by cases hm)⟩), fun l e => (by cases e)⟩, by omega⟩
    · cases h2 : jElems (jVal D) (e :: u).length (e :: u) with
      | none => rw [h2] at h; cases h
      | some q =>
        obtain ⟨l, t2⟩ := q
        rw [h2] at h
        obtain ⟨b1, b2, b3⟩ := elems_le hf _ _ _ _ h2 (by rw [List.length_cons]; omega)
        cases h
        rw [List.length_cons] at b1
        exact ⟨⟨fun s e => (by cases e), fun l e => (by cases e; exact ⟨by show List.length l ≤ n; omega, b2⟩), fun l e => (by cases e)⟩, b3⟩
theorem val_le (n : Nat) : ∀ (D d : Nat), LeF n d (jVal D)
  | 0, _ => fun _ _ _ h _ => by cases h
  | D + 1, d => fun s j t h hs => by
    have ht := jVal_len _ _ _ _ h
    cases d with
    | zero => exact ⟨trivial, by omega⟩
    | succ d =>
      refine ⟨?_, by omega⟩
      have hf := val_le n D d
      cases s with
      | nil => cases h
      | cons c r =>
        rw [List.length_cons] at hs
        rw [jVal_cons] at h
        split at h
        · exact (obj_le hf h (by omega)).1
        split at h
        · exact (arr_le hf h (by omega)).1
        split at h
        · cases h1 : jRaw r with
          | none => rw [h1] at h; cases h
          | some p =>
            obtain ⟨a, b⟩ := p
            rw [h1] at h
            have := jRaw_len h1
            cases h
            exact ⟨fun s e => (by cases e; show List.length a ≤ n; omega), fun l e => (by cases e), fun l e => (by cases e)⟩
        split at h
        · split at h
          · cases h; exact JLe.plain (fun _ e => (by cases e)) (fun _ e => (by cases e)) fun _ e => (by cases e)
          · cases h
        split at h
        · split at h
          · cases h; exact JLe.plain (fun _ e => (by cases e)) (fun _ e => (by cases e)) fun _ e => (by cases e)
          · cases h
        split at h
        · split at h
          · cases h; exact JLe.plain (fun _ e => (by cases e)) (fun _ e => (by cases e)) fun _ e => (by cases e)
          · split at h
            · cases h; exact JLe.plain (fun _ e => (by cases e)) (fun _ e => (by cases e)) fun _ e => (by cases e)
            · cases h
        · cases h1 : jNum (c :: r) with
          | none => rw [h1] at h; cases h
          | some p =>
            rw [h1] at h
            cases h
            exact JLe.plain (fun _ e => (by cases e)) (fun _ e => (by cases e)) fun _ e => (by cases e)
theorem parse_le {s : Bs} {j : J} (h : jParse s = some j) (d : Nat) : JLe s.length d j := by
  unfold jParse at h
  have h0 := jSkip_length s
  cases h1 : jVal 300 (jSkip s) with
  | none => rw [h1] at h; cases h
  | some p =>
    obtain ⟨v, t⟩ := p
    rw [h1] at h
    simp only at h
    split at h
    · cases h; exact (val_le s.length 300 d _ _ _ h1 h0).1
    · cases h
end Go.Proofs.YtppkpcijmfdfmaaGreatDoor
