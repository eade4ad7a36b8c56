/- A second way to read texts and numbers: any texts, whole numbers of up to 64 bits. -/
import Derived.Test.YtppkpcijmfdfmaaGreatDoorF8
import Derived.Test.YtppkpcijmfdfmaaGreatDoorF2
import Derived.Test.YtppkpcijmfdfmaaGreatDoorC14
import Derived.Test.YtppkpcijmfdfmaaGreatDoorE1
import Derived.Test.YtppkpcijmfdfmaaGreatDoorF1
import Derived.Test.YtppkpcijmfdfmaaGreatDoorC1
set_option linter.unusedVariables false
set_option linter.unusedSimpArgs false
set_option linter.unusedVariables false
set_option linter.unusedSimpArgs false
namespace Go.Proofs.YtppkpcijmfdfmaaGreatDoor
open Go.RowKit

theorem hNum_inj {m m' : Bool} {n n' : Nat} (h : hNum m n = hNum m' n') : n = n' ∧ (0 < n → m = m') := by
  have no45 : ∀ a b : Nat, hDig a ≠ 45 :: hDig b := fun a b e => by
    have := hDig_first a
    rw [e] at this
    exact this rfl
  have inj : ∀ a b : Nat, hDig a = hDig b → a = b := fun a b e => by
    have := congrArg digVal e
    rwa [digVal_hDig, digVal_hDig] at this
  unfold hNum at h
  by_cases h1 : m = true ∧ 0 < n
  · by_cases h2 : m' = true ∧ 0 < n'
    · rw [if_pos h1, if_pos h2] at h
      have h3 := inj n n' (List.cons.inj h).2
      subst h3
      exact ⟨rfl, fun _ => h1.1.trans h2.1.symm⟩
    · rw [if_pos h1, if_neg h2] at h
      exact absurd h.symm (no45 _ _)
  · by_cases h2 : m' = true ∧ 0 < n'
    · rw [if_neg h1, if_pos h2] at h
      exact absurd h (no45 _ _)
    · rw [if_neg h1, if_neg h2] at h
      have h3 := inj n n' h
      subst h3
      refine ⟨rfl, fun h0 => ?_⟩
      have a1 : m ≠ true := fun e => h1 ⟨e, h0⟩
      have a2 : m' ≠ true := fun e => h2 ⟨e, h0⟩
      cases m <;> cases m' <;> first | rfl | exact absurd rfl a1 | exact absurd rfl a2

/-- A whole number's text. -/
def IsNum (s : Bs) : Prop := ∃ (m : Bool) (n : Nat), n < 18446744073709551616 ∧ s = hNum m n
open Classical in
noncomputable def numI (s : Bs) : Option Int := if h : IsNum s then hInt h.choose h.choose_spec.choose else none
open Classical in
noncomputable def numU (s : Bs) : Option Int := if h : IsNum s then hUint h.choose h.choose_spec.choose else none
/-- What is known of the number of floating point. -/
def IsFl (s : Bs) (q : Nat) : Prop := NumP 110 s (.float .f64 0) (some (.float .f64 q)) ∧ (FloatKind.f64.format.order q q == some .eq) = true ∧ ∀ m n, s = hNum m n → n ≤ 9007199254740992 → q = floatOfInt .f64 (if m then -(n : Int) else n)
theorem fl_ex {s : Bs} (h : IsNum s) : ∃ q, IsFl s q := by
  obtain ⟨m, n, hn, rfl⟩ := h
  obtain ⟨q, h1, h2, h3⟩ := num_float m hn
  refine ⟨q, h1, h2, fun m' n' e hle => ?_⟩
  obtain ⟨rfl, hm⟩ := hNum_inj e
  rw [h3 hle]
  rcases Nat.eq_zero_or_pos n with h0 | h0
  · subst h0; cases m <;> cases m' <;> rfl
  · rw [hm h0]
open Classical in
noncomputable def numF (s : Bs) : Option Nat := if h : IsNum s then some (fl_ex h).choose else none
theorem numF_at {s : Bs} (h : IsNum s) : ∃ q, numF s = some q ∧ IsFl s q := ⟨_, dif_pos h, (fl_ex h).choose_spec⟩
theorem numI_at (m : Bool) {n : Nat} (hn : n < 18446744073709551616) : numI (hNum m n) = hInt m n := by
  have h : IsNum (hNum m n) := ⟨m, n, hn, rfl⟩
  unfold numI
  rw [dif_pos h]
  obtain ⟨e1, e2⟩ := hNum_inj h.choose_spec.choose_spec.2
  rw [← e1]
  unfold hInt
  rcases Nat.eq_zero_or_pos n with h0 | h0
  · have hno : ∀ a : Bool, ¬ (a = true ∧ 0 < n) := fun a h => by omega
    rw [if_neg (hno _), if_neg (hno _)]
  · rw [← e2 h0]
theorem numU_at (m : Bool) {n : Nat} (hn : n < 18446744073709551616) : numU (hNum m n) = hUint m n := by
  have h : IsNum (hNum m n) := ⟨m, n, hn, rfl⟩
  unfold numU
  rw [dif_pos h]
  obtain ⟨e1, e2⟩ := hNum_inj h.choose_spec.choose_spec.2
  rw [← e1]
  unfold hUint
  rcases Nat.eq_zero_or_pos n with h0 | h0
  · have hno : ∀ a : Bool, ¬ (a = true ∧ 0 < n) := fun a h => by omega
    rw [if_neg (hno _), if_neg (hno _)]
  · rw [← e2 h0]
noncomputable def env1 : Env where
  U := UnR
  NI := IsNum
  NU := IsNum
  NF := IsNum
  i64 := numI
  u64 := numU
  f64 := numF
theorem env1_ok : env1.OK where
  ug := un_ug
  i s h := by
    obtain ⟨m, n, hn, rfl⟩ := h
    show NumP 113 (hNum m n) (.int .i64 0) ((numI (hNum m n)).map (.int .i64))
    rw [numI_at m hn]
    exact num_int m hn
  u s h := by
    obtain ⟨m, n, hn, rfl⟩ := h
    show NumP 114 (hNum m n) (.int .u64 0) ((numU (hNum m n)).map (.int .u64))
    rw [numU_at m hn]
    exact num_uint m hn
  f s h := by
    obtain ⟨q, h1, h2⟩ := numF_at h
    show NumP 110 s (.float .f64 0) ((numF s).map (.float .f64))
    rw [h1]
    exact h2.1
end Go.Proofs.YtppkpcijmfdfmaaGreatDoor

/- What was read of a tree that was printed: its fields by names, and their answers. -/
set_option linter.unusedVariables false
set_option linter.unusedSimpArgs false
namespace Go.Proofs.YtppkpcijmfdfmaaGreatDoor
open Go.RowKit

theorem Mems.at {R : J → HT → Prop} : ∀ {ms : List (Bs × J)} {ns : List Bs} {ks : List HT}, Mems R ms ns ks → ms.length = ns.length ∧ ms.length = ks.length ∧ ∀ (i : Nat) m, ms[i]? = some m → ∃ n k, ns[i]? = some n ∧ ks[i]? = some k ∧ jUn m.1 = some n ∧ R m.2 k
  | [], [], [], _ => ⟨rfl, rfl, fun i m h => by simp at h⟩
  | m :: ms, n :: ns, k :: ks, h => by
    obtain ⟨h1, h2, h3⟩ := h
    obtain ⟨e1, e2, e3⟩ := Mems.at h3
    refine ⟨by simp [e1], by simp [e2], fun i m' hi => ?_⟩
    cases i with
    | zero => simp at hi; subst hi; exact ⟨n, k, rfl, rfl, h1, h2⟩
    | succ i => exact e3 i m' (by simpa using hi)
  | [], [], _ :: _, h => h.elim
  | [], _ :: _, [], h => h.elim
  | [], _ :: _, _ :: _, h => h.elim
  | _ :: _, [], [], h => h.elim
  | _ :: _, [], _ :: _, h => h.elim
  | _ :: _, _ :: _, [], h => h.elim
theorem All2.get {α β : Type} {R : α → β → Prop} : ∀ {l : List α} {m : List β}, All2 R l m → l.length = m.length ∧ ∀ (i : Nat) a, l[i]? = some a → ∃ b, m[i]? = some b ∧ R a b
  | [], [], _ => ⟨rfl, fun i a h => by simp at h⟩
  | a :: l, b :: m, h => by
    obtain ⟨h1, h2⟩ := h
    obtain ⟨e1, e2⟩ := All2.get h2
    refine ⟨by simp [e1], fun i a' hi => ?_⟩
    cases i with
    | zero => simp at hi; subst hi; exact ⟨b, rfl, h1⟩
    | succ i => exact e2 i a' (by simpa using hi)
  | [], _ :: _, h => h.elim
  | _ :: _, [], h => h.elim
theorem JLe.mono {n n' : Nat} (h : n ≤ n') : ∀ {d : Nat} {j : J}, JLe n d j → JLe n' d j
  | 0, _, _ => trivial
  | d + 1, j, hj => ⟨fun s e => Nat.le_trans (hj.1 s e) h, fun l e => ⟨Nat.le_trans (hj.2.1 l e).1 h, fun v hv => JLe.mono h ((hj.2.1 l e).2 v hv)⟩,
    fun l e => ⟨Nat.le_trans (hj.2.2 l e).1 h, fun m hm => ⟨Nat.le_trans ((hj.2.2 l e).2 m hm).1 h, JLe.mono h ((hj.2.2 l e).2 m hm).2⟩⟩⟩

/-- The field with a name: the first. -/
def KidAt (t : HT) (s : Bs) (k : Option HT) : Prop :=
  match k with
  | none => s ∉ t.names
  | some c => ∃ i : Nat, t.names[i]? = some s ∧ t.kids[i]? = some c ∧ ∀ i' : Nat, i' < i → t.names[i']? ≠ some s

/-- A value that was read is a tree's value, with texts that are short. -/
def MtL (d : Nat) (j : J) (t : HT) : Prop := Mt d j t ∧ JLe 4294967295 2 j
theorem mt_goodT {d : Nat} {j : J} {t : HT} (h : MtL d j t) : GoodT UnR j := by
  obtain ⟨h, hl⟩ := h
  cases d with
  | zero => exact h.elim
  | succ d =>
    refine ⟨fun s e => ?_, fun ts e => ?_⟩
    · have := hl.1 s e
      rcases h with ⟨_, e'⟩ | ⟨_, e'⟩ | ⟨_, e'⟩ | ⟨_, raw, e', hu⟩ | ⟨_, _, e', _⟩ | ⟨_, _, e', _⟩
      · rw [e] at e'; cases e'
      · rw [e] at e'; split at e' <;> cases e'
      · rw [e] at e'; cases e'
      · rw [e] at e'; cases e'; exact ⟨_, hu, Or.inl (by omega)⟩
      · rw [e] at e'; cases e'
      · rw [e] at e'; cases e'
    · have hb := hl.2.1 ts e
      refine ⟨by omega, fun s hs => ?_⟩
      rcases h with ⟨_, e'⟩ | ⟨_, e'⟩ | ⟨_, e'⟩ | ⟨_, raw, e', hu⟩ | ⟨_, l, e', ha⟩ | ⟨_, _, e', _⟩
      · rw [e] at e'; cases e'
      · rw [e] at e'; split at e' <;> cases e'
      · rw [e] at e'; cases e'
      · rw [e] at e'; cases e'
      · rw [e] at e'; cases e'
        obtain ⟨i, hi⟩ := List.mem_iff_getElem?.1 hs
        obtain ⟨c, _, hc⟩ := (All2.get ha).2 i _ hi
        have hlen := (hb.2 _ hs).1 s rfl
        cases d with
        | zero => exact hc.elim
        | succ d =>
          rcases hc with ⟨_, e'⟩ | ⟨_, e'⟩ | ⟨_, e'⟩ | ⟨_, raw, e', hu⟩ | ⟨_, _, e', _⟩ | ⟨_, _, e', _⟩
          · cases e'
          · split at e' <;> cases e'
          · cases e'
          · cases e'; exact ⟨_, hu, Or.inl (by omega)⟩
          · cases e'
          · cases e'
      · rw [e] at e'; cases e'

/-- A member's raw name and value. -/
theorem mem_at {d : Nat} {t : HT} {ms : List (Bs × J)} (hm : Mems (Mt d) ms t.names t.kids) (hl : ∀ D, JLe 450000000 D (.obj ms)) {i : Nat} {m : Bs × J} (hi : ms[i]? = some m) :
    ∃ n k, t.names[i]? = some n ∧ t.kids[i]? = some k ∧ UnR m.1 n ∧ MtL d m.2 k := by
  obtain ⟨_, _, h⟩ := hm.at
  obtain ⟨n, k, h1, h2, h3, h4⟩ := h i m hi
  have h5 := ((hl 3).2.2 ms rfl).2 m (List.mem_of_getElem? hi)
  exact ⟨n, k, h1, h2, ⟨h3, Or.inl (by have := h5.1; omega)⟩, h4, h5.2.mono (by decide)⟩
theorem unr_fn {q a b : Bs} (h1 : UnR q a) (h2 : UnR q b) : a = b := Option.some.inj (h1.1.symm.trans h2.1)
theorem obj_good {d : Nat} {t : HT} {ms : List (Bs × J)} (hm : Mems (Mt d) ms t.names t.kids) (hl : ∀ D, JLe 450000000 D (.obj ms)) (hn : t.names.Nodup) : Good UnR (.obj ms) := by
  refine ⟨fun ms' e m h => ?_, fun ms' e m h => ?_, fun ms' e m h m' h' c h1 h2 => ?_, fun ms' e => ?_⟩
  · cases e
    obtain ⟨i, hi⟩ := List.mem_iff_getElem?.1 h
    obtain ⟨n, k, _, _, hu, _⟩ := mem_at hm hl hi
    exact ⟨n, hu⟩
  · cases e
    obtain ⟨i, hi⟩ := List.mem_iff_getElem?.1 h
    obtain ⟨n, k, _, _, _, hk⟩ := mem_at hm hl hi
    exact mt_goodT hk
  · cases e
    obtain ⟨i, hi⟩ := List.mem_iff_getElem?.1 h
    obtain ⟨i', hi'⟩ := List.mem_iff_getElem?.1 h'
    obtain ⟨n, k, hn1, _, hu, _⟩ := mem_at hm hl hi
    obtain ⟨n', k', hn2, _, hu', _⟩ := mem_at hm hl hi'
    have e1 := unr_fn hu h1
    have e2 := unr_fn hu' h2
    subst e1
    subst e2
    have hlt : i < t.names.length := (List.getElem?_eq_some_iff.1 hn1).1
    have := (List.getElem?_inj hlt hn).1 (hn1.trans hn2.symm)
    subst this
    rw [hi] at hi'
    cases hi'
    rfl
  · cases e
    have := ((hl 3).2.2 ms rfl).1
    omega

/-- What was read, if anything, is the field, if any. -/
def OptMt (d : Nat) (r : Option J) (k : Option HT) : Prop :=
  match r, k with
  | none, none => True
  | some j, some c => MtL d j c
  | _, _ => False
theorem finds_kid {d : Nat} {t : HT} {ms : List (Bs × J)} (hm : Mems (Mt d) ms t.names t.kids) (hl : ∀ D, JLe 450000000 D (.obj ms)) {s : Bs} {r : Option J} (h : Finds UnR ms s r) : ∃ k, KidAt t s k ∧ OptMt d r k := by
  obtain ⟨l1, l2, _⟩ := hm.at
  have back : ∀ (i : Nat), t.names[i]? = some s → ∃ m, ms[i]? = some m ∧ UnR m.1 s := fun i hi => by
    have hlt : i < ms.length := by rw [l1]; exact (List.getElem?_eq_some_iff.1 hi).1
    have hi2 : ms[i]? = some ms[i] := List.getElem?_eq_getElem hlt
    obtain ⟨n, k, hn, _, hu, _⟩ := mem_at hm hl hi2
    rw [hi] at hn
    cases hn
    exact ⟨_, hi2, hu⟩
  cases r with
  | none =>
    refine ⟨none, fun hs => ?_, trivial⟩
    obtain ⟨i, hi⟩ := List.mem_iff_getElem?.1 hs
    obtain ⟨m, hi2, hu⟩ := back i hi
    exact h m (List.mem_of_getElem? hi2) hu
  | some j =>
    obtain ⟨i, m, hi, hu, rfl, hno⟩ := h
    obtain ⟨n, k, hn, hk, hu2, hmt⟩ := mem_at hm hl hi
    have e := unr_fn hu hu2
    subst e
    refine ⟨some k, ⟨i, hn, hk, fun i' hlt hi' => ?_⟩, hmt⟩
    obtain ⟨m', hi2, hu'⟩ := back i' hi'
    exact hno i' m' hlt hi2 hu'

/-- The answer of a field, by the way in which it is asked. -/
noncomputable def toldT (k : Option HT) (q : Nat) : Told :=
  match k with
  | none => Told.zero
  | some t =>
    if q = 0 then { Told.zero with ok := true }
    else if t.kind = 3 ∧ (q = 1 ∨ q = 2) then { Told.zero with ok := true, text := t.text }
    else if t.kind = 1 ∧ q = 3 then { Told.zero with ok := true, is := t.is }
    else if t.kind = 2 ∧ (q = 4 ∨ q = 8) then (match hInt t.minus t.num with | some n => { Told.zero with ok := true, int := n } | none => Told.zero)
    else if t.kind = 2 ∧ (q = 5 ∨ q = 9) then (match hUint t.minus t.num with | some n => { Told.zero with ok := true, uint := n } | none => Told.zero)
    else if t.kind = 2 ∧ q = 6 then { Told.zero with ok := true, fl := (numF (hNum t.minus t.num)).getD 0 }
    else if t.kind = 4 ∧ q = 7 ∧ ∀ c ∈ t.kids, c.kind = 3 then { Told.zero with ok := true, list := t.kids.map (·.text) }
    else Told.zero
end Go.Proofs.YtppkpcijmfdfmaaGreatDoor

/- The answers of a tree that was printed, by the tree. -/
set_option linter.unusedVariables false
set_option linter.unusedSimpArgs false
namespace Go.Proofs.YtppkpcijmfdfmaaGreatDoor
open Go.RowKit

section
variable {d : Nat} {j : J} {t : HT}
theorem mt_txt (h : Mt d j t) {rr : Option Bs} (hr : StrOr UnR j rr) : rr = if t.kind = 3 then some t.text else none := by
  cases d with
  | zero => exact h.elim
  | succ d =>
    rcases h with ⟨hk, rfl⟩ | ⟨hk, e⟩ | ⟨hk, rfl⟩ | ⟨hk, raw, rfl, hu⟩ | ⟨hk, l, rfl, ha⟩ | ⟨hk, ms, rfl, ha⟩
    · rw [if_neg (by omega)]; exact hr
    · rw [if_neg (by omega)]; split at e <;> (subst e; exact hr)
    · rw [if_neg (by omega)]; exact hr
    · rw [if_pos hk]
      obtain ⟨out, h1, h2⟩ := hr
      rw [h2]
      exact h1.1.symm.trans hu
    · rw [if_neg (by omega)]; exact hr
    · rw [if_neg (by omega)]; exact hr
theorem mt_tf (h : Mt d j t) : j.tf = if t.kind = 1 then some t.is else none := by
  cases d with
  | zero => exact h.elim
  | succ d =>
    rcases h with ⟨hk, rfl⟩ | ⟨hk, e⟩ | ⟨hk, rfl⟩ | ⟨hk, raw, rfl, hu⟩ | ⟨hk, l, rfl, ha⟩ | ⟨hk, ms, rfl, ha⟩
    · rw [if_neg (by omega)]; rfl
    · rw [if_pos hk, e]
      cases t.is <;> rfl
    · rw [if_neg (by omega)]; rfl
    · rw [if_neg (by omega)]; rfl
    · rw [if_neg (by omega)]; rfl
    · rw [if_neg (by omega)]; rfl
theorem mt_num (h : Mt d j t) : (t.kind = 2 ∧ j = .num (hNum t.minus t.num)) ∨ (t.kind ≠ 2 ∧ ∀ s, j ≠ .num s) := by
  cases d with
  | zero => exact h.elim
  | succ d =>
    rcases h with ⟨hk, rfl⟩ | ⟨hk, e⟩ | ⟨hk, rfl⟩ | ⟨hk, raw, rfl, hu⟩ | ⟨hk, l, rfl, ha⟩ | ⟨hk, ms, rfl, ha⟩
    · exact Or.inr ⟨by omega, fun s e => by cases e⟩
    · exact Or.inr ⟨by omega, fun s e' => by rw [e'] at e; split at e <;> cases e⟩
    · exact Or.inl ⟨hk, rfl⟩
    · exact Or.inr ⟨by omega, fun s e => by cases e⟩
    · exact Or.inr ⟨by omega, fun s e => by cases e⟩
    · exact Or.inr ⟨by omega, fun s e => by cases e⟩
theorem j_nonum {G : Env} (h : ∀ s, j ≠ .num s) : j.i64 G = none ∧ j.u64 G = none ∧ j.f64 G = none := by
  cases j with
  | num s => exact absurd rfl (h s)
  | _ => exact ⟨rfl, rfl, rfl⟩
theorem mt_i64 (h : Mt d j t) (hn : t.num < 18446744073709551616) : j.i64 env1 = if t.kind = 2 then hInt t.minus t.num else none := by
  rcases mt_num h with ⟨hk, rfl⟩ | ⟨hk, hj⟩
  · rw [if_pos hk]; exact numI_at _ hn
  · rw [if_neg hk]; exact (j_nonum hj).1
theorem mt_u64 (h : Mt d j t) (hn : t.num < 18446744073709551616) : j.u64 env1 = if t.kind = 2 then hUint t.minus t.num else none := by
  rcases mt_num h with ⟨hk, rfl⟩ | ⟨hk, hj⟩
  · rw [if_pos hk]; exact numU_at _ hn
  · rw [if_neg hk]; exact (j_nonum hj).2.1
theorem mt_f64 (h : Mt d j t) : j.f64 env1 = if t.kind = 2 then numF (hNum t.minus t.num) else none := by
  rcases mt_num h with ⟨hk, rfl⟩ | ⟨hk, hj⟩
  · rw [if_pos hk]; rfl
  · rw [if_neg hk]; exact (j_nonum hj).2.2
theorem mt_str (h : Mt d j t) : (t.kind = 3 ∧ ∃ raw, j = .str raw ∧ jUn raw = some t.text) ∨ (t.kind ≠ 3 ∧ ∀ s, j ≠ .str s) := by
  cases d with
  | zero => exact h.elim
  | succ d =>
    rcases h with ⟨hk, rfl⟩ | ⟨hk, e⟩ | ⟨hk, rfl⟩ | ⟨hk, raw, rfl, hu⟩ | ⟨hk, l, rfl, ha⟩ | ⟨hk, ms, rfl, ha⟩
    · exact Or.inr ⟨by omega, fun s e => by cases e⟩
    · exact Or.inr ⟨by omega, fun s e' => by rw [e'] at e; split at e <;> cases e⟩
    · exact Or.inr ⟨by omega, fun s e => by cases e⟩
    · exact Or.inl ⟨hk, raw, rfl, hu⟩
    · exact Or.inr ⟨by omega, fun s e => by cases e⟩
    · exact Or.inr ⟨by omega, fun s e => by cases e⟩
open Classical in
theorem mt_lst (h : Mt d j t) {rr : Option (List Bs)} (hr : LstR UnR (some j) rr) : rr = if t.kind = 4 ∧ ∀ c ∈ t.kids, c.kind = 3 then some (t.kids.map (·.text)) else none := by
  have no : t.kind ≠ 4 → rr = none → rr = if t.kind = 4 ∧ ∀ c ∈ t.kids, c.kind = 3 then some (t.kids.map (·.text)) else none := fun hk e => by rw [if_neg (fun h => hk h.1)]; exact e
  cases d with
  | zero => exact h.elim
  | succ d =>
    rcases h with ⟨hk, rfl⟩ | ⟨hk, e⟩ | ⟨hk, rfl⟩ | ⟨hk, raw, rfl, hu⟩ | ⟨hk, l, rfl, ha⟩ | ⟨hk, ms, rfl, ha⟩
    · exact no (by omega) hr
    · refine no (by omega) ?_
      split at e <;> (subst e; exact hr)
    · exact no (by omega) hr
    · exact no (by omega) hr
    · obtain ⟨hlen, hat⟩ := All2.get ha
      rcases hr with ⟨outs, rfl, ho, hs⟩ | ⟨rfl, j', hj', hno⟩
      · have all3 : ∀ (i : Nat) c, t.kids[i]? = some c → c.kind = 3 ∧ outs[i]? = some c.text := fun i c hc => by
          have hlt : i < l.length := by rw [hlen]; exact (List.getElem?_eq_some_iff.1 hc).1
          have h1 : l[i]? = some l[i] := List.getElem?_eq_getElem hlt
          have h2 : outs[i]? = some outs[i] := List.getElem?_eq_getElem (by omega)
          obtain ⟨c', hc', hm⟩ := hat i _ h1
          rw [hc] at hc'
          cases hc'
          obtain ⟨s, es, hu⟩ := hs i _ _ h1 h2
          rcases mt_str hm with ⟨hk3, raw, er, hu3⟩ | ⟨_, hns⟩
          · rw [es] at er
            cases er
            exact ⟨hk3, by rw [h2, unr_fn hu ⟨hu3, hu.2⟩]⟩
          · exact absurd es (hns s)
        rw [if_pos ⟨hk, fun c hc => by obtain ⟨i, hi⟩ := List.mem_iff_getElem?.1 hc; exact (all3 i c hi).1⟩]
        congr 1
        apply List.ext_getElem?
        intro i
        rw [List.getElem?_map]
        rcases Nat.lt_or_ge i t.kids.length with hlt | hge
        · have hc : t.kids[i]? = some t.kids[i] := List.getElem?_eq_getElem hlt
          rw [hc, (all3 i _ hc).2]; rfl
        · rw [List.getElem?_eq_none hge, List.getElem?_eq_none (by omega)]; rfl
      · rw [if_neg]
        rintro ⟨_, h3⟩
        obtain ⟨i, hi⟩ := List.mem_iff_getElem?.1 hj'
        obtain ⟨c, hc, hm⟩ := hat i _ hi
        rcases mt_str hm with ⟨_, raw, er, _⟩ | ⟨hk3, _⟩
        · exact hno raw er
        · exact hk3 (h3 c (List.mem_of_getElem? hc))
    · exact no (by omega) hr
end
theorem ans_told {d q : Nat} {r : Option J} {k : Option HT} {a : Told} (h : AnsK env1 r q a) (hm : OptMt d r k) (hn : ∀ t, k = some t → t.num < 18446744073709551616) (hq : q < 10) : a = toldT k q := by
  cases r with
  | none =>
    cases k with
    | some t => exact hm.elim
    | none =>
      match q, h, hq with
      | 0, h, _ => exact h
      | 1, h, _ => obtain ⟨rr, h1, rfl⟩ := h; cases h1; rfl
      | 2, h, _ => obtain ⟨rr, h1, rfl⟩ := h; cases h1; rfl
      | 3, h, _ => exact h
      | 4, h, _ => exact h
      | 5, h, _ => exact h
      | 6, h, _ => exact h
      | 7, h, _ => obtain ⟨rr, h1, rfl⟩ := h; cases h1; rfl
      | 8, h, _ => exact h
      | 9, h, _ => exact h
  | some j =>
    cases k with
    | none => exact hm.elim
    | some t =>
      have hmt : Mt d j t := hm.1
      have hnn := hn t rfl
      have e3 := mt_tf hmt
      have e4 := mt_i64 hmt hnn
      have e5 := mt_u64 hmt hnn
      have e6 := mt_f64 hmt
      match q, h, hq with
      | 0, h, _ => exact h
      | 1, h, _ =>
        obtain ⟨rr, h1, rfl⟩ := h
        rw [mt_txt hmt h1]
        by_cases hk : t.kind = 3
        · simp [toldT, hk]
        · simp [toldT, hk, Told.zero]
      | 2, h, _ =>
        obtain ⟨rr, h1, rfl⟩ := h
        rw [mt_txt hmt h1]
        by_cases hk : t.kind = 3
        · simp [toldT, hk]
        · simp [toldT, hk, Told.zero]
      | 3, h, _ =>
        have h' : a = match j.tf with | some b => { Told.zero with ok := true, is := b } | none => Told.zero := h
        rw [h', e3]
        by_cases hk : t.kind = 1 <;> simp [toldT, hk]
      | 4, h, _ =>
        have h' : a = match j.i64 env1 with | some n => { Told.zero with ok := true, int := n } | none => Told.zero := h
        rw [h', e4]
        by_cases hk : t.kind = 2
        · rw [if_pos hk]; cases ev : hInt t.minus t.num <;> simp [toldT, hk, ev]
        · rw [if_neg hk]; simp [toldT, hk]
      | 5, h, _ =>
        have h' : a = match j.u64 env1 with | some n => { Told.zero with ok := true, uint := n } | none => Told.zero := h
        rw [h', e5]
        by_cases hk : t.kind = 2
        · rw [if_pos hk]; cases ev : hUint t.minus t.num <;> simp [toldT, hk, ev]
        · rw [if_neg hk]; simp [toldT, hk]
      | 6, h, _ =>
        have h' : a = match j.f64 env1 with | some n => { Told.zero with ok := true, fl := n } | none => Told.zero := h
        rw [h', e6]
        by_cases hk : t.kind = 2
        · obtain ⟨q, hq, _⟩ := numF_at (s := hNum t.minus t.num) ⟨_, _, hnn, rfl⟩
          simp [toldT, hk, hq]
        · simp [toldT, hk]
      | 7, h, _ =>
        obtain ⟨rr, h1, rfl⟩ := h
        rw [mt_lst hmt h1]
        by_cases hk : t.kind = 4 ∧ ∀ c ∈ t.kids, c.kind = 3
        · rw [if_pos hk]
          unfold toldT
          simp only
          rw [if_neg (by omega), if_neg (by omega), if_neg (by omega), if_neg (by omega), if_neg (by omega), if_neg (by omega), if_pos ⟨hk.1, trivial, hk.2⟩]
          rfl
        · rw [if_neg hk]
          unfold toldT
          simp only
          rw [if_neg (by omega), if_neg (by omega), if_neg (by omega), if_neg (by omega), if_neg (by omega), if_neg (by omega), if_neg (fun h => hk ⟨h.1, h.2.2⟩)]
          rfl
      | 8, h, _ =>
        have h' : a = match j.i64 env1 with | some n => { Told.zero with ok := true, int := n } | none => Told.zero := h
        rw [h', e4]
        by_cases hk : t.kind = 2
        · rw [if_pos hk]; cases ev : hInt t.minus t.num <;> simp [toldT, hk, ev]
        · rw [if_neg hk]; simp [toldT, hk]
      | 9, h, _ =>
        have h' : a = match j.u64 env1 with | some n => { Told.zero with ok := true, uint := n } | none => Told.zero := h
        rw [h', e5]
        by_cases hk : t.kind = 2
        · rw [if_pos hk]; cases ev : hUint t.minus t.num <;> simp [toldT, hk, ev]
        · rw [if_neg hk]; simp [toldT, hk]
end Go.Proofs.YtppkpcijmfdfmaaGreatDoor

/- HeadRun of a tree that was printed. -/
set_option linter.unusedVariables false
set_option linter.unusedSimpArgs false
namespace Go.Proofs.YtppkpcijmfdfmaaGreatDoor
open Go.RowKit

end Go.Proofs.YtppkpcijmfdfmaaGreatDoor
