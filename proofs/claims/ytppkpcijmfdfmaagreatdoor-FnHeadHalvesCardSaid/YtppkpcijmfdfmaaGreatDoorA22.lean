/- The plain side of one number in an object. No program in sight. -/
import Derived.Test.YtppkpcijmfdfmaaGreatDoorC1
namespace Go.Proofs.YtppkpcijmfdfmaaGreatDoor

/-- An object with one number under the name a. -/
def oneText (num : Bs) : Bs := [123, 34, 97, 34, 58] ++ num ++ [125]
/-- What stands as a number. -/
def Numeral (num : Bs) : Prop := (∀ c ∈ num, jNumCh c = true) ∧ num ≠ [45] ∧ ∃ c t, num = c :: t ∧ (c.toNat = 45 ∨ (48 ≤ c.toNat ∧ c.toNat ≤ 57))
theorem Numeral.val {num : Bs} (h : Numeral num) (d : Nat) (r : Bs) (hr : NumEnd r) : jSkip (num ++ r) = num ++ r ∧ jVal (d + 1) (num ++ r) = some (.num num, r) := by
  obtain ⟨h1, h2, c, t, rfl, h3⟩ := h
  have hb := jNum_back (c :: t) r h1 (by simp) h2 (by
    intro e
    injection e with e1 e2
    subst e1
    revert h3; decide) hr
  have ne : ∀ k : UInt8, k.toNat ≠ 45 → (k.toNat < 48 ∨ 57 < k.toNat) → c ≠ k := by
    rintro k hk1 hk2 rfl
    omega
  constructor
  · rw [List.cons_append]
    refine jSkip_stop ?_ _
    unfold jWs
    have := ne 32 (by decide) (by decide)
    have := ne 10 (by decide) (by decide)
    have := ne 9 (by decide) (by decide)
    have := ne 13 (by decide) (by decide)
    simp_all
  · rw [List.cons_append, jVal_cons, if_neg (ne 123 (by decide) (by decide)), if_neg (ne 91 (by decide) (by decide)), if_neg (ne 34 (by decide) (by decide)), if_neg (ne 116 (by decide) (by decide)), if_neg (ne 102 (by decide) (by decide)), if_neg (ne 110 (by decide) (by decide)), ← List.cons_append, hb]
    rfl
theorem one_parse {num : Bs} (h : Numeral num) : jParse (oneText num) = some (.obj [([97], .num num)]) := by
  have hv := h.val 298 [125] (numEnd_cons _ (by decide))
  unfold jParse oneText
  rw [show [123, 34, 97, 34, 58] ++ num ++ [125] = 123 :: (34 :: 97 :: 34 :: 58 :: (num ++ [125])) by simp, jSkip_stop (by decide), jVal_obj]
  unfold pobj
  rw [jSkip_stop (by decide)]
  simp only [show ((34 : UInt8) = 125) = False by decide, if_false, List.length_cons]
  unfold jMembers
  rw [jSkip_stop (by decide)]
  have hraw : jRaw (97 :: 34 :: 58 :: (num ++ [125])) = some ([97], 58 :: (num ++ [125])) := by
    simp [jRaw]
  simp only [if_true, hraw]
  rw [jSkip_stop (by decide)]
  simp only [if_true, hv.1, hv.2]
  rw [jSkip_stop (by decide)]
  simp [jSkip]

theorem hDig_nonempty (n : Nat) : hDig n ≠ [] := by
  intro e
  have := hDig_pos n
  rw [e] at this
  simp at this
theorem hDig_ch (n : Nat) : ∀ c ∈ hDig n, jNumCh c = true := fun c hc => digit_numCh (hDig_range n c hc)
theorem hDig_head (n : Nat) : ∃ c t, hDig n = c :: t ∧ 48 ≤ c.toNat ∧ c.toNat ≤ 57 := by
  cases h : hDig n with
  | nil => exact absurd h (hDig_nonempty n)
  | cons c t => exact ⟨c, t, rfl, hDig_range n c (by rw [h]; simp)⟩
/-- Digits, a sign of an exponent, and digits. -/
def expText (n : Nat) (sgn : Bs) (k : Nat) : Bs := hDig n ++ sgn ++ hDig k
theorem exp_numeral (n k : Nat) (sgn : Bs) (hs : ∀ c ∈ sgn, jNumCh c = true) : Numeral (expText n sgn k) := by
  obtain ⟨c, t, e, h1, h2⟩ := hDig_head n
  refine ⟨fun c hc => ?_, ?_, c, t ++ sgn ++ hDig k, by simp [expText, e], Or.inr ⟨h1, h2⟩⟩
  · simp only [expText, List.mem_append] at hc
    rcases hc with (hc | hc) | hc
    · exact hDig_ch n c hc
    · exact hs c hc
    · exact hDig_ch k c hc
  · intro e2
    simp only [expText, e, List.cons_append] at e2
    injection e2 with e3 _
    subst e3
    revert h1; decide
end Go.Proofs.YtppkpcijmfdfmaaGreatDoor
