/- The plain side: a text as a style writes it, character by character, and that it reads back. No program in sight. -/
import Derived.Test.YtppkpcijmfdfmaaGreatDoorC0
import Derived.Lib.ValidLaws
import Derived.Lib.QuoteLoop
set_option linter.unusedVariables false
set_option linter.unusedSimpArgs false
namespace Go.Proofs.YtppkpcijmfdfmaaGreatDoor

/-- A digit to the base sixteen. -/
def hexd (n : Nat) : UInt8 := if n < 10 then UInt8.ofNat (48 + n) else UInt8.ofNat (87 + n)
/-- The escape of a number of 16 bits. -/
def hHex (n : Nat) : Bs := [92, 117, hexd (n / 4096 % 16), hexd (n / 256 % 16), hexd (n / 16 % 16), hexd (n % 16)]
/-- The short escape of a character, if it has one. -/
def hShort (c : Nat) : Option UInt8 :=
  if c = 34 then some 34 else if c = 92 then some 92 else if c = 47 then some 47 else if c = 8 then some 98
  else if c = 9 then some 116 else if c = 10 then some 110 else if c = 12 then some 102 else if c = 13 then some 114 else none
/-- The long escape of a character. -/
def hLong (c : Nat) : Bs := if 65536 ≤ c then hHex (55296 + (c - 65536) / 1024) ++ hHex (56320 + (c - 65536) % 1024) else hHex c
/-- Whether a character must be escaped. -/
def hMust (c : Nat) : Bool := decide (c < 32) || c == 34 || c == 92
/-- Whether a character is escaped, and the state behind that. -/
def hEsc (c x : Nat) : Bool × Nat := if hMust c = true then (true, x) else if x = 0 then (false, 0) else (told (lcg x) 5 == 0, lcg x)
/-- An escape as a style writes it. -/
def hWrite (c x : Nat) : Bs × Nat :=
  match hShort c with
  | none => (hLong c, x)
  | some e => if x = 0 then ([92, e], 0) else if told (lcg x) 2 = 0 then ([92, e], lcg x) else (hLong c, lcg x)
/-- A character as a style writes it. -/
def hChar (c x : Nat) : Bs × Nat := if (hEsc c x).1 = true then hWrite c (hEsc c x).2 else (jEnc c, (hEsc c x).2)
/-- Characters as a style writes them. -/
def hChars : List Nat → Nat → Bs × Nat
  | [], x => ([], x)
  | c :: r, x => ((hChar c x).1 ++ (hChars r (hChar c x).2).1, (hChars r (hChar c x).2).2)

/-- The characters of a text. -/
def cpsN : Nat → Bs → List Nat
  | 0, _ => []
  | n + 1, l => if l = [] then [] else (Lib.decodeL l).1 :: cpsN n (l.drop (Lib.decodeL l).2)
def cps (s : Bs) : List Nat := cpsN s.length s
/-- A text in quotation marks. -/
def hText (s : Bs) (x : Nat) : Bs × Nat := (34 :: ((hChars (cps s) x).1 ++ [34]), (hChars (cps s) x).2)

theorem cpsN_fuel : ∀ (n m : Nat) (l : Bs), l.length ≤ n → l.length ≤ m → cpsN n l = cpsN m l
  | 0, m, l, hn, _ => by
    have : l = [] := List.eq_nil_of_length_eq_zero (by omega)
    subst this
    cases m with
    | zero => rfl
    | succ m => rfl
  | n + 1, 0, l, _, hm => by
    have : l = [] := List.eq_nil_of_length_eq_zero (by omega)
    subst this
    rfl
  | n + 1, m + 1, l, hn, hm => by
    unfold cpsN
    by_cases hne : l = []
    · rw [if_pos hne, if_pos hne]
    · have hw := Lib.decodeL_width l
      have hl : 0 < l.length := List.length_pos_iff.2 hne
      rw [if_neg hne, if_neg hne, cpsN_fuel n m (l.drop (Lib.decodeL l).2) (by rw [List.length_drop]; omega) (by rw [List.length_drop]; omega)]
theorem cps_nil : cps [] = [] := rfl
theorem cps_step (l : Bs) (hne : l ≠ []) : cps l = (Lib.decodeL l).1 :: cps (l.drop (Lib.decodeL l).2) := by
  have hl : 0 < l.length := List.length_pos_iff.2 hne
  have hw := Lib.decodeL_width l
  obtain ⟨n, hn⟩ : ∃ n, l.length = n + 1 := ⟨l.length - 1, by omega⟩
  unfold cps
  rw [hn]
  show (if l = [] then [] else _) = _
  rw [if_neg hne, cpsN_fuel n (l.drop (Lib.decodeL l).2).length _ (by rw [List.length_drop]; omega) (Nat.le_refl _)]

/-- A character of Unicode. -/
def Uni (c : Nat) : Prop := c < 55296 ∨ (57344 ≤ c ∧ c ≤ 1114111)
theorem decodeL_uni (l : Bs) : Uni (Lib.decodeL l).1 := by
  have h := Lib.rune_valid ⟨l.toArray⟩
  unfold validRune at h
  have h2 := of_decide_eq_true h
  unfold Uni Lib.decodeL
  omega
set_option maxRecDepth 100000 in
theorem jEnc_form {c : Nat} (h : Uni c) : jEnc c = if c < 128 then [UInt8.ofNat c] else if c < 2048 then [UInt8.ofNat (192 + c / 64), UInt8.ofNat (128 + c % 64)]
    else if c < 65536 then [UInt8.ofNat (224 + c / 4096), UInt8.ofNat (128 + c / 64 % 64), UInt8.ofNat (128 + c % 64)]
    else [UInt8.ofNat (240 + c / 262144), UInt8.ofNat (128 + c / 4096 % 64), UInt8.ofNat (128 + c / 64 % 64), UInt8.ofNat (128 + c % 64)] := by
  have hv : Utf8.valid (c : Int) = true := by
    unfold Uni at h
    rw [validRune_eq]
    unfold validRune
    rw [decide_eq_true_iff]
    omega
  unfold jEnc Utf8.encode
  simp only [hv, if_true, Int.toNat_natCast]
  by_cases h1 : c < 128
  · simp only [if_pos h1]
  · simp only [if_neg h1]
    by_cases h2 : c < 2048
    · simp only [if_pos h2]
    · simp only [if_neg h2]
      by_cases h3 : c < 65536
      · simp only [if_pos h3]
      · simp only [if_neg h3]
theorem byte_of (z : Int) (n : Nat) (h : z = (n : Int)) : z.toNat.toUInt8 = UInt8.ofNat n := by
  subst h
  rfl
theorem jEnc_eq {c : Nat} (h : Uni c) : jEnc c = Lib.encodeRune c := by
  rw [jEnc_form h]
  unfold Lib.encodeRune
  unfold Uni at h
  by_cases h1 : c < 128
  · rw [if_pos h1, Lib.encodeRuneZ_one (by omega) (by omega)]
    rfl
  · rw [if_neg h1]
    by_cases h2 : c < 2048
    · rw [if_pos h2, Lib.encodeRuneZ_two (by omega) (by omega)]
      simp only [List.map_cons, List.map_nil]
      rw [byte_of _ (192 + c / 64) (by omega), byte_of _ (128 + c % 64) (by omega)]
    · rw [if_neg h2]
      by_cases h3 : c < 65536
      · rw [if_pos h3, Lib.encodeRuneZ_three (by omega)]
        simp only [List.map_cons, List.map_nil]
        rw [byte_of _ (224 + c / 4096) (by omega), byte_of _ (128 + c / 64 % 64) (by omega), byte_of _ (128 + c % 64) (by omega)]
      · rw [if_neg h3, Lib.encodeRuneZ_four (by omega) (by omega)]
        simp only [List.map_cons, List.map_nil]
        rw [byte_of _ (240 + c / 262144) (by omega), byte_of _ (128 + c / 4096 % 64) (by omega), byte_of _ (128 + c / 64 % 64) (by omega), byte_of _ (128 + c % 64) (by omega)]
theorem cps_valid (n : Nat) : ∀ s : Bs, s.length ≤ n → Lib.validD s = true → (cps s).flatMap jEnc = s ∧ (∀ c ∈ cps s, Uni c) ∧ (cps s).length ≤ s.length := by
  induction n with
  | zero =>
    intro s hn _
    have : s = [] := List.eq_nil_of_length_eq_zero (by omega)
    subst this
    exact ⟨rfl, fun c hc => (by cases hc), Nat.le_refl _⟩
  | succ n ih =>
    intro s hn hv
    by_cases hne : s = []
    · subst hne
      exact ⟨rfl, fun c hc => (by cases hc), Nat.le_refl _⟩
    · rw [Lib.validD_step s hne] at hv
      have hb : ¬ ((Lib.decodeL s).1 = 65533 ∧ (Lib.decodeL s).2 = 1) := by
        intro e; rw [if_pos e] at hv; cases hv
      rw [if_neg hb] at hv
      have hw := Lib.decodeL_width s
      have hl : 0 < s.length := List.length_pos_iff.2 hne
      obtain ⟨h1, h2, h3⟩ := ih (s.drop (Lib.decodeL s).2) (by rw [List.length_drop]; omega) hv
      rw [cps_step s hne]
      refine ⟨?_, fun c hc => ?_, ?_⟩
      · rw [List.flatMap_cons, h1, jEnc_eq (decodeL_uni s), Lib.encode_decode s hne hb, List.take_append_drop]
      · rcases List.mem_cons.1 hc with rfl | hc
        · exact decodeL_uni s
        · exact h2 c hc
      · rw [List.length_cons]
        rw [List.length_drop] at h3
        omega

/-- A part of a raw text that means something by itself. -/
def Piece (p m : Bs) : Prop := (∀ r, jUn (p ++ r) = (jUn r).map (m ++ ·)) ∧ ∀ r, jRaw (p ++ r) = (jRaw r).map fun q => (p ++ q.1, q.2)
theorem Piece.nil : Piece [] [] := ⟨fun r => by simp, fun r => by simp⟩
theorem Piece.append {p m q n : Bs} (h : Piece p m) (g : Piece q n) : Piece (p ++ q) (m ++ n) := by
  refine ⟨fun r => ?_, fun r => ?_⟩
  · rw [List.append_assoc, h.1, g.1, Option.map_map]
    congr 1
    funext z
    simp
  · rw [List.append_assoc, h.2, g.2, Option.map_map]
    congr 1
    funext z
    simp
theorem piece_one (c : UInt8) (h1 : c ≠ 34) (h2 : c ≠ 92) : Piece [c] [c] := by
  refine ⟨fun r => ?_, fun r => ?_⟩
  · rw [List.singleton_append, jUn_cons r h2]; rfl
  · rw [List.singleton_append, jRaw_cons, if_neg h1, if_neg h2]; rfl
theorem piece_plain : ∀ s : Bs, (∀ c ∈ s, c ≠ 34 ∧ c ≠ 92) → Piece s s
  | [], _ => Piece.nil
  | c :: r, h => (piece_one c (h c (by simp)).1 (h c (by simp)).2).append (piece_plain r fun c hc => h c (by simp [hc]))
theorem piece_esc {e : UInt8} {p m : Bs} (h : ∀ r, uStep (e :: (p ++ r)) = some (m, r)) (hp : ∀ c ∈ p, c ≠ 34 ∧ c ≠ 92) : Piece (92 :: e :: p) m := by
  refine ⟨fun r => ?_, fun r => ?_⟩
  · rw [List.cons_append, List.cons_append, jUn_esc (h r)]
  · rw [List.cons_append, List.cons_append, jRaw_cons, if_neg (by decide), if_pos rfl]
    simp only [(piece_plain p hp).2 r, Option.map_map]
    rfl
theorem uShort_hShort : ∀ c : Nat, c < 128 → ∀ e, hShort c = some e → uShort e = some (UInt8.ofNat c) := by decide +kernel
theorem hShort_lt {c : Nat} {e : UInt8} (h : hShort c = some e) : c < 128 := by
  unfold hShort at h
  repeat' split at h
  all_goals first | omega | (cases h)
theorem jEnc_small : ∀ c : Nat, c < 128 → jEnc c = [UInt8.ofNat c] := by decide +kernel
theorem piece_short {c : Nat} {e : UInt8} (h : hShort c = some e) : Piece [92, e] (jEnc c) := by
  have hc := hShort_lt h
  rw [jEnc_small c hc]
  refine piece_esc (p := []) (fun r => ?_) (fun c hc => by cases hc)
  show uStep (e :: r) = _
  unfold uStep
  simp only [uShort_hShort c hc e h]

theorem jHex1_hexd : ∀ n : Nat, n < 16 → jHex1 (hexd n) = some n := by decide +kernel
theorem hexd_plain : ∀ n : Nat, n < 16 → hexd n ≠ 34 ∧ hexd n ≠ 92 := by decide +kernel
theorem jHex4_hexd (n : Nat) (h : n < 65536) : jHex4 (hexd (n / 4096 % 16)) (hexd (n / 256 % 16)) (hexd (n / 16 % 16)) (hexd (n % 16)) = some n := by
  unfold jHex4
  rw [jHex1_hexd _ (Nat.mod_lt _ (by decide)), jHex1_hexd _ (Nat.mod_lt _ (by decide)), jHex1_hexd _ (Nat.mod_lt _ (by decide)), jHex1_hexd _ (Nat.mod_lt _ (by decide))]
  simp only [Option.some.injEq]
  omega
theorem uStep_u (r : Bs) : uStep (117 :: r) = uHex r := rfl
theorem piece_hex (n : Nat) (h : n < 65536) (hs : n < 55296 ∨ 57344 ≤ n) : Piece (hHex n) (jEnc n) := by
  refine piece_esc (p := [hexd (n / 4096 % 16), hexd (n / 256 % 16), hexd (n / 16 % 16), hexd (n % 16)]) (fun r => ?_) (fun c hc => ?_)
  · rw [uStep_u]
    show uHex (hexd (n / 4096 % 16) :: hexd (n / 256 % 16) :: hexd (n / 16 % 16) :: hexd (n % 16) :: r) = _
    unfold uHex
    simp only [jHex4_hexd n h, if_pos hs]
  · simp only [List.mem_cons, List.not_mem_nil, or_false] at hc
    rcases hc with rfl | rfl | rfl | rfl
    all_goals exact hexd_plain _ (Nat.mod_lt _ (by decide))
set_option maxRecDepth 100000 in
theorem piece_pair (c : Nat) (h1 : 65536 ≤ c) (h2 : c ≤ 1114111) : Piece (hHex (55296 + (c - 65536) / 1024) ++ hHex (56320 + (c - 65536) % 1024)) (jEnc c) := by
  have ha : 55296 + (c - 65536) / 1024 < 56320 := by omega
  have hb : 56320 + (c - 65536) % 1024 < 57344 := by omega
  have hc : 65536 + (55296 + (c - 65536) / 1024 - 55296) * 1024 + (56320 + (c - 65536) % 1024 - 56320) = c := by omega
  have hb2 : 56320 ≤ 56320 + (c - 65536) % 1024 := by omega
  have ha2 : 55296 ≤ 55296 + (c - 65536) / 1024 := by omega
  generalize 55296 + (c - 65536) / 1024 = x at *
  generalize 56320 + (c - 65536) % 1024 = y at *
  have hpl : ∀ z : Nat, ∀ d ∈ [hexd (z / 4096 % 16), hexd (z / 256 % 16), hexd (z / 16 % 16), hexd (z % 16)], d ≠ 34 ∧ d ≠ 92 := by
    intro z d hd
    simp only [List.mem_cons, List.not_mem_nil, or_false] at hd
    rcases hd with rfl | rfl | rfl | rfl
    all_goals exact hexd_plain _ (Nat.mod_lt _ (by decide))
  refine ⟨fun r => ?_, fun r => ?_⟩
  · refine jUn_esc (r := 117 :: hexd (x / 4096 % 16) :: hexd (x / 256 % 16) :: hexd (x / 16 % 16) :: hexd (x % 16) :: 92 :: 117 :: hexd (y / 4096 % 16) :: hexd (y / 256 % 16) :: hexd (y / 16 % 16) :: hexd (y % 16) :: r) ?_
    rw [uStep_u]
    unfold uHex
    simp only [jHex4_hexd x (by omega), jHex4_hexd y (by omega), if_neg (show ¬ (x < 55296 ∨ 57344 ≤ x) by omega), and_self, if_true, if_pos (show x < 56320 ∧ 56320 ≤ y ∧ y < 57344 by omega), hc]
  · have e : ∀ z r, jRaw (hHex z ++ r) = (jRaw r).map fun q => (hHex z ++ q.1, q.2) := by
      intro z r
      show jRaw (92 :: 117 :: ([hexd (z / 4096 % 16), hexd (z / 256 % 16), hexd (z / 16 % 16), hexd (z % 16)] ++ r)) = _
      rw [jRaw_cons, if_neg (by decide), if_pos rfl]
      simp only [(piece_plain _ (hpl z)).2 r, Option.map_map]
      rfl
    rw [List.append_assoc, e, e, Option.map_map]
    congr 1
theorem piece_long {c : Nat} (h : Uni c) : Piece (hLong c) (jEnc c) := by
  unfold hLong
  unfold Uni at h
  by_cases hc : 65536 ≤ c
  · rw [if_pos hc]
    exact piece_pair c hc (by omega)
  · rw [if_neg hc]
    exact piece_hex c (by omega) (by omega)
theorem jEnc_plain {c : Nat} (h : Uni c) (hm : hMust c = false) : ∀ b ∈ jEnc c, b ≠ 34 ∧ b ≠ 92 := by
  unfold hMust at hm
  simp only [Bool.or_eq_false_iff, decide_eq_false_iff_not, beq_eq_false_iff_ne] at hm
  intro b hb
  by_cases hc : c < 128
  · rw [jEnc_small c hc] at hb
    simp only [List.mem_cons, List.not_mem_nil, or_false] at hb
    have hn : b.toNat = c := by rw [hb, UInt8.toNat_ofNat']; omega
    constructor
    · intro e; rw [e] at hn; exact hm.1.2 hn.symm
    · intro e; rw [e] at hn; exact hm.2 hn.symm
  · have hb2 : 128 ≤ b.toNat := by
      have hu := h
      unfold Uni at hu
      rw [jEnc_form h, if_neg hc] at hb
      split at hb
      · simp only [List.mem_cons, List.not_mem_nil, or_false] at hb
        rcases hb with rfl | rfl <;> rw [UInt8.toNat_ofNat'] <;> omega
      · split at hb
        · simp only [List.mem_cons, List.not_mem_nil, or_false] at hb
          rcases hb with rfl | rfl | rfl <;> rw [UInt8.toNat_ofNat'] <;> omega
        · simp only [List.mem_cons, List.not_mem_nil, or_false] at hb
          rcases hb with rfl | rfl | rfl | rfl <;> rw [UInt8.toNat_ofNat'] <;> omega
    constructor
    · intro e; rw [e] at hb2; revert hb2; decide
    · intro e; rw [e] at hb2; revert hb2; decide

theorem hMust_small {c : Nat} (h : hMust c = true) : c < 128 := by
  unfold hMust at h
  simp only [Bool.or_eq_true, decide_eq_true_eq, beq_iff_eq] at h
  omega
section
attribute [local irreducible] jEnc
theorem hEsc_must {c x : Nat} (h : hMust c = true) : (hEsc c x).1 = true := by
  unfold hEsc
  rw [if_pos h]
theorem piece_char {c : Nat} (h : Uni c) (x : Nat) : Piece (hChar c x).1 (jEnc c) := by
  unfold hChar
  by_cases he : (hEsc c x).1 = true
  · rw [if_pos he]
    unfold hWrite
    cases hs : hShort c with
    | none => exact piece_long h
    | some e =>
      simp only
      split
      · exact piece_short hs
      · split
        · exact piece_short hs
        · exact piece_long h
  · rw [if_neg he]
    have hm : hMust c = false := by
      cases hm : hMust c with
      | false => rfl
      | true => exact absurd (hEsc_must hm) he
    exact piece_plain (jEnc c) (jEnc_plain h hm)
theorem piece_chars : ∀ (l : List Nat) (x : Nat), (∀ c ∈ l, Uni c) → Piece (hChars l x).1 (l.flatMap jEnc)
  | [], _, _ => Piece.nil
  | c :: r, x, h => by
    rw [List.flatMap_cons]
    exact (piece_char (h c (by simp)) x).append (piece_chars r _ fun c hc => h c (by simp [hc]))
/-- A text that is written reads back. -/
theorem text_back {s : Bs} (h : Lib.validD s = true) (x : Nat) (r : Bs) : ∃ raw, (hText s x).1 ++ r = 34 :: (raw ++ 34 :: r) ∧ jRaw (raw ++ 34 :: r) = some (raw, r) ∧ jUn raw = some s := by
  obtain ⟨h1, h2, _⟩ := cps_valid _ s (Nat.le_refl _) h
  have hp := piece_chars (cps s) x h2
  rw [h1] at hp
  refine ⟨(hChars (cps s) x).1, by simp [hText], ?_, ?_⟩
  · rw [hp.2, jRaw_cons, if_pos rfl]; simp
  · have := hp.1 []
    rw [List.append_nil, jUn_nil] at this
    simpa using this

end
theorem hHex_length (n : Nat) : (hHex n).length = 6 := rfl
theorem hLong_length (c : Nat) : (hLong c).length ≤ 12 := by
  unfold hLong
  split
  · rw [List.length_append, hHex_length, hHex_length]; omega
  · rw [hHex_length]; omega
theorem encode_len (r : Int) : (Utf8.encode r).data.toList.length ≤ 4 := by
  unfold Utf8.encode
  generalize (if Utf8.valid r then r.toNat else Utf8.runeError) = c
  dsimp only
  by_cases h1 : c < 128
  · simp only [if_pos h1, List.length_cons, List.length_nil]; omega
  · simp only [if_neg h1]
    by_cases h2 : c < 2048
    · simp only [if_pos h2, List.length_cons, List.length_nil]; omega
    · simp only [if_neg h2]
      by_cases h3 : c < 65536
      · simp only [if_pos h3, List.length_cons, List.length_nil]; omega
      · simp only [if_neg h3, List.length_cons, List.length_nil]; omega
set_option maxRecDepth 100000 in
theorem jEnc_length (c : Nat) : (jEnc c).length ≤ 4 := encode_len _
attribute [local irreducible] jEnc
theorem hChar_length (c x : Nat) : (hChar c x).1.length ≤ 12 := by
  unfold hChar
  split
  · unfold hWrite
    split
    · exact hLong_length c
    · split
      · simp
      · split
        · simp
        · exact hLong_length c
  · have := jEnc_length c
    show (jEnc c).length ≤ 12
    exact Nat.le_trans this (by decide)
theorem hChars_length : ∀ (l : List Nat) (x : Nat), (hChars l x).1.length ≤ l.length * 12
  | [], _ => Nat.zero_le _
  | c :: r, x => by
    have h1 := hChar_length c x
    have h2 := hChars_length r (hChar c x).2
    show ((hChar c x).1 ++ _).length ≤ _
    rw [List.length_append, List.length_cons]
    omega
theorem cps_length (n : Nat) : ∀ s : Bs, s.length ≤ n → (cps s).length ≤ s.length := by
  induction n with
  | zero =>
    intro s hn
    have : s = [] := List.eq_nil_of_length_eq_zero (by omega)
    subst this
    exact Nat.le_refl _
  | succ n ih =>
    intro s hn
    by_cases hne : s = []
    · subst hne
      exact Nat.le_refl _
    · have hw := Lib.decodeL_width s
      have hl : 0 < s.length := List.length_pos_iff.2 hne
      have h3 := ih (s.drop (Lib.decodeL s).2) (by rw [List.length_drop]; omega)
      rw [cps_step s hne, List.length_cons]
      rw [List.length_drop] at h3
      omega
theorem hText_length (s : Bs) (x : Nat) : (hText s x).1.length ≤ s.length * 12 + 2 := by
  have h1 := hChars_length (cps s) x
  have h2 := cps_length _ s (Nat.le_refl _)
  show (34 :: ((hChars (cps s) x).1 ++ [34])).length ≤ _
  rw [List.length_cons, List.length_append, List.length_cons, List.length_nil]
  omega
end Go.Proofs.YtppkpcijmfdfmaaGreatDoor

/- The plain side: trees of JSON as a style writes them, and that they read back. No program in sight. -/
namespace Go.Proofs.YtppkpcijmfdfmaaGreatDoor
variable {N M : Nat}

/-- Decimal digits. -/
def hDig (n : Nat) : Bs := if n < 10 then [UInt8.ofNat (48 + n)] else hDig (n / 10) ++ [UInt8.ofNat (48 + n % 10)]
termination_by n
decreasing_by omega
theorem hDig_small {n : Nat} (h : n < 10) : hDig n = [UInt8.ofNat (48 + n)] := by rw [hDig, if_pos h]
theorem hDig_big {n : Nat} (h : ¬ n < 10) : hDig n = hDig (n / 10) ++ [UInt8.ofNat (48 + n % 10)] := by rw [hDig, if_neg h]
theorem hDig_range (n : Nat) : ∀ c ∈ hDig n, 48 ≤ c.toNat ∧ c.toNat ≤ 57 := by
  induction n using Nat.strongRecOn with
  | ind n ih =>
    intro c hc
    by_cases h : n < 10
    · rw [hDig_small h] at hc
      rcases List.mem_cons.1 hc with rfl | hc
      · rw [UInt8.toNat_ofNat']; omega
      · cases hc
    · rw [hDig_big h] at hc
      rcases List.mem_append.1 hc with hc | hc
      · exact ih _ (by omega) c hc
      · rcases List.mem_cons.1 hc with rfl | hc
        · rw [UInt8.toNat_ofNat']; omega
        · cases hc
theorem hDig_pos (n : Nat) : 1 ≤ (hDig n).length := by
  by_cases h : n < 10
  · rw [hDig_small h]; simp
  · rw [hDig_big h]; simp
theorem hDig_length (k : Nat) : ∀ n, n < 10 ^ (k + 1) → (hDig n).length ≤ k + 1 := by
  induction k with
  | zero =>
    intro n h
    rw [hDig_small (by simpa using h)]; simp
  | succ k ih =>
    intro n h
    by_cases h1 : n < 10
    · rw [hDig_small h1]; simp
    · rw [hDig_big h1]
      have := ih (n / 10) (by rw [Nat.pow_succ] at h; omega)
      simp only [List.length_append, List.length_cons, List.length_nil]
      omega
/-- A whole number. -/
def hNum (minus : Bool) (n : Nat) : Bs := if minus = true ∧ 0 < n then 45 :: hDig n else hDig n
theorem digit_numCh {c : UInt8} (h : 48 ≤ c.toNat ∧ c.toNat ≤ 57) : jNumCh c = true := by
  unfold jNumCh
  have h1 : (48 : UInt8) ≤ c := by rw [UInt8.le_iff_toNat_le]; exact h.1
  have h2 : c ≤ (57 : UInt8) := by rw [UInt8.le_iff_toNat_le]; exact h.2
  simp [h1, h2]
theorem hNum_ch (minus : Bool) (n : Nat) : ∀ c ∈ hNum minus n, jNumCh c = true := by
  intro c hc
  unfold hNum at hc
  split at hc
  · rcases List.mem_cons.1 hc with rfl | hc
    · rfl
    · exact digit_numCh (hDig_range n c hc)
  · exact digit_numCh (hDig_range n c hc)

/-- A text behind a number: nothing, or no byte of a number. -/
def NumEnd (r : Bs) : Prop := ∀ c t, r = c :: t → jNumCh c = false
theorem takeWhile_append {p : UInt8 → Bool} (s r : Bs) (h : ∀ c ∈ s, p c = true) (hr : ∀ c t, r = c :: t → p c = false) : (s ++ r).takeWhile p = s ∧ (s ++ r).dropWhile p = r := by
  induction s with
  | nil =>
    cases r with
    | nil => exact ⟨rfl, rfl⟩
    | cons c t =>
      have := hr c t rfl
      simp [this]
  | cons c s ih =>
    have h0 := h c (by simp)
    have := ih fun d hd => h d (by simp [hd])
    simp [h0, this]
theorem jNum_back (s r : Bs) (h : ∀ c ∈ s, jNumCh c = true) (hne : s ≠ []) (h45 : s ≠ [45]) (h43 : s ≠ [43]) (hr : NumEnd r) : jNum (s ++ r) = some (s, r) := by
  obtain ⟨h1, h2⟩ := takeWhile_append s r h hr
  unfold jNum
  simp only [h1, h2]
  by_cases hr0 : r = []
  · rw [if_pos hr0, hr0, List.append_nil]
  · rw [if_neg hr0, if_neg (by simp [hne, h45, h43])]
theorem hNum_head (minus : Bool) (n : Nat) : ∃ c r, hNum minus n = c :: r ∧ (c.toNat = 45 ∨ (48 ≤ c.toNat ∧ c.toNat ≤ 57)) := by
  unfold hNum
  split
  · exact ⟨45, _, rfl, Or.inl rfl⟩
  · have h1 := hDig_pos n
    have h2 := hDig_range n
    cases hd : hDig n with
    | nil => rw [hd] at h1; simp at h1
    | cons c r => exact ⟨c, r, rfl, Or.inr (h2 c (by rw [hd]; simp))⟩
theorem hNum_back (minus : Bool) (n : Nat) (r : Bs) (hr : NumEnd r) : jNum (hNum minus n ++ r) = some (hNum minus n, r) := by
  obtain ⟨c, t, hc, _⟩ := hNum_head minus n
  have hne : hNum minus n ≠ [] := by rw [hc]; simp
  refine jNum_back _ r (hNum_ch minus n) hne (fun e => ?_) (fun e => ?_) hr
  · unfold hNum at e
    split at e
    · have := hDig_pos n
      have e2 : hDig n = [] := (List.cons.inj e).2
      rw [e2] at this
      simp at this
    · have := hDig_range n 45 (by rw [e]; simp)
      revert this; decide
  · unfold hNum at e
    split at e
    · have e2 := (List.cons.inj e).1
      revert e2; decide
    · have := hDig_range n 43 (by rw [e]; simp)
      revert this; decide

/-- A tree as it came: the kind, a truth value, a number and its sign, a text, names, kids. -/
inductive HT where
  | mk (kind : Nat) (is minus : Bool) (num : Nat) (text : Bs) (names : List Bs) (kids : List HT)
def HT.kind : HT → Nat | .mk k _ _ _ _ _ _ => k
def HT.is : HT → Bool | .mk _ b _ _ _ _ _ => b
def HT.minus : HT → Bool | .mk _ _ b _ _ _ _ => b
def HT.num : HT → Nat | .mk _ _ _ n _ _ _ => n
def HT.text : HT → Bs | .mk _ _ _ _ s _ _ => s
def HT.names : HT → List Bs | .mk _ _ _ _ _ l _ => l
def HT.kids : HT → List HT | .mk _ _ _ _ _ _ l => l

/-- A value that is no list and no object. -/
def hScalar (t : HT) (x : Nat) : Bs × Nat :=
  if t.kind = 0 then (jNull, x)
  else if t.kind = 1 then (if t.is = true then jTrue else jFalse, x)
  else if t.kind = 2 then (hNum t.minus t.num, x)
  else hText t.text x
/-- What stands ahead of a kid's value: its name, if it has one. -/
noncomputable def hName (ob : Bool) (ns : List Bs) (x : Nat) : Bs × Nat :=
  if ob = true then
    let a := hText (ns.headD []) x
    let b := blank a.2
    let c := blank b.2
    (a.1 ++ (b.1 ++ 58 :: c.1), c.2)
  else ([], x)
/-- A kid, its name ahead of it, blanks behind it. -/
noncomputable def hKid (f : HT → Nat → Bs × Nat) (ob : Bool) (ns : List Bs) (k : HT) (x : Nat) : Bs × Nat :=
  let a := hName ob ns x
  let b := f k a.2
  let c := blank b.2
  (a.1 ++ (b.1 ++ c.1), c.2)
/-- Further kids. -/
noncomputable def hMore (f : HT → Nat → Bs × Nat) (ob : Bool) : List Bs → List HT → Nat → Bs × Nat
  | _, [], x => ([], x)
  | ns, k :: r, x =>
    let a := blank x
    let b := hKid f ob ns k a.2
    let c := hMore f ob ns.tail r b.2
    (44 :: (a.1 ++ (b.1 ++ c.1)), c.2)
/-- Kids. -/
noncomputable def hKids (f : HT → Nat → Bs × Nat) (ob : Bool) (ns : List Bs) : List HT → Nat → Bs × Nat
  | [], x => ([], x)
  | k :: r, x =>
    let b := hKid f ob ns k x
    let c := hMore f ob ns.tail r b.2
    (b.1 ++ c.1, c.2)
theorem hMore_cons (f : HT → Nat → Bs × Nat) (ob : Bool) (ns : List Bs) (k : HT) (r : List HT) (x : Nat) : hMore f ob ns (k :: r) x =
    (44 :: ((blank x).1 ++ ((hKid f ob ns k (blank x).2).1 ++ (hMore f ob ns.tail r (hKid f ob ns k (blank x).2).2).1)), (hMore f ob ns.tail r (hKid f ob ns k (blank x).2).2).2) := rfl
theorem hKids_cons (f : HT → Nat → Bs × Nat) (ob : Bool) (ns : List Bs) (k : HT) (r : List HT) (x : Nat) : hKids f ob ns (k :: r) x =
    ((hKid f ob ns k x).1 ++ (hMore f ob ns.tail r (hKid f ob ns k x).2).1, (hMore f ob ns.tail r (hKid f ob ns k x).2).2) := rfl
/-- A tree as a style writes it. -/
noncomputable def hTree : Nat → HT → Nat → Bs × Nat
  | 0, _, x => ([], x)
  | d + 1, t, x =>
    if t.kind < 4 then hScalar t x
    else
      let a := blank x
      let b := hKids (hTree d) (t.kind == 5) t.names t.kids a.2
      ((if t.kind = 5 then 123 else 91) :: (a.1 ++ (b.1 ++ [if t.kind = 5 then 125 else 93])), b.2)
noncomputable def hPrint (d : Nat) (t : HT) (x : Nat) : Bs := (blank x).1 ++ ((hTree d t (blank x).2).1 ++ (blank (hTree d t (blank x).2).2).1)

def All2 {α β : Type} (R : α → β → Prop) : List α → List β → Prop
  | [], [] => True
  | a :: l, b :: m => R a b ∧ All2 R l m
  | _, _ => False
/-- The texts of a tree that are asked. -/
def HT.texts (t : HT) : List Bs := if t.kind = 3 then [t.text] else if t.kind = 5 then t.names else []
def TextsOk (l : List Bs) : Prop := ∀ s ∈ l, s.length ≤ 200 ∧ Lib.validD s = true
/-- A right tree, and how many nodes it has. -/
def Sized (N M : Nat) : Nat → HT → Nat → Nat → Prop
  | 0, _, _, _ => False
  | d + 1, t, deep, n => t.kind ≤ 5 ∧ (deep ≤ M ∧ t.num < 18446744073709551616) ∧ t.kids.length ≤ N ∧ (t.kind = 5 → t.names.length = t.kids.length) ∧ TextsOk t.texts ∧
    ((t.kind < 4 ∧ n = 1) ∨ (4 ≤ t.kind ∧ n ≤ N ∧ ∃ ms : List Nat, All2 (fun k m => Sized N M d k (deep + 1) m) t.kids ms ∧ n = 1 + ms.sum))

/-- The members of an object that was read, by names and kids. -/
def Mems (R : J → HT → Prop) : List (Bs × J) → List Bs → List HT → Prop
  | [], [], [] => True
  | m :: ms, n :: ns, k :: ks => jUn m.1 = some n ∧ R m.2 k ∧ Mems R ms ns ks
  | _, _, _ => False
/-- A value that was read is a tree. -/
def Mt : Nat → J → HT → Prop
  | 0, _, _ => False
  | d + 1, j, t => (t.kind = 0 ∧ j = .null) ∨ (t.kind = 1 ∧ j = if t.is = true then .tru else .fls) ∨ (t.kind = 2 ∧ j = .num (hNum t.minus t.num)) ∨
    (t.kind = 3 ∧ ∃ raw, j = .str raw ∧ jUn raw = some t.text) ∨ (t.kind = 4 ∧ ∃ l, j = .arr l ∧ All2 (Mt d) l t.kids) ∨ (t.kind = 5 ∧ ∃ ms, j = .obj ms ∧ Mems (Mt d) ms t.names t.kids)

theorem jSkip_app (ws s : Bs) (h : ∀ c ∈ ws, jWs c = true) : jSkip (ws ++ s) = jSkip s := by
  induction ws with
  | nil => rfl
  | cons c r ih =>
    have h0 := h c (by simp)
    have := ih fun d hd => h d (by simp [hd])
    rw [List.cons_append]
    unfold jSkip at *
    rw [List.dropWhile_cons, if_pos h0]
    exact this
theorem jSkip_stop {c : UInt8} (h : jWs c = false) (r : Bs) : jSkip (c :: r) = c :: r := by
  unfold jSkip; rw [List.dropWhile_cons, if_neg (by simp [h])]
theorem ws_numEnd {ws r : Bs} (h : ∀ c ∈ ws, jWs c = true) (hr : NumEnd r) : NumEnd (ws ++ r) := by
  intro c t e
  cases ws with
  | nil => exact hr c t e
  | cons b ws =>
    have hb := h b (by simp)
    rw [List.cons_append] at e
    obtain ⟨rfl, _⟩ := List.cons.inj e
    have h2 : b = 32 ∨ b = 10 ∨ b = 9 ∨ b = 13 := by
      unfold jWs at hb
      simpa [or_assoc] using hb
    rcases h2 with rfl | rfl | rfl | rfl <;> rfl
theorem numEnd_cons {c : UInt8} (r : Bs) (h : jNumCh c = false) : NumEnd (c :: r) := by
  intro d t e
  obtain ⟨rfl, _⟩ := List.cons.inj e
  exact h

/-- How a value's text begins. -/
def Starts (t : HT) (s : Bs) : Prop := ∃ c r, s = c :: r ∧ jWs c = false ∧ c ≠ 93 ∧ c ≠ 125 ∧ (c = 123 ↔ t.kind = 5)
theorem Starts.app {t : HT} {s : Bs} (h : Starts t s) (r : Bs) : Starts t (s ++ r) := by
  obtain ⟨c, u, rfl, h2⟩ := h
  exact ⟨c, u ++ r, rfl, h2⟩
theorem Starts.skip {t : HT} {s : Bs} (h : Starts t s) : jSkip s = s := by
  obtain ⟨c, u, rfl, h2, _⟩ := h
  exact jSkip_stop h2 u
theorem scalar_starts (t : HT) (x : Nat) (h : t.kind < 4) : Starts t (hScalar t x).1 := by
  have hk : t.kind ≠ 5 := by omega
  unfold hScalar
  split
  · exact ⟨110, _, rfl, rfl, by decide, by decide, by simp [hk]⟩
  · split
    · cases t.is with
      | true => exact ⟨116, _, rfl, rfl, by decide, by decide, by simp [hk]⟩
      | false => exact ⟨102, _, rfl, rfl, by decide, by decide, by simp [hk]⟩
    · split
      · obtain ⟨c, r, hc, hr⟩ := hNum_head t.minus t.num
        refine ⟨c, r, hc, ?_, fun e => ?_, fun e => ?_, ⟨fun e => ?_, fun e => absurd e hk⟩⟩
        · cases hw : jWs c with
          | false => rfl
          | true =>
            have h2 : c = 32 ∨ c = 10 ∨ c = 9 ∨ c = 13 := by
              unfold jWs at hw
              simpa [or_assoc] using hw
            rcases h2 with rfl | rfl | rfl | rfl <;> (revert hr; decide)
        · subst e; revert hr; decide
        · subst e; revert hr; decide
        · subst e; exact absurd hr (by decide)
      · exact ⟨34, _, rfl, rfl, by decide, by decide, by simp [hk]⟩
theorem tree_starts (d : Nat) (t : HT) (x deep n : Nat) (h : Sized N M d t deep n) : Starts t (hTree d t x).1 := by
  cases d with
  | zero => cases h
  | succ d =>
    rw [hTree]
    by_cases hk : t.kind < 4
    · rw [if_pos hk]; exact scalar_starts t x hk
    · rw [if_neg hk]
      by_cases h5 : t.kind = 5
      · refine ⟨123, _, by rw [if_pos h5], rfl, by decide, by decide, by simp [h5]⟩
      · refine ⟨91, _, by rw [if_neg h5], rfl, by decide, by decide, by simp [h5]⟩
theorem scalar_back (D : Nat) (t : HT) (x : Nat) (r : Bs) (hr : NumEnd r) (h : t.kind < 4) (ht : TextsOk t.texts) : ∃ j, jVal (D + 1) ((hScalar t x).1 ++ r) = some (j, r) ∧ ∀ d, Mt (d + 1) j t := by
  unfold hScalar
  by_cases h0 : t.kind = 0
  · rw [if_pos h0]
    exact ⟨.null, rfl, fun d => Or.inl ⟨h0, rfl⟩⟩
  rw [if_neg h0]
  by_cases h1 : t.kind = 1
  · rw [if_pos h1]
    refine ⟨if t.is = true then .tru else .fls, ?_, fun d => Or.inr (Or.inl ⟨h1, rfl⟩)⟩
    cases t.is with
    | true => rfl
    | false => rfl
  rw [if_neg h1]
  by_cases h2 : t.kind = 2
  · rw [if_pos h2]
    refine ⟨.num (hNum t.minus t.num), ?_, fun d => Or.inr (Or.inr (Or.inl ⟨h2, rfl⟩))⟩
    have hb := hNum_back t.minus t.num r hr
    obtain ⟨c, u, hc, hcr⟩ := hNum_head t.minus t.num
    simp only
    rw [hc] at hb ⊢
    rw [List.cons_append] at hb ⊢
    have hne : ∀ k : UInt8, ¬ (k.toNat = 45 ∨ (48 ≤ k.toNat ∧ k.toNat ≤ 57)) → c ≠ k := by
      intro k hk e; subst e; exact hk hcr
    rw [jVal_cons, if_neg (hne 123 (by decide)), if_neg (hne 91 (by decide)), if_neg (hne 34 (by decide)), if_neg (hne 116 (by decide)), if_neg (hne 102 (by decide)), if_neg (hne 110 (by decide)), hb]
    rfl
  · rw [if_neg h2]
    have h3 : t.kind = 3 := by omega
    have hv : Lib.validD t.text = true := by
      have := ht t.text (by unfold HT.texts; rw [if_pos h3]; simp)
      exact this.2
    obtain ⟨raw, e1, e2, e3⟩ := text_back hv x r
    refine ⟨.str raw, ?_, fun d => Or.inr (Or.inr (Or.inr (Or.inl ⟨h3, raw, rfl, e3⟩)))⟩
    rw [e1, jVal_cons, if_neg (by decide), if_neg (by decide), if_pos rfl, e2]
    rfl

/-- What is asked of the kids' reader. -/
def Back (f : Bs → Option (J × Bs)) (g : HT → Nat → Bs × Nat) (R : J → HT → Prop) (k : HT) : Prop := ∀ x r, NumEnd r → ∃ j, f ((g k x).1 ++ r) = some (j, r) ∧ R j k ∧ Starts k (g k x).1

theorem elems_back {f : Bs → Option (J × Bs)} {g : HT → Nat → Bs × Nat} {R : J → HT → Prop} {ob : Bool} (hob : ob = false) : ∀ (ks : List HT) (k : HT) (ns : List Bs) (x n : Nat) (ws r : Bs), (∀ k' ∈ k :: ks, Back f g R k') → (∀ c ∈ ws, jWs c = true) →
    (ws ++ ((hKids g ob ns (k :: ks) x).1 ++ 93 :: r)).length ≤ n → ∃ js, jElems f n (ws ++ ((hKids g ob ns (k :: ks) x).1 ++ 93 :: r)) = some (js, r) ∧ All2 R js (k :: ks) := by
  intro ks
  induction ks with
  | nil =>
    intro k ns x n ws r hb hws hn
    obtain ⟨m, rfl⟩ : ∃ m, n = m + 1 := ⟨n - 1, by simp at hn; omega⟩
    subst hob
    have e0 : hName false ns x = ([], x) := by unfold hName; rw [if_neg (by decide)]
    have e : (hKids g false ns [k] x).1 = (g k x).1 ++ (blank (g k x).2).1 := by
      unfold hKids hKid hMore
      simp only [e0, List.nil_append, List.append_nil]
    have hwb := blank_ws (g k x).2
    obtain ⟨j, h1, h2, h3⟩ := hb k (by simp) x ((blank (g k x).2).1 ++ 93 :: r) (ws_numEnd hwb (numEnd_cons r (by decide)))
    refine ⟨[j], ?_, h2, trivial⟩
    rw [jElems, jSkip_app _ _ hws, e, List.append_assoc, (h3.app _).skip, h1]
    simp only [jSkip_app _ _ hwb]
    rw [jSkip_stop (by decide)]
    rfl
  | cons k2 ks ih =>
    intro k ns x n ws r hb hws hn
    obtain ⟨m, rfl⟩ : ∃ m, n = m + 1 := ⟨n - 1, by simp at hn; omega⟩
    subst hob
    have e0 : ∀ ns x, hName false ns x = ([], x) := by intro ns x; unfold hName; rw [if_neg (by decide)]
    have e : (hKids g false ns (k :: k2 :: ks) x).1 = (g k x).1 ++ ((blank (g k x).2).1 ++ 44 :: ((blank (blank (g k x).2).2).1 ++ (hKids g false ns.tail (k2 :: ks) (blank (blank (g k x).2).2).2).1)) := by
      rw [hKids_cons, hMore_cons, hKids_cons]
      simp only [hKid, e0, List.nil_append, List.append_assoc]
    have hwb := blank_ws (g k x).2
    have hwb2 := blank_ws (blank (g k x).2).2
    obtain ⟨j, h1, h2, h3⟩ := hb k (by simp) x ((blank (g k x).2).1 ++ (44 :: ((blank (blank (g k x).2).2).1 ++ (hKids g false ns.tail (k2 :: ks) (blank (blank (g k x).2).2).2).1) ++ 93 :: r)) (ws_numEnd hwb (by rw [List.cons_append]; exact numEnd_cons _ (by decide)))
    rw [e] at hn
    obtain ⟨js, h4, h5⟩ := ih k2 ns.tail (blank (blank (g k x).2).2).2 m (blank (blank (g k x).2).2).1 r (fun k' hk' => hb k' (by simp [List.mem_cons.1 hk'])) hwb2 (by simp only [List.length_append, List.length_cons] at hn ⊢; omega)
    refine ⟨j :: js, ?_, h2, h5⟩
    rw [jElems, jSkip_app _ _ hws, e, List.append_assoc, (h3.app _).skip, List.append_assoc, h1]
    simp only [jSkip_app _ _ hwb, List.cons_append]
    rw [jSkip_stop (by decide)]
    simp only [if_true, List.append_assoc, h4]
    rfl

theorem members_back {f : Bs → Option (J × Bs)} {g : HT → Nat → Bs × Nat} {R : J → HT → Prop} {ob : Bool} (hob : ob = true) : ∀ (ks : List HT) (k : HT) (ns : List Bs) (x n : Nat) (ws r : Bs), (∀ k' ∈ k :: ks, Back f g R k') → (∀ c ∈ ws, jWs c = true) →
    ns.length = (k :: ks).length → (∀ s ∈ ns, Lib.validD s = true) →
    (ws ++ ((hKids g ob ns (k :: ks) x).1 ++ 125 :: r)).length ≤ n → ∃ ms, jMembers f n (ws ++ ((hKids g ob ns (k :: ks) x).1 ++ 125 :: r)) = some (ms, r) ∧ Mems R ms ns (k :: ks) := by
  intro ks
  induction ks with
  | nil =>
    intro k ns x n ws r hb hws hnl hnv hn
    obtain ⟨m, rfl⟩ : ∃ m, n = m + 1 := ⟨n - 1, by simp at hn; omega⟩
    subst hob
    obtain ⟨s, rfl⟩ : ∃ s, ns = [s] := by
      match ns, hnl with
      | [s], _ => exact ⟨s, rfl⟩
    have hsv := hnv s (by simp)
    have e : (hKids g true [s] [k] x).1 = (hText s x).1 ++ ((blank (hText s x).2).1 ++ 58 :: ((blank (blank (hText s x).2).2).1 ++ ((g k (blank (blank (hText s x).2).2).2).1 ++ (blank (g k (blank (blank (hText s x).2).2).2).2).1))) := by
      unfold hKids hKid hMore hName
      simp only [if_true, List.headD_cons, List.append_nil, List.append_assoc, List.cons_append]
    have hw1 := blank_ws (hText s x).2
    have hw2 := blank_ws (blank (hText s x).2).2
    have hw3 := blank_ws (g k (blank (blank (hText s x).2).2).2).2
    obtain ⟨j, h1, h2, h3⟩ := hb k (by simp) (blank (blank (hText s x).2).2).2 ((blank (g k (blank (blank (hText s x).2).2).2).2).1 ++ 125 :: r) (ws_numEnd hw3 (numEnd_cons r (by decide)))
    obtain ⟨raw, t1, t2, t3⟩ := text_back hsv x ((blank (hText s x).2).1 ++ (58 :: ((blank (blank (hText s x).2).2).1 ++ ((g k (blank (blank (hText s x).2).2).2).1 ++ ((blank (g k (blank (blank (hText s x).2).2).2).2).1 ++ 125 :: r)))))
    refine ⟨[(raw, j)], ?_, t3, h2, trivial⟩
    rw [jMembers, jSkip_app _ _ hws, e]
    simp only [List.append_assoc, List.cons_append]
    rw [t1, jSkip_stop (by decide)]
    simp only [if_true, t2]
    rw [jSkip_app _ _ hw1, jSkip_stop (by decide)]
    simp only [if_true]
    rw [jSkip_app _ _ hw2, (h3.app _).skip, h1]
    simp only
    rw [jSkip_app _ _ hw3, jSkip_stop (by decide)]
    rfl
  | cons k2 ks ih =>
    intro k ns x n ws r hb hws hnl hnv hn
    obtain ⟨m, rfl⟩ : ∃ m, n = m + 1 := ⟨n - 1, by simp at hn; omega⟩
    subst hob
    obtain ⟨s, ns', rfl⟩ : ∃ s ns', ns = s :: ns' := by
      match ns, hnl with
      | s :: ns', _ => exact ⟨s, ns', rfl⟩
    have hsv := hnv s (by simp)
    generalize hy1 : hText s x = y1 at *
    have e : (hKids g true (s :: ns') (k :: k2 :: ks) x).1 = y1.1 ++ ((blank y1.2).1 ++ 58 :: ((blank (blank y1.2).2).1 ++ ((g k (blank (blank y1.2).2).2).1 ++ ((blank (g k (blank (blank y1.2).2).2).2).1 ++ 44 :: ((blank (blank (g k (blank (blank y1.2).2).2).2).2).1 ++ (hKids g true ns' (k2 :: ks) (blank (blank (g k (blank (blank y1.2).2).2).2).2).2).1))))) := by
      rw [← hy1]
      rw [hKids_cons, hMore_cons, hKids_cons]
      simp only [hKid, hName, if_true, List.headD_cons, List.tail_cons, List.append_assoc, List.cons_append]
    have hw1 := blank_ws y1.2
    generalize hy2 : blank y1.2 = y2 at *
    have hw2 := blank_ws y2.2
    generalize hy3 : blank y2.2 = y3 at *
    have hw3 := blank_ws (g k y3.2).2
    generalize hy4 : blank (g k y3.2).2 = y4 at *
    have hw4 := blank_ws y4.2
    generalize hy5 : blank y4.2 = y5 at *
    obtain ⟨j, h1, h2, h3⟩ := hb k (by simp) y3.2 (y4.1 ++ (44 :: (y5.1 ++ ((hKids g true ns' (k2 :: ks) y5.2).1 ++ 125 :: r)))) (ws_numEnd hw3 (numEnd_cons _ (by decide)))
    rw [e] at hn
    obtain ⟨ms, h4, h5⟩ := ih k2 ns' y5.2 m y5.1 r (fun k' hk' => hb k' (by simp [List.mem_cons.1 hk'])) hw4 (by simpa using hnl) (fun s' hs' => hnv s' (by simp [hs'])) (by simp only [List.length_append, List.length_cons] at hn ⊢; omega)
    obtain ⟨raw, t1, t2, t3⟩ := text_back hsv x (y2.1 ++ (58 :: (y3.1 ++ ((g k y3.2).1 ++ (y4.1 ++ (44 :: (y5.1 ++ ((hKids g true ns' (k2 :: ks) y5.2).1 ++ 125 :: r))))))))
    rw [hy1] at t1
    refine ⟨(raw, j) :: ms, ?_, t3, h2, h5⟩
    rw [jMembers, jSkip_app _ _ hws, e]
    simp only [List.append_assoc, List.cons_append]
    rw [t1, jSkip_stop (by decide)]
    simp only [if_true, t2]
    rw [jSkip_app _ _ hw1, jSkip_stop (by decide)]
    simp only [if_true]
    rw [jSkip_app _ _ hw2, (h3.app _).skip, h1]
    simp only
    rw [jSkip_app _ _ hw3, jSkip_stop (by decide)]
    simp only [if_true, h4]
    rfl

theorem All2.of_mem {α β : Type} {R : α → β → Prop} : ∀ {l : List α} {m : List β}, All2 R l m → ∀ a ∈ l, ∃ b ∈ m, R a b
  | [], _, _, a, ha => by cases ha
  | x :: l, [], h, _, _ => h.elim
  | x :: l, y :: m, h, a, ha => by
    rcases List.mem_cons.1 ha with rfl | ha
    · exact ⟨y, by simp, h.1⟩
    · obtain ⟨b, hb, hr⟩ := All2.of_mem h.2 a ha
      exact ⟨b, by simp [hb], hr⟩
theorem jVal_arr (D : Nat) (r : Bs) : jVal (D + 1) (91 :: r) = parr D r := by rw [jVal_cons, if_neg (by decide), if_pos rfl]
theorem jVal_obj (D : Nat) (r : Bs) : jVal (D + 1) (123 :: r) = pobj D r := by rw [jVal_cons, if_pos rfl]
theorem hKids_starts {g : HT → Nat → Bs × Nat} {ns : List Bs} {k : HT} {ks : List HT} {x : Nat} (h : ∀ y, Starts k (g k y).1) (ob : Bool) : ∃ c r, (hKids g ob ns (k :: ks) x).1 = c :: r ∧ jWs c = false ∧ c ≠ 93 ∧ c ≠ 125 := by
  cases ob with
  | false =>
    have e0 : hName false ns x = ([], x) := by unfold hName; rw [if_neg (by decide)]
    obtain ⟨c, r, h1, h2, h3, h4, _⟩ := h x
    refine ⟨c, r ++ ((blank (g k x).2).1 ++ (hMore g false ns.tail ks (blank (g k x).2).2).1), ?_, h2, h3, h4⟩
    rw [hKids_cons]
    simp only [hKid, e0, List.nil_append, h1, List.cons_append, List.append_assoc]
  | true =>
    refine ⟨34, ?_, ?_, by decide, by decide, by decide⟩
    rotate_left
    · rw [hKids_cons]
      simp only [hKid, hName, if_true, hText, List.cons_append]
      rfl
theorem tree_back (d : Nat) : ∀ (t : HT) (deep n D x : Nat) (r : Bs), Sized N M d t deep n → M + 1 ≤ D + deep → NumEnd r → ∃ j, jVal D ((hTree d t x).1 ++ r) = some (j, r) ∧ Mt d j t := by
  induction d with
  | zero => intro t deep n D x r h; cases h
  | succ d ih =>
    intro t deep n D x r h hD hr
    have hst := tree_starts (d + 1) t x deep n h
    obtain ⟨h1, h2, h3, h4, h5, h6⟩ := h
    obtain ⟨D, rfl⟩ : ∃ E, D = E + 1 := ⟨D - 1, by omega⟩
    rw [hTree]
    by_cases hk : t.kind < 4
    · rw [if_pos hk]
      obtain ⟨j, e1, e2⟩ := scalar_back D t x r hr hk h5
      exact ⟨j, e1, e2 d⟩
    · rw [if_neg hk]
      obtain ⟨ms, ha, hn⟩ : ∃ ms : List Nat, All2 (fun k m => Sized N M d k (deep + 1) m) t.kids ms ∧ n = 1 + ms.sum := by
        rcases h6 with h6 | h6
        · exact absurd h6.1 hk
        · exact h6.2.2
      have hback : ∀ k ∈ t.kids, Back (jVal D) (hTree d) (Mt d) k := by
        intro k hkm y r' hr'
        obtain ⟨m, _, hs⟩ := ha.of_mem k hkm
        obtain ⟨j, e1, e2⟩ := ih k (deep + 1) m D y r' hs (by omega) hr'
        exact ⟨j, e1, e2, tree_starts d k y _ _ hs⟩
      have hstk : ∀ k ∈ t.kids, ∀ y, Starts k (hTree d k y).1 := by
        intro k hkm y
        obtain ⟨m, _, hs⟩ := ha.of_mem k hkm
        exact tree_starts d k y _ _ hs
      have hws := blank_ws x
      by_cases k5 : t.kind = 5
      · have e5 : (t.kind == 5) = true := by rw [k5]; rfl
        simp only [if_pos k5, e5, List.cons_append, List.append_assoc, List.nil_append]
        rw [jVal_obj]
        unfold pobj
        rw [jSkip_app _ _ hws]
        have hnl := h4 k5
        have hnv : ∀ s ∈ t.names, Lib.validD s = true := by
          intro s hs
          refine (h5 s ?_).2
          unfold HT.texts
          rw [if_neg (by omega), if_pos k5]
          exact hs
        rcases hkids : t.kids with _ | ⟨k, ks⟩
        · rw [hkids] at hnl
          have hnn : t.names = [] := List.eq_nil_of_length_eq_zero hnl
          refine ⟨.obj [], ?_, Or.inr (Or.inr (Or.inr (Or.inr (Or.inr ⟨k5, [], rfl, by rw [hkids, hnn]; trivial⟩))))⟩
          rfl
        · rw [hkids] at hback hstk hnl
          obtain ⟨c, u, hc1, hc2, hc3, hc4⟩ := hKids_starts (ns := t.names) (ks := ks) (x := (blank x).2) (hstk k (by simp)) true
          obtain ⟨mm, hm1, hm2⟩ := members_back rfl ks k t.names (blank x).2 _ [] r hback (fun c hc => by cases hc) hnl hnv (Nat.le_refl _)
          simp only [List.nil_append] at hm1
          refine ⟨.obj mm, ?_, Or.inr (Or.inr (Or.inr (Or.inr (Or.inr ⟨k5, mm, rfl, by rw [hkids]; exact hm2⟩))))⟩
          have hsk : jSkip ((hKids (hTree d) true t.names (k :: ks) (blank x).2).1 ++ 125 :: r) = (hKids (hTree d) true t.names (k :: ks) (blank x).2).1 ++ 125 :: r := by
            rw [hc1, List.cons_append, jSkip_stop hc2]
          rw [hsk]
          generalize hs : (hKids (hTree d) true t.names (k :: ks) (blank x).2).1 ++ 125 :: r = S at *
          cases S with
          | nil => simp at hs
          | cons c' u' =>
            have : c' = c := by rw [hc1, List.cons_append] at hs; exact (List.cons.inj hs).1.symm
            subst this
            simp only [if_neg hc4, hm1]
            rfl
      · have e5 : (t.kind == 5) = false := by rw [beq_eq_false_iff_ne]; exact k5
        have k4 : t.kind = 4 := by omega
        simp only [if_neg k5, e5, List.cons_append, List.append_assoc, List.nil_append]
        rw [jVal_arr]
        unfold parr
        rw [jSkip_app _ _ hws]
        rcases hkids : t.kids with _ | ⟨k, ks⟩
        · refine ⟨.arr [], ?_, Or.inr (Or.inr (Or.inr (Or.inr (Or.inl ⟨k4, [], rfl, by rw [hkids]; trivial⟩))))⟩
          rfl
        · rw [hkids] at hback hstk
          obtain ⟨c, u, hc1, hc2, hc3, hc4⟩ := hKids_starts (ns := t.names) (ks := ks) (x := (blank x).2) (hstk k (by simp)) false
          obtain ⟨mm, hm1, hm2⟩ := elems_back rfl ks k t.names (blank x).2 _ [] r hback (fun c hc => by cases hc) (Nat.le_refl _)
          simp only [List.nil_append] at hm1
          refine ⟨.arr mm, ?_, Or.inr (Or.inr (Or.inr (Or.inr (Or.inl ⟨k4, mm, rfl, by rw [hkids]; exact hm2⟩))))⟩
          have hsk : jSkip ((hKids (hTree d) false t.names (k :: ks) (blank x).2).1 ++ 93 :: r) = (hKids (hTree d) false t.names (k :: ks) (blank x).2).1 ++ 93 :: r := by
            rw [hc1, List.cons_append, jSkip_stop hc2]
          rw [hsk]
          generalize hs : (hKids (hTree d) false t.names (k :: ks) (blank x).2).1 ++ 93 :: r = S at *
          cases S with
          | nil => simp at hs
          | cons c' u' =>
            have : c' = c := by rw [hc1, List.cons_append] at hs; exact (List.cons.inj hs).1.symm
            subst this
            simp only [if_neg hc3, hm1]
            rfl
/-- A whole text reads back. -/
theorem print_back {d : Nat} {t : HT} {n : Nat} (h : Sized N M d t 1 n) (hM : M ≤ 300) (x : Nat) : ∃ j, jParse (hPrint d t x) = some j ∧ Mt d j t := by
  have hw1 := blank_ws x
  have hw2 := blank_ws (hTree d t (blank x).2).2
  obtain ⟨j, e1, e2⟩ := tree_back d t 1 n 300 (blank x).2 (blank (hTree d t (blank x).2).2).1 h (by omega) (by
    have := ws_numEnd (r := []) hw2 (fun c t e => by cases e)
    rwa [List.append_nil] at this)
  refine ⟨j, ?_, e2⟩
  unfold jParse hPrint
  rw [jSkip_app _ _ hw1, ((tree_starts d t (blank x).2 1 n h).app _).skip, e1]
  have : jSkip (blank (hTree d t (blank x).2).2).1 = [] := by
    have := jSkip_app _ [] hw2
    rwa [List.append_nil] at this
  simp only [this, if_true]
end Go.Proofs.YtppkpcijmfdfmaaGreatDoor

/- The plain side: how long a tree's text is. No program in sight. -/
namespace Go.Proofs.YtppkpcijmfdfmaaGreatDoor
variable {N M : Nat}

theorem bRun_length (n : Nat) : ∀ x, (bRun n x).1.length = n := by
  induction n with
  | zero => intro x; rfl
  | succ n ih => intro x; show (_ :: (bRun n _).1).length = _; rw [List.length_cons, ih]
theorem blank_length (x : Nat) : (blank x).1.length ≤ 65536 := by
  unfold blank
  rw [bRun_length]
  exact bCount_le x
theorem hNum_length (minus : Bool) {n : Nat} (h : n < 18446744073709551616) : (hNum minus n).length ≤ 21 := by
  have h1 := hDig_length 19 n (Nat.lt_trans h (by decide))
  unfold hNum
  split
  · rw [List.length_cons]; omega
  · omega
theorem hScalar_length (t : HT) (x : Nat) (h : t.num < 18446744073709551616) (hk : t.kind < 4) (ht : TextsOk t.texts) : (hScalar t x).1.length ≤ 2402 := by
  unfold hScalar
  split
  · exact (by decide : jNull.length ≤ 2402)
  · split
    · cases t.is with
      | true => exact (by decide : jTrue.length ≤ 2402)
      | false => exact (by decide : jFalse.length ≤ 2402)
    · split
      · have := hNum_length t.minus h
        show (hNum t.minus t.num).length ≤ 2402
        omega
      · have h3 : t.kind = 3 := by omega
        have h4 := (ht t.text (by unfold HT.texts; rw [if_pos h3]; simp)).1
        have h5 := hText_length t.text x
        omega
theorem hName_length (ob : Bool) (ns : List Bs) (x : Nat) (h : ob = true → (ns.headD []).length ≤ 200) : (hName ob ns x).1.length ≤ 133475 := by
  unfold hName
  split
  · rename_i ho
    have h1 := h ho
    have h2 := hText_length (ns.headD []) x
    have h3 := blank_length (hText (ns.headD []) x).2
    have h4 := blank_length (blank (hText (ns.headD []) x).2).2
    simp only [List.length_append, List.length_cons]
    omega
  · exact Nat.zero_le _
theorem hMore_length {f : HT → Nat → Bs × Nat} (ob : Bool) : ∀ (l : List HT) (ns : List Bs) (ms : List Nat) (x : Nat), All2 (fun k m => ∀ y, (f k y).1.length + 300000 ≤ m * 400000) l ms → (ob = true → ∀ s ∈ ns, s.length ≤ 200) →
    (hMore f ob ns l x).1.length ≤ ms.sum * 400000
  | [], _, _, _, _, _ => Nat.zero_le _
  | _ :: _, _, [], _, h, _ => h.elim
  | k :: r, ns, m :: ms, x, h, hn => by
    unfold hMore hKid
    have hh : ob = true → (ns.headD []).length ≤ 200 := by
      intro ho
      cases ns with
      | nil => exact Nat.zero_le _
      | cons s ns => exact hn ho s (by simp)
    have h1 := hName_length ob ns (blank x).2 hh
    have h2 := h.1 (hName ob ns (blank x).2).2
    have h3 := blank_length (f k (hName ob ns (blank x).2).2).2
    have h4 := hMore_length ob r ns.tail ms (blank (f k (hName ob ns (blank x).2).2).2).2 h.2 (fun ho s hs => hn ho s (List.mem_of_mem_tail hs))
    have h5 := blank_length x
    simp only [List.length_append, List.length_cons, List.sum_cons]
    omega
theorem hKids_length {f : HT → Nat → Bs × Nat} (ob : Bool) (l : List HT) (ns : List Bs) (ms : List Nat) (x : Nat) (h : All2 (fun k m => ∀ y, (f k y).1.length + 300000 ≤ m * 400000) l ms) (hn : ob = true → ∀ s ∈ ns, s.length ≤ 200) :
    (hKids f ob ns l x).1.length ≤ ms.sum * 400000 := by
  match l, ms, h with
  | [], _, _ => exact Nat.zero_le _
  | k :: r, m :: ms, h =>
    unfold hKids hKid
    have hh : ob = true → (ns.headD []).length ≤ 200 := by
      intro ho
      cases ns with
      | nil => exact Nat.zero_le _
      | cons s ns => exact hn ho s (by simp)
    have h1 := hName_length ob ns x hh
    have h2 := h.1 (hName ob ns x).2
    have h3 := blank_length (f k (hName ob ns x).2).2
    have h4 := hMore_length ob r ns.tail ms (blank (f k (hName ob ns x).2).2).2 h.2 (fun ho s hs => hn ho s (List.mem_of_mem_tail hs))
    simp only [List.length_append, List.sum_cons]
    omega
theorem All2.imp {α β : Type} {R S : α → β → Prop} (h : ∀ a b, R a b → S a b) : ∀ {l : List α} {m : List β}, All2 R l m → All2 S l m
  | [], [], _ => trivial
  | [], _ :: _, g => g.elim
  | _ :: _, [], g => g.elim
  | _ :: _, _ :: _, g => ⟨h _ _ g.1, g.2.imp h⟩
theorem tree_length (d : Nat) : ∀ (t : HT) (deep n : Nat), Sized N M d t deep n → ∀ x, (hTree d t x).1.length + 300000 ≤ n * 400000 := by
  induction d with
  | zero => intro t deep n h; cases h
  | succ d ih =>
    intro t deep n h x
    obtain ⟨h1, h2, h3, h4, h5, h6⟩ := h
    rw [hTree]
    by_cases hk : t.kind < 4
    · rw [if_pos hk]
      have := hScalar_length t x h2.2 hk h5
      have : n = 1 := by
        rcases h6 with h6 | h6
        · exact h6.2
        · omega
      omega
    · rw [if_neg hk]
      obtain ⟨ms, ha, hn⟩ : ∃ ms : List Nat, All2 (fun k m => Sized N M d k (deep + 1) m) t.kids ms ∧ n = 1 + ms.sum := by
        rcases h6 with h6 | h6
        · exact absurd h6.1 hk
        · exact h6.2.2
      have g1 := hKids_length (t.kind == 5) t.kids t.names ms (blank x).2 (ha.imp fun k m hs => ih k _ _ hs) (fun e s hs => by
        have k5 := eq_of_beq e
        refine (h5 s ?_).1
        unfold HT.texts
        rw [if_neg (by omega), if_pos k5]
        exact hs)
      have g2 := blank_length x
      simp only [List.length_append, List.length_cons, List.length_nil]
      omega
theorem sized_le {d : Nat} {t : HT} {deep n : Nat} (h : Sized N M d t deep n) (hN : 1 ≤ N) : n ≤ N := by
  cases d with
  | zero => cases h
  | succ d =>
    rcases h.2.2.2.2.2 with h | h
    · omega
    · exact h.2.1
end Go.Proofs.YtppkpcijmfdfmaaGreatDoor

/- The plain side: a text that reads as an object reads as none when it is cut ahead of its end. No program in sight. -/
namespace Go.Proofs.YtppkpcijmfdfmaaGreatDoor
variable {N M : Nat}

theorem jSkip_blank {c : UInt8} (h : jWs c = true) (r : Bs) : jSkip (c :: r) = jSkip r := by
  unfold jSkip; rw [List.dropWhile_cons, if_pos h]
theorem jSkip_ext {s c : Bs} {d : UInt8} (h : jSkip s = d :: c) (x : Bs) : jSkip (s ++ x) = d :: (c ++ x) := by
  induction s with
  | nil => cases h
  | cons b s ih =>
    by_cases hb : jWs b = true
    · rw [jSkip_blank hb] at h
      rw [List.cons_append, jSkip_blank hb]
      exact ih h
    · have hb' : jWs b = false := by simpa using hb
      rw [jSkip_stop hb'] at h
      rw [List.cons_append, jSkip_stop hb']
      obtain ⟨rfl, rfl⟩ := List.cons.inj h
      rfl
/-- A reader that is not moved by what stands further on, once something is left. -/
structure Ext (f : Bs → Option (J × Bs)) : Prop where
  nil : f [] = none
  ext : ∀ s v r x, f s = some (v, r) → r ≠ [] → f (s ++ x) = some (v, r ++ x)
theorem Ext.skip {f : Bs → Option (J × Bs)} (hf : Ext f) {s : Bs} {v : J} {r : Bs} (x : Bs) (h : f (jSkip s) = some (v, r)) (hr : r ≠ []) : f (jSkip (s ++ x)) = some (v, r ++ x) := by
  cases hs : jSkip s with
  | nil =>
    rw [hs, hf.nil] at h
    cases h
  | cons d w =>
    rw [jSkip_ext hs x, ← List.cons_append, ← hs]
    exact hf.ext _ v r x h hr

end Go.Proofs.YtppkpcijmfdfmaaGreatDoor
