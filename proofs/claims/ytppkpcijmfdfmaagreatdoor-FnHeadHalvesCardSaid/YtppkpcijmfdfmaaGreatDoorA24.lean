/- The plain side of quotients that are exact: a multiple of a power of one half, however it is divided. No program in sight. -/
import Derived.Test.YtppkpcijmfdfmaaGreatDoorA23
import GoSem.Op.Unary
namespace Go.Proofs.YtppkpcijmfdfmaaGreatDoor
open Ieee (Datum double Toward)

theorem dbl_least : double.leastPlace = -1074 := by decide
theorem dbl_binade : double.binade = 4503599627370496 := by decide
theorem dbl_inf : double.infRung = 9218868437227405312 := by decide
theorem dbl_sign : double.signWeight = 9223372036854775808 := by decide
theorem dbl_frac : double.fractionBits = 52 := rfl
theorem cut_zero (neg : Bool) (n : Nat) : Toward.even.cut neg n 0 = n := by
  unfold Toward.cut
  simp [Nat.mod_one]
theorem log2_bounds {a : Nat} (h : a ≠ 0) : 2 ^ a.log2 ≤ a ∧ a < 2 ^ (a.log2 + 1) := ⟨Nat.log2_self_le h, Nat.lt_log2_self⟩
theorem log2_eq {a k : Nat} (h1 : 2 ^ k ≤ a) (h2 : a < 2 ^ (k + 1)) : a.log2 = k := by
  have ha : a ≠ 0 := by have := Nat.two_pow_pos k; omega
  have h3 := log2_bounds ha
  have h4 : a.log2 < k + 1 := (Nat.pow_lt_pow_iff_right (by omega : 1 < 2)).1 (Nat.lt_of_le_of_lt h3.1 h2)
  have h5 : k < a.log2 + 1 := (Nat.pow_lt_pow_iff_right (by omega : 1 < 2)).1 (Nat.lt_of_le_of_lt h1 h3.2)
  omega
theorem log2_scale {a : Nat} (h : a ≠ 0) (c : Nat) : (a * 2 ^ c).log2 = a.log2 + c := by
  have h3 := log2_bounds h
  refine log2_eq ?_ ?_
  · rw [Nat.pow_add]; exact Nat.mul_le_mul_right _ h3.1
  · rw [show a.log2 + c + 1 = a.log2 + 1 + c by omega, Nat.pow_add]
    exact Nat.mul_lt_mul_of_pos_right h3.2 (Nat.two_pow_pos c)
/-- A cut that cuts zeros alone. -/
theorem cut_exact (neg : Bool) (a c d : Nat) (ha : a ≠ 0) (h : d ≤ c) : Toward.even.cut neg (a * 2 ^ c) d = a * 2 ^ (c - d) := by
  have hl := log2_scale ha c
  have e : a * 2 ^ c = a * 2 ^ (c - d) * 2 ^ d := by rw [Nat.mul_assoc, ← Nat.pow_add, show c - d + d = c by omega]
  have hp := Nat.two_pow_pos d
  unfold Toward.cut
  rw [hl, Nat.min_eq_left (by omega), Nat.one_shiftLeft, e]
  simp only [Nat.mul_div_cancel _ hp, Nat.mul_mod_left]
  have h1 : decide (2 ^ d < 2 * 0) = false := by simp
  have h2 : (2 ^ d == 2 * 0) = false := by simp
  rw [h1, h2]
  simp
/-- What is nearest depends on the number alone, where no digit is lost. -/
theorem nearest_scale (neg : Bool) (a c : Nat) (p : Int) (ha : a ≠ 0) (hl : a.log2 ≤ 52) (hp : -1000 ≤ p) :
    double.nearest neg (a * 2 ^ c) (p - c) = double.word neg (min (((p + 1022 + a.log2).toNat) * 4503599627370496 + a * 2 ^ (52 - a.log2)) 9218868437227405312) := by
  have hn : a * 2 ^ c ≠ 0 := Nat.mul_ne_zero ha (by have := Nat.two_pow_pos c; omega)
  unfold Ieee.Format.nearest
  rw [if_neg hn, log2_scale ha, dbl_least, dbl_binade, dbl_inf, dbl_frac]
  have hlast : max (p - (c : Int) + ((a.log2 + c : Nat) : Int) - ((52 : Nat) : Int)) (-1074) = p + a.log2 - 52 := by omega
  simp only [hlast]
  have e1 : (p + (a.log2 : Int) - 52 - -1074).toNat = (p + 1022 + a.log2).toNat := by omega
  rw [e1]
  congr 3
  by_cases h : c ≤ 52 - a.log2
  · rw [show (p + (a.log2 : Int) - 52 - (p - c)).toNat = 0 by omega, cut_zero, show (p - (c : Int) - (p + a.log2 - 52)).toNat = 52 - a.log2 - c by omega, Nat.shiftLeft_eq, Nat.mul_assoc, ← Nat.pow_add, show c + (52 - a.log2 - c) = 52 - a.log2 by omega]
  · rw [show (p - (c : Int) - (p + a.log2 - 52)).toNat = 0 by omega, Nat.shiftLeft_zero, show (p + (a.log2 : Int) - 52 - (p - c)).toNat = c - (52 - a.log2) by omega, cut_exact neg a c _ ha (by omega)]
    congr 2
    omega
/-- How a whole number is read back. -/
theorem read_int {a : Nat} (neg : Bool) (ha : a ≠ 0) (hl : a.log2 ≤ 52) : double.read (double.nearest neg a 0) = .number neg (a * 2 ^ (52 - a.log2)) (a.log2 - 52) := by
  have h := nearest_scale neg a 0 0 ha hl (by omega)
  rw [Nat.pow_zero, Nat.mul_one] at h
  rw [show (0 : Int) = 0 - ((0 : Nat) : Int) by omega, h]
  have hb := log2_bounds ha
  obtain ⟨M, hM⟩ : ∃ M, M = a * 2 ^ (52 - a.log2) := ⟨_, rfl⟩
  have h1 : 4503599627370496 ≤ M := by
    rw [hM]
    have : 2 ^ a.log2 * 2 ^ (52 - a.log2) ≤ a * 2 ^ (52 - a.log2) := Nat.mul_le_mul_right _ hb.1
    rw [← Nat.pow_add, show a.log2 + (52 - a.log2) = 52 by omega] at this
    exact this
  have h2 : M < 9007199254740992 := by
    rw [hM]
    have : a * 2 ^ (52 - a.log2) < 2 ^ (a.log2 + 1) * 2 ^ (52 - a.log2) := Nat.mul_lt_mul_of_pos_right hb.2 (Nat.two_pow_pos _)
    rw [← Nat.pow_add, show a.log2 + 1 + (52 - a.log2) = 53 by omega] at this
    exact this
  rw [← hM, show (0 : Int) + 1022 + (a.log2 : Int) = ((1022 + a.log2 : Nat) : Int) by omega, Int.toNat_natCast]
  obtain ⟨l, hll⟩ : ∃ l, l = a.log2 := ⟨_, rfl⟩
  rw [← hll] at hl ⊢
  obtain ⟨r, hr⟩ : ∃ r, r = (1022 + l) * 4503599627370496 + M := ⟨_, rfl⟩
  have hmin : min ((1022 + l) * 4503599627370496 + M) 9218868437227405312 = r := by omega
  rw [hmin]
  have hs : double.word neg r / double.signWeight % 2 = neg.toNat ∧ double.word neg r % double.signWeight = r := by
    unfold Ieee.Format.word
    rw [dbl_sign]
    cases neg
    · simp only [Bool.false_eq_true, if_false, Bool.toNat_false]; omega
    · simp only [if_true, Bool.toNat_true]; omega
  unfold Ieee.Format.read
  simp only [hs.1, hs.2, dbl_binade, dbl_inf, dbl_least]
  rw [if_neg (by omega), if_pos (by omega)]
  have e1 : 4503599627370496 + r % 4503599627370496 = M := by omega
  have e2 : (r / 4503599627370496 - 1 : Nat) = 1022 + l := by omega
  rw [e1, e2]
  congr 1
  · cases neg <;> rfl
  · omega
/-- A quotient without rest. -/
theorem div_exact {x y m n Q : Nat} {s t : Bool} {i j : Int} (hx : double.read x = .number s m i) (hy : double.read y = .number t n j) (hn : n ≠ 0) (lm : m.log2 = 52) (ln : n.log2 = 52) (hQ : m * 2 ^ 54 = Q * n) :
    double.div x y = some (double.nearest (s ^^ t) (2 * Q) (i - j - 55)) := by
  have e : m <<< (double.fractionBits + 2 + n.log2 - m.log2) = Q * n := by
    rw [lm, ln, dbl_frac, Nat.shiftLeft_eq]
    exact hQ
  unfold Ieee.Format.div
  rw [hx, hy]
  simp only [Datum.quotient, if_neg hn, e, Nat.mul_div_cancel _ (Nat.pos_of_ne_zero hn), Nat.mul_mod_left, Option.map_some]
  rw [lm, ln, dbl_frac]
  simp only [Ieee.Format.write, bne_self_eq_false, Bool.toNat_false, Nat.add_zero]
  congr 2
  omega
theorem mant_log {a : Nat} (ha : a ≠ 0) (hl : a.log2 ≤ 52) : (a * 2 ^ (52 - a.log2)).log2 = 52 ∧ a * 2 ^ (52 - a.log2) ≠ 0 := by
  refine ⟨by rw [log2_scale ha]; omega, Nat.mul_ne_zero ha ?_⟩
  have := Nat.two_pow_pos (52 - a.log2)
  omega
/-- Whole multiples of powers of one half: by powers of ten and by powers of two. -/
theorem half_ten {a k : Nat} (ha : a ≠ 0) (hl : a.log2 ≤ 52) (h5 : (a * 5 ^ k).log2 ≤ 52) (hk : k ≤ 10) : double.div (double.nearest false (a * 5 ^ k) 0) (double.nearest false (10 ^ k) 0) = some (double.nearest false a (-(k : Int))) := by
  have hb : a * 5 ^ k ≠ 0 := Nat.mul_ne_zero ha (by have := Nat.pow_pos (n := k) (show 0 < 5 by omega); omega)
  have ht : 10 ^ k ≠ 0 := by have := Nat.pow_pos (n := k) (show 0 < 10 by omega); omega
  have hLk : k ≤ (10 ^ k).log2 ∧ (10 ^ k).log2 ≤ 52 := by
    have : ∀ k, k ≤ 10 → k ≤ (10 ^ k).log2 ∧ (10 ^ k).log2 ≤ 52 := by decide
    exact this k hk
  obtain ⟨L, hL⟩ : ∃ L, L = (10 ^ k).log2 := ⟨_, rfl⟩
  obtain ⟨l, hl'⟩ : ∃ l, l = (a * 5 ^ k).log2 := ⟨_, rfl⟩
  have r1 := read_int false hb h5
  have r2 := read_int false ht hLk.2
  have m1 := mant_log hb h5
  have m2 := mant_log ht hLk.2
  rw [← hL] at r2 m2 hLk
  rw [← hl'] at r1 m1 h5
  have hQ : a * 5 ^ k * 2 ^ (52 - l) * 2 ^ 54 = a * 2 ^ (54 - l + (L - k)) * (10 ^ k * 2 ^ (52 - L)) := by
    have e10 : 10 ^ k = 5 ^ k * 2 ^ k := by rw [← Nat.mul_pow]
    rw [e10]
    have e1 : 2 ^ (54 - l + (L - k)) * (2 ^ k * 2 ^ (52 - L)) = 2 ^ (52 - l) * 2 ^ 54 := by
      rw [← Nat.pow_add, ← Nat.pow_add, ← Nat.pow_add]
      congr 1
      omega
    calc a * 5 ^ k * 2 ^ (52 - l) * 2 ^ 54 = a * 5 ^ k * (2 ^ (52 - l) * 2 ^ 54) := by rw [Nat.mul_assoc]
      _ = a * 5 ^ k * (2 ^ (54 - l + (L - k)) * (2 ^ k * 2 ^ (52 - L))) := by rw [e1]
      _ = a * 2 ^ (54 - l + (L - k)) * (5 ^ k * 2 ^ k * 2 ^ (52 - L)) := by ac_rfl
  rw [div_exact r1 r2 m2.2 m1.1 m2.1 hQ]
  have hs := nearest_scale false a (55 - l + (L - k)) (-(k : Int)) ha hl (by omega)
  have hz := nearest_scale false a 0 (-(k : Int)) ha hl (by omega)
  rw [Nat.pow_zero, Nat.mul_one, ← hs] at hz
  rw [show (-(k : Int) - ((0 : Nat) : Int)) = -(k : Int) by omega] at hz
  rw [hz]
  have e2 : 2 * (a * 2 ^ (54 - l + (L - k))) = a * 2 ^ (55 - l + (L - k)) := by
    rw [show 55 - l + (L - k) = 54 - l + (L - k) + 1 by omega, Nat.pow_succ]
    ac_rfl
  rw [e2]
  congr 2
  omega
theorem half_two {a k : Nat} (neg : Bool) (ha : a ≠ 0) (hl : a.log2 ≤ 52) (hk : k ≤ 10) : double.div (double.nearest neg a 0) (double.nearest false (2 ^ k) 0) = some (double.nearest neg a (-(k : Int))) := by
  have ht : 2 ^ k ≠ 0 := by have := Nat.two_pow_pos k; omega
  have hlk : (2 ^ k).log2 = k := log2_eq (Nat.le_refl _) (by rw [Nat.pow_succ]; have := Nat.two_pow_pos k; omega)
  have r1 := read_int neg ha hl
  have r2 := read_int false ht (by rw [hlk]; omega)
  have m1 := mant_log ha hl
  have m2 := mant_log ht (by rw [hlk]; omega)
  rw [hlk] at r2 m2
  have hQ : a * 2 ^ (52 - a.log2) * 2 ^ 54 = a * 2 ^ (54 - a.log2) * (2 ^ k * 2 ^ (52 - k)) := by
    rw [Nat.mul_assoc, Nat.mul_assoc, ← Nat.pow_add, ← Nat.pow_add, ← Nat.pow_add]
    congr 2
    omega
  rw [div_exact r1 r2 m2.2 m1.1 m2.1 hQ]
  have hs := nearest_scale neg a (55 - a.log2) (-(k : Int)) ha hl (by omega)
  have hz := nearest_scale neg a 0 (-(k : Int)) ha hl (by omega)
  rw [Nat.pow_zero, Nat.mul_one, ← hs] at hz
  rw [show (-(k : Int) - ((0 : Nat) : Int)) = -(k : Int) by omega] at hz
  rw [hz, Bool.xor_false]
  have e2 : 2 * (a * 2 ^ (54 - a.log2)) = a * 2 ^ (55 - a.log2) := by
    rw [show 55 - a.log2 = 54 - a.log2 + 1 by omega, Nat.pow_succ]
    ac_rfl
  rw [e2]
  congr 2
  omega
theorem zero_half : ∀ k, k ≤ 10 → double.div (double.nearest false 0 0) (double.nearest false (10 ^ k) 0) = some 0 ∧ double.div (double.nearest false 0 0) (double.nearest false (2 ^ k) 0) = some 0 := by decide +kernel
theorem zero_self : (FloatKind.f64.format.order 0 0 == some .eq) = true := by decide +kernel
/-- Another sign. -/
theorem neg_word {r : Nat} (h : r < 9223372036854775808) : Go.Op.negFloat .f64 (double.word false r) = double.word true r := by
  have e : (FloatKind.f64.format.exponentBits + FloatKind.f64.format.fractionBits) = 63 := rfl
  unfold Go.Op.negFloat Ieee.Format.word
  rw [e, dbl_sign]
  simp only [Bool.false_eq_true, if_false, if_true]
  rw [show (9223372036854775808 : Nat) = 2 ^ 63 by decide] at h ⊢
  refine Nat.eq_of_testBit_eq fun i => ?_
  rw [Nat.testBit_xor]
  rcases Nat.lt_trichotomy i 63 with hi | hi | hi
  · rw [Nat.testBit_two_pow_add_gt hi, Nat.testBit_two_pow_of_ne (by omega), Bool.xor_false]
  · subst hi
    rw [Nat.testBit_two_pow_add_eq, Nat.testBit_two_pow_self, Nat.testBit_lt_two_pow h]
    rfl
  · rw [Nat.testBit_two_pow_of_ne (by omega), Bool.xor_false, Nat.testBit_lt_two_pow (Nat.lt_of_lt_of_le h (Nat.pow_le_pow_right (by omega) (by omega))), Nat.testBit_lt_two_pow (x := 2 ^ 63 + r)]
    have : 2 ^ 64 ≤ 2 ^ i := Nat.pow_le_pow_right (by omega) (by omega)
    omega
theorem cut_even (b : Bool) (n d : Nat) : Toward.even.cut b n d = Toward.even.cut false n d := rfl
theorem nearest_word {m : Nat} (hm : m ≠ 0) (p : Int) : ∃ r, r ≤ 9218868437227405312 ∧ ∀ b, double.nearest b m p = double.word b r := by
  refine ⟨min ((max (p + m.log2 - double.fractionBits) double.leastPlace - double.leastPlace).toNat * double.binade + Toward.even.cut false (m <<< (p - max (p + m.log2 - double.fractionBits) double.leastPlace).toNat) (max (p + m.log2 - double.fractionBits) double.leastPlace - p).toNat) double.infRung, ?_, fun b => ?_⟩
  · rw [dbl_inf]; omega
  · unfold Ieee.Format.nearest
    rw [if_neg hm]
    rfl
theorem neg_nearest {m : Nat} (hm : m ≠ 0) (p : Int) : Go.Op.negFloat .f64 (double.nearest false m p) = double.nearest true m p := by
  obtain ⟨r, hr, h⟩ := nearest_word hm p
  rw [h, h, neg_word (by omega)]
end Go.Proofs.YtppkpcijmfdfmaaGreatDoor
