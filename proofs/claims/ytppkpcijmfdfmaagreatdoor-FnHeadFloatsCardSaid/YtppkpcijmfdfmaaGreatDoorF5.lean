/- The walks of the small functions that scale a whole number to a number of floating point. -/
import Derived.Test.YtppkpcijmfdfmaaGreatDoorC3
import Derived.Test.YtppkpcijmfdfmaaGreatDoorF1
import Derived.BigQuiet
import Derived.Deep.QuietTactic
import Derived.Test.YtppkpcijmfdfmaaGreatDoorC9
import Derived.Lib.BitFns
import Derived.Test.YtppkpcijmfdfmaaGreatDoorF4
import Derived.WalkMore
set_option linter.unusedVariables false
set_option linter.unusedSimpArgs false
set_option linter.unusedVariables false
set_option linter.unusedSimpArgs false
namespace Go.Proofs.YtppkpcijmfdfmaaGreatDoor
open Go.RowKit

theorem bool64_any (b : Bool) (w : World) : Calls Tryz.prog 186 #[.bool b] w fun e w' => e = .returned (.int .u64 (if b then 1 else 0)) ∧ w = w' := by
  cases b
  · go_enter Tryz.func186, Tryz.ntmps186
    go_wp2
    go_ret
    exact ⟨rfl, rfl⟩
  · go_enter Tryz.func186, Tryz.ntmps186
    go_wp2
    go_ret
    exact ⟨rfl, rfl⟩
theorem boolInt_any (b : Bool) (w : World) : Calls Tryz.prog 198 #[.bool b] w fun e w' => e = .returned (.int .i64 (if b then 1 else 0)) ∧ w = w' := by
  cases b
  · go_enter Tryz.func198, Tryz.ntmps198
    go_wp2
    go_ret
    exact ⟨rfl, rfl⟩
  · go_enter Tryz.func198, Tryz.ntmps198
    go_wp2
    go_ret
    exact ⟨rfl, rfl⟩
theorem log2_any (p : Nat) (hp : p ≤ 1) (w : World) : Calls Tryz.prog 195 #[.int .i64 p] w fun e w' => e = .returned (.int .i64 (3 * p : Nat)) ∧ w = w' := by
  obtain rfl | rfl : p = 0 ∨ p = 1 := by omega
  · go_enter Tryz.func195, Tryz.ntmps195
    go_wp2
    go_ret
    exact ⟨rfl, rfl⟩
  · go_enter Tryz.func195, Tryz.ntmps195
    go_wp2
    go_ret
    exact ⟨rfl, rfl⟩
theorem unmin_any (w : World) : Calls Tryz.prog 199 #[.int .u64 9007199254740992] w fun e w' => e = .returned (.int .u64 36028797018963966) ∧ w = w' := by
  go_enter Tryz.func199, Tryz.ntmps199
  go_wp2
  go_ret
  exact ⟨rfl, rfl⟩

/-! ### Bits of 64 places -/
theorem nat64 {a : Nat} (h : a < 18446744073709551616) : (BitVec.ofInt 64 (a : Int)).toNat = a := by
  rw [BitVec.ofInt_natCast, BitVec.toNat_ofNat]; exact Nat.mod_eq_of_lt h
theorem wrap_u64 {a : Nat} (h : a < 18446744073709551616) : IntKind.u64.wrap (a : Int) = (a : Int) := by
  simp [IntKind.wrap, IntKind.signed, IntKind.bits]; omega
theorem or_u64 {a b : Nat} (ha : a < 18446744073709551616) (hb : b < 18446744073709551616) : bits .or .u64 (a : Int) (b : Int) = ((a ||| b : Nat) : Int) := by
  have hx : a ||| b < 2 ^ 64 := Nat.or_lt_two_pow ha hb
  show IntKind.u64.wrap ((BitVec.ofInt 64 (a : Int) ||| BitVec.ofInt 64 (b : Int)).toNat : Int) = _
  rw [BitVec.toNat_or, nat64 ha, nat64 hb, wrap_u64 hx]
theorem and_u64 {a b : Nat} (ha : a < 18446744073709551616) (hb : b < 18446744073709551616) : bits .and .u64 (a : Int) (b : Int) = ((a &&& b : Nat) : Int) := by
  have hx : a &&& b < 2 ^ 64 := Nat.and_lt_two_pow _ hb
  show IntKind.u64.wrap ((BitVec.ofInt 64 (a : Int) &&& BitVec.ofInt 64 (b : Int)).toNat : Int) = _
  rw [BitVec.toNat_and, nat64 ha, nat64 hb, wrap_u64 hx]
theorem and_pow (a k : Nat) : a &&& 2 ^ k = a / 2 ^ k % 2 * 2 ^ k := by
  refine Nat.eq_of_testBit_eq fun i => ?_
  rw [Nat.testBit_and, Nat.testBit_two_pow]
  have hb : a.testBit k = decide (a / 2 ^ k % 2 = 1) := Nat.testBit_eq_decide_div_mod_eq
  rcases Nat.mod_two_eq_zero_or_one (a / 2 ^ k) with h | h
  · rw [h, Nat.zero_mul, Nat.zero_testBit]
    rw [h] at hb
    by_cases e : k = i
    · subst e; rw [hb]; simp
    · simp [e]
  · rw [h, Nat.one_mul, Nat.testBit_two_pow]
    rw [h] at hb
    by_cases e : k = i
    · subst e; rw [hb]; simp
    · simp [e]
theorem or_pow_clear {a k : Nat} (h : a / 2 ^ k % 2 = 0) : a ||| 2 ^ k = a + 2 ^ k := by
  have e : a = 2 ^ (k + 1) * (a / 2 ^ (k + 1)) + a % 2 ^ k := by
    have h1 := Nat.div_add_mod a (2 ^ (k + 1))
    have h2 : a % 2 ^ (k + 1) = a % 2 ^ k := by
      rw [Nat.pow_succ, Nat.mod_mul, h, Nat.mul_zero, Nat.add_zero]
    rw [h2] at h1
    exact h1.symm
  have hp := Nat.two_pow_pos k
  have hm : a % 2 ^ k < 2 ^ k := Nat.mod_lt _ hp
  have hm1 : a % 2 ^ k < 2 ^ (k + 1) := by rw [Nat.pow_succ]; omega
  have hm2 : 2 ^ k + a % 2 ^ k < 2 ^ (k + 1) := by rw [Nat.pow_succ]; omega
  generalize a / 2 ^ (k + 1) = q at e
  generalize a % 2 ^ k = r at e hm hm1 hm2
  have o1 : 2 ^ k ||| r = 2 ^ k + r := by
    have := Nat.two_pow_add_eq_or_of_lt hm 1
    rw [Nat.mul_one] at this
    exact this.symm
  have o2 := Nat.two_pow_add_eq_or_of_lt hm1 q
  have o3 := Nat.two_pow_add_eq_or_of_lt hm2 q
  rw [e, o2, Nat.or_assoc, Nat.or_comm r, o1, ← o3, ← o2]
  omega
theorem and_one (a : Nat) : a &&& 1 = a % 2 := Nat.and_one_is_mod a
theorem and_one_u64 {a : Nat} (h : a < 18446744073709551616) : bits .and .u64 (a : Int) 1 = ((a % 2 : Nat) : Int) := by
  have := and_u64 h (b := 1) (by decide)
  rw [and_one] at this
  exact this
theorem andNot_set {a k : Nat} (h : a / 2 ^ k % 2 = 0) (hk : k < 64) (ha : a + 2 ^ k < 18446744073709551616) : bits .andNot .u64 ((a + 2 ^ k : Nat) : Int) ((2 ^ k : Nat) : Int) = (a : Int) := by
  have hz : a &&& 2 ^ k = 0 := by rw [and_pow, h, Nat.zero_mul]
  have hlt : a < 18446744073709551616 := Nat.lt_of_le_of_lt (Nat.le_add_right _ _) ha
  have hor : a + 2 ^ k = a ||| 2 ^ k := (or_pow_clear h).symm
  show IntKind.u64.wrap ((BitVec.ofInt 64 ((a + 2 ^ k : Nat) : Int) &&& ~~~ BitVec.ofInt 64 ((2 ^ k : Nat) : Int)).toNat : Int) = _
  have e1 : BitVec.ofInt 64 ((a + 2 ^ k : Nat) : Int) = BitVec.ofNat 64 a ||| BitVec.ofNat 64 (2 ^ k) := by
    rw [BitVec.ofInt_natCast, hor, BitVec.ofNat_or]
  have e2 : BitVec.ofNat 64 a &&& BitVec.ofNat 64 (2 ^ k) = BitVec.ofNat 64 0 := by
    rw [← BitVec.ofNat_and, hz]
  rw [e1, BitVec.ofInt_natCast]
  have e3 : (BitVec.ofNat 64 a ||| BitVec.ofNat 64 (2 ^ k)) &&& ~~~ BitVec.ofNat 64 (2 ^ k) = BitVec.ofNat 64 a := by
    generalize BitVec.ofNat 64 a = x at *
    generalize BitVec.ofNat 64 (2 ^ k) = y at *
    refine BitVec.eq_of_getLsbD_eq fun i hi => ?_
    have := congrArg (fun z => z.getLsbD i) e2
    simp at this
    simp [hi]
    cases hx : x.getLsbD i <;> cases hy : y.getLsbD i <;> simp_all
  rw [e3, BitVec.toNat_ofNat, Nat.mod_eq_of_lt hlt, wrap_u64 hlt]

theorem round_any (v : Nat) (h : v < 36028797018963968) (w : World) : Calls Tryz.prog 201 #[.int .u64 v] w fun e w' => e = .returned (.int .u64 (pfRound v : Nat)) ∧ w = w' := by
  have h1 : bits .and .u64 ((v : Int) / 4) 1 = ((v / 4 % 2 : Nat) : Int) := by
    rw [show (v : Int) / 4 = ((v / 4 : Nat) : Int) by omega]; exact and_one_u64 (by omega)
  have h2 : IntKind.u64.wrap ((v : Int) + 1 + ((v / 4 % 2 : Nat) : Int)) = ((v + 1 + v / 4 % 2 : Nat) : Int) := by
    rw [show (v : Int) + 1 + ((v / 4 % 2 : Nat) : Int) = ((v + 1 + v / 4 % 2 : Nat) : Int) by omega]; exact wrap_u64 (by omega)
  have H3 : Hid (((v + 1 + v / 4 % 2 : Nat) : Int) / 4 = (pfRound v : Nat)) := Lib.hid (by unfold pfRound; omega)
  generalize v / 4 % 2 = t at *
  go_enter Tryz.func201, Tryz.ntmps201
  go_wp2
  go_ret
  exact ⟨by rw [← H3.out]; rfl, rfl⟩
theorem frombits_run (m : Nat) (w : World) : (callFunc 187 #[.int .u64 m]).run Tryz.prog w = .ok (.value (.float .f64 m)) w := by
  rw [run_callFunc_extern Tryz.func187 (by kernel_rfl) (by kernel_rfl) (by kernel_rfl) (e := Extern.MathFloatBits.float64frombits) (by kernel_rfl)]
  rfl
theorem or_parts {s f k : Nat} (hf : f < 4503599627370496) (hk : k < 2048) : (s * 9223372036854775808 + f) ||| (k * 4503599627370496) = s * 9223372036854775808 + (k * 4503599627370496 + f) := by
  have e63 : (2 : Nat) ^ 63 = 9223372036854775808 := by decide
  have e52 : (2 : Nat) ^ 52 = 4503599627370496 := by decide
  have o1 := Nat.two_pow_add_eq_or_of_lt (i := 63) (b := f) (by omega) s
  have o2 := Nat.two_pow_add_eq_or_of_lt (i := 52) (b := f) (by omega) k
  have o3 := Nat.two_pow_add_eq_or_of_lt (i := 63) (b := 2 ^ 52 * k + f) (by omega) s
  rw [e63, Nat.mul_comm] at o1 o3
  rw [e52, Nat.mul_comm] at o2
  rw [e52, Nat.mul_comm 4503599627370496] at o3
  rw [o1, Nat.or_assoc, Nat.or_comm f, ← o2, ← o3]
theorem retF {a b : Nat} (h : a = b) : Ending.returned (.tuple #[.float .f64 a, .nilIface]) = Ending.returned (.tuple #[.float .f64 b, .nilIface]) := h ▸ rfl
set_option maxRecDepth 100000 in
theorem pack_any {m r s e : Nat} (hm : m = s * 9223372036854775808 + r) (hs : s ≤ 1) (hr : r ≤ 9007199254740992) (w : World) (he : e ≤ 900) : Calls Tryz.prog 204 #[.int .u64 m, .int .i64 e] w fun en w' => en = .returned (.tuple #[.float .f64 (s * 9223372036854775808 + pfPack r e), .nilIface]) ∧ w = w' := by
  have hlt : m < 18446744073709551616 := by omega
  have h1 : bits .and .u64 (m : Int) 4503599627370496 = ((r / 4503599627370496 % 2 * 4503599627370496 : Nat) : Int) := by
    have := and_u64 hlt (b := 2 ^ 52) (by decide)
    rw [and_pow] at this
    rw [show (4503599627370496 : Int) = ((2 ^ 52 : Nat) : Int) by decide, this]
    omega
  have hb : ¬ ((e : Int) ≥ 972) := by omega
  have HLT := Lib.hid hlt
  have HR := Lib.hid hr
  by_cases h0 : r / 4503599627370496 % 2 = 0
  · have H1 : Hid (m = s * 9223372036854775808 + pfPack r e) := Lib.hid (by unfold pfPack; rw [if_pos h0, hm])
    rw [h0, Nat.zero_mul] at h1
    have h2 : bits .and .u64 (m : Int) 4503599627370496 = 0 := h1
    clear hm hr hlt h0 h1
    have HF := fun w => frombits_run m w
    go_enter Tryz.func204, Tryz.ntmps204
    go_wp2
    go_ret2
    exact ⟨retF H1.out, rfl⟩
  · have h1' : r / 4503599627370496 % 2 = 1 := by omega
    rw [h1', Nat.one_mul] at h1
    have h2 : bits .and .u64 (m : Int) 4503599627370496 = 4503599627370496 := h1
    obtain ⟨a, ha⟩ : ∃ a, m = a + 4503599627370496 := ⟨m - 4503599627370496, by omega⟩
    have haz : a = s * 9223372036854775808 + (r - 4503599627370496) := by omega
    have h3 : bits .andNot .u64 (m : Int) 4503599627370496 = (a : Int) := by
      have := andNot_set (a := a) (k := 52) (by omega) (by decide) (by omega)
      rw [ha]
      exact this
    obtain ⟨M, hM⟩ : ∃ M, M = s * 9223372036854775808 + pfPack r e := ⟨s * 9223372036854775808 + pfPack r e, rfl⟩
    have h4 : bits .or .u64 (a : Int) ((1075 + (e : Int)) * 4503599627370496) = (M : Int) := by
      have hf : r - 4503599627370496 < 4503599627370496 := by omega
      have := or_u64 (a := a) (b := (1075 + e) * 4503599627370496) (by omega) (by omega)
      rw [haz, or_parts hf (by omega)] at this
      rw [haz, hM]
      unfold pfPack
      rw [if_neg h0, Nat.add_comm (r - 4503599627370496)]
      rw [← this]
      congr 1
    have HF := fun w => frombits_run M w
    have HM := Lib.hid hM
    clear hm hr hlt h0 h1 h1' ha haz hM
    go_enter Tryz.func204, Tryz.ntmps204
    go_wp2
    go_ret2
    exact ⟨retF HM.out, rfl⟩

set_option maxRecDepth 100000 in
theorem uscale_far {x m b hi lo : Nat} {w : World} (hx : x < 18446744073709551616) (hm : m < 18446744073709551616) (hhi : x * m / 18446744073709551616 = hi) (hlo : x * m % 18446744073709551616 = lo) (hz : hi % 256 ≠ 0)
    (c0 : w.cell? ⟨b, 0, none⟩ = some (.int .u64 m)) (c2 : w.cell? ⟨b, 2, none⟩ = some (.int .i64 8)) :
    Calls Tryz.prog 197 #[.int .u64 x, .pointer (some ⟨b, 0, none⟩)] w fun e w' => e = .returned (.int .u64 (pfU x m : Nat)) ∧ w = w' := by
  have hilt : hi < 18446744073709551616 := by rw [← hhi]; exact Nat.div_lt_of_lt_mul (Nat.mul_lt_mul'' hx hm)
  have HM : Hid (Calls Tryz.prog 209 #[.int .u64 x, .int .u64 m] w fun e w' => e = .returned (.tuple #[.int .u64 (hi : Int), .int .u64 (lo : Int)]) ∧ w' = w) := by
    have := Tryz.bits_Mul64 x m hx hm w
    rw [hhi, hlo] at this
    exact this
  obtain ⟨q, hq⟩ : ∃ q, q = hi / 256 := ⟨_, rfl⟩
  have h8 : bits .and .i64 8 63 = 8 := by decide
  have hne : ((q * 256 : Int) != (hi : Int)) = true := by rw [bne_iff_ne]; omega
  have hq1 : (hi : Int) / 256 = (q : Int) := by omega
  have hqb : (q : Int) * 256 ≤ 18446744073709551360 := by omega
  have hor : bits .or .u64 (q : Int) 1 = ((pfU x m : Nat) : Int) := by
    have := or_u64 (a := q) (b := 1) (by omega) (by decide)
    unfold pfU pfSticky
    rw [hhi, hlo, if_neg (by omega), ← hq]
    exact this
  generalize pfU x m = U at *
  clear hx hm hhi hlo hilt hz hq
  go_enter Tryz.func197, Tryz.ntmps197
  go_wp2_with (go_at_call 209; refine HM.out.mono ?_; rintro e w' ⟨rfl, rfl⟩)
  go_ret
  exact ⟨rfl, rfl⟩
set_option maxRecDepth 100000 in
set_option maxHeartbeats 1000000 in
theorem uscale_near {x m b hi lo : Nat} {w : World} (hx : x < 18446744073709551616) (hm : m < 18446744073709551616) (hhi : x * m / 18446744073709551616 = hi) (hlo : x * m % 18446744073709551616 = lo) (hz : hi % 256 = 0)
    (c0 : w.cell? ⟨b, 0, none⟩ = some (.int .u64 m)) (c1 : w.cell? ⟨b, 1, none⟩ = some (.int .u64 0)) (c2 : w.cell? ⟨b, 2, none⟩ = some (.int .i64 8)) :
    Calls Tryz.prog 197 #[.int .u64 x, .pointer (some ⟨b, 0, none⟩)] w fun e w' => e = .returned (.int .u64 (pfU x m : Nat)) ∧ ∃ n, w' = w.drewN n := by
  have hilt : hi < 18446744073709551616 := by rw [← hhi]; exact Nat.div_lt_of_lt_mul (Nat.mul_lt_mul'' hx hm)
  have lolt : lo < 18446744073709551616 := by rw [← hlo]; exact Nat.mod_lt _ (by decide)
  have HM : Hid (Calls Tryz.prog 209 #[.int .u64 x, .int .u64 m] w fun e w' => e = .returned (.tuple #[.int .u64 (hi : Int), .int .u64 (lo : Int)]) ∧ w' = w) := by
    have := Tryz.bits_Mul64 x m hx hm w
    rw [hhi, hlo] at this
    exact this
  have HM0 : Hid (Calls Tryz.prog 209 #[.int .u64 x, .int .u64 0] w fun e w' => e = .returned (.tuple #[.int .u64 0, .int .u64 0]) ∧ w' = w) := by
    have := Tryz.bits_Mul64 x 0 hx (by decide) w
    rw [Nat.mul_zero] at this
    exact this
  obtain ⟨q, hq⟩ : ∃ q, q = hi / 256 := ⟨_, rfl⟩
  have h8 : bits .and .i64 8 63 = 8 := by decide
  have hne : ((q * 256 : Int) != (hi : Int)) = false := by rw [bne_eq_false_iff_eq]; omega
  have hq1 : (hi : Int) / 256 = (q : Int) := by omega
  have hqb : (q : Int) * 256 ≤ 18446744073709551360 := by omega
  have f0 : decide ((lo : Int) < 0) = false := by rw [decide_eq_false_iff_not]; omega
  obtain ⟨c, hc⟩ : ∃ c, decide (1 < (lo : Int)) = c := ⟨_, rfl⟩
  obtain ⟨y, hy⟩ : ∃ y : Int, y = if c then 1 else 0 := ⟨_, rfl⟩
  have hor : bits .or .u64 (q : Int) y = ((pfU x m : Nat) : Int) := by
    rw [hy]
    by_cases hl : 1 < lo
    · have hT : c = true := by rw [← hc, decide_eq_true_iff]; omega
      have e : pfSticky x m = 1 := by unfold pfSticky; rw [hhi, hlo, if_neg (by omega)]
      unfold pfU
      rw [hhi, e, ← hq, hT]
      exact or_u64 (a := q) (b := 1) (by omega) (by decide)
    · have hF : c = false := by rw [← hc, decide_eq_false_iff_not]; omega
      have e : pfSticky x m = 0 := by unfold pfSticky; rw [hhi, hlo, if_pos (by omega)]
      unfold pfU
      rw [hhi, e, ← hq, hF]
      exact or_u64 (a := q) (b := 0) (by omega) (by decide)
  generalize pfU x m = U at *
  have B0 := fun w => bool64_any false w
  have BC : ∀ w, Calls Tryz.prog 186 #[.bool c] w fun e w' => e = .returned (.int .u64 y) ∧ w' = w := fun w => (bool64_any c w).mono fun e w' h => ⟨by rw [hy]; exact h.1, h.2.symm⟩
  have HB0 := Lib.hid B0
  have HBC := Lib.hid BC
  have H8 := Lib.hid hilt
  have H9 := Lib.hid lolt
  clear hx hm hhi hlo hilt hz hq lolt B0 BC hy
  go_enter Tryz.func197, Tryz.ntmps197
  go_wp2_with (first | (go_at_call 209; (with_reducible refine HM.out.mono ?_); rintro e w' ⟨rfl, rfl⟩) | (go_at_call 209; (with_reducible refine HM0.out.mono ?_); rintro e w' ⟨rfl, rfl⟩) | (go_at_call 186; (with_reducible refine (HB0.out _).mono ?_); rintro e w' ⟨rfl, rfl⟩))
  have hwl : IntKind.u64.wrap (lo : Int) = (lo : Int) := wrap_u64 H9.out
  go_quiet ((go_at_call 186; exact Calls.quiet_of_same (HBC.out _)))
  go_wp2
  go_ret
  exact ⟨rfl, _, rfl⟩
end Go.Proofs.YtppkpcijmfdfmaaGreatDoor

/- The walk of parseFloat64, at whole numbers. -/
set_option linter.unusedVariables false
set_option linter.unusedSimpArgs false
namespace Go.Proofs.YtppkpcijmfdfmaaGreatDoor
open Go.RowKit

/-- Three cells that may be written. -/
structure Sc (w : World) (b : Nat) (v0 v1 v2 : Value) : Prop where
  c0 : w.cell? ⟨b, 0, none⟩ = some v0
  c1 : w.cell? ⟨b, 1, none⟩ = some v1
  c2 : w.cell? ⟨b, 2, none⟩ = some v2
  f0 : w.frozen? ⟨b, 0, none⟩ = false
  f1 : w.frozen? ⟨b, 1, none⟩ = false
  f2 : w.frozen? ⟨b, 2, none⟩ = false
def pmOf (p : Nat) : Nat := if p = 0 then 9223372036854775808 else 11529215046068469760

theorem same_cell {w : World} {a : Addr} {u : Value} (v : Value) (h : w.cell? a = some u) : (w.setCell a v).cell? a = some v := World.cell?_setCell_same w a v h
theorem Sc.three {w : World} {b : Nat} {v0 v1 v2 : Value} (h : Sc w b v0 v1 v2) (a0 a1 a2 : Value) :
    Sc (((w.setCell ⟨b, 0, none⟩ a0).setCell ⟨b, 1, none⟩ a1).setCell ⟨b, 2, none⟩ a2) b a0 a1 a2 ∧ Below b w (((w.setCell ⟨b, 0, none⟩ a0).setCell ⟨b, 1, none⟩ a1).setCell ⟨b, 2, none⟩ a2) := by
  refine ⟨⟨?_, ?_, ?_, by simpa using h.f0, by simpa using h.f1, by simpa using h.f2⟩, ?_⟩
  · rw [cell_other _ _ (by omega), cell_other _ _ (by omega)]; exact same_cell a0 h.c0
  · rw [cell_other _ _ (by omega)]
    refine same_cell (u := v1) a1 ?_
    rw [cell_other _ _ (by omega)]; exact h.c1
  · refine same_cell (u := v2) a2 ?_
    rw [cell_other _ _ (by omega), cell_other _ _ (by omega)]; exact h.c2
  · exact below_store (below_store (below_store (Below.refl _ _) _ (Nat.le_refl _)) _ (Nat.le_refl _)) _ (Nat.le_refl _)

set_option maxRecDepth 100000 in
theorem prescale_any {b p : Nat} {E : Int} {v0 v1 v2 : Value} {w : World} (hp : p ≤ 1) (hE : E = -11 - 3 * p) (hs : Sc w b v0 v1 v2) (hg : Gd b w) :
    Calls Tryz.prog 196 #[.pointer (some ⟨b, 0, none⟩), .int .i64 E, .int .i64 p, .int .i64 (3 * (p : Int))] w fun e w' => e = .returned (.tuple #[]) ∧ Sc w' b (.int .u64 (pmOf p : Nat)) (.int .u64 0) (.int .i64 8) ∧ Below b w w' := by
  have n16 : (16 : Nat) ≠ b := by have := hg.lt; omega
  obtain ⟨t0, t1⟩ := hg.tab0
  obtain ⟨t2, t3⟩ := hg.tab1
  have H3 := Lib.hid (hs.three (.int .u64 (pmOf p : Nat)) (.int .u64 0) (.int .i64 8))
  obtain ⟨c0, c1, c2, f0, f1, f2⟩ := hs
  clear hg
  subst hE
  obtain rfl | rfl : p = 0 ∨ p = 1 := by omega
  · clear t2 t3
    go_enter Tryz.func196, Tryz.ntmps196
    go_wp2_with (fail)
    go_end0
    exact ⟨rfl, H3.out⟩
  · clear t0 t1
    go_enter Tryz.func196, Tryz.ntmps196
    go_wp2_with (fail)
    go_end0
    exact ⟨rfl, H3.out⟩

theorem uscale_any {x p b : Nat} {w : World} (hx : x < 18446744073709551616) (hs : Sc w b (.int .u64 (pmOf p : Nat)) (.int .u64 0) (.int .i64 8)) :
    Calls Tryz.prog 197 #[.int .u64 x, .pointer (some ⟨b, 0, none⟩)] w fun e w' => e = .returned (.int .u64 (pfU x (pmOf p) : Nat)) ∧ Below w.heap.size w w' := by
  have hm : pmOf p < 18446744073709551616 := by unfold pmOf; split <;> omega
  by_cases hz : x * pmOf p / 18446744073709551616 % 256 = 0
  · refine (uscale_near hx hm rfl rfl hz hs.c0 hs.c1 hs.c2).mono ?_
    rintro e w' ⟨he, n, rfl⟩
    exact ⟨he, rfl, rfl, rfl, Nat.le_refl _, fun _ _ => rfl⟩
  · refine (uscale_far hx hm rfl rfl hz hs.c0 hs.c2).mono ?_
    rintro e w' ⟨he, rfl⟩
    exact ⟨he, Below.refl _ _⟩

set_option maxRecDepth 100000 in
/-- A whole number read by scaling. -/
theorem parse64_any {d p s B : Nat} {w : World} (hB : Lib.bitLen d = B) (hd : d < 18446744073709551616) (h0 : 72057594037927936 ≤ d) (hp : p ≤ 1) (hs : s ≤ 1) (hg : Gw w) :
    Calls Tryz.prog 189 #[.int .u64 d, .int .i64 p, .int .u64 (s * 9223372036854775808 : Nat)] w fun e w' => e = .returned (.tuple #[.float .f64 (s * 9223372036854775808 + pfBits B d p), .nilIface]) ∧ Below w.heap.size w w' := by
  have b1 : 57 ≤ B := by
    rw [← hB, Lib.bitLen_shift 56 d h0 hd, Lib.bitLen_half _ (by omega) (by omega)]; omega
  have b2 : B ≤ 64 := by rw [← hB]; exact Lib.bitLen_le d 64 (Nat.le_refl _) hd
  have HLEN : Hid (Calls Tryz.prog 194 #[.int .u64 d] w fun e w' => e = .returned (.int .i64 (B : Int)) ∧ w' = w) := by
    have := Tryz.bits_Len64 d w (by omega) (by omega)
    rw [Int.toNat_natCast, hB] at this
    exact this
  have HLOG := Lib.hid (log2_any p hp w)
  obtain ⟨w1, hw1⟩ : ∃ w1, w1 = w.alloc (.cells #[.int .u64 0, .int .u64 0, .int .i64 0] 277) := ⟨_, rfl⟩
  have HW1 := Lib.hid hw1
  have HG := Lib.hid hg
  have HLOG2 : Hid (Calls Tryz.prog 195 #[.int .i64 p] w fun e w' => e = .returned (.int .i64 (3 * (p : Int))) ∧ w' = w) := HLOG.out.mono fun e w' h => ⟨by rw [h.1]; rfl, h.2.symm⟩
  clear HLOG
  obtain ⟨E, hE⟩ : ∃ E : Int, E = 53 - (B : Int) - 3 * (p : Int) := ⟨_, rfl⟩
  have e1 : min (1074 : Int) (53 - (B : Int) - 3 * (p : Int)) = E := by omega
  have e2 : -20 ≤ E := by omega
  have e3 : E ≤ 0 := by omega
  have HE := Lib.hid hE
  have hb1 : Below w.heap.size w w1 := by rw [hw1]; exact (Below.refl _ _).alloc (Nat.le_refl _) _
  have HB1 := Lib.hid hb1
  have HPRE : Hid (Calls Tryz.prog 196 #[.pointer (some ⟨w.heap.size, 0, none⟩), .int .i64 (E - (64 - (B : Int))), .int .i64 p, .int .i64 (3 * (p : Int))] w1 fun e w' => e = .returned (.tuple #[]) ∧ Sc w' w.heap.size (.int .u64 (pmOf p : Nat)) (.int .u64 0) (.int .i64 8) ∧ Below w.heap.size w1 w') := by
    refine prescale_any hp (by omega) (v0 := .int .u64 0) (v1 := .int .u64 0) (v2 := .int .i64 0) ?_ (Gd.below hg hb1)
    rw [hw1]
    exact ⟨by simp, by simp, by simp, by simp, by simp, by simp⟩
  obtain ⟨x, hx⟩ : ∃ x, x = d * 2 ^ (64 - B) := ⟨_, rfl⟩
  have hxlt : x < 18446744073709551616 := by
    have h1 : d < 2 ^ B := by
      rcases Nat.lt_or_ge d (2 ^ B) with h | h
      · exact h
      · have := Lib.bitLen_shift B d h hd
        have h2 : 0 < d / 2 ^ B := Nat.div_pos h (Nat.two_pow_pos _)
        have h3 : d / 2 ^ B < 2 ^ 64 := Nat.lt_of_le_of_lt (Nat.div_le_self _ _) hd
        have h4 := Lib.bitLen_half (d / 2 ^ B) (by omega) h3
        omega
    have h2 : d * 2 ^ (64 - B) < 2 ^ B * 2 ^ (64 - B) := Nat.mul_lt_mul_of_pos_right h1 (Nat.two_pow_pos _)
    rw [← Nat.pow_add, show B + (64 - B) = 64 by omega] at h2
    rw [hx]
    exact h2
  have e4 : IntKind.u64.wrap ((d : Int) * 2 ^ (64 - B)) = (x : Int) := by
    have : (d : Int) * 2 ^ (64 - B) = (x : Int) := by rw [hx]; simp
    rw [this]; exact wrap_u64 hxlt
  obtain ⟨u, hu⟩ : ∃ u, u = pfU x (pmOf p) := ⟨_, rfl⟩
  have HSC : Hid (∀ {wz : World}, Sc wz w.heap.size (.int .u64 (pmOf p : Nat)) (.int .u64 0) (.int .i64 8) → Calls Tryz.prog 197 #[.int .u64 x, .pointer (some ⟨w.heap.size, 0, none⟩)] wz fun e w' => e = .returned (.int .u64 (u : Int)) ∧ Below wz.heap.size wz w') := by
    intro wz h
    rw [hu]
    exact uscale_any hxlt h
  have hult : u < 72057594037927936 := by rw [hu]; exact pfU_lt hxlt (by unfold pmOf; split <;> omega)
  obtain ⟨y, hy⟩ : ∃ y, y = pfBig u := ⟨_, rfl⟩
  have hy1 : y ≤ 1 := by rw [hy]; exact pfBig_le u
  obtain ⟨bb, hbb⟩ : ∃ bb, decide (36028797018963966 ≤ (u : Int)) = bb := ⟨_, rfl⟩
  have HBI : Hid (∀ wz, Calls Tryz.prog 198 #[.bool bb] wz fun e w' => e = .returned (.int .i64 (y : Int)) ∧ w' = wz) := by
    intro wz
    refine (boolInt_any bb wz).mono fun e w' h => ⟨?_, h.2.symm⟩
    rw [h.1, hy]
    unfold pfBig
    by_cases hc : 36028797018963966 ≤ u
    · have : bb = true := by rw [← hbb, decide_eq_true_iff]; omega
      rw [this, if_pos hc]; rfl
    · have : bb = false := by rw [← hbb, decide_eq_false_iff_not]; omega
      rw [this, if_neg hc]; rfl
  have HMIN := Lib.hid unmin_any
  obtain ⟨t, ht⟩ : ∃ t, t = u % 2 := ⟨_, rfl⟩
  have e5 : bits .and .u64 (u : Int) 1 = (t : Int) := by rw [ht]; exact and_one_u64 (by omega)
  obtain ⟨v, hv⟩ : ∃ v, v = pfFit u := ⟨_, rfl⟩
  have hvlt : v < 36028797018963968 := by rw [hv]; exact pfFit_lt hult
  have e6 : bits .or .u64 ((u : Int) / 2 ^ y) (t : Int) = (v : Int) := by
    have h1 : u / 2 ^ y < 18446744073709551616 := Nat.lt_of_le_of_lt (Nat.div_le_self _ _) (by omega)
    have := or_u64 (a := u / 2 ^ y) (b := t) h1 (by omega)
    rw [hv, pfFit, ← hy, ← ht, ← this]
    simp
  obtain ⟨r, hr⟩ : ∃ r, r = pfRound v := ⟨_, rfl⟩
  have hrle : r ≤ 9007199254740992 := by rw [hr]; exact pfRound_le hvlt
  have HRD : Hid (∀ wz, Calls Tryz.prog 201 #[.int .u64 v] wz fun e w' => e = .returned (.int .u64 (r : Int)) ∧ w' = wz) := by
    intro wz
    refine (round_any v hvlt wz).mono fun e w' h => ⟨by rw [h.1, hr], h.2.symm⟩
  obtain ⟨m, hm⟩ : ∃ m, m = s * 9223372036854775808 + r := ⟨_, rfl⟩
  have e7 : bits .or .u64 ((s : Int) * 9223372036854775808) (r : Int) = (m : Int) := by
    have := or_u64 (a := s * 9223372036854775808) (b := r) (by omega) (by omega)
    have h2 := Nat.two_pow_add_eq_or_of_lt (i := 63) (b := r) (by omega) s
    have e63 : (2 : Nat) ^ 63 = 9223372036854775808 := by decide
    rw [e63, Nat.mul_comm] at h2
    rw [hm, h2, ← this]
    congr 1
  obtain ⟨q, hq⟩ : ∃ q, q = B + 3 * p + y - 53 := ⟨_, rfl⟩
  have hq2 : q ≤ 900 := by omega
  have e8 : -(E - (y : Int)) = (q : Int) := by omega
  have e9 : (y : Int) - E = (q : Int) := by omega
  have HPK : Hid (∀ wz, Calls Tryz.prog 204 #[.int .u64 m, .int .i64 q] wz fun e w' => e = .returned (.tuple #[.float .f64 (s * 9223372036854775808 + pfPack r q), .nilIface]) ∧ w' = wz) := by
    intro wz
    exact (pack_any hm hs hrle wz hq2).mono fun e w' h => ⟨h.1, h.2.symm⟩
  have HF : Hid (pfPack r q = pfBits B d p) := Lib.hid (by
    unfold pfBits
    simp only
    rw [hr, hq, hv, hy, hu, hx]
    rfl)
  have HXD := Lib.hid hx
  have HUD := Lib.hid hu
  have HYD := Lib.hid hy
  have HXL := Lib.hid hxlt
  clear hg hw1 hB hd h0 hE hb1 hx hu hy hxlt hq hm hr hv ht hrle hvlt hult
  go_enter Tryz.func189, Tryz.ntmps189
  go_wp2_with (first | (go_at_call 194; refine HLEN.out.mono ?_; rintro e w' ⟨rfl, rfl⟩) | (go_at_call 195; refine HLOG2.out.mono ?_; rintro e w' ⟨rfl, rfl⟩))
  rw [← HW1.out]
  refine HPRE.out.mono ?_
  rintro e w2 ⟨rfl, hsc, hb2⟩
  have c2 := hsc.c2
  have HS2 := Lib.hid (HSC.out hsc)
  have HB2 := Lib.hid hb2
  clear hb2 hsc
  go_wp2_with (fail)
  refine HS2.out.mono ?_
  rintro e w3 ⟨rfl, hb3⟩
  have HB3 := Lib.hid hb3
  clear hb3 c2
  go_wp2_with (first | (go_at_call 199; (with_reducible refine (HMIN.out _).mono ?_); rintro e w' ⟨rfl, rfl⟩) | (go_at_call 198; (with_reducible refine (HBI.out _).mono ?_); rintro e w' ⟨rfl, rfl⟩) | (go_at_call 201; (with_reducible refine (HRD.out _).mono ?_); rintro e w' ⟨rfl, rfl⟩))
  refine (HPK.out _).mono ?_
  rintro e w4 ⟨rfl, rfl⟩
  rw [HF.out]
  go_wp2
  go_ret2
  exact ⟨rfl, HB1.out.trans ((HB2.out).trans (HB3.out.mono (Nat.le_trans HB1.out.size HB2.out.size)))⟩
end Go.Proofs.YtppkpcijmfdfmaaGreatDoor

/- The walks of readFloat, special and atof64exact, at whole numbers of 18 to 20 digits. -/
set_option linter.unusedVariables false
set_option linter.unusedSimpArgs false
namespace Go.Proofs.YtppkpcijmfdfmaaGreatDoor
open Go.RowKit
attribute [local go_sem] B_size B_get B_lit B_ext_to B_ext B_toList B_app

theorem digit_facts {c : UInt8} (h : isDig c = true) : ((c.toNat : Int) == 43) = false ∧ ((c.toNat : Int) == 45) = false ∧ ((c.toNat : Int) == 95) = false ∧ ((c.toNat : Int) == 46) = false ∧ 48 ≤ (c.toNat : Int) ∧ (c.toNat : Int) ≤ 57 := by
  have := isDig_nat.1 h
  refine ⟨?_, ?_, ?_, ?_, by omega, by omega⟩ <;> rw [beq_eq_false_iff_ne] <;> omega

set_option maxRecDepth 100000 in
theorem special0 (s : Bs) (hlen : s.length < 4294967296) (h0 : 0 < s.length) (hd : isDig s[0] = true) (w : World) :
    Calls Tryz.prog 177 #[.string (B s)] w fun e w' => e = .returned (.tuple #[.float .f64 0, .int .i64 0, .bool false]) ∧ w = w' := by
  have hn := isDig_nat.1 hd
  obtain ⟨f1, f2, f3, f4, f5, f6⟩ := digit_facts hd
  have z0 : ((s.length : Int) == 0) = false := by rw [beq_eq_false_iff_ne]; omega
  have g1 : ((s[0].toNat : Int) == 105) = false := by rw [beq_eq_false_iff_ne]; omega
  have g2 : ((s[0].toNat : Int) == 73) = false := by rw [beq_eq_false_iff_ne]; omega
  have g3 : ((s[0].toNat : Int) == 110) = false := by rw [beq_eq_false_iff_ne]; omega
  have g4 : ((s[0].toNat : Int) == 78) = false := by rw [beq_eq_false_iff_ne]; omega
  have hne : ¬ (s = []) := by rintro rfl; simp at h0
  clear hd hn
  go_enter Tryz.func177, Tryz.ntmps177
  go_wp2
  go_ret3
  exact ⟨rfl, rfl⟩

set_option maxRecDepth 100000 in
theorem prefix0 (s : Bs) (hlen : s.length < 4294967296) (h0 : 0 < s.length) (hd : isDig s[0] = true) (w : World) :
    Calls Tryz.prog 191 #[.string (B s), .string (B [105, 110, 102, 105, 110, 105, 116, 121])] w fun e w' => e = .returned (.int .i64 0) ∧ w = w' := by
  have hn := isDig_nat.1 hd
  obtain ⟨f1, f2, f3, f4, f5, f6⟩ := digit_facts hd
  have g1 : ((s[0].toNat : Int) != 105) = true := by rw [bne_iff_ne]; omega
  have g2 : decide ((65 : Int) ≤ (s[0].toNat : Int)) = false := by rw [decide_eq_false_iff_not]; omega
  have hne : ¬ (s = []) := by rintro rfl; simp at h0
  obtain ⟨m, hm⟩ : ∃ m : Int, min (8 : Int) (s.length : Int) = m ∧ 0 < m := ⟨_, rfl, by omega⟩
  obtain ⟨hm1, hm2⟩ := hm
  have hm3 : ¬ (m ≤ 0) := by omega
  clear hd hn
  go_enter Tryz.func191, Tryz.ntmps191
  go_wp2
  go_loop [6] (fun i => i = .int .i64 0) (fun _ => 0)
  case atStart => exact rfl
  case round =>
    subst hrel
    go_wp2
    go_ret
    exact ⟨rfl, rfl⟩

set_option maxRecDepth 100000 in
theorem special1 (t : Bs) (hlen : t.length < 4294967295) (h0 : 0 < t.length) (hd : isDig t[0] = true) (w : World) :
    Calls Tryz.prog 177 #[.string (B (45 :: t))] w fun e w' => e = .returned (.tuple #[.float .f64 0, .int .i64 0, .bool false]) ∧ w = w' := by
  have HP := Lib.hid (prefix0 t (by omega) h0 hd w)
  have hne : ¬ (t = []) := by rintro rfl; simp at h0
  clear hd
  go_enter Tryz.func177, Tryz.ntmps177
  have z1 : ((t.length : Int) + 1 == 0) = false := by rw [beq_eq_false_iff_ne]; omega
  go_wp2_with (fail)
  refine HP.out.mono ?_
  rintro e w' ⟨rfl, rfl⟩
  go_wp2
  go_ret3
  exact ⟨rfl, rfl⟩
set_option maxRecDepth 100000 in
theorem exact0 (d : Nat) (p : Int) (neg : Bool) (h : 4503599627370496 ≤ d) {w : World} (hg : Gw w) :
    Calls Tryz.prog 188 #[.int .u64 d, .int .i64 p, .bool neg] w fun e w' => e = .returned (.tuple #[.float .f64 0, .bool false]) ∧ w = w' := by
  have c0 := hg.inf0
  have f1 : ((d : Int) / 4503599627370496 != 0) = true := by rw [bne_iff_ne]; omega
  clear h hg
  go_enter Tryz.func188, Tryz.ntmps188
  go_wp2
  go_ret2
  exact ⟨rfl, rfl⟩

/-- What readFloat makes of so many digits. -/
def rfM (s : Bs) (o k : Nat) : Nat := dv s o (o + min k 19)
def rfT (s : Bs) (o k : Nat) : Bool := decide (19 < k) && decide (s[o + 19]? ≠ some 48)
theorem rfT_small {s : Bs} {o k : Nat} (h : k ≤ 19) : rfT s o k = false := by
  unfold rfT
  rw [show decide (19 < k) = false from decide_eq_false (by omega), Bool.false_and]
theorem rfM_step {s : Bs} {o k : Nat} {c : UInt8} (hd : digsTo s o s.length) (hk : k < 19) (hlt : o + k < s.length) (hu : s[o + k]? = some c) : rfM s o (k + 1) = rfM s o k * 10 + (c.toNat - 48) ∧ rfM s o k < 1000000000000000000 ∧ rfM s o (k + 1) < 10000000000000000000 := by
  have h1 : isDig c = true := hd.2.2 (o + k) _ (by omega) hlt hu
  have hD : digsTo s o (o + k) := ⟨by omega, by omega, fun i u h1 h2 => hd.2.2 i u h1 (by omega)⟩
  obtain ⟨h2, h3⟩ := digsTo_step hD hu h1
  have e1 : min k 19 = k := by omega
  have e2 : min (k + 1) 19 = k + 1 := by omega
  have lt : ∀ {m q : Nat}, digsTo s o m → m - o ≤ q → dv s o m < 10 ^ q := by
    intro m q h hq
    have h4 := digVal_lt _ (digsTo_mem h)
    have h5 : ((s.drop o).take (m - o)).length ≤ q := by rw [List.length_take]; omega
    exact Nat.lt_of_lt_of_le h4 (Nat.pow_le_pow_right (by omega) h5)
  have l1 := lt hD (q := 18) (by omega)
  have l2 := lt h2 (q := 19) (by omega)
  have p18 : (10 : Nat) ^ 18 = 1000000000000000000 := by decide
  have p19 : (10 : Nat) ^ 19 = 10000000000000000000 := by decide
  unfold rfM
  rw [e1, e2, ← Nat.add_assoc]
  exact ⟨h3, by omega, by omega⟩

set_option maxRecDepth 100000 in
set_option maxHeartbeats 1000000 in
theorem read0 (s : Bs) (hlen : s.length ≤ 20) (h18 : 18 ≤ s.length) (h0 : 0 < s.length) (h48 : s[0]? ≠ some 48) (hd : digsTo s 0 s.length) (hM0 : 0 < rfM s 0 s.length) (w : World) :
    Calls Tryz.prog 178 #[.string (B s)] w fun e w' => e = .returned (.tuple #[.int .u64 (rfM s 0 s.length : Nat), .int .i64 ((s.length : Int) - min (s.length : Int) 19), .bool false, .bool (rfT s 0 s.length), .bool false, .int .i64 s.length, .bool true]) ∧ w = w' := by
  have hn0 : isDig s[0] = true := hd.2.2 0 _ (Nat.le_refl _) h0 (List.getElem?_eq_getElem h0)
  obtain ⟨f1, f2, f3, f4, f5, f6⟩ := digit_facts hn0
  have f7 : ((s[0].toNat : Int) == 48) = false := by
    rw [beq_eq_false_iff_ne]; intro e
    refine h48 ?_
    rw [List.getElem?_eq_getElem h0]
    congr 1
    exact UInt8.toNat_inj.1 (by show s[0].toNat = 48; omega)
  have hne : ¬ (s = []) := by rintro rfl; simp at h0
  have HD := Lib.hid hd
  clear hd h48 hn0
  go_enter Tryz.func178, Tryz.ntmps178
  go_wp2
  go_step3
  go_wp2
  go_step3
  go_wp2
  go_loop [2, 5, 7, 9, 13, 14, 15, 16, 17] (fun mt tr i u9 u13 sd nd nm u17 => u9 = .bool false ∧ u13 = .bool false ∧ u17 = .int .i64 0 ∧ ∃ (k m M : Nat) (T S : Bool), k ≤ s.length ∧ Hid (m = min k 19) ∧ Hid (M = rfM s 0 k) ∧ Hid (T = rfT s 0 k) ∧ Hid (S = decide (0 < k)) ∧ mt = .int .u64 (M : Int) ∧ tr = .bool T ∧ i = .int .i64 (k : Int) ∧ sd = .bool S ∧ nd = .int .i64 (k : Int) ∧ nm = .int .i64 (m : Int)) (fun _ _ i _ _ _ _ _ _ => s.length - (intOf i).toNat)
  case atStart => exact ⟨rfl, rfl, rfl, 0, 0, 0, false, false, by omega, Lib.hid rfl, Lib.hid (by unfold rfM; rw [show 0 + min 0 19 = 0 by omega, dv_start]), Lib.hid (by simp [rfT]), Lib.hid (by simp), rfl, rfl, rfl, rfl, rfl, rfl⟩
  case round =>
    obtain ⟨rfl, rfl, rfl, k, m, M, T, S, hk, HM, HMM, HT, HS, rfl, rfl, rfl, rfl, rfl, rfl⟩ := hrel
    by_cases hlt : k < s.length
    · have hu : s[k]? = some s[k] := List.getElem?_eq_getElem hlt
      have hdk : isDig s[k] = true := HD.out.2.2 k _ (Nat.zero_le _) hlt hu
      obtain ⟨e1, e2, e3, e4, e5, e6⟩ := digit_facts hdk
      have HT1 : Hid (true = decide (0 < k + 1)) := Lib.hid (by simp)
      by_cases h19 : k < 19
      · obtain ⟨g1, g2, g3⟩ := rfM_step (s := s) (o := 0) (k := k) (c := s[k]) HD.out h19 (by omega) (by rw [Nat.zero_add]; exact hu)
        have hm : m = k := by have := HM.out; omega
        subst hm
        have hMb : (M : Int) ≤ 999999999999999999 := by rw [HMM.out]; omega
        have HM1 : Hid ((M : Int) * 10 + ((s[m].toNat : Int) - 48) = (rfM s 0 (m + 1) : Nat)) := Lib.hid (by have h := HMM.out; rw [g1]; omega)
        have HTT : Hid (T = rfT s 0 (m + 1)) := Lib.hid (by rw [HT.out, rfT_small (by omega), rfT_small (by omega)])
        clear hu hdk g1 g2 g3
        by_cases hk0 : m = 0
        · subst hk0
          go_wp2
          go_round
          case rel => exact ⟨rfl, rfl, rfl, 1, 1, rfM s 0 1, T, true, by omega, Lib.hid (by omega), Lib.hid rfl, HTT.out, HT1.out, by rw [← HM1.out], rfl, rfl, rfl, rfl, rfl⟩
          case measure => simp [intOf] <;> omega
        · have n0 : ((m : Int) == 0) = false := by rw [beq_eq_false_iff_ne]; omega
          have m19 : (m : Int) < 19 := by omega
          go_wp2
          all_goals
            go_round
            case rel => exact ⟨rfl, rfl, rfl, m + 1, m + 1, rfM s 0 (m + 1), T, true, by omega, Lib.hid (by omega), Lib.hid rfl, HTT.out, HT1.out, by (first | (rw [← HM1.out]; done) | (rw [← HM1.out]; congr 1; omega)), rfl, by go_num, rfl, by go_num, by go_num⟩
            case measure => simp [intOf] <;> omega
      · have k19 : k = 19 := by omega
        have hm : m = 19 := by have := HM.out; omega
        subst hm
        subst k19
        have HMM2 : Hid (M = rfM s 0 20) := Lib.hid (by rw [HMM.out]; rfl)
        have HTA : Hid ((s[19].toNat : Int) = 48 → T = rfT s 0 20) := Lib.hid fun h => by
          have : s[19] = 48 := UInt8.toNat_inj.1 (by show s[19].toNat = 48; omega)
          rw [HT.out]; unfold rfT
          rw [Nat.zero_add, hu, this]; simp
        have HTB : Hid (¬ (s[19].toNat : Int) = 48 → true = rfT s 0 20) := Lib.hid fun h => by
          have : s[19] ≠ 48 := fun e => h (by rw [e]; rfl)
          unfold rfT
          rw [Nat.zero_add, hu]; simp [this]
        clear hu hdk
        by_cases h48 : (s[19].toNat : Int) = 48
        · have b48 : ((s[19].toNat : Int) != 48) = false := by rw [bne_eq_false_iff_eq]; exact h48
          have hT := HTA.out h48
          have HTF := Lib.hid hT
          have b48' : ((s[19].toNat : Int) == 48) = true := by rw [beq_iff_eq]; exact h48
          clear h48 hT
          go_wp2
          go_round
          case rel => exact ⟨rfl, rfl, rfl, 20, 19, M, T, true, by omega, Lib.hid (by omega), HMM2, HTF, Lib.hid (by simp), rfl, rfl, by go_num, rfl, by go_num, by go_num⟩
          case measure => simp [intOf] <;> omega
        · have b48 : ((s[19].toNat : Int) != 48) = true := by rw [bne_iff_ne]; exact h48
          have hT := HTB.out h48
          have HTF := Lib.hid hT
          have b48' : ((s[19].toNat : Int) == 48) = false := by rw [beq_eq_false_iff_ne]; exact h48
          clear h48 hT
          go_wp2
          go_round
          case rel => exact ⟨rfl, rfl, rfl, 20, 19, M, true, true, by omega, Lib.hid (by omega), HMM2, HTF, Lib.hid (by simp), rfl, rfl, by go_num, rfl, by go_num, by go_num⟩
          case measure => simp [intOf] <;> omega
    · obtain rfl : s.length = k := by omega
      have hS : S = true := by rw [HS.out]; simpa using h0
      subst hS
      have M0 : ((M : Int) != 0) = true := by rw [bne_iff_ne]; have := HMM.out; omega
      have hm : (m : Int) = min (s.length : Int) 19 := by have := HM.out; omega
      have HMI := Lib.hid hm
      have hmb : (m : Int) ≤ 19 := by omega
      have hml : (m : Int) ≤ (s.length : Int) := by omega
      clear hm hlt hk
      have gsl : ¬ ((s.length : Int) < (s.length : Int)) := by omega
      go_wp2
      refine bodyPost_ret (v := .tuple #[.int .u64 (M : Int), .int .i64 ((s.length : Int) - (m : Int)), .bool false, .bool T, .bool false, .int .i64 (s.length : Int), .bool true]) (by simp [results, Tryz.results178, go_sem]) rfl ⟨?_, rfl⟩
      rw [HMM.out, HT.out, HMI.out]
set_option maxRecDepth 100000 in
set_option maxHeartbeats 1000000 in
theorem read1 (t : Bs) (hlen : t.length ≤ 20) (h18 : 18 ≤ t.length) (h0 : 0 < t.length) (h48 : t[0]? ≠ some 48) (hd : digsTo t 0 t.length) (hM0 : 0 < rfM t 0 t.length) (w : World) :
    Calls Tryz.prog 178 #[.string (B (45 :: t))] w fun e w' => e = .returned (.tuple #[.int .u64 (rfM t 0 t.length : Nat), .int .i64 ((t.length : Int) - min (t.length : Int) 19), .bool true, .bool (rfT t 0 t.length), .bool false, .int .i64 ((t.length : Int) + 1), .bool true]) ∧ w = w' := by
  have hn0 : isDig t[0] = true := hd.2.2 0 _ (Nat.le_refl _) h0 (List.getElem?_eq_getElem h0)
  obtain ⟨f1, f2, f3, f4, f5, f6⟩ := digit_facts hn0
  have f7 : ((t[0].toNat : Int) == 48) = false := by
    rw [beq_eq_false_iff_ne]; intro e
    refine h48 ?_
    rw [List.getElem?_eq_getElem h0]
    congr 1
    exact UInt8.toNat_inj.1 (by show t[0].toNat = 48; omega)
  have hne : ¬ (t = []) := by rintro rfl; simp at h0
  have HD := Lib.hid hd
  clear hd h48 hn0
  go_enter Tryz.func178, Tryz.ntmps178
  go_wp2
  go_step3
  go_wp2
  go_step3
  go_wp2
  go_loop [2, 5, 7, 9, 13, 14, 15, 16, 17] (fun mt tr i u9 u13 sd nd nm u17 => u9 = .bool false ∧ u13 = .bool false ∧ u17 = .int .i64 0 ∧ ∃ (k m M : Nat) (T S : Bool), k ≤ t.length ∧ Hid (m = min k 19) ∧ Hid (M = rfM t 0 k) ∧ Hid (T = rfT t 0 k) ∧ Hid (S = decide (0 < k)) ∧ mt = .int .u64 (M : Int) ∧ tr = .bool T ∧ i = .int .i64 ((k : Int) + 1) ∧ sd = .bool S ∧ nd = .int .i64 (k : Int) ∧ nm = .int .i64 (m : Int)) (fun _ _ i _ _ _ _ _ _ => t.length + 1 - (intOf i).toNat)
  case atStart => exact ⟨rfl, rfl, rfl, 0, 0, 0, false, false, by omega, Lib.hid rfl, Lib.hid (by unfold rfM; rw [show 0 + min 0 19 = 0 by omega, dv_start]), Lib.hid (by simp [rfT]), Lib.hid (by simp), rfl, rfl, rfl, rfl, rfl, rfl⟩
  case round =>
    obtain ⟨rfl, rfl, rfl, k, m, M, T, S, hk, HM, HMM, HT, HS, rfl, rfl, rfl, rfl, rfl, rfl⟩ := hrel
    by_cases hlt : k < t.length
    · have hu : t[k]? = some t[k] := List.getElem?_eq_getElem hlt
      have hdk : isDig t[k] = true := HD.out.2.2 k _ (Nat.zero_le _) hlt hu
      obtain ⟨e1, e2, e3, e4, e5, e6⟩ := digit_facts hdk
      have HT1 : Hid (true = decide (0 < k + 1)) := Lib.hid (by simp)
      by_cases h19 : k < 19
      · obtain ⟨g1, g2, g3⟩ := rfM_step (s := t) (o := 0) (k := k) (c := t[k]) HD.out h19 (by omega) (by rw [Nat.zero_add]; exact hu)
        have hm : m = k := by have := HM.out; omega
        subst hm
        have hMb : (M : Int) ≤ 999999999999999999 := by rw [HMM.out]; omega
        have HM1 : Hid ((M : Int) * 10 + ((t[m].toNat : Int) - 48) = (rfM t 0 (m + 1) : Nat)) := Lib.hid (by have h := HMM.out; rw [g1]; omega)
        have HTT : Hid (T = rfT t 0 (m + 1)) := Lib.hid (by rw [HT.out, rfT_small (by omega), rfT_small (by omega)])
        clear hu hdk g1 g2 g3
        by_cases hk0 : m = 0
        · subst hk0
          go_wp2
          go_round
          case rel => exact ⟨rfl, rfl, rfl, 1, 1, rfM t 0 1, T, true, by omega, Lib.hid (by omega), Lib.hid rfl, HTT.out, HT1.out, by rw [← HM1.out], rfl, rfl, rfl, rfl, rfl⟩
          case measure => simp [intOf] <;> omega
        · have n0 : ((m : Int) == 0) = false := by rw [beq_eq_false_iff_ne]; omega
          have m19 : (m : Int) < 19 := by omega
          go_wp2
          all_goals
            go_round
            case rel => exact ⟨rfl, rfl, rfl, m + 1, m + 1, rfM t 0 (m + 1), T, true, by omega, Lib.hid (by omega), Lib.hid rfl, HTT.out, HT1.out, by (first | (rw [← HM1.out]; done) | (rw [← HM1.out]; congr 1; omega)), rfl, by go_num, rfl, by go_num, by go_num⟩
            case measure => simp [intOf] <;> omega
      · have k19 : k = 19 := by omega
        have hm : m = 19 := by have := HM.out; omega
        subst hm
        subst k19
        have HMM2 : Hid (M = rfM t 0 20) := Lib.hid (by rw [HMM.out]; rfl)
        have HTA : Hid ((t[19].toNat : Int) = 48 → T = rfT t 0 20) := Lib.hid fun h => by
          have : t[19] = 48 := UInt8.toNat_inj.1 (by show t[19].toNat = 48; omega)
          rw [HT.out]; unfold rfT
          rw [Nat.zero_add, hu, this]; simp
        have HTB : Hid (¬ (t[19].toNat : Int) = 48 → true = rfT t 0 20) := Lib.hid fun h => by
          have : t[19] ≠ 48 := fun e => h (by rw [e]; rfl)
          unfold rfT
          rw [Nat.zero_add, hu]; simp [this]
        clear hu hdk
        by_cases h48 : (t[19].toNat : Int) = 48
        · have b48 : ((t[19].toNat : Int) != 48) = false := by rw [bne_eq_false_iff_eq]; exact h48
          have hT := HTA.out h48
          have HTF := Lib.hid hT
          have b48' : ((t[19].toNat : Int) == 48) = true := by rw [beq_iff_eq]; exact h48
          clear h48 hT
          go_wp2
          go_round
          case rel => exact ⟨rfl, rfl, rfl, 20, 19, M, T, true, by omega, Lib.hid (by omega), HMM2, HTF, Lib.hid (by simp), rfl, rfl, by go_num, rfl, by go_num, by go_num⟩
          case measure => simp [intOf] <;> omega
        · have b48 : ((t[19].toNat : Int) != 48) = true := by rw [bne_iff_ne]; exact h48
          have hT := HTB.out h48
          have HTF := Lib.hid hT
          have b48' : ((t[19].toNat : Int) == 48) = false := by rw [beq_eq_false_iff_ne]; exact h48
          clear h48 hT
          go_wp2
          go_round
          case rel => exact ⟨rfl, rfl, rfl, 20, 19, M, true, true, by omega, Lib.hid (by omega), HMM2, HTF, Lib.hid (by simp), rfl, rfl, by go_num, rfl, by go_num, by go_num⟩
          case measure => simp [intOf] <;> omega
    · obtain rfl : t.length = k := by omega
      have hS : S = true := by rw [HS.out]; simpa using h0
      subst hS
      have M0 : ((M : Int) != 0) = true := by rw [bne_iff_ne]; have := HMM.out; omega
      have hm : (m : Int) = min (t.length : Int) 19 := by have := HM.out; omega
      have HMI := Lib.hid hm
      have hmb : (m : Int) ≤ 19 := by omega
      have hml : (m : Int) ≤ (t.length : Int) := by omega
      clear hm hlt hk
      have gsl : ¬ ((t.length : Int) + 1 < (t.length : Int) + 1) := by omega
      go_wp2
      refine bodyPost_ret (v := .tuple #[.int .u64 (M : Int), .int .i64 ((t.length : Int) - (m : Int)), .bool true, .bool T, .bool false, .int .i64 ((t.length : Int) + 1), .bool true]) (by simp [results, Tryz.results178, go_sem]) rfl ⟨?_, rfl⟩
      rw [HMM.out, HT.out, HMI.out]
end Go.Proofs.YtppkpcijmfdfmaaGreatDoor
