/- HeadRun of an object of one number, asked in all ten ways; the walk of FnHeadHalves. -/
import Derived.Test.YtppkpcijmfdfmaaGreatDoorW97
set_option linter.unusedVariables false
set_option linter.unusedSimpArgs false
namespace Go.Proofs.YtppkpcijmfdfmaaGreatDoor
open Go.RowKit
attribute [local go_sem] B_size B_get B_lit B_ext_to B_ext B_toList B_app

def numEnv (num : Bs) (oi ou : Option Int) (q : Nat) : Env where
  U q out := q = out ∧ (92 : UInt8) ∉ q
  NI s := s = num
  NU s := s = num
  NF s := s = num
  i64 _ := oi
  u64 _ := ou
  f64 _ := some q
theorem numEnv_ok {num : Bs} {oi ou : Option Int} {q : Nat} (hi : NumP 113 num (.int .i64 0) (oi.map (.int .i64))) (hu : NumP 114 num (.int .u64 0) (ou.map (.int .u64))) (hf : NumP 110 num (.float .f64 0) (some (.float .f64 q))) : (numEnv num oi ou q).OK where
  ug := env0_ok.ug
  i s hs := by cases hs; exact hi
  u s hs := by cases hs; exact hu
  f s hs := by cases hs; exact hf
theorem each_a : (eachOf [[97]]).length = 10 ∧ ∀ k, k < 10 → (eachOf [[97]])[k]? = some (k, [97]) := by decide
/-- A row of ten answers about one number. -/
structure TenRow (w : World) (g : Nat) (oi ou : Option Int) (q : Nat) : Prop where
  a0 : w.cell? ⟨g, 0, none⟩ = some (.bool true)
  a1 : w.cell? ⟨g, 7, none⟩ = some (.bool false)
  a3 : w.cell? ⟨g, 21, none⟩ = some (.bool false)
  a4 : w.cell? ⟨g, 28, none⟩ = some (.bool oi.isSome)
  a5 : w.cell? ⟨g, 35, none⟩ = some (.bool ou.isSome)
  a6 : w.cell? ⟨g, 42, none⟩ = some (.bool true)
  f6 : w.cell? ⟨g, 47, none⟩ = some (.float .f64 q)
  a8 : w.cell? ⟨g, 56, none⟩ = some (.bool oi.isSome)
  a9 : w.cell? ⟨g, 63, none⟩ = some (.bool ou.isSome)
theorem run_one {num : Bs} {oi ou : Option Int} {q : Nat} (hi : NumP 113 num (.int .i64 0) (oi.map (.int .i64))) (hu : NumP 114 num (.int .u64 0) (ou.map (.int .u64))) (hf : NumP 110 num (.float .f64 0) (some (.float .f64 q)))
    (hnum : Numeral num) (hl : num.length < 1000) {w : World} {v av : Value} (hv : BA w v (oneText num)) (ha : AskRow w av (eachOf [[97]])) (hG : Gw w) :
    Calls Tryz.prog 32 #[v, av] w fun e w' => ∃ g cap, e = .returned (.slice (some ⟨g, 0, none⟩) 10 cap) ∧ TenRow w' g oi ou q ∧ g < w'.heap.size ∧ Below w.heap.size w w' := by
  have hp := one_parse hnum
  have hR := ready_any (G := numEnv num oi ou q) v (oneText num) w hv (by simp [oneText]; omega) hG (fun j hj => by rw [hp] at hj; cases hj; exact one_good env0_ok.ug num)
  rw [hp] at hR
  have hmem : ∀ p ∈ eachOf [[97]], p.1 < 10 ∧ p.2 = [97] := fun p hp => ⟨(eachOf_mem hp).1, by simpa using (eachOf_mem hp).2⟩
  refine (headRun_any (numEnv_ok hi hu hf) v av (eachOf [[97]]) (some (.obj (OneMs num))) w hR ha (by rw [each_a.1]; omega) (fun p _ j hj hno => by cases hj; exact absurd rfl (hno _)) (fun p hp => by rw [(hmem p hp).2]; decide) (fun p hp => (hmem p hp).1) (fun p hp t s hf ht => ?_)).mono ?_
  · rw [(hmem p hp).2] at hf
    have := one_finds env0_ok.ug hf
    cases this
    cases ht
    unfold Env.NK
    split <;> first | rfl | trivial
  · rintro e w3 ⟨ov, l3, hb, B1, rfl, hlen, hrs⟩
    have htr := hrs.trow
    rw [each_a.1] at hlen
    have at_ : ∀ k, k < 10 → ∃ a x, l3[k]? = some (a, x) ∧ AnsK (numEnv num oi ou q) (some (.num num)) k a := by
      intro k hk
      have hl3 : l3[k]? = some l3[k] := List.getElem?_eq_getElem (by omega)
      obtain ⟨t, h1, h2⟩ := hrs.ans k _ _ (each_a.2 k hk) hl3
      have := one_finds env0_ok.ug h1
      subst this
      exact ⟨l3[k].1, l3[k].2, hl3, h2⟩
    obtain ⟨a, x, hax, _⟩ := at_ 0 (by omega)
    obtain ⟨x', m', c', hx'⟩ := htr.sl _ (List.mem_of_getElem? hax)
    simp only at hx'
    subst hx'
    obtain ⟨g, cap, hov, hg, _⟩ := htr.cells hax
    subst hov
    rw [hlen]
    have cell : ∀ k, k < 10 → ∃ a, AnsK (numEnv num oi ou q) (some (.num num)) k a ∧ w3.cell? ⟨g, k * 7, none⟩ = some (.bool a.ok) ∧ w3.cell? ⟨g, k * 7 + 5, none⟩ = some (.float .f64 a.fl) := by
      intro k hk
      obtain ⟨a, x, h1, h2⟩ := at_ k hk
      obtain ⟨x', m', c', hx'⟩ := htr.sl _ (List.mem_of_getElem? h1)
      simp only at hx'
      subst hx'
      obtain ⟨g', cap', hov', _, h3, _, _, _, _, h4, _⟩ := htr.cells h1
      cases hov'
      exact ⟨a, h2, h3, h4⟩
    refine ⟨g, cap, rfl, ?_, hg, hrs.below⟩
    obtain ⟨b0, k0, e0, _⟩ := cell 0 (by omega)
    obtain ⟨b1, k1, e1, _⟩ := cell 1 (by omega)
    obtain ⟨b3, k3, e3, _⟩ := cell 3 (by omega)
    obtain ⟨b4, k4, e4, _⟩ := cell 4 (by omega)
    obtain ⟨b5, k5, e5, _⟩ := cell 5 (by omega)
    obtain ⟨b6, k6, e6, f6⟩ := cell 6 (by omega)
    obtain ⟨b8, k8, e8, _⟩ := cell 8 (by omega)
    obtain ⟨b9, k9, e9, _⟩ := cell 9 (by omega)
    simp only [AnsK, TxtR, StrOr, Option.bind_some, J.i64, J.u64, J.f64, J.tf, numEnv] at k0 k1 k3 k4 k5 k6 k8 k9
    obtain ⟨rr, rfl, k1⟩ := k1
    refine ⟨?_, ?_, ?_, ?_, ?_, ?_, ?_, ?_, ?_⟩
    · rw [e0, k0]; rfl
    · rw [e1, k1]; rfl
    · rw [e3, k3]; rfl
    · rw [e4, k4]; cases oi <;> rfl
    · rw [e5, k5]; cases ou <;> rfl
    · rw [e6, k6]
    · rw [f6, k6]
    · rw [e8, k8]; cases oi <;> rfl
    · rw [e9, k9]; cases ou <;> rfl

theorem pow5_le : ∀ k, k ≤ 10 → (5 : Nat) ^ k ≤ 9765625 := by decide
theorem whole_le {a k : Nat} (ha : a < 1048576) (hk : k ≤ 10) : a * 5 ^ k ≤ 10240000000000 := by
  have h1 := pow5_le k hk
  have h2 := Nat.mul_le_mul (show a ≤ 1048575 by omega) h1
  omega
def slen : Value → Nat
  | .string s => s.size
  | _ => 0
theorem slen_B (l : Bs) : slen (.string (B l)) = l.length := B_size l

open Ieee (double) in
/-- The number of floating point that a multiple of a power of one half is. -/
def halfV (neg : Bool) (a k : Nat) : Nat := if a = 0 then 0 else double.nearest neg a (-(k : Int))
theorem ten16_half : ∀ k, k < 11 → tenTo16[k]? = some (Ieee.double.nearest false (10 ^ k) 0) := by decide +kernel
theorem int_near (W : Nat) : floatOfInt .f64 (W : Int) = Ieee.double.nearest false W 0 := by
  unfold floatOfInt FloatKind.nearest FloatKind.encode FloatKind.format Ieee.Format.write
  simp only [Int.natAbs_natCast]
  rw [show decide ((W : Int) < 0) = false by simp]
theorem half_point (neg : Bool) {P : Bs} (hP : ∀ c ∈ P, isDig c = true) {W a k : Nat} (hD : digVal P = W) (ha : a < 1048576) (hn : neg = true → 0 < a) (hk : k ≤ 10) (hW : W = a * 5 ^ k) (h0 : 0 < k) (hl : k < P.length ∧ P.length ≤ 15) :
    NumP 110 (pointText neg P (P.length - k)) (.float .f64 0) (some (.float .f64 (halfV neg a k))) := by
  have htv := ten16_half k (by omega)
  have key : ∃ q, Ieee.double.div (floatOfInt .f64 ((digVal P : Nat) : Int)) (Ieee.double.nearest false (10 ^ k) 0) = some q ∧ (if neg then Op.negFloat .f64 q else q) = halfV neg a k := by
    have e1 : floatOfInt .f64 ((digVal P : Nat) : Int) = Ieee.double.nearest false W 0 := by rw [hD, int_near]
    rw [e1]
    by_cases ha0 : a = 0
    · subst ha0
      rw [hW, Nat.zero_mul]
      refine ⟨0, (zero_half k hk).1, ?_⟩
      cases neg
      · unfold halfV; rw [if_neg (by decide), if_pos rfl]
      · have := hn rfl; omega
    · have la : a.log2 ≤ 52 := by
        have h1 := (log2_bounds ha0).1
        have : 2 ^ a.log2 < 2 ^ 20 := by omega
        have := (Nat.pow_lt_pow_iff_right (by omega : 1 < 2)).1 this
        omega
      have hw0 : a * 5 ^ k ≠ 0 := Nat.mul_ne_zero ha0 (by have := Nat.pow_pos (n := k) (show 0 < 5 by omega); omega)
      have lw : (a * 5 ^ k).log2 ≤ 52 := by
        have h1 := (log2_bounds hw0).1
        have h2 := whole_le ha hk
        have : 2 ^ (a * 5 ^ k).log2 < 2 ^ 53 := by omega
        have := (Nat.pow_lt_pow_iff_right (by omega : 1 < 2)).1 this
        omega
      refine ⟨_, by rw [hW]; exact half_ten ha0 la lw hk, ?_⟩
      unfold halfV
      rw [if_neg ha0]
      cases neg
      · rw [if_neg (by decide)]
      · rw [if_pos rfl, neg_nearest ha0]
  obtain ⟨q, hq, hv⟩ := key
  have := point_read hP neg (P.length - k) (by omega) (by omega) hl.2 _ q (by rw [show P.length - (P.length - k) = k by omega]; exact htv) hq
  rw [hv] at this
  exact this
theorem half_whole (neg : Bool) {P : Bs} (hP : ∀ c ∈ P, isDig c = true) {W a k : Nat} (hD : digVal P = W) (hn : neg = true → 0 < a) (hW : W = a * 5 ^ k) (hk : k = 0) (h0 : 0 < P.length) (hl : P.length ≤ 17) :
    NumP 110 (sg neg ++ P) (.float .f64 0) (some (.float .f64 (halfV neg a k))) := by
  subst hk
  have hWa : W = a := by rw [hW, Nat.pow_zero, Nat.mul_one]
  have := whole_read hP neg h0 hl
  rw [hD, int_near, hWa] at this
  have e : (if neg then Op.negFloat .f64 (Ieee.double.nearest false a 0) else Ieee.double.nearest false a 0) = halfV neg a 0 := by
    unfold halfV
    by_cases ha0 : a = 0
    · rw [if_pos ha0]
      cases neg
      · rw [if_neg (by decide), ha0]; decide +kernel
      · have := hn rfl; omega
    · rw [if_neg ha0]
      cases neg
      · rw [if_neg (by decide)]; rfl
      · rw [if_pos rfl, neg_nearest ha0]; rfl
  rw [e] at this
  exact this
theorem half_int (neg : Bool) {P : Bs} (hP : ∀ c ∈ P, isDig c = true) (h0 : 0 < P.length) (hl : P.length ≤ 17) : ∃ oi : Option Int, NumP 113 (sg neg ++ P) (.int .i64 0) (oi.map (.int .i64)) := by
  obtain ⟨r, h⟩ := whole_int hP neg h0 hl
  exact ⟨some r, h⟩
theorem half_uint (neg : Bool) {P : Bs} (hP : ∀ c ∈ P, isDig c = true) (h0 : 0 < P.length) (hl : P.length ≤ 17) : ∃ ou : Option Int, NumP 114 (sg neg ++ P) (.int .u64 0) (ou.map (.int .u64)) := by
  obtain ⟨r, h, hr⟩ := whole_uint hP neg h0 hl
  cases r with
  | none => exact ⟨none, h⟩
  | some v => obtain ⟨n, rfl⟩ := hr v rfl; exact ⟨some n, h⟩
theorem whole_numeral (neg : Bool) {P : Bs} (hP : ∀ c ∈ P, isDig c = true) (h0 : 0 < P.length) : Numeral (sg neg ++ P) := by
  refine ⟨fun c hc => ?_, fun e => ?_, ?_⟩
  · rcases List.mem_append.1 hc with hc | hc
    · cases neg
      · simp [sg] at hc
      · simp [sg] at hc; subst hc; decide
    · exact dig_numCh (hP c hc)
  · cases neg
    · simp [sg] at e
      exact (dig_not (hP 45 (by rw [e]; simp))).1 rfl
    · simp [sg] at e
      rw [e] at h0; simp at h0
  · cases neg
    · cases hP' : P with
      | nil => rw [hP'] at h0; simp at h0
      | cons c t => exact ⟨c, t, by simp [sg], Or.inr (isDig_nat.1 (hP c (by rw [hP']; simp)))⟩
    · exact ⟨45, P, by simp [sg], Or.inl rfl⟩
theorem neg_near {a : Nat} (h : 0 < a) : floatOfInt .f64 (-(a : Int)) = Ieee.double.nearest true a 0 := by
  unfold floatOfInt FloatKind.nearest FloatKind.encode FloatKind.format Ieee.Format.write
  simp only [Int.natAbs_neg, Int.natAbs_natCast]
  rw [show decide (-(a : Int) < 0) = true from decide_eq_true (by omega)]
theorem half_self (neg : Bool) (a k : Nat) : (FloatKind.f64.format.order (halfV neg a k) (halfV neg a k) == some .eq) = true := by
  unfold halfV
  split
  · exact zero_self
  · exact order_read (nearest_read _ _ _)
theorem half_pos {a k : Nat} (ha : a < 1048576) (hk : k ≤ 10) : Ieee.double.div (floatOfInt .f64 (a : Int)) (floatOfInt .f64 ((2 ^ k : Nat) : Int)) = some (halfV false a k) := by
  rw [int_near, int_near]
  unfold halfV
  by_cases h0 : a = 0
  · rw [if_pos h0, h0]; exact (zero_half k hk).2
  · rw [if_neg h0]
    refine half_two false h0 ?_ hk
    have h1 := (log2_bounds h0).1
    have : 2 ^ a.log2 < 2 ^ 20 := by omega
    have := (Nat.pow_lt_pow_iff_right (by omega : 1 < 2)).1 this
    omega
theorem half_neg {a k : Nat} (ha : a < 1048576) (hpos : 0 < a) (hk : k ≤ 10) : Ieee.double.div (floatOfInt .f64 (-(a : Int))) (floatOfInt .f64 ((2 ^ k : Nat) : Int)) = some (halfV true a k) := by
  rw [neg_near hpos, int_near]
  unfold halfV
  have h0 : a ≠ 0 := by omega
  rw [if_neg h0]
  refine half_two true h0 ?_ hk
  have h1 := (log2_bounds h0).1
  have : 2 ^ a.log2 < 2 ^ 20 := by omega
  have := (Nat.pow_lt_pow_iff_right (by omega : 1 < 2)).1 this
  omega
theorem two_pow_le : ∀ k, k ≤ 10 → (2 : Nat) ^ k ≤ 1024 := by decide
theorem and_zero_i64 (x : Int) : bits .and .i64 x 0 = 0 := by
  show IntKind.i64.wrap ((BitVec.ofInt 64 x &&& BitVec.ofInt 64 0).toNat : Int) = 0
  rw [show BitVec.ofInt 64 0 = 0#64 by decide, BitVec.and_zero]
  decide
theorem point_numeral (neg : Bool) {P : Bs} (hP : ∀ c ∈ P, isDig c = true) {j : Nat} (h0 : 0 < j) (hj : j < P.length) : Numeral (pointText neg P j) := by
  have hch : ∀ c ∈ pointText neg P j, jNumCh c = true := by
    intro c hc
    unfold pointText at hc
    rcases List.mem_append.1 hc with hc | hc
    · cases neg
      · simp [sg] at hc
      · simp [sg] at hc; subst hc; decide
    · rcases List.mem_append.1 hc with hc | hc
      · exact dig_numCh (hP c (List.mem_of_mem_take hc))
      · rcases List.mem_cons.1 hc with rfl | hc
        · decide
        · exact dig_numCh (hP c (List.mem_of_mem_drop hc))
  refine ⟨hch, ?_, ?_⟩
  · intro e
    have := congrArg List.length e
    unfold pointText at this
    simp at this
    omega
  · cases neg
    · cases hP' : P with
      | nil => rw [hP'] at hj; simp at hj
      | cons c t =>
        have hd := isDig_nat.1 (hP c (by rw [hP']; simp))
        obtain ⟨j', rfl⟩ : ∃ j', j = j' + 1 := ⟨j - 1, by omega⟩
        exact ⟨c, _, by simp [pointText, sg]; rfl, Or.inr hd⟩
    · exact ⟨45, _, by simp [pointText, sg]; rfl, Or.inl rfl⟩
end Go.Proofs.YtppkpcijmfdfmaaGreatDoor
