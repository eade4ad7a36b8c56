/- The walks of math.Pow10, and of fastfloat.Parse at a number with an exponent. -/
import Derived.Test.YtppkpcijmfdfmaaGreatDoorF3
import Derived.BigQuiet
import Derived.Deep.QuietTactic
import Derived.Test.YtppkpcijmfdfmaaGreatDoorC15
import Derived.Test.YtppkpcijmfdfmaaGreatDoorF1
set_option linter.unusedVariables false
set_option linter.unusedSimpArgs false
namespace Go.Proofs.YtppkpcijmfdfmaaGreatDoor
open Go.RowKit
attribute [local go_sem] B_size B_get B_lit B_ext_to B_ext B_toList B_app

end Go.Proofs.YtppkpcijmfdfmaaGreatDoor

/- One number in an object: how it is found; the walk of HeadFloat; the numerals with an exponent. -/
namespace Go.Proofs.YtppkpcijmfdfmaaGreatDoor
open Go.RowKit
attribute [local go_sem] B_size B_get B_lit B_ext_to B_ext B_toList B_app

theorem digVal_hDig (n : Nat) : digVal (hDig n) = n := by
  induction n using Nat.strongRecOn with
  | _ n ih =>
    by_cases h : n < 10
    · rw [hDig_small h]
      unfold digVal digAcc
      simp only [List.foldl_cons, List.foldl_nil]
      rw [UInt8.toNat_ofNat']
      omega
    · rw [hDig_big h, digVal_push, ih (n / 10) (by omega), UInt8.toNat_ofNat']
      omega
theorem hDig_dig (n : Nat) : ∀ c ∈ hDig n, isDig c = true := fun c hc => isDig_nat.2 (hDig_range n c hc)
/-- Digits that stand in a text. -/
theorem digs_in {a d b s : Bs} (hs : s = a ++ d ++ b) (hd : ∀ c ∈ d, isDig c = true) {o m : Nat} (ho : o = a.length) (hm : m = a.length + d.length) : digsTo s o m ∧ dv s o m = digVal d := by
  subst hs; subst ho; subst hm
  refine ⟨⟨by omega, by simp, fun i u h1 h2 hu => ?_⟩, ?_⟩
  · rw [List.append_assoc, List.getElem?_append_right h1, List.getElem?_append_left (by omega)] at hu
    exact hd u (List.mem_of_getElem? hu)
  · unfold dv
    rw [List.append_assoc, List.drop_left, show a.length + d.length - a.length = d.length by omega, List.take_left]

end Go.Proofs.YtppkpcijmfdfmaaGreatDoor

/- Whole numbers of up to 64 bits, with a sign and without one, as the readers read them. -/
namespace Go.Proofs.YtppkpcijmfdfmaaGreatDoor
open Go.RowKit
attribute [local go_sem] B_size B_get B_lit B_ext_to B_ext B_toList B_app

theorem digAcc_ge (l : Bs) : ∀ a, a ≤ digAcc a l := by
  induction l with
  | nil => intro a; exact Nat.le_refl _
  | cons c l ih => intro a; rw [digAcc_cons]; have := ih (a * 10 + (c.toNat - 48)); omega
theorem uintM_ok : ∀ (l : Bs) (a : Nat), (∀ c ∈ l, isDig c = true) → digAcc a l < 18446744073709551616 → Lib.parseUintM 18446744073709551615 a l = .ok (digAcc a l)
  | [], a, _, _ => rfl
  | c :: l, a, h, hb => by
    have hc := isDig_nat.1 (h c (by simp))
    have hge := digAcc_ge l (a * 10 + (c.toNat - 48))
    rw [digAcc_cons] at hb ⊢
    rw [Lib.parseUintM, if_pos hc, if_neg (by omega), if_neg (by omega)]
    exact uintM_ok l _ (fun d hd => h d (by simp [hd])) hb
theorem hDig_ne (n : Nat) : hDig n ≠ [] := fun e => by have := hDig_pos n; rw [e] at this; simp at this
theorem uintB_dig {n : Nat} (h : n < 18446744073709551616) : Lib.parseUintB 64 (hDig n) = .ok n := by
  have e : (2 ^ 64 - 1 : Nat) = 18446744073709551615 := by decide
  have hv := digVal_hDig n
  unfold digVal at hv
  unfold Lib.parseUintB
  rw [if_neg (hDig_ne n), e, uintM_ok _ _ (hDig_dig n) (by rw [hv]; exact h), hv]
theorem hDig_cons (n : Nat) : ∃ c r, hDig n = c :: r ∧ 48 ≤ c.toNat ∧ c.toNat ≤ 57 := by
  cases hd : hDig n with
  | nil => exact absurd hd (hDig_ne n)
  | cons c r => exact ⟨c, r, rfl, hDig_range n c (by rw [hd]; simp)⟩
theorem intB_dig {n : Nat} (h : n < 18446744073709551616) : Lib.parseIntB 64 (hDig n) = if 9223372036854775808 ≤ n then .range else .ok (n : Int) := by
  have hu := uintB_dig h
  have e : (2 ^ (64 - 1) : Nat) = 9223372036854775808 := by decide
  obtain ⟨c, r, hc, h1, h2⟩ := hDig_cons n
  rw [hc] at hu ⊢
  unfold Lib.parseIntB
  simp only
  rw [if_neg (by omega), hu, e]
  have n45 : ¬ (c.toNat = 45) := by omega
  simp only [n45, not_false_eq_true, true_and, false_and, if_false]
theorem intB_min {n : Nat} (h : n < 18446744073709551616) : Lib.parseIntB 64 (45 :: hDig n) = if 9223372036854775808 < n then .range else .ok (-(n : Int)) := by
  have hu := uintB_dig h
  have e : (2 ^ (64 - 1) : Nat) = 9223372036854775808 := by decide
  unfold Lib.parseIntB
  simp only
  rw [if_pos (by decide), hu, e]
  have p45 : (45 : UInt8).toNat = 45 := by decide
  simp only [p45, not_true_eq_false, true_and, false_and, if_false, if_true]

/-- A number as one of 64 bits with a sign, and without one. -/
def hInt (m : Bool) (n : Nat) : Option Int := if m = true ∧ 0 < n then (if 9223372036854775808 < n then none else some (-(n : Int))) else if 9223372036854775808 ≤ n then none else some (n : Int)
def hUint (m : Bool) (n : Nat) : Option Int := if m = true ∧ 0 < n then none else some (n : Int)

theorem bytes_below (w : World) (t : ByteArray) : Below w.heap.size w (Lib.bytesWorld w 5 t) := ⟨rfl, rfl, rfl, by rw [Lib.bytesWorld_size]; omega, fun k hk => Lib.bytesWorld_at_old _ _ _ _ hk⟩
theorem parseInt_ok {s : Bs} {v : Int} (hl : s.length < 4294967296) (h : Lib.parseIntB 64 s = .ok v) (w : World) :
    Calls Tryz.prog 129 #[.string (B s), .int .i64 10, .int .i64 64] w fun e w' => Below w.heap.size w w' ∧ e = .returned (.tuple #[.int .i64 v, .nilIface]) := by
  refine (Tryz.strconv_ParseInt_10_at64_ok (B s) (by rw [B_size]; omega) v (by rw [B_data]; exact h) w).mono ?_
  rintro e w' ⟨rfl, hw⟩
  refine ⟨?_, rfl⟩
  rcases hw with rfl | ⟨t, rfl⟩
  · exact Below.refl _ _
  · exact bytes_below w t
theorem parseInt_range {s : Bs} (hl : s.length < 4294967296) (h : Lib.parseIntB 64 s = .range) (w : World) (hg : Gw w) :
    Calls Tryz.prog 129 #[.string (B s), .int .i64 10, .int .i64 64] w fun e w' => Below w.heap.size w w' ∧ ∃ x T t, e = .returned (.tuple #[.int .i64 x, .iface T t]) := by
  obtain ⟨_, ev, hv, hev⟩ := hg.err
  refine (Tryz.strconv_ParseInt_10_at64_range (B s) (by rw [B_size]; omega) (by rw [B_data]; exact h) ev w hv hev).mono ?_
  rintro e w' ⟨N, rfl, _, _, hb⟩
  exact ⟨hb, _, _, _, rfl⟩

set_option maxRecDepth 100000 in
theorem parseUint_ok {s : Bs} {v : Nat} (hl : s.length < 4294967296) (h : Lib.parseUintB 64 s = .ok v) (w : World) :
    Calls Tryz.prog 130 #[.string (B s), .int .i64 10, .int .i64 64] w fun e w' => Below w.heap.size w w' ∧ e = .returned (.tuple #[.int .u64 v, .nilIface]) := by
  have HC := Lib.hid (Tryz.internal_strconv_ParseUint_10_at64 (B s) (by rw [B_size]; omega) w)
  have HE : Hid (Lib.uintTupleM 228 18446744073709551615 (Lib.parseUintB 64 (B s).data.toList) = .tuple #[.int .u64 v, .nilIface]) := Lib.hid (by rw [B_data, h]; rfl)
  clear h
  go_enter Tryz.func130, Tryz.ntmps130
  go_wp2_with (go_at_call 146; refine HC.out.mono ?_; rintro e w' ⟨rfl, hw⟩; rw [HE.out]; have HW := Lib.hid hw; clear hw)
  go_ret2
  refine ⟨?_, rfl⟩
  rcases HW.out with rfl | rfl
  · exact Below.refl _ _
  · exact bytes_below w _

theorem hDig_len20 {n : Nat} (h : n < 18446744073709551616) : (hDig n).length ≤ 20 := hDig_length 19 n (Nat.lt_of_lt_of_le h (by decide))
theorem hDig_lt18 {n : Nat} (h : (hDig n).length ≤ 18) : n < 1000000000000000000 := by
  have h1 := digVal_lt (hDig n) (hDig_dig n)
  rw [digVal_hDig] at h1
  have h2 : 10 ^ (hDig n).length ≤ 10 ^ 18 := Nat.pow_le_pow_right (by omega) h
  have e : (10 : Nat) ^ 18 = 1000000000000000000 := by decide
  omega
theorem hDig_first (n : Nat) : (hDig n)[0]? ≠ some 45 := by
  obtain ⟨c, r, hc, h1, h2⟩ := hDig_cons n
  rw [hc]
  intro e
  have : c = 45 := by simpa using e
  subst this
  revert h1; decide
theorem hDig_digs (n : Nat) : digsTo (hDig n) 0 (hDig n).length ∧ dv (hDig n) 0 (hDig n).length = n := by
  have := digs_in (a := []) (d := hDig n) (b := []) (s := hDig n) (o := 0) (m := (hDig n).length) (by simp) (hDig_dig n) rfl (by simp)
  rw [digVal_hDig] at this
  exact this
theorem min_digs (n : Nat) : digsTo (45 :: hDig n) 1 (45 :: hDig n).length ∧ dv (45 :: hDig n) 1 (45 :: hDig n).length = n := by
  have := digs_in (a := [45]) (d := hDig n) (b := []) (s := 45 :: hDig n) (o := 1) (m := (45 :: hDig n).length) (by simp) (hDig_dig n) rfl (by simp; omega)
  rw [digVal_hDig] at this
  exact this
theorem num_int (m : Bool) {n : Nat} (hn : n < 18446744073709551616) : NumP 113 (hNum m n) (.int .i64 0) ((hInt m n).map (.int .i64)) := by
  have hl20 := hDig_len20 hn
  have hp := hDig_pos n
  unfold hNum hInt
  by_cases hm : m = true ∧ 0 < n
  · rw [if_pos hm, if_pos hm]
    obtain ⟨hd, hv⟩ := min_digs n
    rw [dv_all] at hv
    have hlen : (45 :: hDig n).length = (hDig n).length + 1 := rfl
    by_cases hl : (45 :: hDig n).length ≤ 18
    · have := hDig_lt18 (n := n) (by omega)
      refine int64_minus (45 :: hDig n) (by omega) (by omega) rfl (fun m hm => Nat.le_trans hm.2.1 hl) _ (fun _ _ => ?_) fun hh => ?_
      · rw [if_neg (by omega), hv]; rfl
      · rcases hh with hh | hh
        · omega
        · exact absurd hd hh
    · have hb := intB_min hn
      by_cases hbig : 9223372036854775808 < n
      · rw [if_pos hbig] at hb ⊢
        exact int64_mfar_err _ (by omega) (by omega) rfl hd (by omega) _ (fun w hg => parseInt_range (by omega) hb w hg) rfl
      · rw [if_neg hbig] at hb ⊢
        exact int64_mfar_ok _ (by omega) (by omega) rfl hd (by omega) _ _ (fun w hg => parseInt_ok (by omega) hb w) rfl
  · rw [if_neg hm, if_neg hm]
    obtain ⟨hd, hv⟩ := hDig_digs n
    rw [dv_all] at hv
    by_cases hl : (hDig n).length ≤ 18
    · have := hDig_lt18 hl
      refine int64_plain (hDig n) (by omega) (by omega) (hDig_first n) (fun m hm => Nat.le_trans hm.2.1 hl) _ (fun _ _ => ?_) fun hh => ?_
      · rw [if_neg (by omega), hv]; rfl
      · rcases hh with hh | hh
        · omega
        · exact absurd hd hh
    · have hb := intB_dig hn
      by_cases hbig : 9223372036854775808 ≤ n
      · rw [if_pos hbig] at hb ⊢
        exact int64_far_err _ (by omega) (by omega) (hDig_first n) hd (by omega) _ (fun w hg => parseInt_range (by omega) hb w hg) rfl
      · rw [if_neg hbig] at hb ⊢
        exact int64_far_ok _ (by omega) (by omega) (hDig_first n) hd (by omega) _ _ (fun w hg => parseInt_ok (by omega) hb w) rfl
theorem num_uint (m : Bool) {n : Nat} (hn : n < 18446744073709551616) : NumP 114 (hNum m n) (.int .u64 0) ((hUint m n).map (.int .u64)) := by
  have hl20 := hDig_len20 hn
  have hp := hDig_pos n
  unfold hNum hUint
  by_cases hm : m = true ∧ 0 < n
  · rw [if_pos hm, if_pos hm]
    have hlen : (45 :: hDig n).length = (hDig n).length + 1 := rfl
    have hno : ∀ k, digsTo (45 :: hDig n) 0 k → k = 0 := by
      intro k hk
      rcases Nat.eq_zero_or_pos k with h | h
      · exact h
      · exact absurd (hk.2.2 0 45 (Nat.le_refl _) h rfl) (by decide)
    refine uint64_plain (45 :: hDig n) (by omega) (by omega) (fun k hk => by have := hno k hk; omega) _ (fun _ h => ?_) fun _ => rfl
    have := hno _ h
    simp at this
  · rw [if_neg hm, if_neg hm]
    obtain ⟨hd, hv⟩ := hDig_digs n
    rw [dv_all] at hv
    by_cases hl : (hDig n).length ≤ 18
    · refine uint64_plain (hDig n) (by omega) (by omega) (fun m hm => Nat.le_trans hm.2.1 hl) _ (fun _ _ => ?_) fun hh => ?_
      · rw [hv]; rfl
      · rcases hh with hh | hh
        · omega
        · exact absurd hd hh
    · exact uint64_far_ok _ (by omega) (by omega) hd (by omega) _ _ (fun w hg => parseUint_ok (by omega) (uintB_dig hn) w) rfl
end Go.Proofs.YtppkpcijmfdfmaaGreatDoor
