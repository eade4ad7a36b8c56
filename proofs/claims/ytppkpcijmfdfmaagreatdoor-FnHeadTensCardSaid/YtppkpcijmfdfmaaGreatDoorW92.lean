/- The walk of FnHeadTens. -/
import Derived.Test.YtppkpcijmfdfmaaGreatDoorW91
namespace Go.Proofs.YtppkpcijmfdfmaaGreatDoor
open Go.RowKit
attribute [local go_sem] B_size B_get B_lit B_ext_to B_ext B_toList B_app

theorem ten_step : ∀ i, i < 22 → Ieee.double.mul (tenTo22[i]?.getD 0) 4621819117588971520 = tenTo22[i + 1]? := by decide +kernel
theorem ten_read : ∀ i, i < 23 → (match Ieee.double.read (tenTo22[i]?.getD 0) with | .number _ m _ => m != 0 | _ => false) = true := by decide +kernel
theorem ten_mul (n k tv : Nat) (ht : tenTo22[k]? = some tv) : ∃ q, Ieee.double.mul (floatOfInt .f64 (n : Int)) tv = some q ∧ (FloatKind.f64.format.order q q == some .eq) = true := by
  have h := ten_read k (tenTo22_lt ht)
  rw [ht, Option.getD_some] at h
  split at h
  · rename_i s m p hr
    exact mul_self (of_int_read n) hr (by simpa using h)
  · cases h

set_option maxRecDepth 100000 in
set_option maxHeartbeats 4000000 in
theorem tens_walk {n e : Nat} {cap plus : Bool} {w : World} (hG : Base w) (hn : n < 18446744073709551616) (he : e < 256) :
    Calls Tryz.prog 5 #[.int .u64 n, .int .u8 e, .bool cap, .bool plus] w fun e w' => e = .returned (.bool true) ∧ Below w.heap.size w w' := by
  obtain ⟨k, hk⟩ : ∃ k, k = e % 23 := ⟨_, rfl⟩
  obtain ⟨m, hm⟩ : ∃ m, m = n % 9007199254740992 := ⟨_, rfl⟩
  have hk23 : k < 23 := by omega
  have hm53 : m < 9007199254740992 := by omega
  have k1 : (e : Int) % 23 = (k : Int) := by omega
  have k2 : (e : Int).tmod 23 = (k : Int) := by rw [Int.tmod_eq_emod_of_nonneg (by omega)]; omega
  have m1 : bits .and .u64 (n : Int) 9007199254740991 = (m : Int) := by
    have h := bits_mask .u64 64 (by decide) wraps_u64 53 (by decide) (n : Int) (by omega) (by omega)
    have h2 : (2 : Int) ^ 53 = 9007199254740992 := by decide
    rw [h2] at h
    rw [show (9007199254740991 : Int) = 9007199254740992 - 1 by omega, h]
    omega
  obtain ⟨tv, ht⟩ : ∃ tv, tenTo22[k]? = some tv := ⟨_, List.getElem?_eq_getElem hk23⟩
  obtain ⟨q, hq, hqq⟩ := ten_mul m k tv ht
  have PN := Lib.hid (print_num m (by omega))
  have PK := Lib.hid (print_num k (by omega))
  have HT := Lib.hid ht
  have HQ := Lib.hid hq
  have l1 : (hDig m).length ≤ 16 := hDig_length 15 m (by omega)
  have l2 : (hDig k).length ≤ 2 := hDig_length 1 k (by omega)
  clear hk hm ht hq
  cases cap <;> cases plus
  · go_enter Tryz.func5, Tryz.ntmps5
    go_wp2_with (fail)
    refine (PN.out _).mono ?_
    rintro e1 w1 ⟨rfl, hb1⟩
    have H1 := Lib.hid hb1
    clear hb1
    go_wp2_with (fail)
    refine (PK.out _).mono ?_
    rintro e2 w2 ⟨rfl, hb2⟩
    have H2 := Lib.hid (H1.out.trans (hb2.mono H1.out.size))
    clear hb2
    go_wp2_with (fail)
    go_loop [12, 35] (fun x i => ∃ j tj : Nat, j ≤ k ∧ Hid (tenTo22[j]? = some tj) ∧ i = .int .i64 (j : Int) ∧ x = .float .f64 tj) (fun _ i => k - (intOf i).toNat)
    case atStart => exact ⟨0, _, by omega, Lib.hid rfl, rfl, rfl⟩
    case round =>
      obtain ⟨j, tj, hj, hT, rfl, rfl⟩ := hrel
      by_cases hlt : j < k
      · obtain ⟨t1, ht1⟩ : ∃ t1, tenTo22[j + 1]? = some t1 := ⟨_, List.getElem?_eq_getElem (show j + 1 < 23 by omega)⟩
        have hs := ten_step j (by omega)
        rw [hT.out, ht1, Option.getD_some] at hs
        have hop : ∀ t w, (binOp .mul t (.float .f64 tj) (.float .f64 4621819117588971520)).run Tryz.prog w = .ok (.float .f64 t1) w := fun t w => run_float_arith w .mul t .f64 tj _ t1 hs
        have HT1 := Lib.hid ht1
        clear hs ht1
        go_wp2
        go_round
        case rel => exact ⟨j + 1, t1, by omega, HT1.out, by go_num, rfl⟩
        case measure => simp [intOf]; omega
      · obtain rfl : k = j := by omega
        obtain rfl : tv = tj := Option.some.inj (HT.out.symm.trans hT.out)
        have hop : ∀ t w, (binOp .mul t (.float .f64 (floatOfInt .f64 (m : Int))) (.float .f64 tv)).run Tryz.prog w = .ok (.float .f64 q) w := fun t w => run_float_arith w .mul t .f64 _ tv q HQ.out
        have HX : Hid (NumP 110 (hDig m ++ 101 :: hDig k) (.float .f64 0) (some (.float .f64 q)) ∧ Numeral (hDig m ++ 101 :: hDig k)) := by
          have h1 := exp_read m k (by omega) false false tv q HT.out HQ.out
          have h2 := exp_numeral m k (sgnOf false false) (sgn_ch _ _)
          rw [show expText m (sgnOf false false) k = hDig m ++ 101 :: hDig k by simp [expText, sgnOf]] at h1 h2
          exact ⟨h1, h2⟩
        have lX : (hDig m ++ 101 :: hDig k).length ≤ 20 := by simp; omega
        generalize hDig m ++ 101 :: hDig k = X at *
        obtain ⟨v, w3, hcv, hba, hb3⟩ := conv_bytes w2 (123 :: 34 :: 97 :: 34 :: 58 :: (X ++ [125]))
        have H3 := Lib.hid (H2.out.trans (hb3.mono H2.out.size))
        have HBA : Hid (BA w3 v (oneText X)) := by rw [show oneText X = 123 :: 34 :: 97 :: 34 :: 58 :: (X ++ [125]) by simp [oneText]]; exact hba
        have HCALL := Lib.hid (headFloat_one HX.out.1 HX.out.2 (by omega) HBA.out (hG.below H3.out))
        clear hba hb3 HBA
        go_wp2_with (fail)
        refine HCALL.out.mono ?_
        rintro e3 w4 ⟨rfl, hb4⟩
        have H4 := Lib.hid (H3.out.trans (hb4.mono H3.out.size))
        have LIVE := Lib.hid (live_any w4 (hG.below H4.out))
        clear hb4
        go_wp2_with (fail)
        refine LIVE.out.mono ?_
        rintro e4 w5 ⟨rfl, hb5⟩
        have H5 := Lib.hid (H4.out.trans (hb5.mono H4.out.size))
        clear hb5
        go_wp2_with (fail)
        go_ret
        exact ⟨rfl, H5.out⟩
  · go_enter Tryz.func5, Tryz.ntmps5
    go_wp2_with (fail)
    refine (PN.out _).mono ?_
    rintro e1 w1 ⟨rfl, hb1⟩
    have H1 := Lib.hid hb1
    clear hb1
    go_wp2_with (fail)
    refine (PK.out _).mono ?_
    rintro e2 w2 ⟨rfl, hb2⟩
    have H2 := Lib.hid (H1.out.trans (hb2.mono H1.out.size))
    clear hb2
    go_wp2_with (fail)
    go_loop [12, 35] (fun x i => ∃ j tj : Nat, j ≤ k ∧ Hid (tenTo22[j]? = some tj) ∧ i = .int .i64 (j : Int) ∧ x = .float .f64 tj) (fun _ i => k - (intOf i).toNat)
    case atStart => exact ⟨0, _, by omega, Lib.hid rfl, rfl, rfl⟩
    case round =>
      obtain ⟨j, tj, hj, hT, rfl, rfl⟩ := hrel
      by_cases hlt : j < k
      · obtain ⟨t1, ht1⟩ : ∃ t1, tenTo22[j + 1]? = some t1 := ⟨_, List.getElem?_eq_getElem (show j + 1 < 23 by omega)⟩
        have hs := ten_step j (by omega)
        rw [hT.out, ht1, Option.getD_some] at hs
        have hop : ∀ t w, (binOp .mul t (.float .f64 tj) (.float .f64 4621819117588971520)).run Tryz.prog w = .ok (.float .f64 t1) w := fun t w => run_float_arith w .mul t .f64 tj _ t1 hs
        have HT1 := Lib.hid ht1
        clear hs ht1
        go_wp2
        go_round
        case rel => exact ⟨j + 1, t1, by omega, HT1.out, by go_num, rfl⟩
        case measure => simp [intOf]; omega
      · obtain rfl : k = j := by omega
        obtain rfl : tv = tj := Option.some.inj (HT.out.symm.trans hT.out)
        have hop : ∀ t w, (binOp .mul t (.float .f64 (floatOfInt .f64 (m : Int))) (.float .f64 tv)).run Tryz.prog w = .ok (.float .f64 q) w := fun t w => run_float_arith w .mul t .f64 _ tv q HQ.out
        have HX : Hid (NumP 110 (hDig m ++ 101 :: 43 :: hDig k) (.float .f64 0) (some (.float .f64 q)) ∧ Numeral (hDig m ++ 101 :: 43 :: hDig k)) := by
          have h1 := exp_read m k (by omega) false true tv q HT.out HQ.out
          have h2 := exp_numeral m k (sgnOf false true) (sgn_ch _ _)
          rw [show expText m (sgnOf false true) k = hDig m ++ 101 :: 43 :: hDig k by simp [expText, sgnOf]] at h1 h2
          exact ⟨h1, h2⟩
        have lX : (hDig m ++ 101 :: 43 :: hDig k).length ≤ 20 := by simp; omega
        generalize hDig m ++ 101 :: 43 :: hDig k = X at *
        obtain ⟨v, w3, hcv, hba, hb3⟩ := conv_bytes w2 (123 :: 34 :: 97 :: 34 :: 58 :: (X ++ [125]))
        have H3 := Lib.hid (H2.out.trans (hb3.mono H2.out.size))
        have HBA : Hid (BA w3 v (oneText X)) := by rw [show oneText X = 123 :: 34 :: 97 :: 34 :: 58 :: (X ++ [125]) by simp [oneText]]; exact hba
        have HCALL := Lib.hid (headFloat_one HX.out.1 HX.out.2 (by omega) HBA.out (hG.below H3.out))
        clear hba hb3 HBA
        go_wp2_with (fail)
        refine HCALL.out.mono ?_
        rintro e3 w4 ⟨rfl, hb4⟩
        have H4 := Lib.hid (H3.out.trans (hb4.mono H3.out.size))
        have LIVE := Lib.hid (live_any w4 (hG.below H4.out))
        clear hb4
        go_wp2_with (fail)
        refine LIVE.out.mono ?_
        rintro e4 w5 ⟨rfl, hb5⟩
        have H5 := Lib.hid (H4.out.trans (hb5.mono H4.out.size))
        clear hb5
        go_wp2_with (fail)
        go_ret
        exact ⟨rfl, H5.out⟩
  · go_enter Tryz.func5, Tryz.ntmps5
    go_wp2_with (fail)
    refine (PN.out _).mono ?_
    rintro e1 w1 ⟨rfl, hb1⟩
    have H1 := Lib.hid hb1
    clear hb1
    go_wp2_with (fail)
    refine (PK.out _).mono ?_
    rintro e2 w2 ⟨rfl, hb2⟩
    have H2 := Lib.hid (H1.out.trans (hb2.mono H1.out.size))
    clear hb2
    go_wp2_with (fail)
    go_loop [12, 35] (fun x i => ∃ j tj : Nat, j ≤ k ∧ Hid (tenTo22[j]? = some tj) ∧ i = .int .i64 (j : Int) ∧ x = .float .f64 tj) (fun _ i => k - (intOf i).toNat)
    case atStart => exact ⟨0, _, by omega, Lib.hid rfl, rfl, rfl⟩
    case round =>
      obtain ⟨j, tj, hj, hT, rfl, rfl⟩ := hrel
      by_cases hlt : j < k
      · obtain ⟨t1, ht1⟩ : ∃ t1, tenTo22[j + 1]? = some t1 := ⟨_, List.getElem?_eq_getElem (show j + 1 < 23 by omega)⟩
        have hs := ten_step j (by omega)
        rw [hT.out, ht1, Option.getD_some] at hs
        have hop : ∀ t w, (binOp .mul t (.float .f64 tj) (.float .f64 4621819117588971520)).run Tryz.prog w = .ok (.float .f64 t1) w := fun t w => run_float_arith w .mul t .f64 tj _ t1 hs
        have HT1 := Lib.hid ht1
        clear hs ht1
        go_wp2
        go_round
        case rel => exact ⟨j + 1, t1, by omega, HT1.out, by go_num, rfl⟩
        case measure => simp [intOf]; omega
      · obtain rfl : k = j := by omega
        obtain rfl : tv = tj := Option.some.inj (HT.out.symm.trans hT.out)
        have hop : ∀ t w, (binOp .mul t (.float .f64 (floatOfInt .f64 (m : Int))) (.float .f64 tv)).run Tryz.prog w = .ok (.float .f64 q) w := fun t w => run_float_arith w .mul t .f64 _ tv q HQ.out
        have HX : Hid (NumP 110 (hDig m ++ 69 :: hDig k) (.float .f64 0) (some (.float .f64 q)) ∧ Numeral (hDig m ++ 69 :: hDig k)) := by
          have h1 := exp_read m k (by omega) true false tv q HT.out HQ.out
          have h2 := exp_numeral m k (sgnOf true false) (sgn_ch _ _)
          rw [show expText m (sgnOf true false) k = hDig m ++ 69 :: hDig k by simp [expText, sgnOf]] at h1 h2
          exact ⟨h1, h2⟩
        have lX : (hDig m ++ 69 :: hDig k).length ≤ 20 := by simp; omega
        generalize hDig m ++ 69 :: hDig k = X at *
        obtain ⟨v, w3, hcv, hba, hb3⟩ := conv_bytes w2 (123 :: 34 :: 97 :: 34 :: 58 :: (X ++ [125]))
        have H3 := Lib.hid (H2.out.trans (hb3.mono H2.out.size))
        have HBA : Hid (BA w3 v (oneText X)) := by rw [show oneText X = 123 :: 34 :: 97 :: 34 :: 58 :: (X ++ [125]) by simp [oneText]]; exact hba
        have HCALL := Lib.hid (headFloat_one HX.out.1 HX.out.2 (by omega) HBA.out (hG.below H3.out))
        clear hba hb3 HBA
        go_wp2_with (fail)
        refine HCALL.out.mono ?_
        rintro e3 w4 ⟨rfl, hb4⟩
        have H4 := Lib.hid (H3.out.trans (hb4.mono H3.out.size))
        have LIVE := Lib.hid (live_any w4 (hG.below H4.out))
        clear hb4
        go_wp2_with (fail)
        refine LIVE.out.mono ?_
        rintro e4 w5 ⟨rfl, hb5⟩
        have H5 := Lib.hid (H4.out.trans (hb5.mono H4.out.size))
        clear hb5
        go_wp2_with (fail)
        go_ret
        exact ⟨rfl, H5.out⟩
  · go_enter Tryz.func5, Tryz.ntmps5
    go_wp2_with (fail)
    refine (PN.out _).mono ?_
    rintro e1 w1 ⟨rfl, hb1⟩
    have H1 := Lib.hid hb1
    clear hb1
    go_wp2_with (fail)
    refine (PK.out _).mono ?_
    rintro e2 w2 ⟨rfl, hb2⟩
    have H2 := Lib.hid (H1.out.trans (hb2.mono H1.out.size))
    clear hb2
    go_wp2_with (fail)
    go_loop [12, 35] (fun x i => ∃ j tj : Nat, j ≤ k ∧ Hid (tenTo22[j]? = some tj) ∧ i = .int .i64 (j : Int) ∧ x = .float .f64 tj) (fun _ i => k - (intOf i).toNat)
    case atStart => exact ⟨0, _, by omega, Lib.hid rfl, rfl, rfl⟩
    case round =>
      obtain ⟨j, tj, hj, hT, rfl, rfl⟩ := hrel
      by_cases hlt : j < k
      · obtain ⟨t1, ht1⟩ : ∃ t1, tenTo22[j + 1]? = some t1 := ⟨_, List.getElem?_eq_getElem (show j + 1 < 23 by omega)⟩
        have hs := ten_step j (by omega)
        rw [hT.out, ht1, Option.getD_some] at hs
        have hop : ∀ t w, (binOp .mul t (.float .f64 tj) (.float .f64 4621819117588971520)).run Tryz.prog w = .ok (.float .f64 t1) w := fun t w => run_float_arith w .mul t .f64 tj _ t1 hs
        have HT1 := Lib.hid ht1
        clear hs ht1
        go_wp2
        go_round
        case rel => exact ⟨j + 1, t1, by omega, HT1.out, by go_num, rfl⟩
        case measure => simp [intOf]; omega
      · obtain rfl : k = j := by omega
        obtain rfl : tv = tj := Option.some.inj (HT.out.symm.trans hT.out)
        have hop : ∀ t w, (binOp .mul t (.float .f64 (floatOfInt .f64 (m : Int))) (.float .f64 tv)).run Tryz.prog w = .ok (.float .f64 q) w := fun t w => run_float_arith w .mul t .f64 _ tv q HQ.out
        have HX : Hid (NumP 110 (hDig m ++ 69 :: 43 :: hDig k) (.float .f64 0) (some (.float .f64 q)) ∧ Numeral (hDig m ++ 69 :: 43 :: hDig k)) := by
          have h1 := exp_read m k (by omega) true true tv q HT.out HQ.out
          have h2 := exp_numeral m k (sgnOf true true) (sgn_ch _ _)
          rw [show expText m (sgnOf true true) k = hDig m ++ 69 :: 43 :: hDig k by simp [expText, sgnOf]] at h1 h2
          exact ⟨h1, h2⟩
        have lX : (hDig m ++ 69 :: 43 :: hDig k).length ≤ 20 := by simp; omega
        generalize hDig m ++ 69 :: 43 :: hDig k = X at *
        obtain ⟨v, w3, hcv, hba, hb3⟩ := conv_bytes w2 (123 :: 34 :: 97 :: 34 :: 58 :: (X ++ [125]))
        have H3 := Lib.hid (H2.out.trans (hb3.mono H2.out.size))
        have HBA : Hid (BA w3 v (oneText X)) := by rw [show oneText X = 123 :: 34 :: 97 :: 34 :: 58 :: (X ++ [125]) by simp [oneText]]; exact hba
        have HCALL := Lib.hid (headFloat_one HX.out.1 HX.out.2 (by omega) HBA.out (hG.below H3.out))
        clear hba hb3 HBA
        go_wp2_with (fail)
        refine HCALL.out.mono ?_
        rintro e3 w4 ⟨rfl, hb4⟩
        have H4 := Lib.hid (H3.out.trans (hb4.mono H3.out.size))
        have LIVE := Lib.hid (live_any w4 (hG.below H4.out))
        clear hb4
        go_wp2_with (fail)
        refine LIVE.out.mono ?_
        rintro e4 w5 ⟨rfl, hb5⟩
        have H5 := Lib.hid (H4.out.trans (hb5.mono H4.out.size))
        clear hb5
        go_wp2_with (fail)
        go_ret
        exact ⟨rfl, H5.out⟩
end Go.Proofs.YtppkpcijmfdfmaaGreatDoor
