/- The walks of math.Pow10, and of fastfloat.Parse at a number with an exponent. -/
import Derived.Test.YtppkpcijmfdfmaaGreatDoorW86
import Derived.BigQuiet
import Derived.Deep.QuietTactic
set_option linter.unusedVariables false
set_option linter.unusedSimpArgs false
namespace Go.Proofs.YtppkpcijmfdfmaaGreatDoor
open Go.RowKit
attribute [local go_sem] B_size B_get B_lit B_ext_to B_ext B_toList B_app

theorem tenTo22_lt {X : Nat} {tv : Nat} (h : tenTo22[X]? = some tv) : X < 23 := (List.getElem?_eq_some_iff.1 h).1
theorem one_mul_ten : ∀ X, X < 23 → Ieee.double.mul 4607182418800017408 (tenTo22[X]?.getD 0) = tenTo22[X]? := by decide +kernel
set_option maxRecDepth 100000 in
set_option maxHeartbeats 1000000 in
theorem pow10_any (X tv : Nat) (ht : tenTo22[X]? = some tv) (w : World) (hg : Gw w) :
    Calls Tryz.prog 126 #[.int .i64 X] w fun e w' => e = .returned (.float .f64 tv) ∧ Below w.heap.size w w' := by
  have hX := tenTo22_lt ht
  have hm := one_mul_ten X hX
  rw [ht] at hm
  have hop : ∀ t w, (binOp .mul t (.float .f64 4607182418800017408) (.float .f64 tv)).run Tryz.prog w = .ok (.float .f64 tv) w := fun t w => run_float_arith w .mul t .f64 _ tv tv hm
  have c5 := hg.one
  have c6 := hg.ten _ _ ht
  have x1 : decide ((0 : Int) ≤ X) = true := by simp
  have x2 : decide ((X : Int) ≤ 308) = true := by simp; omega
  have x3 : (X : Int) / 32 = 0 := by omega
  have x4 : (X : Int) % 32 = X := by omega
  have x5 : (X : Int).tdiv 32 = 0 := by rw [Int.tdiv_eq_ediv_of_nonneg (by omega)]; omega
  have x6 : (X : Int).tmod 32 = X := by rw [Int.tmod_eq_emod_of_nonneg (by omega)]; omega
  clear hg ht hm
  go_enter Tryz.func126, Tryz.ntmps126
  go_wp2_with (fail)
  go_quiet (fail)
  go_wp2_with (fail)
  go_ret
  exact ⟨rfl, below_draws (Below.refl _ _) _⟩

set_option maxHeartbeats 1000000 in
set_option maxRecDepth 100000 in
theorem float_exp10 (s : Bs) (hlen : s.length < 4294967296) (hne : 0 < s.length) (h45 : s[0]? ≠ some 45) (k : Nat) (hok : 0 < k) (hk18 : k ≤ 18) (hd : digsTo s 0 k) (hE : s[k]? = some 101) (hx : digsTo s (k + 1) s.length) (hp : (k + 1) < s.length) (hp2 : s.length ≤ (k + 1) + 2) (X tv q : Nat) (hX : dv s (k + 1) s.length = X) (ht : tenTo22[X]? = some tv) (hq : Ieee.double.mul (floatOfInt .f64 ((dv s 0 k : Nat) : Int)) tv = some q) :
    NumP 110 s (.float .f64 0) (some (.float .f64 (q))) := by
  refine NumP.of' fun w hg => ?_
  have HG := Lib.hid hg
  have HDS := Lib.hid hd
  have HDX := Lib.hid hx
  clear hd hg hx
  have h0 : 0 < s.length := hne
  have z0 : ((s.length : Int) == 0) = false := by rw [beq_eq_false_iff_ne]; omega
  have z45 : ((s[0].toNat : Int) == 45) = false := (u8_facts 45 fun e => h45 (by rw [List.getElem?_eq_getElem h0, e])).1
  clear hne h45
  have hs0 : ¬ (s = []) := by rintro rfl; simp at h0
  have hO : 0 < s.length := by omega
  have z46 : ((s[0].toNat : Int) == 46) = false := by
    have h := (isDig_nat (c := s[0])).1 (HDS.out.2.2 0 _ (Nat.le_refl _) (by omega) (List.getElem?_eq_getElem hO))
    rw [beq_eq_false_iff_ne]; omega
  go_enter Tryz.func110, Tryz.ntmps110
  go_wp2
  go_loop [4, 6] (fun i d => ∃ m : Nat, Hid (digsTo s 0 m) ∧ m ≤ k ∧ 0 ≤ m ∧ i = .int .u64 (m : Int) ∧ d = .int .u64 (dv s 0 m : Nat)) (fun i _ => s.length - (intOf i).toNat)
  case atStart => exact ⟨0, digsTo_start s 0 (by omega), by omega, by omega, rfl, by rw [dv_start]; rfl⟩
  case round =>
    obtain ⟨m, HD, hn, hom, rfl, rfl⟩ := hrel
    by_cases hlt : m < k
    · have hlt' : m < s.length := by omega
      have hu : s[m]? = some s[m] := List.getElem?_eq_getElem hlt'
      have hd : isDig s[m] = true := HDS.out.2.2 m _ hom hlt hu
      obtain ⟨h1, h2⟩ := digsTo_step HD.out hu hd
      have hb := digsTo_lt HD.out (by omega)
      have hb2 := digsTo_lt h1 (by omega)
      have hcd := (isDig_nat (c := s[m])).1 hd
      have H1 := Lib.hid h1
      have hv : ((dv s 0 (m + 1) : Nat) : Int) = (dv s 0 m : Nat) * 10 + ((s[m].toNat : Int) - 48) := by omega
      generalize dv s 0 m = D at *
      have HV := Lib.hid hv
      have c48 : 48 ≤ (s[m].toNat : Int) := by omega
      have c57 : (s[m].toNat : Int) ≤ 57 := by omega
      have m18 : ¬ ((m : Int) + 1 > 18) := by omega
      clear h1 h2 hu hd hv hcd HD hb2
      go_wp2
      go_round
      case rel => exact ⟨m + 1, H1.out, by omega, by omega, by go_num, by rw [HV.out]⟩
      case measure => simp [intOf]; omega
    · obtain rfl : k = m := by omega
      have mo : ¬ ((k : Int) ≤ 0) := by omega
      clear hlt hn
      have hk1 : k + 1 < s.length := by omega
      have hkv : (s[k].toNat : Int) = 101 := by rw [List.getElem?_eq_getElem (by omega)] at hE; rw [Option.some.inj hE]; rfl
      have k46 : ((s[k].toNat : Int) == 46) = false := by rw [beq_eq_false_iff_ne]; omega
      have k101 : ((s[k].toNat : Int) == 101) = true := by rw [beq_iff_eq]; omega
      have k69 : ((s[k].toNat : Int) == 69) = false := by rw [beq_eq_false_iff_ne]; omega
      have k48 : 48 ≤ (s[k].toNat : Int) := by omega
      have k57 : ¬ ((s[k].toNat : Int) ≤ 57) := by omega
      have p1 : ¬ ((k : Int) ≥ (s.length : Int)) := by omega
      have p2 : ¬ ((k : Int) + 1 ≥ (s.length : Int)) := by omega
      have hsv := (isDig_nat (c := s[k + 1])).1 (HDX.out.2.2 (k + 1) _ (Nat.le_refl _) hk1 (List.getElem?_eq_getElem hk1))
      have k43 : ((s[k + 1].toNat : Int) == 43) = false := by rw [beq_eq_false_iff_ne]; omega
      have k45 : ((s[k + 1].toNat : Int) == 45) = false := by rw [beq_eq_false_iff_ne]; omega
      clear hsv
      have hop : ∀ t w, (binOp .mul t (.float .f64 (floatOfInt .f64 ((dv s 0 k : Nat) : Int))) (.float .f64 tv)).run Tryz.prog w = .ok (.float .f64 q) w := fun t w => run_float_arith w .mul t .f64 _ tv q hq
      clear HD hkv hq
      have hb0 := digsTo_lt HDS.out hk18
      generalize dv s 0 k = D at *
      go_wp2
      go_loop [4, 16] (fun i d => ∃ m : Nat, Hid (digsTo s (k + 1) m) ∧ m ≤ s.length ∧ (k + 1) ≤ m ∧ i = .int .u64 (m : Int) ∧ d = .int .i16 (dv s (k + 1) m : Nat)) (fun i _ => s.length - (intOf i).toNat)
      case atStart => exact ⟨(k + 1), digsTo_start s (k + 1) (by omega), by omega, by omega, by go_num, by rw [dv_start]; rfl⟩
      case round =>
        obtain ⟨m, HD, hn, hom2, rfl, rfl⟩ := hrel
        by_cases hlt : m < s.length
        · have hu : s[m]? = some s[m] := List.getElem?_eq_getElem hlt
          have hd : isDig s[m] = true := HDX.out.2.2 m _ hom2 hlt hu
          obtain ⟨h1, h2⟩ := digsTo_step HD.out hu hd
          have hb := digVal_lt _ (digsTo_mem HD.out)
          have hcd := (isDig_nat (c := s[m])).1 hd
          have H1 := Lib.hid h1
          have hv : ((dv s (k + 1) (m + 1) : Nat) : Int) = (dv s (k + 1) m : Nat) * 10 + ((s[m].toNat : Int) - 48) := by omega
          have hlen1 : ((s.drop (k + 1)).take (m - (k + 1))).length ≤ 1 := by rw [List.length_take]; omega
          have hb : dv s (k + 1) m < 10 := by
            refine Nat.lt_of_lt_of_le hb ?_
            have : 10 ^ ((s.drop (k + 1)).take (m - (k + 1))).length ≤ 10 ^ 1 := Nat.pow_le_pow_right (by omega) hlen1
            omega
          generalize dv s (k + 1) m = D2 at *
          have HV := Lib.hid hv
          have c48 : 48 ≤ (s[m].toNat : Int) := by omega
          have c57 : (s[m].toNat : Int) ≤ 57 := by omega
          have m300 : ¬ ((D2 : Int) * 10 + ((s[m].toNat : Int) - 48) > 300) := by omega
          clear h1 h2 hu hd hv hcd HD hlen1
          go_wp2
          go_round
          case rel => exact ⟨m + 1, H1.out, by omega, by omega, by go_num, by rw [HV.out]⟩
          case measure => simp [intOf]; omega
        · obtain rfl : s.length = m := by omega
          have mo2 : ¬ ((s.length : Int) ≤ (k : Int) + 1) := by omega
          have hdx : dv s (k + 1) s.length = X := hX
          have hX9 := tenTo22_lt ht
          have HP := Lib.hid (fun w => pow10_any X tv ht (w := w))
          rw [hdx]
          clear hlt hn HD hX hdx hom2
          go_wp2_with (go_at_call 126; refine (HP.out _ HG.out).mono ?_; rintro e w2 ⟨rfl, hb2⟩; have HB := Lib.hid hb2; clear hb2)
          go_ret2
          exact ⟨HB.out, NRes.ok _ rfl⟩

set_option maxHeartbeats 1000000 in
set_option maxRecDepth 100000 in
theorem float_exp11 (s : Bs) (hlen : s.length < 4294967296) (hne : 0 < s.length) (h45 : s[0]? ≠ some 45) (k : Nat) (hok : 0 < k) (hk18 : k ≤ 18) (hd : digsTo s 0 k) (hE : s[k]? = some 101) (hS : s[k + 1]? = some 43) (hx : digsTo s (k + 2) s.length) (hp : (k + 2) < s.length) (hp2 : s.length ≤ (k + 2) + 2) (X tv q : Nat) (hX : dv s (k + 2) s.length = X) (ht : tenTo22[X]? = some tv) (hq : Ieee.double.mul (floatOfInt .f64 ((dv s 0 k : Nat) : Int)) tv = some q) :
    NumP 110 s (.float .f64 0) (some (.float .f64 (q))) := by
  refine NumP.of' fun w hg => ?_
  have HG := Lib.hid hg
  have HDS := Lib.hid hd
  have HDX := Lib.hid hx
  clear hd hg hx
  have h0 : 0 < s.length := hne
  have z0 : ((s.length : Int) == 0) = false := by rw [beq_eq_false_iff_ne]; omega
  have z45 : ((s[0].toNat : Int) == 45) = false := (u8_facts 45 fun e => h45 (by rw [List.getElem?_eq_getElem h0, e])).1
  clear hne h45
  have hs0 : ¬ (s = []) := by rintro rfl; simp at h0
  have hO : 0 < s.length := by omega
  have z46 : ((s[0].toNat : Int) == 46) = false := by
    have h := (isDig_nat (c := s[0])).1 (HDS.out.2.2 0 _ (Nat.le_refl _) (by omega) (List.getElem?_eq_getElem hO))
    rw [beq_eq_false_iff_ne]; omega
  go_enter Tryz.func110, Tryz.ntmps110
  go_wp2
  go_loop [4, 6] (fun i d => ∃ m : Nat, Hid (digsTo s 0 m) ∧ m ≤ k ∧ 0 ≤ m ∧ i = .int .u64 (m : Int) ∧ d = .int .u64 (dv s 0 m : Nat)) (fun i _ => s.length - (intOf i).toNat)
  case atStart => exact ⟨0, digsTo_start s 0 (by omega), by omega, by omega, rfl, by rw [dv_start]; rfl⟩
  case round =>
    obtain ⟨m, HD, hn, hom, rfl, rfl⟩ := hrel
    by_cases hlt : m < k
    · have hlt' : m < s.length := by omega
      have hu : s[m]? = some s[m] := List.getElem?_eq_getElem hlt'
      have hd : isDig s[m] = true := HDS.out.2.2 m _ hom hlt hu
      obtain ⟨h1, h2⟩ := digsTo_step HD.out hu hd
      have hb := digsTo_lt HD.out (by omega)
      have hb2 := digsTo_lt h1 (by omega)
      have hcd := (isDig_nat (c := s[m])).1 hd
      have H1 := Lib.hid h1
      have hv : ((dv s 0 (m + 1) : Nat) : Int) = (dv s 0 m : Nat) * 10 + ((s[m].toNat : Int) - 48) := by omega
      generalize dv s 0 m = D at *
      have HV := Lib.hid hv
      have c48 : 48 ≤ (s[m].toNat : Int) := by omega
      have c57 : (s[m].toNat : Int) ≤ 57 := by omega
      have m18 : ¬ ((m : Int) + 1 > 18) := by omega
      clear h1 h2 hu hd hv hcd HD hb2
      go_wp2
      go_round
      case rel => exact ⟨m + 1, H1.out, by omega, by omega, by go_num, by rw [HV.out]⟩
      case measure => simp [intOf]; omega
    · obtain rfl : k = m := by omega
      have mo : ¬ ((k : Int) ≤ 0) := by omega
      clear hlt hn
      have hk1 : k + 1 < s.length := by omega
      have hkv : (s[k].toNat : Int) = 101 := by rw [List.getElem?_eq_getElem (by omega)] at hE; rw [Option.some.inj hE]; rfl
      have k46 : ((s[k].toNat : Int) == 46) = false := by rw [beq_eq_false_iff_ne]; omega
      have k101 : ((s[k].toNat : Int) == 101) = true := by rw [beq_iff_eq]; omega
      have k69 : ((s[k].toNat : Int) == 69) = false := by rw [beq_eq_false_iff_ne]; omega
      have k48 : 48 ≤ (s[k].toNat : Int) := by omega
      have k57 : ¬ ((s[k].toNat : Int) ≤ 57) := by omega
      have p1 : ¬ ((k : Int) ≥ (s.length : Int)) := by omega
      have p2 : ¬ ((k : Int) + 1 ≥ (s.length : Int)) := by omega
      have hsv : (s[k + 1].toNat : Int) = 43 := by rw [List.getElem?_eq_getElem hk1] at hS; rw [Option.some.inj hS]; rfl
      have k43 : ((s[k + 1].toNat : Int) == 43) = true := by rw [beq_iff_eq]; omega
      have k45 : ((s[k + 1].toNat : Int) == 45) = false := by rw [beq_eq_false_iff_ne]; omega
      have p3 : ¬ ((k : Int) + 1 + 1 ≥ (s.length : Int)) := by omega
      clear hsv
      have hop : ∀ t w, (binOp .mul t (.float .f64 (floatOfInt .f64 ((dv s 0 k : Nat) : Int))) (.float .f64 tv)).run Tryz.prog w = .ok (.float .f64 q) w := fun t w => run_float_arith w .mul t .f64 _ tv q hq
      clear HD hkv hq
      have hb0 := digsTo_lt HDS.out hk18
      generalize dv s 0 k = D at *
      go_wp2
      go_loop [4, 16] (fun i d => ∃ m : Nat, Hid (digsTo s (k + 2) m) ∧ m ≤ s.length ∧ (k + 2) ≤ m ∧ i = .int .u64 (m : Int) ∧ d = .int .i16 (dv s (k + 2) m : Nat)) (fun i _ => s.length - (intOf i).toNat)
      case atStart => exact ⟨(k + 2), digsTo_start s (k + 2) (by omega), by omega, by omega, by go_num, by rw [dv_start]; rfl⟩
      case round =>
        obtain ⟨m, HD, hn, hom2, rfl, rfl⟩ := hrel
        by_cases hlt : m < s.length
        · have hu : s[m]? = some s[m] := List.getElem?_eq_getElem hlt
          have hd : isDig s[m] = true := HDX.out.2.2 m _ hom2 hlt hu
          obtain ⟨h1, h2⟩ := digsTo_step HD.out hu hd
          have hb := digVal_lt _ (digsTo_mem HD.out)
          have hcd := (isDig_nat (c := s[m])).1 hd
          have H1 := Lib.hid h1
          have hv : ((dv s (k + 2) (m + 1) : Nat) : Int) = (dv s (k + 2) m : Nat) * 10 + ((s[m].toNat : Int) - 48) := by omega
          have hlen1 : ((s.drop (k + 2)).take (m - (k + 2))).length ≤ 1 := by rw [List.length_take]; omega
          have hb : dv s (k + 2) m < 10 := by
            refine Nat.lt_of_lt_of_le hb ?_
            have : 10 ^ ((s.drop (k + 2)).take (m - (k + 2))).length ≤ 10 ^ 1 := Nat.pow_le_pow_right (by omega) hlen1
            omega
          generalize dv s (k + 2) m = D2 at *
          have HV := Lib.hid hv
          have c48 : 48 ≤ (s[m].toNat : Int) := by omega
          have c57 : (s[m].toNat : Int) ≤ 57 := by omega
          have m300 : ¬ ((D2 : Int) * 10 + ((s[m].toNat : Int) - 48) > 300) := by omega
          clear h1 h2 hu hd hv hcd HD hlen1
          go_wp2
          go_round
          case rel => exact ⟨m + 1, H1.out, by omega, by omega, by go_num, by rw [HV.out]⟩
          case measure => simp [intOf]; omega
        · obtain rfl : s.length = m := by omega
          have mo2 : ¬ ((s.length : Int) ≤ (k : Int) + 1 + 1) := by omega
          have hdx : dv s (k + 2) s.length = X := hX
          have hX9 := tenTo22_lt ht
          have HP := Lib.hid (fun w => pow10_any X tv ht (w := w))
          rw [hdx]
          clear hlt hn HD hX hdx hom2
          go_wp2_with (go_at_call 126; refine (HP.out _ HG.out).mono ?_; rintro e w2 ⟨rfl, hb2⟩; have HB := Lib.hid hb2; clear hb2)
          go_ret2
          exact ⟨HB.out, NRes.ok _ rfl⟩

set_option maxHeartbeats 1000000 in
set_option maxRecDepth 100000 in
theorem float_exp00 (s : Bs) (hlen : s.length < 4294967296) (hne : 0 < s.length) (h45 : s[0]? ≠ some 45) (k : Nat) (hok : 0 < k) (hk18 : k ≤ 18) (hd : digsTo s 0 k) (hE : s[k]? = some 69) (hx : digsTo s (k + 1) s.length) (hp : (k + 1) < s.length) (hp2 : s.length ≤ (k + 1) + 2) (X tv q : Nat) (hX : dv s (k + 1) s.length = X) (ht : tenTo22[X]? = some tv) (hq : Ieee.double.mul (floatOfInt .f64 ((dv s 0 k : Nat) : Int)) tv = some q) :
    NumP 110 s (.float .f64 0) (some (.float .f64 (q))) := by
  refine NumP.of' fun w hg => ?_
  have HG := Lib.hid hg
  have HDS := Lib.hid hd
  have HDX := Lib.hid hx
  clear hd hg hx
  have h0 : 0 < s.length := hne
  have z0 : ((s.length : Int) == 0) = false := by rw [beq_eq_false_iff_ne]; omega
  have z45 : ((s[0].toNat : Int) == 45) = false := (u8_facts 45 fun e => h45 (by rw [List.getElem?_eq_getElem h0, e])).1
  clear hne h45
  have hs0 : ¬ (s = []) := by rintro rfl; simp at h0
  have hO : 0 < s.length := by omega
  have z46 : ((s[0].toNat : Int) == 46) = false := by
    have h := (isDig_nat (c := s[0])).1 (HDS.out.2.2 0 _ (Nat.le_refl _) (by omega) (List.getElem?_eq_getElem hO))
    rw [beq_eq_false_iff_ne]; omega
  go_enter Tryz.func110, Tryz.ntmps110
  go_wp2
  go_loop [4, 6] (fun i d => ∃ m : Nat, Hid (digsTo s 0 m) ∧ m ≤ k ∧ 0 ≤ m ∧ i = .int .u64 (m : Int) ∧ d = .int .u64 (dv s 0 m : Nat)) (fun i _ => s.length - (intOf i).toNat)
  case atStart => exact ⟨0, digsTo_start s 0 (by omega), by omega, by omega, rfl, by rw [dv_start]; rfl⟩
  case round =>
    obtain ⟨m, HD, hn, hom, rfl, rfl⟩ := hrel
    by_cases hlt : m < k
    · have hlt' : m < s.length := by omega
      have hu : s[m]? = some s[m] := List.getElem?_eq_getElem hlt'
      have hd : isDig s[m] = true := HDS.out.2.2 m _ hom hlt hu
      obtain ⟨h1, h2⟩ := digsTo_step HD.out hu hd
      have hb := digsTo_lt HD.out (by omega)
      have hb2 := digsTo_lt h1 (by omega)
      have hcd := (isDig_nat (c := s[m])).1 hd
      have H1 := Lib.hid h1
      have hv : ((dv s 0 (m + 1) : Nat) : Int) = (dv s 0 m : Nat) * 10 + ((s[m].toNat : Int) - 48) := by omega
      generalize dv s 0 m = D at *
      have HV := Lib.hid hv
      have c48 : 48 ≤ (s[m].toNat : Int) := by omega
      have c57 : (s[m].toNat : Int) ≤ 57 := by omega
      have m18 : ¬ ((m : Int) + 1 > 18) := by omega
      clear h1 h2 hu hd hv hcd HD hb2
      go_wp2
      go_round
      case rel => exact ⟨m + 1, H1.out, by omega, by omega, by go_num, by rw [HV.out]⟩
      case measure => simp [intOf]; omega
    · obtain rfl : k = m := by omega
      have mo : ¬ ((k : Int) ≤ 0) := by omega
      clear hlt hn
      have hk1 : k + 1 < s.length := by omega
      have hkv : (s[k].toNat : Int) = 69 := by rw [List.getElem?_eq_getElem (by omega)] at hE; rw [Option.some.inj hE]; rfl
      have k46 : ((s[k].toNat : Int) == 46) = false := by rw [beq_eq_false_iff_ne]; omega
      have k101 : ((s[k].toNat : Int) == 101) = false := by rw [beq_eq_false_iff_ne]; omega
      have k69 : ((s[k].toNat : Int) == 69) = true := by rw [beq_iff_eq]; omega
      have k48 : 48 ≤ (s[k].toNat : Int) := by omega
      have k57 : ¬ ((s[k].toNat : Int) ≤ 57) := by omega
      have p1 : ¬ ((k : Int) ≥ (s.length : Int)) := by omega
      have p2 : ¬ ((k : Int) + 1 ≥ (s.length : Int)) := by omega
      have hsv := (isDig_nat (c := s[k + 1])).1 (HDX.out.2.2 (k + 1) _ (Nat.le_refl _) hk1 (List.getElem?_eq_getElem hk1))
      have k43 : ((s[k + 1].toNat : Int) == 43) = false := by rw [beq_eq_false_iff_ne]; omega
      have k45 : ((s[k + 1].toNat : Int) == 45) = false := by rw [beq_eq_false_iff_ne]; omega
      clear hsv
      have hop : ∀ t w, (binOp .mul t (.float .f64 (floatOfInt .f64 ((dv s 0 k : Nat) : Int))) (.float .f64 tv)).run Tryz.prog w = .ok (.float .f64 q) w := fun t w => run_float_arith w .mul t .f64 _ tv q hq
      clear HD hkv hq
      have hb0 := digsTo_lt HDS.out hk18
      generalize dv s 0 k = D at *
      go_wp2
      go_loop [4, 16] (fun i d => ∃ m : Nat, Hid (digsTo s (k + 1) m) ∧ m ≤ s.length ∧ (k + 1) ≤ m ∧ i = .int .u64 (m : Int) ∧ d = .int .i16 (dv s (k + 1) m : Nat)) (fun i _ => s.length - (intOf i).toNat)
      case atStart => exact ⟨(k + 1), digsTo_start s (k + 1) (by omega), by omega, by omega, by go_num, by rw [dv_start]; rfl⟩
      case round =>
        obtain ⟨m, HD, hn, hom2, rfl, rfl⟩ := hrel
        by_cases hlt : m < s.length
        · have hu : s[m]? = some s[m] := List.getElem?_eq_getElem hlt
          have hd : isDig s[m] = true := HDX.out.2.2 m _ hom2 hlt hu
          obtain ⟨h1, h2⟩ := digsTo_step HD.out hu hd
          have hb := digVal_lt _ (digsTo_mem HD.out)
          have hcd := (isDig_nat (c := s[m])).1 hd
          have H1 := Lib.hid h1
          have hv : ((dv s (k + 1) (m + 1) : Nat) : Int) = (dv s (k + 1) m : Nat) * 10 + ((s[m].toNat : Int) - 48) := by omega
          have hlen1 : ((s.drop (k + 1)).take (m - (k + 1))).length ≤ 1 := by rw [List.length_take]; omega
          have hb : dv s (k + 1) m < 10 := by
            refine Nat.lt_of_lt_of_le hb ?_
            have : 10 ^ ((s.drop (k + 1)).take (m - (k + 1))).length ≤ 10 ^ 1 := Nat.pow_le_pow_right (by omega) hlen1
            omega
          generalize dv s (k + 1) m = D2 at *
          have HV := Lib.hid hv
          have c48 : 48 ≤ (s[m].toNat : Int) := by omega
          have c57 : (s[m].toNat : Int) ≤ 57 := by omega
          have m300 : ¬ ((D2 : Int) * 10 + ((s[m].toNat : Int) - 48) > 300) := by omega
          clear h1 h2 hu hd hv hcd HD hlen1
          go_wp2
          go_round
          case rel => exact ⟨m + 1, H1.out, by omega, by omega, by go_num, by rw [HV.out]⟩
          case measure => simp [intOf]; omega
        · obtain rfl : s.length = m := by omega
          have mo2 : ¬ ((s.length : Int) ≤ (k : Int) + 1) := by omega
          have hdx : dv s (k + 1) s.length = X := hX
          have hX9 := tenTo22_lt ht
          have HP := Lib.hid (fun w => pow10_any X tv ht (w := w))
          rw [hdx]
          clear hlt hn HD hX hdx hom2
          go_wp2_with (go_at_call 126; refine (HP.out _ HG.out).mono ?_; rintro e w2 ⟨rfl, hb2⟩; have HB := Lib.hid hb2; clear hb2)
          go_ret2
          exact ⟨HB.out, NRes.ok _ rfl⟩

set_option maxHeartbeats 1000000 in
set_option maxRecDepth 100000 in
theorem float_exp01 (s : Bs) (hlen : s.length < 4294967296) (hne : 0 < s.length) (h45 : s[0]? ≠ some 45) (k : Nat) (hok : 0 < k) (hk18 : k ≤ 18) (hd : digsTo s 0 k) (hE : s[k]? = some 69) (hS : s[k + 1]? = some 43) (hx : digsTo s (k + 2) s.length) (hp : (k + 2) < s.length) (hp2 : s.length ≤ (k + 2) + 2) (X tv q : Nat) (hX : dv s (k + 2) s.length = X) (ht : tenTo22[X]? = some tv) (hq : Ieee.double.mul (floatOfInt .f64 ((dv s 0 k : Nat) : Int)) tv = some q) :
    NumP 110 s (.float .f64 0) (some (.float .f64 (q))) := by
  refine NumP.of' fun w hg => ?_
  have HG := Lib.hid hg
  have HDS := Lib.hid hd
  have HDX := Lib.hid hx
  clear hd hg hx
  have h0 : 0 < s.length := hne
  have z0 : ((s.length : Int) == 0) = false := by rw [beq_eq_false_iff_ne]; omega
  have z45 : ((s[0].toNat : Int) == 45) = false := (u8_facts 45 fun e => h45 (by rw [List.getElem?_eq_getElem h0, e])).1
  clear hne h45
  have hs0 : ¬ (s = []) := by rintro rfl; simp at h0
  have hO : 0 < s.length := by omega
  have z46 : ((s[0].toNat : Int) == 46) = false := by
    have h := (isDig_nat (c := s[0])).1 (HDS.out.2.2 0 _ (Nat.le_refl _) (by omega) (List.getElem?_eq_getElem hO))
    rw [beq_eq_false_iff_ne]; omega
  go_enter Tryz.func110, Tryz.ntmps110
  go_wp2
  go_loop [4, 6] (fun i d => ∃ m : Nat, Hid (digsTo s 0 m) ∧ m ≤ k ∧ 0 ≤ m ∧ i = .int .u64 (m : Int) ∧ d = .int .u64 (dv s 0 m : Nat)) (fun i _ => s.length - (intOf i).toNat)
  case atStart => exact ⟨0, digsTo_start s 0 (by omega), by omega, by omega, rfl, by rw [dv_start]; rfl⟩
  case round =>
    obtain ⟨m, HD, hn, hom, rfl, rfl⟩ := hrel
    by_cases hlt : m < k
    · have hlt' : m < s.length := by omega
      have hu : s[m]? = some s[m] := List.getElem?_eq_getElem hlt'
      have hd : isDig s[m] = true := HDS.out.2.2 m _ hom hlt hu
      obtain ⟨h1, h2⟩ := digsTo_step HD.out hu hd
      have hb := digsTo_lt HD.out (by omega)
      have hb2 := digsTo_lt h1 (by omega)
      have hcd := (isDig_nat (c := s[m])).1 hd
      have H1 := Lib.hid h1
      have hv : ((dv s 0 (m + 1) : Nat) : Int) = (dv s 0 m : Nat) * 10 + ((s[m].toNat : Int) - 48) := by omega
      generalize dv s 0 m = D at *
      have HV := Lib.hid hv
      have c48 : 48 ≤ (s[m].toNat : Int) := by omega
      have c57 : (s[m].toNat : Int) ≤ 57 := by omega
      have m18 : ¬ ((m : Int) + 1 > 18) := by omega
      clear h1 h2 hu hd hv hcd HD hb2
      go_wp2
      go_round
      case rel => exact ⟨m + 1, H1.out, by omega, by omega, by go_num, by rw [HV.out]⟩
      case measure => simp [intOf]; omega
    · obtain rfl : k = m := by omega
      have mo : ¬ ((k : Int) ≤ 0) := by omega
      clear hlt hn
      have hk1 : k + 1 < s.length := by omega
      have hkv : (s[k].toNat : Int) = 69 := by rw [List.getElem?_eq_getElem (by omega)] at hE; rw [Option.some.inj hE]; rfl
      have k46 : ((s[k].toNat : Int) == 46) = false := by rw [beq_eq_false_iff_ne]; omega
      have k101 : ((s[k].toNat : Int) == 101) = false := by rw [beq_eq_false_iff_ne]; omega
      have k69 : ((s[k].toNat : Int) == 69) = true := by rw [beq_iff_eq]; omega
      have k48 : 48 ≤ (s[k].toNat : Int) := by omega
      have k57 : ¬ ((s[k].toNat : Int) ≤ 57) := by omega
      have p1 : ¬ ((k : Int) ≥ (s.length : Int)) := by omega
      have p2 : ¬ ((k : Int) + 1 ≥ (s.length : Int)) := by omega
      have hsv : (s[k + 1].toNat : Int) = 43 := by rw [List.getElem?_eq_getElem hk1] at hS; rw [Option.some.inj hS]; rfl
      have k43 : ((s[k + 1].toNat : Int) == 43) = true := by rw [beq_iff_eq]; omega
      have k45 : ((s[k + 1].toNat : Int) == 45) = false := by rw [beq_eq_false_iff_ne]; omega
      have p3 : ¬ ((k : Int) + 1 + 1 ≥ (s.length : Int)) := by omega
      clear hsv
      have hop : ∀ t w, (binOp .mul t (.float .f64 (floatOfInt .f64 ((dv s 0 k : Nat) : Int))) (.float .f64 tv)).run Tryz.prog w = .ok (.float .f64 q) w := fun t w => run_float_arith w .mul t .f64 _ tv q hq
      clear HD hkv hq
      have hb0 := digsTo_lt HDS.out hk18
      generalize dv s 0 k = D at *
      go_wp2
      go_loop [4, 16] (fun i d => ∃ m : Nat, Hid (digsTo s (k + 2) m) ∧ m ≤ s.length ∧ (k + 2) ≤ m ∧ i = .int .u64 (m : Int) ∧ d = .int .i16 (dv s (k + 2) m : Nat)) (fun i _ => s.length - (intOf i).toNat)
      case atStart => exact ⟨(k + 2), digsTo_start s (k + 2) (by omega), by omega, by omega, by go_num, by rw [dv_start]; rfl⟩
      case round =>
        obtain ⟨m, HD, hn, hom2, rfl, rfl⟩ := hrel
        by_cases hlt : m < s.length
        · have hu : s[m]? = some s[m] := List.getElem?_eq_getElem hlt
          have hd : isDig s[m] = true := HDX.out.2.2 m _ hom2 hlt hu
          obtain ⟨h1, h2⟩ := digsTo_step HD.out hu hd
          have hb := digVal_lt _ (digsTo_mem HD.out)
          have hcd := (isDig_nat (c := s[m])).1 hd
          have H1 := Lib.hid h1
          have hv : ((dv s (k + 2) (m + 1) : Nat) : Int) = (dv s (k + 2) m : Nat) * 10 + ((s[m].toNat : Int) - 48) := by omega
          have hlen1 : ((s.drop (k + 2)).take (m - (k + 2))).length ≤ 1 := by rw [List.length_take]; omega
          have hb : dv s (k + 2) m < 10 := by
            refine Nat.lt_of_lt_of_le hb ?_
            have : 10 ^ ((s.drop (k + 2)).take (m - (k + 2))).length ≤ 10 ^ 1 := Nat.pow_le_pow_right (by omega) hlen1
            omega
          generalize dv s (k + 2) m = D2 at *
          have HV := Lib.hid hv
          have c48 : 48 ≤ (s[m].toNat : Int) := by omega
          have c57 : (s[m].toNat : Int) ≤ 57 := by omega
          have m300 : ¬ ((D2 : Int) * 10 + ((s[m].toNat : Int) - 48) > 300) := by omega
          clear h1 h2 hu hd hv hcd HD hlen1
          go_wp2
          go_round
          case rel => exact ⟨m + 1, H1.out, by omega, by omega, by go_num, by rw [HV.out]⟩
          case measure => simp [intOf]; omega
        · obtain rfl : s.length = m := by omega
          have mo2 : ¬ ((s.length : Int) ≤ (k : Int) + 1 + 1) := by omega
          have hdx : dv s (k + 2) s.length = X := hX
          have hX9 := tenTo22_lt ht
          have HP := Lib.hid (fun w => pow10_any X tv ht (w := w))
          rw [hdx]
          clear hlt hn HD hX hdx hom2
          go_wp2_with (go_at_call 126; refine (HP.out _ HG.out).mono ?_; rintro e w2 ⟨rfl, hb2⟩; have HB := Lib.hid hb2; clear hb2)
          go_ret2
          exact ⟨HB.out, NRes.ok _ rfl⟩
end Go.Proofs.YtppkpcijmfdfmaaGreatDoor
