/- The walk of fastfloat.Parse. -/
import Derived.Test.YtppkpcijmfdfmaaGreatDoorW86
set_option linter.unusedVariables false
set_option linter.unusedSimpArgs false
namespace Go.Proofs.YtppkpcijmfdfmaaGreatDoor
open Go.RowKit
attribute [local go_sem] B_size B_get B_lit B_ext_to B_ext B_toList B_app

@[local go_sem] theorem run_fneg (x : Nat) (w : World) : (Op.unary .neg (.float .f64 x)).run Tryz.prog w = .ok (.float .f64 (Op.negFloat .f64 x)) w := rfl

set_option maxHeartbeats 1000000 in
set_option maxRecDepth 100000 in
theorem float_whole0 (s : Bs) (hlen : s.length < 4294967296) (hne : 0 < s.length) (h45 : s[0]? ≠ some 45) (hd : digsTo s 0 s.length) (hl : s.length ≤ 18) (D : Nat) (hD : digVal (s.drop 0) = D) :
    NumP 110 s (.float .f64 0) (some (.float .f64 (floatOfInt .f64 (D : Int)))) := by
  refine NumP.of' fun w hg => ?_
  have HG := Lib.hid hg
  have HDS := Lib.hid hd
  clear hd hg
  have h0 : 0 < s.length := hne
  have z0 : ((s.length : Int) == 0) = false := by rw [beq_eq_false_iff_ne]; omega
  have z45 : ((s[0].toNat : Int) == 45) = false := (u8_facts 45 fun e => h45 (by rw [List.getElem?_eq_getElem h0, e])).1
  clear hne h45
  have hs0 : ¬ (s = []) := by rintro rfl; simp at h0
  have hO : 0 < s.length := by omega
  have z46 : ((s[0].toNat : Int) == 46) = false := by
    have h := (isDig_nat (c := s[0])).1 (HDS.out.2.2 0 _ (Nat.le_refl _) (by omega) (List.getElem?_eq_getElem hO))
    rw [beq_eq_false_iff_ne]; omega
  go_enter Tryz.func110, Tryz.ntmps110
  go_wp2
  go_loop [4, 6] (fun i d => ∃ m : Nat, Hid (digsTo s 0 m) ∧ m ≤ s.length ∧ 0 ≤ m ∧ i = .int .u64 (m : Int) ∧ d = .int .u64 (dv s 0 m : Nat)) (fun i _ => s.length - (intOf i).toNat)
  case atStart => exact ⟨0, digsTo_start s 0 (by omega), by omega, by omega, rfl, by rw [dv_start]; rfl⟩
  case round =>
    obtain ⟨m, HD, hn, hom, rfl, rfl⟩ := hrel
    by_cases hlt : m < s.length
    · have hlt' : m < s.length := by omega
      have hu : s[m]? = some s[m] := List.getElem?_eq_getElem hlt'
      have hd : isDig s[m] = true := HDS.out.2.2 m _ hom hlt hu
      obtain ⟨h1, h2⟩ := digsTo_step HD.out hu hd
      have hb := digsTo_lt HD.out (by omega)
      have hb2 := digsTo_lt h1 (by omega)
      have hcd := (isDig_nat (c := s[m])).1 hd
      have H1 := Lib.hid h1
      have hv : ((dv s 0 (m + 1) : Nat) : Int) = (dv s 0 m : Nat) * 10 + ((s[m].toNat : Int) - 48) := by omega
      generalize dv s 0 m = D at *
      have HV := Lib.hid hv
      have c48 : 48 ≤ (s[m].toNat : Int) := by omega
      have c57 : (s[m].toNat : Int) ≤ 57 := by omega
      have m18 : ¬ ((m : Int) + 1 > 18) := by omega
      clear h1 h2 hu hd hv hcd HD hb2
      go_wp2
      go_round
      case rel => exact ⟨m + 1, H1.out, by omega, by omega, by go_num, by rw [HV.out]⟩
      case measure => simp [intOf]; omega
    · obtain rfl : s.length = m := by omega
      have mo : ¬ ((s.length : Int) ≤ 0) := by omega
      clear hlt hn
      have hd : dv s 0 s.length = digVal (s.drop 0) := dv_all s 0
      have hb := digsTo_lt HDS.out (by omega)
      rw [hd, hD] at hb
      rw [hd, hD]
      clear HD hd hD
      go_wp2
      go_ret2
      exact ⟨Below.refl _ _, NRes.ok _ rfl⟩

set_option maxHeartbeats 1000000 in
set_option maxRecDepth 100000 in
theorem float_point0 (s : Bs) (hlen : s.length < 4294967296) (hne : 0 < s.length) (h45 : s[0]? ≠ some 45) (k : Nat) (hok : 0 < k) (hd : digsTo s 0 k) (h46 : s[k]? = some 46) (s' : Bs) (hs' : ∀ i u, k < i → s[i]? = some u → s'[i - 1]? = some u) (hpre : dv s 0 k = dv s' 0 k) (hd' : digsTo s' 0 (s.length - 1)) (hk : k + 1 < s.length) (hl : s.length ≤ 0 + 16) (tv q : Nat) (ht : tenTo16[s.length - (k + 1)]? = some tv) (hq : Ieee.double.div (floatOfInt .f64 ((dv s' 0 (s.length - 1) : Nat) : Int)) tv = some q) :
    NumP 110 s (.float .f64 0) (some (.float .f64 (q))) := by
  refine NumP.of' fun w hg => ?_
  have HG := Lib.hid hg
  have HDS := Lib.hid hd
  have HDS2 := Lib.hid hd'
  clear hd hd' hg
  have h0 : 0 < s.length := hne
  have z0 : ((s.length : Int) == 0) = false := by rw [beq_eq_false_iff_ne]; omega
  have z45 : ((s[0].toNat : Int) == 45) = false := (u8_facts 45 fun e => h45 (by rw [List.getElem?_eq_getElem h0, e])).1
  clear hne h45
  have hs0 : ¬ (s = []) := by rintro rfl; simp at h0
  have hO : 0 < s.length := by omega
  have z46 : ((s[0].toNat : Int) == 46) = false := by
    have h := (isDig_nat (c := s[0])).1 (HDS.out.2.2 0 _ (Nat.le_refl _) (by omega) (List.getElem?_eq_getElem hO))
    rw [beq_eq_false_iff_ne]; omega
  go_enter Tryz.func110, Tryz.ntmps110
  go_wp2
  go_loop [4, 6] (fun i d => ∃ m : Nat, Hid (digsTo s 0 m) ∧ m ≤ k ∧ 0 ≤ m ∧ i = .int .u64 (m : Int) ∧ d = .int .u64 (dv s 0 m : Nat)) (fun i _ => s.length - (intOf i).toNat)
  case atStart => exact ⟨0, digsTo_start s 0 (by omega), by omega, by omega, rfl, by rw [dv_start]; rfl⟩
  case round =>
    obtain ⟨m, HD, hn, hom, rfl, rfl⟩ := hrel
    by_cases hlt : m < k
    · have hlt' : m < s.length := by omega
      have hu : s[m]? = some s[m] := List.getElem?_eq_getElem hlt'
      have hd : isDig s[m] = true := HDS.out.2.2 m _ hom hlt hu
      obtain ⟨h1, h2⟩ := digsTo_step HD.out hu hd
      have hb := digsTo_lt HD.out (by omega)
      have hb2 := digsTo_lt h1 (by omega)
      have hcd := (isDig_nat (c := s[m])).1 hd
      have H1 := Lib.hid h1
      have hv : ((dv s 0 (m + 1) : Nat) : Int) = (dv s 0 m : Nat) * 10 + ((s[m].toNat : Int) - 48) := by omega
      generalize dv s 0 m = D at *
      have HV := Lib.hid hv
      have c48 : 48 ≤ (s[m].toNat : Int) := by omega
      have c57 : (s[m].toNat : Int) ≤ 57 := by omega
      have m18 : ¬ ((m : Int) + 1 > 18) := by omega
      clear h1 h2 hu hd hv hcd HD hb2
      go_wp2
      go_round
      case rel => exact ⟨m + 1, H1.out, by omega, by omega, by go_num, by rw [HV.out]⟩
      case measure => simp [intOf]; omega
    · obtain rfl : k = m := by omega
      have mo : ¬ ((k : Int) ≤ 0) := by omega
      clear hlt hn
      have hk1 : k + 1 < s.length := hk
      have hkc : ((s[k].toNat : Int) == 46) = true := by rw [beq_iff_eq]; rw [List.getElem?_eq_getElem (by omega)] at h46; rw [Option.some.inj h46]; rfl
      have hk48 : ¬ (48 ≤ (s[k].toNat : Int)) := by have := beq_iff_eq.1 hkc; omega
      have p1 : ¬ ((k : Int) ≥ (s.length : Int)) := by omega
      have p2 : ¬ ((k : Int) + 1 ≥ (s.length : Int)) := by omega
      have hpre' : dv s 0 k = dv s' 0 (k + 1 - 1) := hpre
      clear HD
      go_wp2
      go_loop [4, 6] (fun i d => ∃ m : Nat, m ≤ s.length ∧ k + 1 ≤ m ∧ i = .int .u64 (m : Int) ∧ d = .int .u64 (dv s' 0 (m - 1) : Nat)) (fun i _ => s.length - (intOf i).toNat)
      case atStart => exact ⟨k + 1, by omega, by omega, by go_num, by simp [hpre]⟩
      case round =>
        obtain ⟨m, hn, hom2, rfl, rfl⟩ := hrel
        by_cases hlt : m < s.length
        · have hu0 : s[m]? = some s[m] := List.getElem?_eq_getElem hlt
          have hu : s'[m - 1]? = some s[m] := hs' m _ (by omega) hu0
          have hd : isDig s[m] = true := HDS2.out.2.2 (m - 1) _ (by omega) (by omega) hu
          have hD : digsTo s' 0 (m - 1) := ⟨by omega, by have := HDS2.out.2.1; omega, fun i u h1 h2 => HDS2.out.2.2 i u h1 (by omega)⟩
          obtain ⟨h1, h2⟩ := digsTo_step hD hu hd
          have hb := digsTo_lt hD (by omega)
          have hb2 := digsTo_lt h1 (by omega)
          have hcd := (isDig_nat (c := s[m])).1 hd
          rw [show m - 1 + 1 = m + 1 - 1 by omega] at h2 hb2
          have hv : ((dv s' 0 (m + 1 - 1) : Nat) : Int) = (dv s' 0 (m - 1) : Nat) * 10 + ((s[m].toNat : Int) - 48) := by omega
          generalize dv s' 0 (m - 1) = D at *
          have HV := Lib.hid hv
          have c48 : 48 ≤ (s[m].toNat : Int) := by omega
          have c57 : (s[m].toNat : Int) ≤ 57 := by omega
          have m18 : ¬ ((m : Int) + 1 - 0 ≥ 17) := by omega
          clear h1 h2 hu hd hv hcd hD hb2
          go_wp2
          go_round
          case rel => exact ⟨m + 1, by omega, by omega, by go_num, by rw [HV.out]⟩
          case measure => simp [intOf]; omega
        · obtain rfl : s.length = m := by omega
          have m12 : ¬ ((s.length : Int) < (k : Int) + 1) := by omega
          clear hlt hn
          have hix : ((s.length : Int) - ((k : Int) + 1)).toNat = s.length - (k + 1) := by omega
          have hcell := HG.out.ff _ _ ht
          have hop : ∀ t w, (binOp .quo t (.float .f64 (floatOfInt .f64 ((dv s' 0 (s.length - 1) : Nat) : Int))) (.float .f64 tv)).run Tryz.prog w = .ok (.float .f64 q) w := fun t w => run_float_arith w .quo t .f64 _ tv q hq
          clear hq ht
          generalize dv s' 0 (s.length - 1) = D at *
          go_wp2
          go_ret2
          exact ⟨Below.refl _ _, NRes.ok _ rfl⟩

set_option maxHeartbeats 1000000 in
set_option maxRecDepth 100000 in
theorem float_whole1 (s : Bs) (hlen : s.length < 4294967296) (hne : 1 < s.length) (h45 : s[0]? = some 45) (hd : digsTo s 1 s.length) (hl : s.length ≤ 18) (D : Nat) (hD : digVal (s.drop 1) = D) :
    NumP 110 s (.float .f64 0) (some (.float .f64 (Op.negFloat .f64 (floatOfInt .f64 (D : Int))))) := by
  refine NumP.of' fun w hg => ?_
  have HG := Lib.hid hg
  have HDS := Lib.hid hd
  clear hd hg
  have h0 : 0 < s.length := by omega
  have z0 : ((s.length : Int) == 0) = false := by rw [beq_eq_false_iff_ne]; omega
  have z45 : ((s[0].toNat : Int) == 45) = true := by
    rw [List.getElem?_eq_getElem h0] at h45
    rw [beq_iff_eq, Option.some.inj h45]
    rfl
  have zl : ¬ ((1 : Int) ≥ (s.length : Int)) := by omega
  have zl2 : ¬ ((s.length : Int) ≤ 1) := by omega
  clear h45
  have hs0 : ¬ (s = []) := by rintro rfl; simp at h0
  have hO : 1 < s.length := by omega
  have z46 : ((s[1].toNat : Int) == 46) = false := by
    have h := (isDig_nat (c := s[1])).1 (HDS.out.2.2 1 _ (Nat.le_refl _) (by omega) (List.getElem?_eq_getElem hO))
    rw [beq_eq_false_iff_ne]; omega
  go_enter Tryz.func110, Tryz.ntmps110
  go_wp2
  go_loop [4, 6] (fun i d => ∃ m : Nat, Hid (digsTo s 1 m) ∧ m ≤ s.length ∧ 1 ≤ m ∧ i = .int .u64 (m : Int) ∧ d = .int .u64 (dv s 1 m : Nat)) (fun i _ => s.length - (intOf i).toNat)
  case atStart => exact ⟨1, digsTo_start s 1 (by omega), by omega, by omega, rfl, by rw [dv_start]; rfl⟩
  case round =>
    obtain ⟨m, HD, hn, hom, rfl, rfl⟩ := hrel
    by_cases hlt : m < s.length
    · have hlt' : m < s.length := by omega
      have hu : s[m]? = some s[m] := List.getElem?_eq_getElem hlt'
      have hd : isDig s[m] = true := HDS.out.2.2 m _ hom hlt hu
      obtain ⟨h1, h2⟩ := digsTo_step HD.out hu hd
      have hb := digsTo_lt HD.out (by omega)
      have hb2 := digsTo_lt h1 (by omega)
      have hcd := (isDig_nat (c := s[m])).1 hd
      have H1 := Lib.hid h1
      have hv : ((dv s 1 (m + 1) : Nat) : Int) = (dv s 1 m : Nat) * 10 + ((s[m].toNat : Int) - 48) := by omega
      generalize dv s 1 m = D at *
      have HV := Lib.hid hv
      have c48 : 48 ≤ (s[m].toNat : Int) := by omega
      have c57 : (s[m].toNat : Int) ≤ 57 := by omega
      have m18 : ¬ ((m : Int) + 1 > 18) := by omega
      clear h1 h2 hu hd hv hcd HD hb2
      go_wp2
      go_round
      case rel => exact ⟨m + 1, H1.out, by omega, by omega, by go_num, by rw [HV.out]⟩
      case measure => simp [intOf]; omega
    · obtain rfl : s.length = m := by omega
      have mo : ¬ ((s.length : Int) ≤ 1) := by omega
      clear hlt hn
      have hd : dv s 1 s.length = digVal (s.drop 1) := dv_all s 1
      have hb := digsTo_lt HDS.out (by omega)
      rw [hd, hD] at hb
      rw [hd, hD]
      clear HD hd hD
      go_wp2
      go_ret2
      exact ⟨Below.refl _ _, NRes.ok _ rfl⟩

set_option maxHeartbeats 1000000 in
set_option maxRecDepth 100000 in
theorem float_point1 (s : Bs) (hlen : s.length < 4294967296) (hne : 1 < s.length) (h45 : s[0]? = some 45) (k : Nat) (hok : 1 < k) (hd : digsTo s 1 k) (h46 : s[k]? = some 46) (s' : Bs) (hs' : ∀ i u, k < i → s[i]? = some u → s'[i - 1]? = some u) (hpre : dv s 1 k = dv s' 1 k) (hd' : digsTo s' 1 (s.length - 1)) (hk : k + 1 < s.length) (hl : s.length ≤ 1 + 16) (tv q : Nat) (ht : tenTo16[s.length - (k + 1)]? = some tv) (hq : Ieee.double.div (floatOfInt .f64 ((dv s' 1 (s.length - 1) : Nat) : Int)) tv = some q) :
    NumP 110 s (.float .f64 0) (some (.float .f64 (Op.negFloat .f64 (q)))) := by
  refine NumP.of' fun w hg => ?_
  have HG := Lib.hid hg
  have HDS := Lib.hid hd
  have HDS2 := Lib.hid hd'
  clear hd hd' hg
  have h0 : 0 < s.length := by omega
  have z0 : ((s.length : Int) == 0) = false := by rw [beq_eq_false_iff_ne]; omega
  have z45 : ((s[0].toNat : Int) == 45) = true := by
    rw [List.getElem?_eq_getElem h0] at h45
    rw [beq_iff_eq, Option.some.inj h45]
    rfl
  have zl : ¬ ((1 : Int) ≥ (s.length : Int)) := by omega
  have zl2 : ¬ ((s.length : Int) ≤ 1) := by omega
  clear h45
  have hs0 : ¬ (s = []) := by rintro rfl; simp at h0
  have hO : 1 < s.length := by omega
  have z46 : ((s[1].toNat : Int) == 46) = false := by
    have h := (isDig_nat (c := s[1])).1 (HDS.out.2.2 1 _ (Nat.le_refl _) (by omega) (List.getElem?_eq_getElem hO))
    rw [beq_eq_false_iff_ne]; omega
  go_enter Tryz.func110, Tryz.ntmps110
  go_wp2
  go_loop [4, 6] (fun i d => ∃ m : Nat, Hid (digsTo s 1 m) ∧ m ≤ k ∧ 1 ≤ m ∧ i = .int .u64 (m : Int) ∧ d = .int .u64 (dv s 1 m : Nat)) (fun i _ => s.length - (intOf i).toNat)
  case atStart => exact ⟨1, digsTo_start s 1 (by omega), by omega, by omega, rfl, by rw [dv_start]; rfl⟩
  case round =>
    obtain ⟨m, HD, hn, hom, rfl, rfl⟩ := hrel
    by_cases hlt : m < k
    · have hlt' : m < s.length := by omega
      have hu : s[m]? = some s[m] := List.getElem?_eq_getElem hlt'
      have hd : isDig s[m] = true := HDS.out.2.2 m _ hom hlt hu
      obtain ⟨h1, h2⟩ := digsTo_step HD.out hu hd
      have hb := digsTo_lt HD.out (by omega)
      have hb2 := digsTo_lt h1 (by omega)
      have hcd := (isDig_nat (c := s[m])).1 hd
      have H1 := Lib.hid h1
      have hv : ((dv s 1 (m + 1) : Nat) : Int) = (dv s 1 m : Nat) * 10 + ((s[m].toNat : Int) - 48) := by omega
      generalize dv s 1 m = D at *
      have HV := Lib.hid hv
      have c48 : 48 ≤ (s[m].toNat : Int) := by omega
      have c57 : (s[m].toNat : Int) ≤ 57 := by omega
      have m18 : ¬ ((m : Int) + 1 > 18) := by omega
      clear h1 h2 hu hd hv hcd HD hb2
      go_wp2
      go_round
      case rel => exact ⟨m + 1, H1.out, by omega, by omega, by go_num, by rw [HV.out]⟩
      case measure => simp [intOf]; omega
    · obtain rfl : k = m := by omega
      have mo : ¬ ((k : Int) ≤ 1) := by omega
      clear hlt hn
      have hk1 : k + 1 < s.length := hk
      have hkc : ((s[k].toNat : Int) == 46) = true := by rw [beq_iff_eq]; rw [List.getElem?_eq_getElem (by omega)] at h46; rw [Option.some.inj h46]; rfl
      have hk48 : ¬ (48 ≤ (s[k].toNat : Int)) := by have := beq_iff_eq.1 hkc; omega
      have p1 : ¬ ((k : Int) ≥ (s.length : Int)) := by omega
      have p2 : ¬ ((k : Int) + 1 ≥ (s.length : Int)) := by omega
      have hpre' : dv s 1 k = dv s' 1 (k + 1 - 1) := hpre
      clear HD
      go_wp2
      go_loop [4, 6] (fun i d => ∃ m : Nat, m ≤ s.length ∧ k + 1 ≤ m ∧ i = .int .u64 (m : Int) ∧ d = .int .u64 (dv s' 1 (m - 1) : Nat)) (fun i _ => s.length - (intOf i).toNat)
      case atStart => exact ⟨k + 1, by omega, by omega, by go_num, by simp [hpre]⟩
      case round =>
        obtain ⟨m, hn, hom2, rfl, rfl⟩ := hrel
        by_cases hlt : m < s.length
        · have hu0 : s[m]? = some s[m] := List.getElem?_eq_getElem hlt
          have hu : s'[m - 1]? = some s[m] := hs' m _ (by omega) hu0
          have hd : isDig s[m] = true := HDS2.out.2.2 (m - 1) _ (by omega) (by omega) hu
          have hD : digsTo s' 1 (m - 1) := ⟨by omega, by have := HDS2.out.2.1; omega, fun i u h1 h2 => HDS2.out.2.2 i u h1 (by omega)⟩
          obtain ⟨h1, h2⟩ := digsTo_step hD hu hd
          have hb := digsTo_lt hD (by omega)
          have hb2 := digsTo_lt h1 (by omega)
          have hcd := (isDig_nat (c := s[m])).1 hd
          rw [show m - 1 + 1 = m + 1 - 1 by omega] at h2 hb2
          have hv : ((dv s' 1 (m + 1 - 1) : Nat) : Int) = (dv s' 1 (m - 1) : Nat) * 10 + ((s[m].toNat : Int) - 48) := by omega
          generalize dv s' 1 (m - 1) = D at *
          have HV := Lib.hid hv
          have c48 : 48 ≤ (s[m].toNat : Int) := by omega
          have c57 : (s[m].toNat : Int) ≤ 57 := by omega
          have m18 : ¬ ((m : Int) + 1 - 1 ≥ 17) := by omega
          clear h1 h2 hu hd hv hcd hD hb2
          go_wp2
          go_round
          case rel => exact ⟨m + 1, by omega, by omega, by go_num, by rw [HV.out]⟩
          case measure => simp [intOf]; omega
        · obtain rfl : s.length = m := by omega
          have m12 : ¬ ((s.length : Int) < (k : Int) + 1) := by omega
          clear hlt hn
          have hix : ((s.length : Int) - ((k : Int) + 1)).toNat = s.length - (k + 1) := by omega
          have hcell := HG.out.ff _ _ ht
          have hop : ∀ t w, (binOp .quo t (.float .f64 (floatOfInt .f64 ((dv s' 1 (s.length - 1) : Nat) : Int))) (.float .f64 tv)).run Tryz.prog w = .ok (.float .f64 q) w := fun t w => run_float_arith w .quo t .f64 _ tv q hq
          clear hq ht
          generalize dv s' 1 (s.length - 1) = D at *
          go_wp2
          go_ret2
          exact ⟨Below.refl _ _, NRes.ok _ rfl⟩

end Go.Proofs.YtppkpcijmfdfmaaGreatDoor
