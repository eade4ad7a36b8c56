/- The walk of fastfloat.ParseInt64 and ParseUint64, past 18 bytes. -/
import Derived.Test.YtppkpcijmfdfmaaGreatDoorC14
set_option linter.unusedVariables false
set_option linter.unusedSimpArgs false
namespace Go.Proofs.YtppkpcijmfdfmaaGreatDoor
open Go.RowKit
attribute [local go_sem] B_size B_get B_lit B_ext_to B_ext B_toList B_app

theorem NumP.of' {f : Nat} {s : Bs} {z : Value} {r : Option Value} (h : ∀ w, Gw w → Calls Tryz.prog f #[.string (B s)] w fun e w' => Below w.heap.size w w' ∧ NRes z r e) : NumP f s z r := h

set_option maxHeartbeats 1000000 in
set_option maxRecDepth 100000 in
theorem int64_far_ok (s : Bs) (hlen : s.length < 4294967296) (hne : 0 < s.length) (h45 : s[0]? ≠ some 45) (hd : digsTo s 0 s.length) (hl : 18 < s.length) (r : Option Value) (v : Int)
    (hx : ∀ w, Gw w → Calls Tryz.prog 129 #[.string (B s), .int .i64 10, .int .i64 64] w fun e w' => Below w.heap.size w w' ∧ e = .returned (.tuple #[.int .i64 v, .nilIface])) (hr : r = some (.int .i64 v)) :
    NumP 113 s (.int .i64 0) r := by
  refine NumP.of' fun w hg => ?_
  have HX := Lib.hid (hx w hg)
  have HDS := Lib.hid hd
  clear hx hg hd
  have h0 : 0 < s.length := hne
  have z0 : ((s.length : Int) == 0) = false := by rw [beq_eq_false_iff_ne]; omega
  have z45 : ((s[0].toNat : Int) == 45) = false := (u8_facts 45 fun e => h45 (by rw [List.getElem?_eq_getElem h0, e])).1
  clear hne h45
  have hs0 : ¬ (s = []) := by rintro rfl; simp at h0
  go_enter Tryz.func113, Tryz.ntmps113
  go_wp2
  go_loop [4, 6] (fun i d => ∃ m : Nat, Hid (digsTo s 0 m) ∧ m ≤ s.length ∧ m ≤ 18 ∧ 0 ≤ m ∧ i = .int .u64 (m : Int) ∧ d = .int .i64 (dv s 0 m : Nat)) (fun i _ => s.length - (intOf i).toNat)
  case atStart => exact ⟨0, digsTo_start s 0 (by omega), by omega, by omega, by omega, rfl, by rw [dv_start]; rfl⟩
  case round =>
    obtain ⟨m, HD, hn, hn18, hom, rfl, rfl⟩ := hrel
    have hb := digsTo_lt HD.out hn18
    have hlt : m < s.length := by omega
    have hu : s[m]? = some s[m] := List.getElem?_eq_getElem hlt
    have hcd := isDig_nat (c := s[m])
    have hd : isDig s[m] = true := HDS.out.2.2 m _ hom hlt hu
    obtain ⟨h1, h2⟩ := digsTo_step HD.out hu hd
    have hcd := hcd.1 hd
    have H1 := Lib.hid h1
    have hv : ((dv s 0 (m + 1) : Nat) : Int) = (dv s 0 m : Nat) * 10 + ((s[m].toNat : Int) - 48) := by omega
    generalize dv s 0 m = D at *
    have HV := Lib.hid hv
    have c48 : 48 ≤ (s[m].toNat : Int) := by omega
    have c57 : (s[m].toNat : Int) ≤ 57 := by omega
    by_cases h18 : m < 18
    · have hb2 := digsTo_lt h1 (by omega)
      have m18 : ¬ ((m : Int) + 1 > 18) := by omega
      have w1 : wrap64 ((D : Int) * 10) = (D : Int) * 10 := by unfold wrap64; omega
      have w2 : wrap64 ((D : Int) * 10 + ((s[m].toNat : Int) - 48)) = (D : Int) * 10 + ((s[m].toNat : Int) - 48) := by unfold wrap64; omega
      clear h1 h2 hu hd hv hcd HD hb2
      go_wp2
      go_round
      case rel => exact ⟨m + 1, H1.out, by omega, by omega, by omega, by go_num, by rw [HV.out]; go_num⟩
      case measure => simp [intOf]; omega
    · obtain rfl : m = 18 := by omega
      clear h1 h2 hu hd hv hcd HD h18
      go_wp2_with (go_at_call 129; refine HX.out.mono ?_; rintro e w' ⟨hb', rfl⟩; have HB := Lib.hid hb'; clear hb')
      go_ret2
      exact ⟨HB.out, NRes.ok _ hr⟩

set_option maxHeartbeats 1000000 in
set_option maxRecDepth 100000 in
theorem int64_far_err (s : Bs) (hlen : s.length < 4294967296) (hne : 0 < s.length) (h45 : s[0]? ≠ some 45) (hd : digsTo s 0 s.length) (hl : 18 < s.length) (r : Option Value) 
    (hx : ∀ w, Gw w → Calls Tryz.prog 129 #[.string (B s), .int .i64 10, .int .i64 64] w fun e w' => Below w.heap.size w w' ∧ ∃ x T t, e = .returned (.tuple #[.int .i64 x, .iface T t])) (hr : r = none) :
    NumP 113 s (.int .i64 0) r := by
  refine NumP.of' fun w hg => ?_
  have HX := Lib.hid (hx w hg)
  have HDS := Lib.hid hd
  clear hx hg hd
  have h0 : 0 < s.length := hne
  have z0 : ((s.length : Int) == 0) = false := by rw [beq_eq_false_iff_ne]; omega
  have z45 : ((s[0].toNat : Int) == 45) = false := (u8_facts 45 fun e => h45 (by rw [List.getElem?_eq_getElem h0, e])).1
  clear hne h45
  have hs0 : ¬ (s = []) := by rintro rfl; simp at h0
  go_enter Tryz.func113, Tryz.ntmps113
  go_wp2
  go_loop [4, 6] (fun i d => ∃ m : Nat, Hid (digsTo s 0 m) ∧ m ≤ s.length ∧ m ≤ 18 ∧ 0 ≤ m ∧ i = .int .u64 (m : Int) ∧ d = .int .i64 (dv s 0 m : Nat)) (fun i _ => s.length - (intOf i).toNat)
  case atStart => exact ⟨0, digsTo_start s 0 (by omega), by omega, by omega, by omega, rfl, by rw [dv_start]; rfl⟩
  case round =>
    obtain ⟨m, HD, hn, hn18, hom, rfl, rfl⟩ := hrel
    have hb := digsTo_lt HD.out hn18
    have hlt : m < s.length := by omega
    have hu : s[m]? = some s[m] := List.getElem?_eq_getElem hlt
    have hcd := isDig_nat (c := s[m])
    have hd : isDig s[m] = true := HDS.out.2.2 m _ hom hlt hu
    obtain ⟨h1, h2⟩ := digsTo_step HD.out hu hd
    have hcd := hcd.1 hd
    have H1 := Lib.hid h1
    have hv : ((dv s 0 (m + 1) : Nat) : Int) = (dv s 0 m : Nat) * 10 + ((s[m].toNat : Int) - 48) := by omega
    generalize dv s 0 m = D at *
    have HV := Lib.hid hv
    have c48 : 48 ≤ (s[m].toNat : Int) := by omega
    have c57 : (s[m].toNat : Int) ≤ 57 := by omega
    by_cases h18 : m < 18
    · have hb2 := digsTo_lt h1 (by omega)
      have m18 : ¬ ((m : Int) + 1 > 18) := by omega
      have w1 : wrap64 ((D : Int) * 10) = (D : Int) * 10 := by unfold wrap64; omega
      have w2 : wrap64 ((D : Int) * 10 + ((s[m].toNat : Int) - 48)) = (D : Int) * 10 + ((s[m].toNat : Int) - 48) := by unfold wrap64; omega
      clear h1 h2 hu hd hv hcd HD hb2
      go_wp2
      go_round
      case rel => exact ⟨m + 1, H1.out, by omega, by omega, by omega, by go_num, by rw [HV.out]; go_num⟩
      case measure => simp [intOf]; omega
    · obtain rfl : m = 18 := by omega
      clear h1 h2 hu hd hv hcd HD h18
      go_wp2_with (go_at_call 129; refine HX.out.mono ?_; rintro e w' ⟨hb', x, T, t, rfl⟩; have HB := Lib.hid hb'; clear hb')
      go_ret2
      exact ⟨HB.out, NRes.err _ _ hr⟩

set_option maxHeartbeats 1000000 in
set_option maxRecDepth 100000 in
theorem int64_mfar_ok (s : Bs) (hlen : s.length < 4294967296) (hne : 1 < s.length) (h45 : s[0]? = some 45) (hd : digsTo s 1 s.length) (hl : 18 < s.length) (r : Option Value) (v : Int)
    (hx : ∀ w, Gw w → Calls Tryz.prog 129 #[.string (B s), .int .i64 10, .int .i64 64] w fun e w' => Below w.heap.size w w' ∧ e = .returned (.tuple #[.int .i64 v, .nilIface])) (hr : r = some (.int .i64 v)) :
    NumP 113 s (.int .i64 0) r := by
  refine NumP.of' fun w hg => ?_
  have HX := Lib.hid (hx w hg)
  have HDS := Lib.hid hd
  clear hx hg hd
  have h0 : 0 < s.length := by omega
  have z0 : ((s.length : Int) == 0) = false := by rw [beq_eq_false_iff_ne]; omega
  have z45 : ((s[0].toNat : Int) == 45) = true := by
    rw [List.getElem?_eq_getElem h0] at h45
    rw [beq_iff_eq, Option.some.inj h45]
    rfl
  have zl : ¬ ((1 : Int) ≥ (s.length : Int)) := by omega
  have zl2 : ¬ ((s.length : Int) ≤ 1) := by omega
  clear h45
  have hs0 : ¬ (s = []) := by rintro rfl; simp at h0
  go_enter Tryz.func113, Tryz.ntmps113
  go_wp2
  go_loop [4, 6] (fun i d => ∃ m : Nat, Hid (digsTo s 1 m) ∧ m ≤ s.length ∧ m ≤ 18 ∧ 1 ≤ m ∧ i = .int .u64 (m : Int) ∧ d = .int .i64 (dv s 1 m : Nat)) (fun i _ => s.length - (intOf i).toNat)
  case atStart => exact ⟨1, digsTo_start s 1 (by omega), by omega, by omega, by omega, rfl, by rw [dv_start]; rfl⟩
  case round =>
    obtain ⟨m, HD, hn, hn18, hom, rfl, rfl⟩ := hrel
    have hb := digsTo_lt HD.out hn18
    have hlt : m < s.length := by omega
    have hu : s[m]? = some s[m] := List.getElem?_eq_getElem hlt
    have hcd := isDig_nat (c := s[m])
    have hd : isDig s[m] = true := HDS.out.2.2 m _ hom hlt hu
    obtain ⟨h1, h2⟩ := digsTo_step HD.out hu hd
    have hcd := hcd.1 hd
    have H1 := Lib.hid h1
    have hv : ((dv s 1 (m + 1) : Nat) : Int) = (dv s 1 m : Nat) * 10 + ((s[m].toNat : Int) - 48) := by omega
    generalize dv s 1 m = D at *
    have HV := Lib.hid hv
    have c48 : 48 ≤ (s[m].toNat : Int) := by omega
    have c57 : (s[m].toNat : Int) ≤ 57 := by omega
    by_cases h18 : m < 18
    · have hb2 := digsTo_lt h1 (by omega)
      have m18 : ¬ ((m : Int) + 1 > 18) := by omega
      have w1 : wrap64 ((D : Int) * 10) = (D : Int) * 10 := by unfold wrap64; omega
      have w2 : wrap64 ((D : Int) * 10 + ((s[m].toNat : Int) - 48)) = (D : Int) * 10 + ((s[m].toNat : Int) - 48) := by unfold wrap64; omega
      clear h1 h2 hu hd hv hcd HD hb2
      go_wp2
      go_round
      case rel => exact ⟨m + 1, H1.out, by omega, by omega, by omega, by go_num, by rw [HV.out]; go_num⟩
      case measure => simp [intOf]; omega
    · obtain rfl : m = 18 := by omega
      clear h1 h2 hu hd hv hcd HD h18
      go_wp2_with (go_at_call 129; refine HX.out.mono ?_; rintro e w' ⟨hb', rfl⟩; have HB := Lib.hid hb'; clear hb')
      go_ret2
      exact ⟨HB.out, NRes.ok _ hr⟩

set_option maxHeartbeats 1000000 in
set_option maxRecDepth 100000 in
theorem int64_mfar_err (s : Bs) (hlen : s.length < 4294967296) (hne : 1 < s.length) (h45 : s[0]? = some 45) (hd : digsTo s 1 s.length) (hl : 18 < s.length) (r : Option Value) 
    (hx : ∀ w, Gw w → Calls Tryz.prog 129 #[.string (B s), .int .i64 10, .int .i64 64] w fun e w' => Below w.heap.size w w' ∧ ∃ x T t, e = .returned (.tuple #[.int .i64 x, .iface T t])) (hr : r = none) :
    NumP 113 s (.int .i64 0) r := by
  refine NumP.of' fun w hg => ?_
  have HX := Lib.hid (hx w hg)
  have HDS := Lib.hid hd
  clear hx hg hd
  have h0 : 0 < s.length := by omega
  have z0 : ((s.length : Int) == 0) = false := by rw [beq_eq_false_iff_ne]; omega
  have z45 : ((s[0].toNat : Int) == 45) = true := by
    rw [List.getElem?_eq_getElem h0] at h45
    rw [beq_iff_eq, Option.some.inj h45]
    rfl
  have zl : ¬ ((1 : Int) ≥ (s.length : Int)) := by omega
  have zl2 : ¬ ((s.length : Int) ≤ 1) := by omega
  clear h45
  have hs0 : ¬ (s = []) := by rintro rfl; simp at h0
  go_enter Tryz.func113, Tryz.ntmps113
  go_wp2
  go_loop [4, 6] (fun i d => ∃ m : Nat, Hid (digsTo s 1 m) ∧ m ≤ s.length ∧ m ≤ 18 ∧ 1 ≤ m ∧ i = .int .u64 (m : Int) ∧ d = .int .i64 (dv s 1 m : Nat)) (fun i _ => s.length - (intOf i).toNat)
  case atStart => exact ⟨1, digsTo_start s 1 (by omega), by omega, by omega, by omega, rfl, by rw [dv_start]; rfl⟩
  case round =>
    obtain ⟨m, HD, hn, hn18, hom, rfl, rfl⟩ := hrel
    have hb := digsTo_lt HD.out hn18
    have hlt : m < s.length := by omega
    have hu : s[m]? = some s[m] := List.getElem?_eq_getElem hlt
    have hcd := isDig_nat (c := s[m])
    have hd : isDig s[m] = true := HDS.out.2.2 m _ hom hlt hu
    obtain ⟨h1, h2⟩ := digsTo_step HD.out hu hd
    have hcd := hcd.1 hd
    have H1 := Lib.hid h1
    have hv : ((dv s 1 (m + 1) : Nat) : Int) = (dv s 1 m : Nat) * 10 + ((s[m].toNat : Int) - 48) := by omega
    generalize dv s 1 m = D at *
    have HV := Lib.hid hv
    have c48 : 48 ≤ (s[m].toNat : Int) := by omega
    have c57 : (s[m].toNat : Int) ≤ 57 := by omega
    by_cases h18 : m < 18
    · have hb2 := digsTo_lt h1 (by omega)
      have m18 : ¬ ((m : Int) + 1 > 18) := by omega
      have w1 : wrap64 ((D : Int) * 10) = (D : Int) * 10 := by unfold wrap64; omega
      have w2 : wrap64 ((D : Int) * 10 + ((s[m].toNat : Int) - 48)) = (D : Int) * 10 + ((s[m].toNat : Int) - 48) := by unfold wrap64; omega
      clear h1 h2 hu hd hv hcd HD hb2
      go_wp2
      go_round
      case rel => exact ⟨m + 1, H1.out, by omega, by omega, by omega, by go_num, by rw [HV.out]; go_num⟩
      case measure => simp [intOf]; omega
    · obtain rfl : m = 18 := by omega
      clear h1 h2 hu hd hv hcd HD h18
      go_wp2_with (go_at_call 129; refine HX.out.mono ?_; rintro e w' ⟨hb', x, T, t, rfl⟩; have HB := Lib.hid hb'; clear hb')
      go_ret2
      exact ⟨HB.out, NRes.err _ _ hr⟩

set_option maxHeartbeats 1000000 in
set_option maxRecDepth 100000 in
theorem uint64_far_ok (s : Bs) (hlen : s.length < 4294967296) (hne : 0 < s.length) (hd : digsTo s 0 s.length) (hl : 18 < s.length) (r : Option Value) (v : Int)
    (hx : ∀ w, Gw w → Calls Tryz.prog 130 #[.string (B s), .int .i64 10, .int .i64 64] w fun e w' => Below w.heap.size w w' ∧ e = .returned (.tuple #[.int .u64 v, .nilIface])) (hr : r = some (.int .u64 v)) :
    NumP 114 s (.int .u64 0) r := by
  refine NumP.of' fun w hg => ?_
  have HX := Lib.hid (hx w hg)
  have HDS := Lib.hid hd
  clear hx hg hd
  have h0 : 0 < s.length := hne
  have z0 : ((s.length : Int) == 0) = false := by rw [beq_eq_false_iff_ne]; omega
  clear hne
  have hs0 : ¬ (s = []) := by rintro rfl; simp at h0
  go_enter Tryz.func114, Tryz.ntmps114
  go_wp2
  go_loop [4, 5] (fun i d => ∃ m : Nat, Hid (digsTo s 0 m) ∧ m ≤ s.length ∧ m ≤ 18 ∧ 0 ≤ m ∧ i = .int .u64 (m : Int) ∧ d = .int .u64 (dv s 0 m : Nat)) (fun i _ => s.length - (intOf i).toNat)
  case atStart => exact ⟨0, digsTo_start s 0 (by omega), by omega, by omega, by omega, rfl, by rw [dv_start]; rfl⟩
  case round =>
    obtain ⟨m, HD, hn, hn18, hom, rfl, rfl⟩ := hrel
    have hb := digsTo_lt HD.out hn18
    have hlt : m < s.length := by omega
    have hu : s[m]? = some s[m] := List.getElem?_eq_getElem hlt
    have hcd := isDig_nat (c := s[m])
    have hd : isDig s[m] = true := HDS.out.2.2 m _ hom hlt hu
    obtain ⟨h1, h2⟩ := digsTo_step HD.out hu hd
    have hcd := hcd.1 hd
    have H1 := Lib.hid h1
    have hv : ((dv s 0 (m + 1) : Nat) : Int) = (dv s 0 m : Nat) * 10 + ((s[m].toNat : Int) - 48) := by omega
    generalize dv s 0 m = D at *
    have HV := Lib.hid hv
    have c48 : 48 ≤ (s[m].toNat : Int) := by omega
    have c57 : (s[m].toNat : Int) ≤ 57 := by omega
    by_cases h18 : m < 18
    · have hb2 := digsTo_lt h1 (by omega)
      have m18 : ¬ ((m : Int) + 1 > 18) := by omega
      clear h1 h2 hu hd hv hcd HD hb2
      go_wp2
      go_round
      case rel => exact ⟨m + 1, H1.out, by omega, by omega, by omega, by go_num, by rw [HV.out]⟩
      case measure => simp [intOf]; omega
    · obtain rfl : m = 18 := by omega
      clear h1 h2 hu hd hv hcd HD h18
      go_wp2_with (go_at_call 130; refine HX.out.mono ?_; rintro e w' ⟨hb', rfl⟩; have HB := Lib.hid hb'; clear hb')
      go_ret2
      exact ⟨HB.out, NRes.ok _ hr⟩

end Go.Proofs.YtppkpcijmfdfmaaGreatDoor

/- The walk of fastfloat.Parse. -/
namespace Go.Proofs.YtppkpcijmfdfmaaGreatDoor
open Go.RowKit
attribute [local go_sem] B_size B_get B_lit B_ext_to B_ext B_toList B_app

@[local go_sem] theorem run_fneg (x : Nat) (w : World) : (Op.unary .neg (.float .f64 x)).run Tryz.prog w = .ok (.float .f64 (Op.negFloat .f64 x)) w := rfl

set_option maxHeartbeats 1000000 in
set_option maxRecDepth 100000 in
theorem float_whole0 (s : Bs) (hlen : s.length < 4294967296) (hne : 0 < s.length) (h45 : s[0]? ≠ some 45) (hd : digsTo s 0 s.length) (hl : s.length ≤ 18) (D : Nat) (hD : digVal (s.drop 0) = D) :
    NumP 110 s (.float .f64 0) (some (.float .f64 (floatOfInt .f64 (D : Int)))) := by
  refine NumP.of' fun w hg => ?_
  have HG := Lib.hid hg
  have HDS := Lib.hid hd
  clear hd hg
  have h0 : 0 < s.length := hne
  have z0 : ((s.length : Int) == 0) = false := by rw [beq_eq_false_iff_ne]; omega
  have z45 : ((s[0].toNat : Int) == 45) = false := (u8_facts 45 fun e => h45 (by rw [List.getElem?_eq_getElem h0, e])).1
  clear hne h45
  have hs0 : ¬ (s = []) := by rintro rfl; simp at h0
  have hO : 0 < s.length := by omega
  have z46 : ((s[0].toNat : Int) == 46) = false := by
    have h := (isDig_nat (c := s[0])).1 (HDS.out.2.2 0 _ (Nat.le_refl _) (by omega) (List.getElem?_eq_getElem hO))
    rw [beq_eq_false_iff_ne]; omega
  go_enter Tryz.func110, Tryz.ntmps110
  go_wp2
  go_loop [4, 6] (fun i d => ∃ m : Nat, Hid (digsTo s 0 m) ∧ m ≤ s.length ∧ 0 ≤ m ∧ i = .int .u64 (m : Int) ∧ d = .int .u64 (dv s 0 m : Nat)) (fun i _ => s.length - (intOf i).toNat)
  case atStart => exact ⟨0, digsTo_start s 0 (by omega), by omega, by omega, rfl, by rw [dv_start]; rfl⟩
  case round =>
    obtain ⟨m, HD, hn, hom, rfl, rfl⟩ := hrel
    by_cases hlt : m < s.length
    · have hlt' : m < s.length := by omega
      have hu : s[m]? = some s[m] := List.getElem?_eq_getElem hlt'
      have hd : isDig s[m] = true := HDS.out.2.2 m _ hom hlt hu
      obtain ⟨h1, h2⟩ := digsTo_step HD.out hu hd
      have hb := digsTo_lt HD.out (by omega)
      have hb2 := digsTo_lt h1 (by omega)
      have hcd := (isDig_nat (c := s[m])).1 hd
      have H1 := Lib.hid h1
      have hv : ((dv s 0 (m + 1) : Nat) : Int) = (dv s 0 m : Nat) * 10 + ((s[m].toNat : Int) - 48) := by omega
      generalize dv s 0 m = D at *
      have HV := Lib.hid hv
      have c48 : 48 ≤ (s[m].toNat : Int) := by omega
      have c57 : (s[m].toNat : Int) ≤ 57 := by omega
      have m18 : ¬ ((m : Int) + 1 > 18) := by omega
      clear h1 h2 hu hd hv hcd HD hb2
      go_wp2
      go_round
      case rel => exact ⟨m + 1, H1.out, by omega, by omega, by go_num, by rw [HV.out]⟩
      case measure => simp [intOf]; omega
    · obtain rfl : s.length = m := by omega
      have mo : ¬ ((s.length : Int) ≤ 0) := by omega
      clear hlt hn
      have hd : dv s 0 s.length = digVal (s.drop 0) := dv_all s 0
      have hb := digsTo_lt HDS.out (by omega)
      rw [hd, hD] at hb
      rw [hd, hD]
      clear HD hd hD
      go_wp2
      go_ret2
      exact ⟨Below.refl _ _, NRes.ok _ rfl⟩

set_option maxHeartbeats 1000000 in
set_option maxRecDepth 100000 in
theorem float_whole1 (s : Bs) (hlen : s.length < 4294967296) (hne : 1 < s.length) (h45 : s[0]? = some 45) (hd : digsTo s 1 s.length) (hl : s.length ≤ 18) (D : Nat) (hD : digVal (s.drop 1) = D) :
    NumP 110 s (.float .f64 0) (some (.float .f64 (Op.negFloat .f64 (floatOfInt .f64 (D : Int))))) := by
  refine NumP.of' fun w hg => ?_
  have HG := Lib.hid hg
  have HDS := Lib.hid hd
  clear hd hg
  have h0 : 0 < s.length := by omega
  have z0 : ((s.length : Int) == 0) = false := by rw [beq_eq_false_iff_ne]; omega
  have z45 : ((s[0].toNat : Int) == 45) = true := by
    rw [List.getElem?_eq_getElem h0] at h45
    rw [beq_iff_eq, Option.some.inj h45]
    rfl
  have zl : ¬ ((1 : Int) ≥ (s.length : Int)) := by omega
  have zl2 : ¬ ((s.length : Int) ≤ 1) := by omega
  clear h45
  have hs0 : ¬ (s = []) := by rintro rfl; simp at h0
  have hO : 1 < s.length := by omega
  have z46 : ((s[1].toNat : Int) == 46) = false := by
    have h := (isDig_nat (c := s[1])).1 (HDS.out.2.2 1 _ (Nat.le_refl _) (by omega) (List.getElem?_eq_getElem hO))
    rw [beq_eq_false_iff_ne]; omega
  go_enter Tryz.func110, Tryz.ntmps110
  go_wp2
  go_loop [4, 6] (fun i d => ∃ m : Nat, Hid (digsTo s 1 m) ∧ m ≤ s.length ∧ 1 ≤ m ∧ i = .int .u64 (m : Int) ∧ d = .int .u64 (dv s 1 m : Nat)) (fun i _ => s.length - (intOf i).toNat)
  case atStart => exact ⟨1, digsTo_start s 1 (by omega), by omega, by omega, rfl, by rw [dv_start]; rfl⟩
  case round =>
    obtain ⟨m, HD, hn, hom, rfl, rfl⟩ := hrel
    by_cases hlt : m < s.length
    · have hlt' : m < s.length := by omega
      have hu : s[m]? = some s[m] := List.getElem?_eq_getElem hlt'
      have hd : isDig s[m] = true := HDS.out.2.2 m _ hom hlt hu
      obtain ⟨h1, h2⟩ := digsTo_step HD.out hu hd
      have hb := digsTo_lt HD.out (by omega)
      have hb2 := digsTo_lt h1 (by omega)
      have hcd := (isDig_nat (c := s[m])).1 hd
      have H1 := Lib.hid h1
      have hv : ((dv s 1 (m + 1) : Nat) : Int) = (dv s 1 m : Nat) * 10 + ((s[m].toNat : Int) - 48) := by omega
      generalize dv s 1 m = D at *
      have HV := Lib.hid hv
      have c48 : 48 ≤ (s[m].toNat : Int) := by omega
      have c57 : (s[m].toNat : Int) ≤ 57 := by omega
      have m18 : ¬ ((m : Int) + 1 > 18) := by omega
      clear h1 h2 hu hd hv hcd HD hb2
      go_wp2
      go_round
      case rel => exact ⟨m + 1, H1.out, by omega, by omega, by go_num, by rw [HV.out]⟩
      case measure => simp [intOf]; omega
    · obtain rfl : s.length = m := by omega
      have mo : ¬ ((s.length : Int) ≤ 1) := by omega
      clear hlt hn
      have hd : dv s 1 s.length = digVal (s.drop 1) := dv_all s 1
      have hb := digsTo_lt HDS.out (by omega)
      rw [hd, hD] at hb
      rw [hd, hD]
      clear HD hd hD
      go_wp2
      go_ret2
      exact ⟨Below.refl _ _, NRes.ok _ rfl⟩

end Go.Proofs.YtppkpcijmfdfmaaGreatDoor
