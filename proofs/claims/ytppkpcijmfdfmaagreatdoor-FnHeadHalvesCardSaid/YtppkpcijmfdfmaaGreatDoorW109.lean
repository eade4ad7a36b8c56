/- The walk of FnHeadHalves: a minus, and both. -/
import Derived.Test.YtppkpcijmfdfmaaGreatDoorW99
import Derived.Lib.QuietBelow
set_option linter.unusedVariables false
set_option linter.unusedSimpArgs false
namespace Go.Proofs.YtppkpcijmfdfmaaGreatDoor
open Go.RowKit
attribute [local go_sem] B_size B_get B_lit B_ext_to B_ext B_toList B_app

set_option maxRecDepth 100000 in
set_option maxHeartbeats 4000000 in
theorem halves_neg {x : Int} {e k a : Nat} {w : World} (hG : Base w) (he : e < 256) (hk10 : k ≤ 10) (ha : a < 1048576) (hpos : 0 < a) (k1 : (e : Int) % 11 = (k : Int)) (k2 : (e : Int).tmod 11 = (k : Int)) (hy2 : x.tmod 1048576 = (-(a : Int))) :
    Calls Tryz.prog 4 #[.int .i32 x, .int .u8 e] w fun e w' => e = .returned (.bool true) ∧ Below w.heap.size w w' := by
  go_enter Tryz.func4, Tryz.ntmps4
  go_wp2_with (fail)
  go_loop [6, 20] (fun t i => ∃ j W : Nat, j ≤ k ∧ Hid (W = a * 5 ^ j) ∧ i = .int .i64 (j : Int) ∧ t = .int .i64 (-(W : Int))) (fun _ i => k - (intOf i).toNat)
  case atStart => exact ⟨0, a, by omega, Lib.hid (by simp), rfl, rfl⟩
  case round =>
    obtain ⟨j, W, hj, hW, rfl, rfl⟩ := hrel
    have hWb : W ≤ 10240000000000 := by rw [hW.out]; exact whole_le ha (by omega)
    by_cases hlt : j < k
    · have w1 : wrap64 (-(W : Int) * 5) = -(W : Int) * 5 := by unfold wrap64; omega
      have HW1 : Hid (W * 5 = a * 5 ^ (j + 1)) := Lib.hid (by rw [hW.out, Nat.pow_succ]; ac_rfl)
      go_wp2
      go_round
      case rel => exact ⟨j + 1, W * 5, by omega, HW1.out, by go_num, by go_num⟩
      case measure => simp [intOf]; omega
    · obtain rfl : k = j := by omega
      have hWpos : 0 < W := by rw [hW.out]; exact Nat.mul_pos hpos (Nat.pow_pos (by omega))
      have n1 : (-(W : Int)) < 0 := by omega
      have n2 : wrap64 (- -(W : Int)) = (W : Int) := by unfold wrap64; omega
      have n3 : wrap64 (W : Int) = (W : Int) := by unfold wrap64; omega
      have PW := Lib.hid (print_num W (by omega))
      have l1 : (hDig W).length ≤ 14 := hDig_length 13 W (by omega)
      have l0 : 1 ≤ (hDig W).length := hDig_pos W
      clear hlt hj
      go_wp2_with (fail)
      refine (PW.out _).mono ?_
      rintro e1 w1 ⟨rfl, hb1⟩
      have H1 := Lib.hid hb1
      clear hb1
      go_wp2_with (fail)
      go_loop [8] (fun d => ∃ i : Nat, d = .string (B (List.replicate i 48 ++ hDig W)) ∧ (i = 0 ∨ i + (hDig W).length ≤ k + 1)) (fun d => k + 1 - slen d)
      case atStart => exact ⟨0, rfl, Or.inl rfl⟩
      case round =>
        obtain ⟨i, rfl, hi⟩ := hrel
        have hlen : (List.replicate i (48 : UInt8) ++ hDig W).length = i + (hDig W).length := by simp
        by_cases hlt : i + (hDig W).length ≤ k
        · have hnext : (48 : UInt8) :: (List.replicate i 48 ++ hDig W) = List.replicate (i + 1) 48 ++ hDig W := rfl
          generalize hP : List.replicate i (48 : UInt8) ++ hDig W = P at *
          have lle : (P.length : Int) ≤ (k : Int) := by omega
          go_wp2
          go_round
          case rel => exact ⟨i + 1, by rw [← hnext], Or.inr (by omega)⟩
          case measure => simp [slen, B_size]; omega
        · have HP : Hid ((∀ c ∈ List.replicate i (48 : UInt8) ++ hDig W, isDig c = true) ∧ digVal (List.replicate i 48 ++ hDig W) = W) := by
            refine ⟨fun c hc => ?_, by rw [digVal_zeros, digVal_hDig]⟩
            rcases List.mem_append.1 hc with hc | hc
            · rw [(List.mem_replicate.1 hc).2]; decide
            · exact hDig_dig W c hc
          have lP : i + (hDig W).length ≤ 14 := by omega
          generalize List.replicate i (48 : UInt8) ++ hDig W = P at *
          have lgt : k < P.length := by omega
          have lP2 : P.length ≤ 14 := by omega
          have nle : ¬ ((P.length : Int) ≤ (k : Int)) := by omega
          clear hi hlt hlen lP PW l1 l0
          obtain ⟨j, hj⟩ : ∃ j, j = P.length - k := ⟨_, rfl⟩
          have sj : (P.length : Int) - (k : Int) = (j : Int) := by omega
          have hj0 : 0 < j := by omega
          have hjP : j ≤ P.length := by omega
          have lt : (P.take j).length = j := by rw [List.length_take]; omega
          have ld : (P.drop j).length = k := by rw [List.length_drop]; omega
          have wj : wrap64 ((P.length : Int) - (k : Int)) = (j : Int) := by unfold wrap64; omega
          obtain ⟨p2, hp2⟩ : ∃ p2 : Nat, p2 = 2 ^ k := ⟨_, rfl⟩
          have p2le : p2 ≤ 1024 := by rw [hp2]; exact two_pow_le k hk10
          have w2k : IntKind.i64.wrap ((2 : Int) ^ k) = (p2 : Int) := by
            have : ((2 : Int) ^ k) = ((2 ^ k : Nat) : Int) := by simp
            rw [this, ← hp2, IntKind.wrap_i64]; omega
          have HOP := half_neg ha hpos hk10
          rw [← hp2] at HOP
          have hop : ∀ t w, (binOp .quo t (.float .f64 (floatOfInt .f64 (-(a : Int)))) (.float .f64 (floatOfInt .f64 (p2 : Int)))).run Tryz.prog w = .ok (.float .f64 (halfV true a k)) w := fun t w => run_float_arith w .quo t .f64 _ _ _ HOP
          have hself := half_self true a k
          obtain ⟨fr, hfr, hfr0⟩ : ∃ fr, (bits .and .i64 (-(a : Int)) ((p2 : Int) - 1) != 0) = fr ∧ (k = 0 → fr = false) := ⟨_, rfl, fun h => by
            rw [hp2, h, show (((2 ^ 0 : Nat) : Int) - 1) = 0 by decide, and_zero_i64]; rfl⟩
          clear HOP hp2
          by_cases hk0 : k = 0
          · have kz : ¬ ((k : Int) > 0) := by omega
            have HK := Lib.hid hk0
            have hT : oneText (sg true ++ P) = 123 :: 34 :: 97 :: 34 :: 58 :: (45 :: (List.take (P.length - k) P ++ [125])) := by
              rw [hk0, Nat.sub_zero, List.take_length]; simp [oneText, sg]
            obtain ⟨oi, hOi⟩ := half_int true HP.out.1 (by omega) (by omega)
            obtain ⟨ou, hOu⟩ := half_uint true HP.out.1 (by omega) (by omega)
            have hFl := half_whole true HP.out.1 (W := W) (k := k) HP.out.2 (fun _ => hpos) hW.out hk0 (by omega) (by omega)
            have hNum : Numeral (sg true ++ P) := whole_numeral true HP.out.1 (by omega)
            have hLen : (sg true ++ P).length < 1000 := by unfold sg; simp; omega
            obtain rfl := hfr0 hk0
            clear hk0
            obtain ⟨v, w2, hcv, hba, hb2⟩ := conv_bytes w1 (oneText (sg true ++ P))
            rw [hT] at hcv
            have H2 := Lib.hid (H1.out.trans (hb2.mono H1.out.size))
            have HBA := Lib.hid hba
            clear hba hb2
            obtain ⟨w3, hw3⟩ : ∃ w3, w3 = w2.alloc (.cells [Value.string (B [97])].toArray 9) := ⟨_, rfl⟩
            have hb3 : Below w2.heap.size w2 w3 := by rw [hw3]; exact (Below.refl _ _).alloc (Nat.le_refl _) _
            have H3 := Lib.hid (H2.out.trans (hb3.mono H2.out.size))
            have HBA3 := Lib.hid (HBA.out.below hb3)
            have HNS : Hid (NS w3 (.slice (some ⟨w2.heap.size, 0, none⟩) 1 1) [[97]]) := by rw [hw3]; exact one_name w2 _
            have HE := Lib.hid (each_any w3 _ [[97]] HNS.out (by simp))
            have HW3 := Lib.hid hw3
            have HRUN : Hid (∀ {wz : World} {av : Value}, Below w3.heap.size w3 wz → AskRow wz av (eachOf [[97]]) → Calls Tryz.prog 32 #[v, av] wz fun e w' => ∃ g cap, e = .returned (.slice (some ⟨g, 0, none⟩) 10 cap) ∧ TenRow w' g oi ou (halfV true a k) ∧ g < w'.heap.size ∧ Below wz.heap.size wz w') :=
              Lib.hid fun hb ha => run_one hOi hOu hFl hNum hLen (HBA3.out.below hb) ha (hG.below (H3.out.trans (hb.mono H3.out.size)))
            clear hOi hOu hFl hw3 hb3 hT HNS HBA hLen hNum
            go_wp2_with (fail)
            rw [← HW3.out]
            refine HE.out.mono ?_
            rintro e2 w4 ⟨av, rfl, hst⟩
            clear wj sj
            obtain ⟨aa, am, ac, rfl⟩ := hst.slice
            have H4 := Lib.hid (H3.out.trans (hst.below.mono H3.out.size))
            have HR := Lib.hid (HRUN.out hst.below hst.ask)
            clear hst
            go_wp2_with (fail)
            refine HR.out.mono ?_
            rintro e3 w5 ⟨g, cap, rfl, htr, hg, hb5⟩
            have H5 := Lib.hid (H4.out.trans (hb5.mono H4.out.size))
            obtain ⟨c0, c1, c3, c4, c5, c6, f6, c8, c9⟩ := htr
            clear hb5
            dsimp only
            go_wp2_with (fail)
            have K0 := cell_regrown c0
            have K1 := cell_regrown c1
            have K3 := cell_regrown c3
            have K4 := cell_regrown c4
            have K5 := cell_regrown c5
            have K6 := cell_regrown c6
            have K7 := cell_regrown f6
            have K8 := cell_regrown c8
            have K9 := cell_regrown c9
            have LV : ∀ d os, Calls Tryz.prog 34 #[] (Sort.grow (redrawn w5 d) os) fun e w'' => e = .returned (.bool true) ∧ ∃ p : Regrown, w'' = Sort.grow (redrawn w5 p.d) p.os := fun d os => Calls.regrown_of (live_any _ (hG.below (H5.out.trans ((below_regrown w5 d os).mono H5.out.size))))
            clear c0 c1 c3 c4 c5 c6 f6 c8 c9
            simp only [List.append_eq, List.cons_append, List.nil_append]
            refine wp_region_quiet_below (by kernel_rfl) (by kernel_rfl) ?_
            repeat (go_big_quiet_step (exact LV _ _))
            refine wpQuiet_nil ?_
            intro _ hw'
            obtain ⟨⟨dq, osq⟩, hw''⟩ := hw'
            subst hw''
            go_wp2
            go_ret
            exact ⟨rfl, H5.out.trans ((below_regrown w5 dq osq).mono H5.out.size)⟩
          · have kpos : (k : Int) > 0 := by omega
            have hT : oneText (pointText true P (P.length - k)) = 123 :: 34 :: 97 :: 34 :: 58 :: 45 :: (List.take (P.length - k) P ++ 46 :: (List.drop (P.length - k) P ++ [125])) := by simp [oneText, pointText, sg]
            have hNo := point_no HP.out.1 true (P.length - k) (by omega) (by omega) (by omega)
            have hFl := half_point true HP.out.1 (W := W) HP.out.2 ha (fun _ => hpos) hk10 hW.out (by omega) (by omega)
            have hNum : Numeral (pointText true P (P.length - k)) := point_numeral true HP.out.1 (by omega) (by omega)
            have hLen : (pointText true P (P.length - k)).length < 1000 := by unfold pointText sg; simp; omega
            obtain ⟨v, w2, hcv, hba, hb2⟩ := conv_bytes w1 (oneText (pointText true P (P.length - k)))
            rw [hT] at hcv
            have H2 := Lib.hid (H1.out.trans (hb2.mono H1.out.size))
            have HBA := Lib.hid hba
            clear hba hb2
            obtain ⟨w3, hw3⟩ : ∃ w3, w3 = w2.alloc (.cells [Value.string (B [97])].toArray 9) := ⟨_, rfl⟩
            have hb3 : Below w2.heap.size w2 w3 := by rw [hw3]; exact (Below.refl _ _).alloc (Nat.le_refl _) _
            have H3 := Lib.hid (H2.out.trans (hb3.mono H2.out.size))
            have HBA3 := Lib.hid (HBA.out.below hb3)
            have HNS : Hid (NS w3 (.slice (some ⟨w2.heap.size, 0, none⟩) 1 1) [[97]]) := by rw [hw3]; exact one_name w2 _
            have HE := Lib.hid (each_any w3 _ [[97]] HNS.out (by simp))
            have HW3 := Lib.hid hw3
            have HRUN : Hid (∀ {wz : World} {av : Value}, Below w3.heap.size w3 wz → AskRow wz av (eachOf [[97]]) → Calls Tryz.prog 32 #[v, av] wz fun e w' => ∃ g cap, e = .returned (.slice (some ⟨g, 0, none⟩) 10 cap) ∧ TenRow w' g none none (halfV true a k) ∧ g < w'.heap.size ∧ Below wz.heap.size wz w') :=
              Lib.hid fun hb ha => run_one hNo.1 hNo.2 hFl hNum hLen (HBA3.out.below hb) ha (hG.below (H3.out.trans (hb.mono H3.out.size)))
            clear hNo hFl hw3 hb3 hT HNS HBA hLen hNum
            go_wp2_with (fail)
            rw [← HW3.out]
            refine HE.out.mono ?_
            rintro e2 w4 ⟨av, rfl, hst⟩
            clear wj sj
            obtain ⟨aa, am, ac, rfl⟩ := hst.slice
            have H4 := Lib.hid (H3.out.trans (hst.below.mono H3.out.size))
            have HR := Lib.hid (HRUN.out hst.below hst.ask)
            clear hst
            go_wp2_with (fail)
            refine HR.out.mono ?_
            rintro e3 w5 ⟨g, cap, rfl, htr, hg, hb5⟩
            have H5 := Lib.hid (H4.out.trans (hb5.mono H4.out.size))
            obtain ⟨c0, c1, c3, c4, c5, c6, f6, c8, c9⟩ := htr
            clear hb5
            dsimp only
            go_wp2_with (fail)
            cases fr
            · have K0 := cell_regrown c0
              have K1 := cell_regrown c1
              have K3 := cell_regrown c3
              have K4 := cell_regrown c4
              have K5 := cell_regrown c5
              have K6 := cell_regrown c6
              have K7 := cell_regrown f6
              have K8 := cell_regrown c8
              have K9 := cell_regrown c9
              have LV : ∀ d os, Calls Tryz.prog 34 #[] (Sort.grow (redrawn w5 d) os) fun e w'' => e = .returned (.bool true) ∧ ∃ p : Regrown, w'' = Sort.grow (redrawn w5 p.d) p.os := fun d os => Calls.regrown_of (live_any _ (hG.below (H5.out.trans ((below_regrown w5 d os).mono H5.out.size))))
              clear c0 c1 c3 c4 c5 c6 f6 c8 c9
              simp only [List.append_eq, List.cons_append, List.nil_append]
              refine wp_region_quiet_below (by kernel_rfl) (by kernel_rfl) ?_
              repeat (go_big_quiet_step (exact LV _ _))
              refine wpQuiet_nil ?_
              intro _ hw'
              obtain ⟨⟨dq, osq⟩, hw''⟩ := hw'
              subst hw''
              go_wp2
              go_ret
              exact ⟨rfl, H5.out.trans ((below_regrown w5 dq osq).mono H5.out.size)⟩
            · have K0 := cell_regrown c0
              have K1 := cell_regrown c1
              have K3 := cell_regrown c3
              have K4 := cell_regrown c4
              have K5 := cell_regrown c5
              have K6 := cell_regrown c6
              have K7 := cell_regrown f6
              have K8 := cell_regrown c8
              have K9 := cell_regrown c9
              have LV : ∀ d os, Calls Tryz.prog 34 #[] (Sort.grow (redrawn w5 d) os) fun e w'' => e = .returned (.bool true) ∧ ∃ p : Regrown, w'' = Sort.grow (redrawn w5 p.d) p.os := fun d os => Calls.regrown_of (live_any _ (hG.below (H5.out.trans ((below_regrown w5 d os).mono H5.out.size))))
              clear c0 c1 c3 c4 c5 c6 f6 c8 c9
              simp only [List.append_eq, List.cons_append, List.nil_append]
              refine wp_region_quiet_below (by kernel_rfl) (by kernel_rfl) ?_
              repeat (go_big_quiet_step (exact LV _ _))
              refine wpQuiet_nil ?_
              intro _ hw'
              obtain ⟨⟨dq, osq⟩, hw''⟩ := hw'
              subst hw''
              go_wp2
              go_ret
              exact ⟨rfl, H5.out.trans ((below_regrown w5 dq osq).mono H5.out.size)⟩

theorem halves_walk {x : Int} {e : Nat} {w : World} (hG : Base w) (hx : -2147483648 ≤ x ∧ x ≤ 2147483647) (he : e < 256) :
    Calls Tryz.prog 4 #[.int .i32 x, .int .u8 e] w fun e w' => e = .returned (.bool true) ∧ Below w.heap.size w w' := by
  have k1 : (e : Int) % 11 = ((e % 11 : Nat) : Int) := by omega
  have k2 : (e : Int).tmod 11 = ((e % 11 : Nat) : Int) := by rw [Int.tmod_eq_emod_of_nonneg (by omega)]; exact k1
  rcases Int.lt_or_le x 0 with h | h
  · have e1 : x.tmod 1048576 = -((-x) % 1048576) := by rw [← Int.tmod_eq_emod_of_nonneg (by omega : 0 ≤ -x), Int.neg_tmod, Int.neg_neg]
    by_cases h0 : (-x) % 1048576 = 0
    · exact halves_pos hG he (by omega) (a := 0) (by omega) k1 k2 (by rw [e1, h0]; rfl)
    · exact halves_neg hG he (by omega) (a := ((-x) % 1048576).toNat) (by omega) (by omega) k1 k2 (by rw [e1]; omega)
  · have e1 : x.tmod 1048576 = x % 1048576 := Int.tmod_eq_emod_of_nonneg h
    exact halves_pos hG he (by omega) (a := (x % 1048576).toNat) (by omega) k1 k2 (by rw [e1]; omega)
end Go.Proofs.YtppkpcijmfdfmaaGreatDoor
