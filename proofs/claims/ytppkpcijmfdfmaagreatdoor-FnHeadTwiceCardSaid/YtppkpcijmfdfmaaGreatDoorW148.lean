/- The walk of FnHeadTwice. Printed by gen_w148.py. -/
import Derived.Test.YtppkpcijmfdfmaaGreatDoorG2
import Derived.Test.YtppkpcijmfdfmaaGreatDoorH1
import Derived.Test.YtppkpcijmfdfmaaGreatDoorW134
import Derived.Deep.DeepCutAuto
set_option linter.unusedVariables false
set_option linter.unusedSimpArgs false
namespace Go.Proofs.YtppkpcijmfdfmaaGreatDoor
open Go.RowKit
attribute [local go_sem] B_size B_get B_lit B_ext_to B_ext B_toList B_app

set_option maxRecDepth 100000 in
set_option maxHeartbeats 8000000 in
theorem twice_walk {d d' : Nat} {t v : HT} {nv kv nv' kv' : Value} {B0 at0 : Nat} {w : World} (hr0 : RepT w B0 d nv kv t) (hv : RepT w B0 d' nv' kv' v) (hG : Ground w) (hB : B0 ≤ w.heap.size) (hat : at0 < 256) :
    Calls Tryz.prog 14 #[.agg (tcells t nv kv).toArray, .agg (tcells v nv' kv').toArray, .int .u8 at0] w fun e w' => e = .returned (.bool true) ∧ Below w.heap.size w w' := by
  obtain ⟨dd, rfl⟩ : ∃ e, d = e + 1 := by
    cases d with
    | zero => exact hr0.elim
    | succ e => exact ⟨e, rfl⟩
  have hr := hr0
  clear hr0
  obtain ⟨⟨an, cn, rfl⟩, ak, ck, rfl⟩ := hr.slices
  obtain ⟨⟨an2, cn2, rfl⟩, ak2, ck2, rfl⟩ := hv.slices
  obtain ⟨w1, hw1⟩ : ∃ w1, w1 = (w.alloc (.cells (tcells t (.slice an t.names.length cn) (.slice ak t.kids.length ck)).toArray 45)).alloc (.cells (tcells v (.slice an2 v.names.length cn2) (.slice ak2 v.kids.length ck2)).toArray 45) := ⟨_, rfl⟩
  have hb1 : Below w.heap.size w w1 := by rw [hw1]; exact ((Below.refl _ _).alloc (Nat.le_refl _) _).alloc (by simp) _
  have hsz1 : w1.heap.size = w.heap.size + 2 := by rw [hw1]; simp
  have BOX : Hid (∀ {wz : World}, Below w1.heap.size w1 wz → ∀ (j : Nat) u, (tcells t (.slice an t.names.length cn) (.slice ak t.kids.length ck))[j]? = some u → wz.cell? ⟨w.heap.size, j, none⟩ = some u) := by
    intro wz hb j u hu
    refine (hb.cell (p := ⟨w.heap.size, j, none⟩) (by show w.heap.size < _; omega)).trans ?_
    have hb0 : w1.heap[w.heap.size]? = some (.cells (tcells t (.slice an t.names.length cn) (.slice ak t.kids.length ck)).toArray 45) := by rw [hw1]; exact blk_alloc (heap_alloc_new _ _)
    exact blk_cell hb0 j u hu
  have BOXV : Hid (∀ {wz : World}, Below w1.heap.size w1 wz → ∀ (j : Nat) u, (tcells v (.slice an2 v.names.length cn2) (.slice ak2 v.kids.length ck2))[j]? = some u → wz.cell? ⟨w.heap.size + 1, j, none⟩ = some u) := by
    intro wz hb j u hu
    refine (hb.cell (p := ⟨w.heap.size + 1, j, none⟩) (by show w.heap.size + 1 < _; omega)).trans ?_
    have e : (w.alloc (.cells (tcells t (.slice an t.names.length cn) (.slice ak t.kids.length ck)).toArray 45)).heap.size = w.heap.size + 1 := by simp
    rw [hw1, ← e, cell_box]
    exact hu
  have HF : Hid (∀ {wz : World}, Below w1.heap.size w1 wz → RepT wz B0 (dd + 1) (.slice an t.names.length cn) (.slice ak t.kids.length ck) t ∧ RepT wz B0 d' (.slice an2 v.names.length cn2) (.slice ak2 v.kids.length ck2) v ∧ Ground wz ∧ B0 ≤ wz.heap.size ∧ Below w.heap.size w wz) := by
    intro wz hb
    have hb2 : Below w.heap.size w wz := hb1.trans (hb.mono hb1.size)
    exact ⟨hr.below (hb2.mono hB), hv.below (hb2.mono hB), hG.below hb2, Nat.le_trans hB hb2.size, hb2⟩
  have HFIT := Lib.hid (fits11_any (HF.out (Below.refl _ _)).1 (HF.out (Below.refl _ _)).2.2.2.1)
  have HFITV : Hid (∀ {wz : World}, Below w1.heap.size w1 wz → Calls Tryz.prog 35 #[.agg (tcells v (.slice an2 v.names.length cn2) (.slice ak2 v.kids.length ck2)).toArray] wz fun e w' => (∃ b, e = .returned (.bool b)) ∧ Below wz.heap.size wz w') := fun h => fits11_any (HF.out h).2.1 (HF.out h).2.2.2.1
  have HRIGHT : Hid (∀ {wz : World}, Below w1.heap.size w1 wz → Calls Tryz.prog 41 #[.agg (tcells v (.slice an2 v.names.length cn2) (.slice ak2 v.kids.length ck2)).toArray] wz fun e w' => ∃ ok, e = .returned (.bool ok) ∧ (ok = true → Right d' v) ∧ Below wz.heap.size wz w') := fun h => right_any (HF.out h).2.1 (HF.out h).2.2.1.2 (HF.out h).2.2.2.1
  have HOBJ : Hid (∀ {wz : World}, Below w1.heap.size w1 wz → Calls Tryz.prog 36 #[.agg (tcells t (.slice an t.names.length cn) (.slice ak t.kids.length ck)).toArray, .slice none 0 0] wz fun e w' => ∃ ok, e = .returned (.bool ok) ∧ (ok = true → t.kind = 5 ∧ Right (dd + 1) t ∧ TextsOk []) ∧ Below wz.heap.size wz w') :=
    fun h => object_any (HF.out h).1 (HF.out h).2.2.1.2 (HF.out h).2.2.2.1 (Or.inl ⟨none, 0, rfl, rfl⟩) (by simp)
  clear hr hv hG hb1
  simp only [tcells] at hw1 HFIT HFITV HRIGHT HOBJ BOX BOXV ⊢
  have HW1 := Lib.hid hw1
  clear hw1
  go_enter Tryz.func14, Tryz.ntmps14
  go_wp2_with (fail)
  rw [← HW1.out]
  refine HFIT.out.mono ?_
  rintro e w2 ⟨⟨bf, rfl⟩, hb2⟩
  have H2 := Lib.hid hb2
  clear hb2
  have LIVE : Hid (∀ {wz : World}, Below w1.heap.size w1 wz → Calls Tryz.prog 34 #[] wz fun e w' => e = .returned (.bool true) ∧ Below w.heap.size w w') := fun {wz} h =>
    (live_any wz (HF.out h).2.2.1.1).mono fun e w' he => ⟨he.1, (HF.out h).2.2.2.2.trans (he.2.mono (HF.out h).2.2.2.2.size)⟩
  cases bf
  · go_wp2
    go_ret
    exact ⟨rfl, (HF.out H2.out).2.2.2.2⟩
  have r0 := BOXV.out H2.out 0 _ rfl
  have r1 := BOXV.out H2.out 1 _ rfl
  have r2 := BOXV.out H2.out 2 _ rfl
  have r3 := BOXV.out H2.out 3 _ rfl
  have r4 := BOXV.out H2.out 4 _ rfl
  have r5 := BOXV.out H2.out 5 _ rfl
  have r6 := BOXV.out H2.out 6 _ rfl
  go_wp2_with (fail)
  refine (HFITV.out H2.out).mono ?_
  rintro e w3 ⟨⟨bg, rfl⟩, hb3⟩
  have H3 := Lib.hid (Below.to_next H2.out hb3)
  clear hb3 r0 r1 r2 r3 r4 r5 r6
  cases bg
  · go_wp2
    go_ret
    exact ⟨rfl, (HF.out H3.out).2.2.2.2⟩
  have q0 := BOX.out H3.out 0 _ rfl
  have q1 := BOX.out H3.out 1 _ rfl
  have q2 := BOX.out H3.out 2 _ rfl
  have q3 := BOX.out H3.out 3 _ rfl
  have q4 := BOX.out H3.out 4 _ rfl
  have q5 := BOX.out H3.out 5 _ rfl
  have q6 := BOX.out H3.out 6 _ rfl
  go_wp2_with (fail)
  refine (HOBJ.out H3.out).mono ?_
  rintro e w4 ⟨ok, rfl, hy, hb4⟩
  have HY := Lib.hid hy
  have H4 := Lib.hid (Below.to_next H3.out hb4)
  clear hy hb4 q0 q1 q2 q3 q4 q5 q6
  cases ok
  · go_wp2_with (fail)
    refine (LIVE.out H4.out).mono ?_
    rintro e w9 ⟨rfl, hb9⟩
    have H9 := Lib.hid hb9
    clear hb9
    go_wp2
    go_ret
    exact ⟨rfl, H9.out⟩
  have HRT : Hid (t.kind = 5 ∧ Right (dd + 1) t) := ⟨(HY.out rfl).1, (HY.out rfl).2.1⟩
  clear HY
  have r0 := BOXV.out H4.out 0 _ rfl
  have r1 := BOXV.out H4.out 1 _ rfl
  have r2 := BOXV.out H4.out 2 _ rfl
  have r3 := BOXV.out H4.out 3 _ rfl
  have r4 := BOXV.out H4.out 4 _ rfl
  have r5 := BOXV.out H4.out 5 _ rfl
  have r6 := BOXV.out H4.out 6 _ rfl
  go_wp2_with (fail)
  refine (HRIGHT.out H4.out).mono ?_
  rintro e w5 ⟨ok2, rfl, hy2, hb5⟩
  have HY2 := Lib.hid hy2
  have H5 := Lib.hid (Below.to_next H4.out hb5)
  clear hy2 hb5 r0 r1 r2 r3 r4 r5 r6
  cases ok2
  · go_wp2_with (fail)
    refine (LIVE.out H5.out).mono ?_
    rintro e w9 ⟨rfl, hb9⟩
    have H9 := Lib.hid hb9
    clear hb9
    go_wp2
    go_ret
    exact ⟨rfl, H9.out⟩
  have HRV : Hid (Right d' v) := HY2.out rfl
  clear HY2
  have q0 := BOX.out H5.out 0 _ rfl
  have q1 := BOX.out H5.out 1 _ rfl
  have q2 := BOX.out H5.out 2 _ rfl
  have q3 := BOX.out H5.out 3 _ rfl
  have q4 := BOX.out H5.out 4 _ rfl
  have q5 := BOX.out H5.out 5 _ rfl
  have q6 := BOX.out H5.out 6 _ rfl
  by_cases hk0 : t.kids.length = 0
  · have f0 : ((t.kids.length : Int) == 0) = true := by rw [beq_iff_eq]; omega
    go_wp2_with (fail)
    refine (LIVE.out H5.out).mono ?_
    rintro e w9 ⟨rfl, hb9⟩
    have H9 := Lib.hid hb9
    clear hb9
    go_wp2
    go_ret
    exact ⟨rfl, H9.out⟩
  have f0 : ((t.kids.length : Int) == 0) = false := by rw [beq_eq_false_iff_ne]; omega
  have HN := Lib.hid (rightNames HRT.out.2 HRT.out.1)
  obtain ⟨nb, no, rfl, hnb, hnc⟩ : ∃ nb no, an = some ⟨nb, no, none⟩ ∧ nb < B0 ∧ ∀ {wz : World}, Below w1.heap.size w1 wz → ∀ (i : Nat) s, t.names[i]? = some s → wz.cell? ⟨nb, no + i, none⟩ = some (.string (B s)) := by
    have h1 := names_nsb (HF.out (Below.refl _ _)).1
    rcases h1 with ⟨_, _, _, h2⟩ | ⟨b, off, c, h2, h3, h4⟩
    · have := HN.out.2.2.1; rw [h2] at this; simp at this; omega
    · cases h2
      exact ⟨b, off, rfl, h3.1, fun hb i s hi => (hb.cell (p := ⟨b, off + i, none⟩) (Nat.lt_of_lt_of_le h3.1 (HF.out (Below.refl _ _)).2.2.2.1)).trans (h4 i s hi)⟩
  obtain ⟨k, hk⟩ : ∃ k, k = at0 % t.names.length := ⟨_, rfl⟩
  have hn0 : 0 < t.names.length := by have := HN.out.2.2.1; omega
  have hkl : k < t.names.length := by rw [hk]; exact Nat.mod_lt _ hn0
  obtain ⟨s, hs⟩ : ∃ s, t.names[k]? = some s := ⟨_, List.getElem?_eq_getElem hkl⟩
  have e0 : IntKind.i64.wrap (at0 : Int) = (at0 : Int) := by rw [IntKind.wrap_i64]; omega
  have e1 : ((at0 : Int).tmod (t.names.length : Int)) = (k : Int) := by rw [hk]; exact Int.ofNat_tmod at0 t.names.length
  have e2 : ¬ (t.names.length = 0) := by omega
  have e2c : ¬ ((t.names.length : Int) = 0) := by omega
  have il : (k : Int) < t.names.length := by omega
  have i0 : (0 : Int) ≤ (k : Int) := by omega
  have i9 : (k : Int) < 1000001 := by have := HN.out.2.1; omega
  have HK := Lib.hid hk
  have HS := Lib.hid hs
  have HNC : Hid (∀ {wz : World}, Below w1.heap.size w1 wz → wz.cell? ⟨nb, no + k, none⟩ = some (.string (B s))) := fun h => hnc h k s hs
  clear hk hs hnc
  obtain ⟨ps, hrp, hkr⟩ := KidsB.krow (HF.out (Below.refl _ _)).1.2.2 (HF.out (Below.refl _ _)).2.2.2.1
  have HPS := Lib.hid (And.intro hrp hkr)
  clear hrp hkr
  go_upto_region 6 with (fail)
  obtain ⟨wu, hwu⟩ : ∃ wu, wu = w5.alloc (.cells #[.int .u8 t.kind, .bool t.is, .bool t.minus, .int .u64 t.num, .string (B t.text), .slice (some ⟨nb, no, none⟩) t.names.length cn, .slice ak t.kids.length ck] 45) := ⟨_, rfl⟩
  rw [← hwu]
  have HUB : Hid (wu.heap[w5.heap.size]? = some (.cells (tcells t (.slice (some ⟨nb, no, none⟩) t.names.length cn) (.slice ak t.kids.length ck)).toArray 45 (0, 0))) := Lib.hid (by rw [hwu]; exact heap_alloc_new _ _)
  have HWU : Hid (Below w1.heap.size w1 wu ∧ w5.heap.size < wu.heap.size ∧ w1.heap.size ≤ w5.heap.size) := Lib.hid ⟨by rw [hwu]; exact Below.to_alloc H5.out _, by rw [hwu]; simp, H5.out.size⟩
  clear hwu q0 q1 q2 q3 q4 q5 q6
  have HCLN : Hid (∀ {wz : World}, Past w1 wu wz → Calls Tryz.prog 44 #[.slice (some ⟨nb, no, none⟩) t.names.length cn] wz fun e w' => ∃ ga ca, e = .returned (.slice (some ⟨ga, 0, none⟩) t.names.length ca) ∧ OwnG wz.heap.size w' ga ca t.names ∧ Below wz.heap.size wz w' ∧ wu.heap.size ≤ wz.heap.size) := by
    intro wz h
    have h1 := (names_nsb (HF.out h.below).1).ns (HF.out h.below).2.2.2.1
    refine (cloneN_any h1 (by have := HN.out.2.1; omega)).mono ?_
    rintro e w' ⟨v', rfl, hrow, hb⟩
    rcases hrow.form with ⟨_, h2⟩ | ⟨g, cap, rfl, ho⟩
    · rw [h2] at hn0; simp at hn0
    · exact ⟨g, cap, rfl, ho, hb, h.size⟩
  have HCLK : Hid (∀ {wz : World}, Past w1 wu wz → Calls Tryz.prog 45 #[.slice ak t.kids.length ck] wz fun e w' => ∃ ga ca, e = .returned (.slice (some ⟨ga, 0, none⟩) t.kids.length ca) ∧ OwnK wz.heap.size w' ga ca t.kids ps ∧ Below wz.heap.size wz w' ∧ wu.heap.size ≤ wz.heap.size) := by
    intro wz h
    refine (cloneK_any (HPS.out.2.below h.below) HPS.out.1.one (by have := HN.out.2.1; have := HN.out.2.2.1; omega)).mono ?_
    rintro e w' ⟨v', rfl, hrow, hb⟩
    rcases hrow.form with ⟨_, h2⟩ | ⟨g, cap, rfl, ho⟩
    · exfalso; apply hk0; rw [h2]; rfl
    · exact ⟨g, cap, rfl, ho, hb, h.size⟩
  have hP0 : Past w1 wu wu.drew := ⟨HWU.out.1.drew, Nat.le_refl _⟩
  have HONE : Hid (OneP [((Value.slice an2 v.names.length cn2), (Value.slice ak2 v.kids.length ck2))]) := Lib.hid (fun p hp => by rw [List.mem_singleton.1 hp]; exact ⟨rfl, rfl⟩)
  have HRP : Hid (∀ {wz : World}, Below w1.heap.size w1 wz → RepP wz w1.heap.size (dd + d') (t.kids ++ [v]) (ps ++ [((Value.slice an2 v.names.length cn2), (Value.slice ak2 v.kids.length ck2))])) := by
    intro wz h
    have h0 := (HF.out (Below.refl w1.heap.size w1)).2.2.2.1
    refine (((HPS.out.1.below (h.mono h0)).up h0).fuel (by omega)).app ⟨rfl, fun i k p h1 h2 => ?_⟩
    match i, h1, h2 with
    | 0, h1, h2 =>
      cases h1; cases h2
      exact ((HF.out h).2.1.up h0).fuel (by omega)
  have HT0 : Hid (t.kind < 256 ∧ t.num < 18446744073709551616) := Lib.hid ⟨(HF.out (Below.refl w1.heap.size w1)).1.1.1, (HF.out (Below.refl w1.heap.size w1)).1.1.2.1⟩
  have HLN : Hid (t.names.length ≤ 200 ∧ t.kids.length ≤ 200) := Lib.hid ⟨HN.out.2.1, by have := HN.out.2.1; have := HN.out.2.2.1; omega⟩
  go_cut [7] (fun s7 wx => s7 = .pointer (some ⟨w5.heap.size, 0, none⟩) ∧ Hid (UBox w1 wx w5.heap.size (dd + d' + 1) (t.re (t.names ++ [s]) (t.kids ++ [v]))))
  case first =>
    go_region_held_law (fun w' => (w'.cell? ⟨w.heap.size, 5, none⟩ = some (.slice (some ⟨nb, no, none⟩) t.names.length cn) ∧ w'.cell? ⟨w.heap.size, 6, none⟩ = some (.slice ak t.kids.length ck) ∧ w'.cell? ⟨w.heap.size + 1, 0, none⟩ = some (.int .u8 v.kind) ∧ w'.cell? ⟨w.heap.size + 1, 1, none⟩ = some (.bool v.is) ∧ w'.cell? ⟨w.heap.size + 1, 2, none⟩ = some (.bool v.minus) ∧ w'.cell? ⟨w.heap.size + 1, 3, none⟩ = some (.int .u64 v.num) ∧ w'.cell? ⟨w.heap.size + 1, 4, none⟩ = some (.string (B v.text)) ∧ w'.cell? ⟨w.heap.size + 1, 5, none⟩ = some (.slice an2 v.names.length cn2) ∧ w'.cell? ⟨w.heap.size + 1, 6, none⟩ = some (.slice ak2 v.kids.length ck2) ∧ w'.cell? ⟨nb, no + k, none⟩ = some (.string (B s))) ∧ Past w1 wu w')
      (first
        | (go_split_ands
           refine (fun hz => ⟨⟨BOX.out hz.below 5 _ rfl, BOX.out hz.below 6 _ rfl, BOXV.out hz.below 0 _ rfl, BOXV.out hz.below 1 _ rfl, BOXV.out hz.below 2 _ rfl, BOXV.out hz.below 3 _ rfl, BOXV.out hz.below 4 _ rfl, BOXV.out hz.below 5 _ rfl, BOXV.out hz.below 6 _ rfl, HNC.out hz.below⟩, hz⟩) ?_
           first
             | assumption
             | exact Past.alloc (by assumption) _
             | exact Past.next (by assumption) (by assumption)
             | exact Past.grown (by assumption) hgn hga1
             | exact Past.grown (by assumption) hgk hgk1
             | exact Past.set (by assumption) HWU.out.2.2 _ _))
      (first
        | (go_at_call 44; go_split_ands; refine (HCLN.out (by assumption)).mono ?_; rintro e wa ⟨ga, ca, rfl, hra, hba, hza⟩; have hga1 : w1.heap.size ≤ ga := (by have h1 := hra.base; have h2 := HWU.out; omega); have hga2 := hra.lt; have hga3 := hra.base)
        | (go_at_call 45; go_split_ands; refine (HCLK.out (by assumption)).mono ?_; rintro e wk ⟨gk, ckk, rfl, hrk, hbk, hzk⟩; have hgk1 : w1.heap.size ≤ gk := (by have h1 := hrk.base; have h2 := HWU.out; omega); have hgk2 := hrk.lt; have hgk3 := hrk.base)
        | (refine step_append_oneN (by rfl) _ _ (by rfl) (OwnG.below hra (by (repeat (first | with_reducible exact Below.refl _ _ | with_reducible refine Below.drew ?_ | with_reducible refine Below.to_alloc ?_ _ | with_reducible refine Below.to_next ?_ hbk | with_reducible refine Below.to_next ?_ hba)))) (by rfl) _ s (by rfl) (blk_cell (l := [Value.string (B s)]) (by (repeat (first | with_reducible exact heap_alloc_new _ _ | with_reducible exact blk_new (by first | with_reducible rfl | (simp only [size_of_alloc, size_of_drew]; done)) | with_reducible exact HUB.out | with_reducible exact ho1 | with_reducible refine blk_drew ?_ | with_reducible refine blk_alloc ?_ | with_reducible refine blk_below hbk ?_ | with_reducible refine blk_below hba ?_ | ((with_reducible refine blk_grown hgk ?_ ?ne); case ne => exact (by intro e; have e1 : _ = gk := Option.some.inj e; have g1 := HWU.out.2; (try have h1 := hga2); (try have h2 := hga3); (try have h3 := hza); (try have h4 := hba.size); (try have h5 := hgn.size); (try have h6 := hgn2); (try have h7 := hzk); (try have h8 := hgk2); (try have h9 := hgk3); (try have h10 := hbk.size); (try simp only [size_of_alloc, size_of_drew] at e1); (try simp only [size_of_alloc, size_of_drew] at h1); (try simp only [size_of_alloc, size_of_drew] at h2); (try simp only [size_of_alloc, size_of_drew] at h3); (try simp only [size_of_alloc, size_of_drew] at h4); (try simp only [size_of_alloc, size_of_drew] at h5); (try simp only [size_of_alloc, size_of_drew] at h6); (try simp only [size_of_alloc, size_of_drew] at h7); (try simp only [size_of_alloc, size_of_drew] at h8); (try simp only [size_of_alloc, size_of_drew] at h9); (try simp only [size_of_alloc, size_of_drew] at h10); omega)) | ((with_reducible refine blk_grown hgn ?_ ?ne); case ne => exact (by intro e; have e1 : _ = ga := Option.some.inj e; have g1 := HWU.out.2; (try have h1 := hga2); (try have h2 := hga3); (try have h3 := hza); (try have h4 := hba.size); (try have h5 := hgn.size); (try have h6 := hgn2); (try have h7 := hzk); (try have h8 := hgk2); (try have h9 := hgk3); (try have h10 := hbk.size); (try simp only [size_of_alloc, size_of_drew] at e1); (try simp only [size_of_alloc, size_of_drew] at h1); (try simp only [size_of_alloc, size_of_drew] at h2); (try simp only [size_of_alloc, size_of_drew] at h3); (try simp only [size_of_alloc, size_of_drew] at h4); (try simp only [size_of_alloc, size_of_drew] at h5); (try simp only [size_of_alloc, size_of_drew] at h6); (try simp only [size_of_alloc, size_of_drew] at h7); (try simp only [size_of_alloc, size_of_drew] at h8); (try simp only [size_of_alloc, size_of_drew] at h9); (try simp only [size_of_alloc, size_of_drew] at h10); omega))))) 0 _ rfl) (by have := HLN.out.1; omega) (Nat.le_trans hba.size (Below.size (B := wa.heap.size) (by (repeat (first | with_reducible exact Below.refl _ _ | with_reducible refine Below.drew ?_ | with_reducible refine Below.to_alloc ?_ _ | with_reducible refine Below.to_next ?_ hbk | with_reducible refine Below.to_next ?_ hba))))) ?_; intro gn cn3 wn hon hgn; have hgn2 := hon.lt; have hgn3 := hon.base)
        | (refine step_append_oneK (by rfl) _ _ (by rfl) (OwnK.below hrk (by (repeat (first | with_reducible exact Below.refl _ _ | with_reducible refine Below.drew ?_ | with_reducible refine Below.to_alloc ?_ _ | with_reducible refine Below.to_next ?_ hbk | with_reducible refine Below.to_next ?_ hba)))) (by rfl) _ v (Value.slice an2 v.names.length cn2, Value.slice ak2 v.kids.length ck2) (by rfl) (fun j u hu => blk_cell (l := [Value.int .u8 v.kind, Value.bool v.is, Value.bool v.minus, Value.int .u64 v.num, Value.string (B v.text), Value.slice an2 v.names.length cn2, Value.slice ak2 v.kids.length ck2]) (by (repeat (first | with_reducible exact heap_alloc_new _ _ | with_reducible exact blk_new (by first | with_reducible rfl | (simp only [size_of_alloc, size_of_drew]; done)) | with_reducible exact HUB.out | with_reducible exact ho1 | with_reducible refine blk_drew ?_ | with_reducible refine blk_alloc ?_ | with_reducible refine blk_below hbk ?_ | with_reducible refine blk_below hba ?_ | ((with_reducible refine blk_grown hgk ?_ ?ne); case ne => exact (by intro e; have e1 : _ = gk := Option.some.inj e; have g1 := HWU.out.2; (try have h1 := hga2); (try have h2 := hga3); (try have h3 := hza); (try have h4 := hba.size); (try have h5 := hgn.size); (try have h6 := hgn2); (try have h7 := hzk); (try have h8 := hgk2); (try have h9 := hgk3); (try have h10 := hbk.size); (try simp only [size_of_alloc, size_of_drew] at e1); (try simp only [size_of_alloc, size_of_drew] at h1); (try simp only [size_of_alloc, size_of_drew] at h2); (try simp only [size_of_alloc, size_of_drew] at h3); (try simp only [size_of_alloc, size_of_drew] at h4); (try simp only [size_of_alloc, size_of_drew] at h5); (try simp only [size_of_alloc, size_of_drew] at h6); (try simp only [size_of_alloc, size_of_drew] at h7); (try simp only [size_of_alloc, size_of_drew] at h8); (try simp only [size_of_alloc, size_of_drew] at h9); (try simp only [size_of_alloc, size_of_drew] at h10); omega)) | ((with_reducible refine blk_grown hgn ?_ ?ne); case ne => exact (by intro e; have e1 : _ = ga := Option.some.inj e; have g1 := HWU.out.2; (try have h1 := hga2); (try have h2 := hga3); (try have h3 := hza); (try have h4 := hba.size); (try have h5 := hgn.size); (try have h6 := hgn2); (try have h7 := hzk); (try have h8 := hgk2); (try have h9 := hgk3); (try have h10 := hbk.size); (try simp only [size_of_alloc, size_of_drew] at e1); (try simp only [size_of_alloc, size_of_drew] at h1); (try simp only [size_of_alloc, size_of_drew] at h2); (try simp only [size_of_alloc, size_of_drew] at h3); (try simp only [size_of_alloc, size_of_drew] at h4); (try simp only [size_of_alloc, size_of_drew] at h5); (try simp only [size_of_alloc, size_of_drew] at h6); (try simp only [size_of_alloc, size_of_drew] at h7); (try simp only [size_of_alloc, size_of_drew] at h8); (try simp only [size_of_alloc, size_of_drew] at h9); (try simp only [size_of_alloc, size_of_drew] at h10); omega))))) j u hu) HONE.out (by have := HLN.out.2; omega) (Nat.le_trans hbk.size (Below.size (B := wk.heap.size) (by (repeat (first | with_reducible exact Below.refl _ _ | with_reducible refine Below.drew ?_ | with_reducible refine Below.to_alloc ?_ _ | with_reducible refine Below.to_next ?_ hbk | with_reducible refine Below.to_next ?_ hba))))) ?_; intro gq cq wq hoq hgk; have hbq : wq.heap[w5.heap.size]? = some (.cells (tcells t (.slice (some ⟨nb, no, none⟩) t.names.length cn) (.slice ak t.kids.length ck)).toArray 45 (0, 0)) := (by (repeat (first | with_reducible exact heap_alloc_new _ _ | with_reducible exact blk_new (by first | with_reducible rfl | (simp only [size_of_alloc, size_of_drew]; done)) | with_reducible exact HUB.out | with_reducible exact ho1 | with_reducible refine blk_drew ?_ | with_reducible refine blk_alloc ?_ | with_reducible refine blk_below hbk ?_ | with_reducible refine blk_below hba ?_ | ((with_reducible refine blk_grown hgk ?_ ?ne); case ne => exact (by intro e; have e1 : _ = gk := Option.some.inj e; have g1 := HWU.out.2; (try have h1 := hga2); (try have h2 := hga3); (try have h3 := hza); (try have h4 := hba.size); (try have h5 := hgn.size); (try have h6 := hgn2); (try have h7 := hzk); (try have h8 := hgk2); (try have h9 := hgk3); (try have h10 := hbk.size); (try simp only [size_of_alloc, size_of_drew] at e1); (try simp only [size_of_alloc, size_of_drew] at h1); (try simp only [size_of_alloc, size_of_drew] at h2); (try simp only [size_of_alloc, size_of_drew] at h3); (try simp only [size_of_alloc, size_of_drew] at h4); (try simp only [size_of_alloc, size_of_drew] at h5); (try simp only [size_of_alloc, size_of_drew] at h6); (try simp only [size_of_alloc, size_of_drew] at h7); (try simp only [size_of_alloc, size_of_drew] at h8); (try simp only [size_of_alloc, size_of_drew] at h9); (try simp only [size_of_alloc, size_of_drew] at h10); omega)) | ((with_reducible refine blk_grown hgn ?_ ?ne); case ne => exact (by intro e; have e1 : _ = ga := Option.some.inj e; have g1 := HWU.out.2; (try have h1 := hga2); (try have h2 := hga3); (try have h3 := hza); (try have h4 := hba.size); (try have h5 := hgn.size); (try have h6 := hgn2); (try have h7 := hzk); (try have h8 := hgk2); (try have h9 := hgk3); (try have h10 := hbk.size); (try simp only [size_of_alloc, size_of_drew] at e1); (try simp only [size_of_alloc, size_of_drew] at h1); (try simp only [size_of_alloc, size_of_drew] at h2); (try simp only [size_of_alloc, size_of_drew] at h3); (try simp only [size_of_alloc, size_of_drew] at h4); (try simp only [size_of_alloc, size_of_drew] at h5); (try simp only [size_of_alloc, size_of_drew] at h6); (try simp only [size_of_alloc, size_of_drew] at h7); (try simp only [size_of_alloc, size_of_drew] at h8); (try simp only [size_of_alloc, size_of_drew] at h9); (try simp only [size_of_alloc, size_of_drew] at h10); omega))))); have hu5 := blk_cell hbq 5 _ rfl; have hu6 := blk_cell hbq 6 _ rfl; have hf5 := blk_free hbq 5; have hf6 := blk_free hbq 6; have HON := Lib.hid (OwnG.blk (w' := wq) hon (fun o ho1 => by (repeat (first | with_reducible exact heap_alloc_new _ _ | with_reducible exact blk_new (by first | with_reducible rfl | (simp only [size_of_alloc, size_of_drew]; done)) | with_reducible exact HUB.out | with_reducible exact ho1 | with_reducible refine blk_drew ?_ | with_reducible refine blk_alloc ?_ | with_reducible refine blk_below hbk ?_ | with_reducible refine blk_below hba ?_ | ((with_reducible refine blk_grown hgk ?_ ?ne); case ne => exact (by intro e; have e1 : _ = gk := Option.some.inj e; have g1 := HWU.out.2; (try have h1 := hga2); (try have h2 := hga3); (try have h3 := hza); (try have h4 := hba.size); (try have h5 := hgn.size); (try have h6 := hgn2); (try have h7 := hzk); (try have h8 := hgk2); (try have h9 := hgk3); (try have h10 := hbk.size); (try simp only [size_of_alloc, size_of_drew] at e1); (try simp only [size_of_alloc, size_of_drew] at h1); (try simp only [size_of_alloc, size_of_drew] at h2); (try simp only [size_of_alloc, size_of_drew] at h3); (try simp only [size_of_alloc, size_of_drew] at h4); (try simp only [size_of_alloc, size_of_drew] at h5); (try simp only [size_of_alloc, size_of_drew] at h6); (try simp only [size_of_alloc, size_of_drew] at h7); (try simp only [size_of_alloc, size_of_drew] at h8); (try simp only [size_of_alloc, size_of_drew] at h9); (try simp only [size_of_alloc, size_of_drew] at h10); omega)) | ((with_reducible refine blk_grown hgn ?_ ?ne); case ne => exact (by intro e; have e1 : _ = ga := Option.some.inj e; have g1 := HWU.out.2; (try have h1 := hga2); (try have h2 := hga3); (try have h3 := hza); (try have h4 := hba.size); (try have h5 := hgn.size); (try have h6 := hgn2); (try have h7 := hzk); (try have h8 := hgk2); (try have h9 := hgk3); (try have h10 := hbk.size); (try simp only [size_of_alloc, size_of_drew] at e1); (try simp only [size_of_alloc, size_of_drew] at h1); (try simp only [size_of_alloc, size_of_drew] at h2); (try simp only [size_of_alloc, size_of_drew] at h3); (try simp only [size_of_alloc, size_of_drew] at h4); (try simp only [size_of_alloc, size_of_drew] at h5); (try simp only [size_of_alloc, size_of_drew] at h6); (try simp only [size_of_alloc, size_of_drew] at h7); (try simp only [size_of_alloc, size_of_drew] at h8); (try simp only [size_of_alloc, size_of_drew] at h9); (try simp only [size_of_alloc, size_of_drew] at h10); omega)))))); have HBQ := Lib.hid hbq; have HPQ := Lib.hid (Past.grown (w1 := w1) (wu := wu) (by go_split_ands; assumption) hgk hgk1); clear hbq))
    all_goals
      go_split_ands
      have hfin := ubox_two (ns := t.names ++ [s]) (ks := t.kids ++ [v]) (t := t) HPQ.out.below HWU.out.2.2 HBQ.out HON.out hoq (HRP.out HPQ.out.below) (Nat.lt_of_lt_of_le HWU.out.2.1 hza) (Nat.lt_of_lt_of_le HWU.out.2.1 hzk) (by have := HLN.out.1; rw [List.length_append, List.length_singleton]; omega) (by have := HLN.out.2; rw [List.length_append, List.length_singleton]; omega) HT0.out
      go_wp2_with (fail)
      go_meet
      exact ⟨rfl, Lib.hid (by first | exact hfin | (simp only [List.length_append, List.length_cons, List.length_nil, Nat.zero_add] at hfin ⊢; exact hfin))⟩
  case rest =>
    obtain ⟨rfl, HU⟩ := hcut
    obtain ⟨u, hu⟩ : ∃ u, u = t.re (t.names ++ [s]) (t.kids ++ [v]) := ⟨_, rfl⟩
    have HSU : Hid (∃ n', Sized 401 61 (dd + d' + 1) u 1 n') := Lib.hid (by
      obtain ⟨n1, hs1, _⟩ := HRT.out.2
      obtain ⟨n2, hs2, _⟩ := HRV.out
      have hts : TextsOk [s] := fun x hx => by rw [List.mem_singleton.1 hx]; exact rightTexts HRT.out.2 HRT.out.1 s (List.mem_of_getElem? HS.out)
      have := sized_added hs1 hs2 HRT.out.1 hts
      rw [hu, show dd + d' + 1 = dd + 1 + d' by omega]
      exact this)
    have HKU : Hid (u.kind = 5 ∧ ∀ x ∈ t.names, kidIn t.names t.kids x = kidIn u.names u.kids x) := Lib.hid ⟨by rw [hu]; exact HRT.out.1, fun x hx => by rw [hu]; exact (kid_added s v HN.out.2.2.1 hx).symm⟩
    obtain ⟨hbU0, hltU, an3, cn3, ak3, ck3, hrU, hcU⟩ := HU.out
    rw [← hu] at hrU hcU
    have hbU := Lib.hid hbU0
    have HRU := Lib.hid hrU
    have HUC : Hid (∀ {wz : World}, Below wc.heap.size wc wz → ∀ (j : Nat) x, (tcells u (.slice an3 u.names.length cn3) (.slice ak3 u.kids.length ck3))[j]? = some x → wz.cell? ⟨w5.heap.size, j, none⟩ = some x) := fun h j x hx => (h.cell (p := ⟨w5.heap.size, j, none⟩) hltU).trans (hcU j x hx)
    clear hu HU hbU0 hltU hrU hcU
    obtain ⟨cv, cw, hc⟩ := convFn
    have hcv := fun P X => (hc P X).1
    have HC := Lib.hid (fun P X => (hc P X).2)
    clear hc
    obtain ⟨P1, hP1⟩ : ∃ P, P = hPrint (dd + 1) t 0 := ⟨_, rfl⟩
    obtain ⟨P2, hP2⟩ : ∃ P, P = hPrint (dd + d' + 1) u 0 := ⟨_, rfl⟩
    have HPT : Hid (∀ {wz : World}, Below wc.heap.size wc wz → Calls Tryz.prog 31 #[.agg #[.int .u8 t.kind, .bool t.is, .bool t.minus, .int .u64 t.num, .string (B t.text), .slice (some ⟨nb, no, none⟩) t.names.length cn, .slice ak t.kids.length ck], .int .u64 0] wz fun e w' => e = .returned (.string (B P1)) ∧ Below wz.heap.size wz w') := fun h => by
      have h' := Below.to_next hbU.out h
      rw [hP1]
      exact rightPrint (x := 0) (HF.out h').1 HRT.out.2 (HF.out h').2.2.2.1 (by decide)
    have HPU : Hid (∀ {wz : World}, Below wc.heap.size wc wz → Calls Tryz.prog 31 #[.agg #[.int .u8 u.kind, .bool u.is, .bool u.minus, .int .u64 u.num, .string (B u.text), .slice an3 u.names.length cn3, .slice ak3 u.kids.length ck3], .int .u64 0] wz fun e w' => e = .returned (.string (B P2)) ∧ Below wz.heap.size wz w') := fun h => by
      rw [hP2]
      obtain ⟨n, hs⟩ := HSU.out
      exact print_any (x := 0) (HRU.out.below h) hs (by have := sized_le hs (by decide); omega) h.size (by decide)
    have HSAME : Hid (∀ {wz : World} {v1 v2 : Value}, Below wc.heap.size wc wz → BA wz v1 P1 → BA wz v2 P2 → Calls Tryz.prog 43 #[v1, v2, .slice (some ⟨nb, no, none⟩) t.names.length cn] wz fun e w' => e = .returned (.bool true) ∧ Below wz.heap.size wz w') := by
      intro wz v1 v2 h h2 h3
      have h' := Below.to_next hbU.out h
      rw [hP1] at h2
      rw [hP2] at h3
      obtain ⟨n, hs⟩ := HSU.out
      exact same_any (rightRd HRT.out.2 HRT.out.1 0) (rd_zero hs (by decide) (by decide) HKU.out.1) h2 h3 ((names_nsb (HF.out h').1).ns (HF.out h').2.2.2.1) (HF.out h').2.2.1.1 (fun x hx => by have := HN.out.1 x hx; omega) (by have := HLN.out.1; omega) HKU.out.2
    have LIVE2 : Hid (∀ {wz : World}, Below wc.heap.size wc wz → Calls Tryz.prog 34 #[] wz fun e w' => e = .returned (.bool true) ∧ Below wz.heap.size wz w') := fun {wz} h => live_any wz (HF.out (Below.to_next hbU.out h)).2.2.1.1
    clear hP1 hP2
    have hB0 : Below wc.heap.size wc wc.drew := (Below.refl _ _).drew
    have CWB : Hid (∀ {P : Bs} {X : World}, Below wc.heap.size wc X → Below wc.heap.size wc (cw P X)) := fun h => Below.to_next h (HC.out _ _).2
    go_wp2_with (fail)
    go_region_held_law (fun w' => (w'.cell? ⟨w.heap.size, 0, none⟩ = some (.int .u8 t.kind) ∧ w'.cell? ⟨w.heap.size, 1, none⟩ = some (.bool t.is) ∧ w'.cell? ⟨w.heap.size, 2, none⟩ = some (.bool t.minus) ∧ w'.cell? ⟨w.heap.size, 3, none⟩ = some (.int .u64 t.num) ∧ w'.cell? ⟨w.heap.size, 4, none⟩ = some (.string (B t.text)) ∧ w'.cell? ⟨w.heap.size, 5, none⟩ = some (.slice (some ⟨nb, no, none⟩) t.names.length cn) ∧ w'.cell? ⟨w.heap.size, 6, none⟩ = some (.slice ak t.kids.length ck) ∧ w'.cell? ⟨w5.heap.size, 0, none⟩ = some (.int .u8 u.kind) ∧ w'.cell? ⟨w5.heap.size, 1, none⟩ = some (.bool u.is) ∧ w'.cell? ⟨w5.heap.size, 2, none⟩ = some (.bool u.minus) ∧ w'.cell? ⟨w5.heap.size, 3, none⟩ = some (.int .u64 u.num) ∧ w'.cell? ⟨w5.heap.size, 4, none⟩ = some (.string (B u.text)) ∧ w'.cell? ⟨w5.heap.size, 5, none⟩ = some (.slice an3 u.names.length cn3) ∧ w'.cell? ⟨w5.heap.size, 6, none⟩ = some (.slice ak3 u.kids.length ck3)) ∧ Below wc.heap.size wc w')
      (first
        | (go_split_ands
           refine (fun hz => ⟨⟨BOX.out (Below.to_next hbU.out hz) 0 _ rfl, BOX.out (Below.to_next hbU.out hz) 1 _ rfl, BOX.out (Below.to_next hbU.out hz) 2 _ rfl, BOX.out (Below.to_next hbU.out hz) 3 _ rfl, BOX.out (Below.to_next hbU.out hz) 4 _ rfl, BOX.out (Below.to_next hbU.out hz) 5 _ rfl, BOX.out (Below.to_next hbU.out hz) 6 _ rfl, HUC.out hz 0 _ rfl, HUC.out hz 1 _ rfl, HUC.out hz 2 _ rfl, HUC.out hz 3 _ rfl, HUC.out hz 4 _ rfl, HUC.out hz 5 _ rfl, HUC.out hz 6 _ rfl⟩, hz⟩) ?_
           first
             | assumption
             | exact CWB.out (by assumption)
             | exact Below.to_alloc (by assumption) _
             | exact Below.to_next (by assumption) (by assumption)))
      (first
        | (go_at_call 31; go_split_ands; with_reducible refine (HPT.out (by assumption)).mono ?_; rintro e w6 ⟨rfl, hb6⟩)
        | (go_at_call 31; go_split_ands; with_reducible refine (HPU.out (by assumption)).mono ?_; rintro e w7 ⟨rfl, hb7⟩)
        | (go_at_call 43; go_split_ands; refine (HSAME.out (by assumption) (BA.below (HC.out P1 _).1 (by (repeat (first | with_reducible exact Below.refl _ _ | with_reducible refine Below.drew ?_ | with_reducible refine Below.to_alloc ?_ _ | with_reducible refine Below.to_next ?_ (HC.out _ _).2 | with_reducible refine Below.to_next ?_ hb7 | with_reducible refine Below.to_next ?_ hb6)))) (BA.below (HC.out P2 _).1 (by (repeat (first | with_reducible exact Below.refl _ _ | with_reducible refine Below.drew ?_ | with_reducible refine Below.to_alloc ?_ _ | with_reducible refine Below.to_next ?_ (HC.out _ _).2 | with_reducible refine Below.to_next ?_ hb7 | with_reducible refine Below.to_next ?_ hb6))))).mono ?_; rintro e w9 ⟨rfl, hb9⟩)
        | (go_at_call 34; go_split_ands; refine (LIVE2.out (by assumption)).mono ?_; rintro e w10 ⟨rfl, hb10⟩))
    all_goals
      go_split_ands
      go_wp2
      go_ret
      exact ⟨rfl, (HF.out (Below.to_next hbU.out (by assumption))).2.2.2.2⟩
end Go.Proofs.YtppkpcijmfdfmaaGreatDoor
