/- The walk of FnHeadChanged. Printed by gen_w210.py. -/
import Derived.Test.YtppkpcijmfdfmaaGreatDoorW194
import Derived.Test.YtppkpcijmfdfmaaGreatDoorW195
import Derived.Test.YtppkpcijmfdfmaaGreatDoorH1
import Derived.Test.YtppkpcijmfdfmaaGreatDoorW134
import Derived.Deep.DeepCutAuto
set_option linter.unusedVariables false
set_option linter.unusedSimpArgs false
namespace Go.Proofs.YtppkpcijmfdfmaaGreatDoor
open Go.RowKit
attribute [local go_sem] B_size B_get B_lit B_ext_to B_ext B_toList B_app

set_option maxRecDepth 100000 in
set_option maxHeartbeats 8000000 in
theorem changed_walk {d d' : Nat} {t v : HT} {nv kv nv' kv' : Value} {B0 x0 at0 : Nat} {w : World} (hr0 : RepT w B0 d nv kv t) (hv : RepT w B0 d' nv' kv' v) (hG : Ground w) (hB : B0 ≤ w.heap.size) (hx : x0 < 18446744073709551616) (hat : at0 < 256) :
    Calls Tryz.prog 17 #[.agg (tcells t nv kv).toArray, .agg (tcells v nv' kv').toArray, .int .u64 x0, .int .u8 at0] w fun e w' => e = .returned (.bool true) ∧ Below w.heap.size w w' := by
  obtain ⟨dd, rfl⟩ : ∃ e, d = e + 1 := by
    cases d with
    | zero => exact hr0.elim
    | succ e => exact ⟨e, rfl⟩
  have hr := hr0
  clear hr0
  obtain ⟨⟨an, cn, rfl⟩, ak, ck, rfl⟩ := hr.slices
  obtain ⟨⟨an2, cn2, rfl⟩, ak2, ck2, rfl⟩ := hv.slices
  obtain ⟨w1, hw1⟩ : ∃ w1, w1 = (w.alloc (.cells (tcells t (.slice an t.names.length cn) (.slice ak t.kids.length ck)).toArray 45)).alloc (.cells (tcells v (.slice an2 v.names.length cn2) (.slice ak2 v.kids.length ck2)).toArray 45) := ⟨_, rfl⟩
  have hb1 : Below w.heap.size w w1 := by rw [hw1]; exact ((Below.refl _ _).alloc (Nat.le_refl _) _).alloc (by simp) _
  have hsz1 : w1.heap.size = w.heap.size + 2 := by rw [hw1]; simp
  have BOX : Hid (∀ {wz : World}, Below w1.heap.size w1 wz → ∀ (j : Nat) u, (tcells t (.slice an t.names.length cn) (.slice ak t.kids.length ck))[j]? = some u → wz.cell? ⟨w.heap.size, j, none⟩ = some u) := by
    intro wz hb j u hu
    refine (hb.cell (p := ⟨w.heap.size, j, none⟩) (by show w.heap.size < _; omega)).trans ?_
    have hb0 : w1.heap[w.heap.size]? = some (.cells (tcells t (.slice an t.names.length cn) (.slice ak t.kids.length ck)).toArray 45) := by rw [hw1]; exact blk_alloc (heap_alloc_new _ _)
    exact blk_cell hb0 j u hu
  have BOXV : Hid (∀ {wz : World}, Below w1.heap.size w1 wz → ∀ (j : Nat) u, (tcells v (.slice an2 v.names.length cn2) (.slice ak2 v.kids.length ck2))[j]? = some u → wz.cell? ⟨w.heap.size + 1, j, none⟩ = some u) := by
    intro wz hb j u hu
    refine (hb.cell (p := ⟨w.heap.size + 1, j, none⟩) (by show w.heap.size + 1 < _; omega)).trans ?_
    have e : (w.alloc (.cells (tcells t (.slice an t.names.length cn) (.slice ak t.kids.length ck)).toArray 45)).heap.size = w.heap.size + 1 := by simp
    rw [hw1, ← e, cell_box]
    exact hu
  have HF : Hid (∀ {wz : World}, Below w1.heap.size w1 wz → RepT wz B0 (dd + 1) (.slice an t.names.length cn) (.slice ak t.kids.length ck) t ∧ RepT wz B0 d' (.slice an2 v.names.length cn2) (.slice ak2 v.kids.length ck2) v ∧ Ground wz ∧ B0 ≤ wz.heap.size ∧ Below w.heap.size w wz) := by
    intro wz hb
    have hb2 : Below w.heap.size w wz := hb1.trans (hb.mono hb1.size)
    exact ⟨hr.below (hb2.mono hB), hv.below (hb2.mono hB), hG.below hb2, Nat.le_trans hB hb2.size, hb2⟩
  have HFIT := Lib.hid (fits11_any (HF.out (Below.refl _ _)).1 (HF.out (Below.refl _ _)).2.2.2.1)
  have HFITV : Hid (∀ {wz : World}, Below w1.heap.size w1 wz → Calls Tryz.prog 35 #[.agg (tcells v (.slice an2 v.names.length cn2) (.slice ak2 v.kids.length ck2)).toArray] wz fun e w' => (∃ b, e = .returned (.bool b)) ∧ Below wz.heap.size wz w') := fun h => fits11_any (HF.out h).2.1 (HF.out h).2.2.2.1
  have HRIGHT : Hid (∀ {wz : World}, Below w1.heap.size w1 wz → Calls Tryz.prog 41 #[.agg (tcells v (.slice an2 v.names.length cn2) (.slice ak2 v.kids.length ck2)).toArray] wz fun e w' => ∃ ok, e = .returned (.bool ok) ∧ (ok = true → Right d' v) ∧ Below wz.heap.size wz w') := fun h => right_any (HF.out h).2.1 (HF.out h).2.2.1.2 (HF.out h).2.2.2.1
  have HOBJ : Hid (∀ {wz : World}, Below w1.heap.size w1 wz → Calls Tryz.prog 36 #[.agg (tcells t (.slice an t.names.length cn) (.slice ak t.kids.length ck)).toArray, .slice none 0 0] wz fun e w' => ∃ ok, e = .returned (.bool ok) ∧ (ok = true → t.kind = 5 ∧ Right (dd + 1) t ∧ TextsOk []) ∧ Below wz.heap.size wz w') :=
    fun h => object_any (HF.out h).1 (HF.out h).2.2.1.2 (HF.out h).2.2.2.1 (Or.inl ⟨none, 0, rfl, rfl⟩) (by simp)
  clear hr hv hG hb1
  simp only [tcells] at hw1 HFIT HFITV HRIGHT HOBJ BOX BOXV ⊢
  have HW1 := Lib.hid hw1
  clear hw1
  go_enter Tryz.func17, Tryz.ntmps17
  go_wp2_with (fail)
  rw [← HW1.out]
  refine HFIT.out.mono ?_
  rintro e w2 ⟨⟨bf, rfl⟩, hb2⟩
  have H2 := Lib.hid hb2
  clear hb2
  have LIVE : Hid (∀ {wz : World}, Below w1.heap.size w1 wz → Calls Tryz.prog 34 #[] wz fun e w' => e = .returned (.bool true) ∧ Below w.heap.size w w') := fun {wz} h =>
    (live_any wz (HF.out h).2.2.1.1).mono fun e w' he => ⟨he.1, (HF.out h).2.2.2.2.trans (he.2.mono (HF.out h).2.2.2.2.size)⟩
  cases bf
  · go_wp2
    go_ret
    exact ⟨rfl, (HF.out H2.out).2.2.2.2⟩
  have r0 := BOXV.out H2.out 0 _ rfl
  have r1 := BOXV.out H2.out 1 _ rfl
  have r2 := BOXV.out H2.out 2 _ rfl
  have r3 := BOXV.out H2.out 3 _ rfl
  have r4 := BOXV.out H2.out 4 _ rfl
  have r5 := BOXV.out H2.out 5 _ rfl
  have r6 := BOXV.out H2.out 6 _ rfl
  go_wp2_with (fail)
  refine (HFITV.out H2.out).mono ?_
  rintro e w3 ⟨⟨bg, rfl⟩, hb3⟩
  have H3 := Lib.hid (Below.to_next H2.out hb3)
  clear hb3 r0 r1 r2 r3 r4 r5 r6
  cases bg
  · go_wp2
    go_ret
    exact ⟨rfl, (HF.out H3.out).2.2.2.2⟩
  have q0 := BOX.out H3.out 0 _ rfl
  have q1 := BOX.out H3.out 1 _ rfl
  have q2 := BOX.out H3.out 2 _ rfl
  have q3 := BOX.out H3.out 3 _ rfl
  have q4 := BOX.out H3.out 4 _ rfl
  have q5 := BOX.out H3.out 5 _ rfl
  have q6 := BOX.out H3.out 6 _ rfl
  go_wp2_with (fail)
  refine (HOBJ.out H3.out).mono ?_
  rintro e w4 ⟨ok, rfl, hy, hb4⟩
  have HY := Lib.hid hy
  have H4 := Lib.hid (Below.to_next H3.out hb4)
  clear hy hb4 q0 q1 q2 q3 q4 q5 q6
  cases ok
  · go_wp2_with (fail)
    refine (LIVE.out H4.out).mono ?_
    rintro e w9 ⟨rfl, hb9⟩
    have H9 := Lib.hid hb9
    clear hb9
    go_wp2
    go_ret
    exact ⟨rfl, H9.out⟩
  have HRT : Hid (t.kind = 5 ∧ Right (dd + 1) t) := ⟨(HY.out rfl).1, (HY.out rfl).2.1⟩
  clear HY
  have r0 := BOXV.out H4.out 0 _ rfl
  have r1 := BOXV.out H4.out 1 _ rfl
  have r2 := BOXV.out H4.out 2 _ rfl
  have r3 := BOXV.out H4.out 3 _ rfl
  have r4 := BOXV.out H4.out 4 _ rfl
  have r5 := BOXV.out H4.out 5 _ rfl
  have r6 := BOXV.out H4.out 6 _ rfl
  go_wp2_with (fail)
  refine (HRIGHT.out H4.out).mono ?_
  rintro e w5 ⟨ok2, rfl, hy2, hb5⟩
  have HY2 := Lib.hid hy2
  have H5 := Lib.hid (Below.to_next H4.out hb5)
  clear hy2 hb5 r0 r1 r2 r3 r4 r5 r6
  cases ok2
  · go_wp2_with (fail)
    refine (LIVE.out H5.out).mono ?_
    rintro e w9 ⟨rfl, hb9⟩
    have H9 := Lib.hid hb9
    clear hb9
    go_wp2
    go_ret
    exact ⟨rfl, H9.out⟩
  have HRV : Hid (Right d' v) := HY2.out rfl
  clear HY2
  have q0 := BOX.out H5.out 0 _ rfl
  have q1 := BOX.out H5.out 1 _ rfl
  have q2 := BOX.out H5.out 2 _ rfl
  have q3 := BOX.out H5.out 3 _ rfl
  have q4 := BOX.out H5.out 4 _ rfl
  have q5 := BOX.out H5.out 5 _ rfl
  have q6 := BOX.out H5.out 6 _ rfl
  by_cases hk0 : t.kids.length = 0
  · have f0 : ((t.kids.length : Int) == 0) = true := by rw [beq_iff_eq]; omega
    go_wp2_with (fail)
    refine (LIVE.out H5.out).mono ?_
    rintro e w9 ⟨rfl, hb9⟩
    have H9 := Lib.hid hb9
    clear hb9
    go_wp2
    go_ret
    exact ⟨rfl, H9.out⟩
  have f0 : ((t.kids.length : Int) == 0) = false := by rw [beq_eq_false_iff_ne]; omega
  have HN := Lib.hid (rightNames HRT.out.2 HRT.out.1)
  obtain ⟨nb, no, rfl, hnb, hncap, hnc⟩ : ∃ nb no, an = some ⟨nb, no, none⟩ ∧ nb < B0 ∧ t.names.length ≤ cn ∧ ∀ {wz : World}, Below w1.heap.size w1 wz → ∀ (i : Nat) s, t.names[i]? = some s → wz.cell? ⟨nb, no + i, none⟩ = some (.string (B s)) := by
    have h1 := names_nsb (HF.out (Below.refl _ _)).1
    rcases h1 with ⟨_, _, _, h2⟩ | ⟨b, off, c, h2, h3, h4⟩
    · have := HN.out.2.2.1; rw [h2] at this; simp at this; omega
    · cases h2
      exact ⟨b, off, rfl, h3.1, h3.2, fun hb i s hi => (hb.cell (p := ⟨b, off + i, none⟩) (Nat.lt_of_lt_of_le h3.1 (HF.out (Below.refl _ _)).2.2.2.1)).trans (h4 i s hi)⟩
  have HNB := Lib.hid hnb
  have HNC : Hid (∀ {wz : World}, Below w1.heap.size w1 wz → ∀ (i : Nat) s, t.names[i]? = some s → wz.cell? ⟨nb, no + i, none⟩ = some (.string (B s))) := fun h => hnc h
  clear hnb hnc
  obtain ⟨k, hk⟩ : ∃ k, k = at0 % t.kids.length := ⟨_, rfl⟩
  have hn0 : 0 < t.names.length := by have := HN.out.2.2.1; omega
  have hkk : 0 < t.kids.length := by omega
  have hkn : k < t.names.length := by have := HN.out.2.2.1; rw [hk]; have := Nat.mod_lt at0 (show 0 < t.kids.length by omega); omega
  have hkl : k < t.kids.length := by have := HN.out.2.2.1; omega
  have e0 : IntKind.i64.wrap (at0 : Int) = (at0 : Int) := by rw [IntKind.wrap_i64]; omega
  have e1 : ((at0 : Int).tmod (t.kids.length : Int)) = (k : Int) := by rw [hk]; exact Int.ofNat_tmod at0 t.kids.length
  have e2 : ¬ (t.kids.length = 0) := by omega
  have e2c : ¬ ((t.kids.length : Int) = 0) := by omega
  have il : (k : Int) < t.kids.length := by omega
  have i0 : (0 : Int) ≤ (k : Int) := by omega
  have i9 : (k : Int) < 1000001 := by have := HN.out.2.1; omega
  clear hk
  obtain ⟨ps, hrp, hkr⟩ := KidsB.krow (HF.out (Below.refl _ _)).1.2.2 (HF.out (Below.refl _ _)).2.2.2.1
  have HPS := Lib.hid (And.intro hrp hkr)
  clear hrp hkr
  go_upto_region 7 with (fail)
  obtain ⟨wu, hwu⟩ : ∃ wu, wu = w5.alloc (.cells #[.int .u8 t.kind, .bool t.is, .bool t.minus, .int .u64 t.num, .string (B t.text), .slice (some ⟨nb, no, none⟩) t.names.length cn, .slice ak t.kids.length ck] 45) := ⟨_, rfl⟩
  rw [← hwu]
  have HUB : Hid (wu.heap[w5.heap.size]? = some (.cells (tcells t (.slice (some ⟨nb, no, none⟩) t.names.length cn) (.slice ak t.kids.length ck)).toArray 45 (0, 0))) := Lib.hid (by rw [hwu]; exact heap_alloc_new _ _)
  have HWU : Hid (Below w1.heap.size w1 wu ∧ w5.heap.size < wu.heap.size ∧ w1.heap.size ≤ w5.heap.size) := Lib.hid ⟨by rw [hwu]; exact Below.to_alloc H5.out _, by rw [hwu]; simp, H5.out.size⟩
  clear hwu q0 q1 q2 q3 q4 q5 q6
  have HNL : Hid (t.names.length ≤ 200 ∧ t.kids.length ≤ 200 ∧ t.names.length = t.kids.length) := Lib.hid ⟨HN.out.2.1, by have := HN.out.2.1; have := HN.out.2.2.1; omega, HN.out.2.2.1⟩
  have HCLK : Hid (Calls Tryz.prog 45 #[.slice ak t.kids.length ck] wu fun e w' => ∃ ga ca, e = .returned (.slice (some ⟨ga, 0, none⟩) t.kids.length ca) ∧ OwnK wu.heap.size w' ga ca t.kids ps ∧ Below wu.heap.size wu w') := by
    refine (cloneK_any (HPS.out.2.below HWU.out.1) HPS.out.1.one (by have := HNL.out; omega)).mono ?_
    rintro e w' ⟨v', rfl, hrow, hb⟩
    rcases hrow.form with ⟨_, h2⟩ | ⟨g, cap, rfl, ho⟩
    · exfalso; apply hk0; rw [h2]; rfl
    · exact ⟨g, cap, rfl, ho, hb⟩
  have q6 := BOX.out HWU.out.1 6 _ rfl
  go_wp2_with (fail)
  refine HCLK.out.mono ?_
  rintro e wk ⟨ga, ca, rfl, hok, hbk⟩
  have HOK := Lib.hid hok
  have HBK := Lib.hid hbk
  have hbq := blk_below hbk HUB.out
  have HBQ := Lib.hid hbq
  have hu6 := blk_cell hbq 6 _ rfl
  have hf6 := blk_free hbq 6
  clear hok hbk hbq q6
  go_upto_region 8 with (fail)
  refine letterC ?_
  intro x hx0
  have HX : Hid (Below w1.heap.size w1 x ∧ (∀ b, b ≠ w5.heap.size → x.heap[b]? = wk.heap[b]?) ∧ x.heap.size = wk.heap.size) := Lib.hid ⟨by rw [hx0]; exact (Below.to_next HWU.out.1 HBK.out).setCell HWU.out.2.2 _, fun b hb => by rw [hx0, Below.heap_setCell _ _ _ _ hb], by rw [hx0, World.size_setCell]⟩
  have HXC : Hid (∀ (j : Nat) u, (tcells t (.slice (some ⟨nb, no, none⟩) t.names.length cn) (.slice (some ⟨ga, 0, none⟩) t.kids.length ca))[j]? = some u → x.cell? ⟨w5.heap.size, j, none⟩ = some u) := Lib.hid (fun j u hu => by
    have hj : j < 7 := (List.getElem?_eq_some_iff.1 hu).1
    by_cases h6 : j = 6
    · subst h6; cases hu; rw [hx0]; exact World.cell?_setCell_same _ _ _ (blk_cell HBQ.out 6 _ rfl)
    · rw [hx0, World.cell?_setCell_other _ _ _ _ (by intro e; cases e; exact h6 rfl)]
      obtain h | h | h | h | h | h : j = 0 ∨ j = 1 ∨ j = 2 ∨ j = 3 ∨ j = 4 ∨ j = 5 := by omega
      all_goals (subst h; cases hu; exact blk_cell HBQ.out _ _ rfl))
  have hgu : w5.heap.size < ga := Nat.lt_of_lt_of_le HWU.out.2.1 HOK.out.base
  have HOX : Hid (OwnK wu.heap.size x ga ca t.kids ps) := Lib.hid (HOK.out.keep (HX.out.2.1 ga (by omega)))
  have hu6 : x.cell? ⟨w5.heap.size, 6, none⟩ = some (.slice (some ⟨ga, 0, none⟩) t.kids.length ca) := HXC.out 6 _ rfl
  have r0 := BOXV.out HX.out.1 0 _ rfl
  have r1 := BOXV.out HX.out.1 1 _ rfl
  have r2 := BOXV.out HX.out.1 2 _ rfl
  have r3 := BOXV.out HX.out.1 3 _ rfl
  have r4 := BOXV.out HX.out.1 4 _ rfl
  have r5 := BOXV.out HX.out.1 5 _ rfl
  have r6 := BOXV.out HX.out.1 6 _ rfl
  have hrow : ∃ c0 c1 c2 c3 c4 c5 c6, x.cell? ⟨ga, k * 7, none⟩ = some c0 ∧ x.cell? ⟨ga, k * 7 + 1, none⟩ = some c1 ∧ x.cell? ⟨ga, k * 7 + 2, none⟩ = some c2 ∧ x.cell? ⟨ga, k * 7 + 3, none⟩ = some c3 ∧ x.cell? ⟨ga, k * 7 + 4, none⟩ = some c4 ∧ x.cell? ⟨ga, k * 7 + 5, none⟩ = some c5 ∧ x.cell? ⟨ga, k * 7 + 6, none⟩ = some c6 := by
    have h7 : ∀ j, j < 7 → ∃ c, x.cell? ⟨ga, k * 7 + j, none⟩ = some c := fun j hj => by
      have hl := flatK_length HOX.out.1
      have hi : k * 7 + j < (flatK t.kids ps).length := by rw [hl]; omega
      exact ⟨_, HOX.out.cells _ _ (List.getElem?_eq_getElem hi)⟩
    obtain ⟨c0, k0⟩ := h7 0 (by omega)
    obtain ⟨c1, k1⟩ := h7 1 (by omega)
    obtain ⟨c2, k2⟩ := h7 2 (by omega)
    obtain ⟨c3, k3⟩ := h7 3 (by omega)
    obtain ⟨c4, k4⟩ := h7 4 (by omega)
    obtain ⟨c5, k5⟩ := h7 5 (by omega)
    obtain ⟨c6, k6⟩ := h7 6 (by omega)
    exact ⟨c0, c1, c2, c3, c4, c5, c6, k0, k1, k2, k3, k4, k5, k6⟩
  obtain ⟨c0, c1, c2, c3, c4, c5, c6, k0, k1, k2, k3, k4, k5, k6⟩ := hrow
  have hfz : ∀ j, x.frozen? ⟨ga, j, none⟩ = false := fun j => by
    obtain ⟨cur, _, h3, _⟩ := HOX.out.row
    exact blk_free h3 j
  have z0 := hfz (k * 7)
  have z1 := hfz (k * 7 + 1)
  have z2 := hfz (k * 7 + 2)
  have z3 := hfz (k * 7 + 3)
  have z4 := hfz (k * 7 + 4)
  have z5 := hfz (k * 7 + 5)
  have z6 := hfz (k * 7 + 6)
  clear hx0 hfz
  go_upto_region 9 with (fail)
  refine letterC ?_
  intro z hz
  have HONE : Hid (OneP [((Value.slice an2 v.names.length cn2), (Value.slice ak2 v.kids.length ck2))]) := Lib.hid (fun p hp => by rw [List.mem_singleton.1 hp]; exact ⟨rfl, rfl⟩)
  have HT0 : Hid (t.kind < 256 ∧ t.num < 18446744073709551616) := Lib.hid ⟨(HF.out (Below.refl w1.heap.size w1)).1.1.1, (HF.out (Below.refl w1.heap.size w1)).1.1.2.1⟩
  have HUX : Hid (UBox w1 z w5.heap.size (dd + d' + 1) (t.re t.names (t.kids.set k v))) := Lib.hid (by
    have h0 := (HF.out (Below.refl w1.heap.size w1)).2.2.2.1
    have hl := HNL.out
    rw [hz]
    have := ubox_set (p := ((Value.slice an2 v.names.length cn2), (Value.slice ak2 v.kids.length ck2))) (D := dd + d') (v := v) HX.out.1 (by have := HWU.out.2.2; omega) HXC.out (Nat.lt_of_lt_of_le HWU.out.2.1 (by rw [HX.out.2.2]; exact HBK.out.size)) (by omega) HOX.out hkl
      (((HPS.out.1.below (HX.out.1.mono h0)).up h0).fuel (by omega)) (((HF.out HX.out.1).2.1.up h0).fuel (by omega)) ((names_nsb (HF.out HX.out.1).1).up h0) (by omega) (by omega) HT0.out
    exact this)
  clear hz k0 k1 k2 k3 k4 k5 k6 z0 z1 z2 z3 z4 z5 z6 hu6 r0 r1 r2 r3 r4 r5 r6
  have hbz := HUX.out.1
  have HBZ := Lib.hid hbz
  clear hbz
  obtain ⟨LO, hLO⟩ : ∃ L, L = t.names.take k ++ t.names.drop (k + 1) := ⟨_, rfl⟩
  have gw : IntKind.i64.wrap ((k : Int) + 1) = (k : Int) + 1 := by rw [IntKind.wrap_i64]; omega
  have gt : ((k : Int) + 1).toNat = k + 1 := by omega
  have g0 : (0 : Int) ≤ (k : Int) + 1 := by omega
  have g1 : (k : Int) + 1 ≤ (t.names.length : Int) := by omega
  have g2 : (t.names.length : Int) ≤ (cn : Int) := by omega
  have g3 : (k : Int) ≤ (cn : Int) := by omega
  obtain ⟨ad1, had1⟩ : ∃ a, (if cn = k + 1 then (some ⟨nb, no, none⟩ : Option Addr) else some ⟨nb, no + (k + 1), none⟩) = a := ⟨_, rfl⟩
  have HAD := Lib.hid had1
  have HCATN : Hid (∀ {wz : World} {b : Nat}, Below z.heap.size z wz → wz.heap[b]? = some (.cells ([Value.slice (some ⟨nb, no, none⟩) k cn, Value.slice ad1 (t.names.length - (k + 1)) (cn - (k + 1))] : List Value).toArray 29 (0, 0)) → Calls Tryz.prog 48 #[.slice (some ⟨b, 0, none⟩) 2 2] wz fun e w' => ∃ a c, e = .returned (.slice a LO.length c) ∧ NS w' (.slice a LO.length c) LO ∧ Below wz.heap.size wz w') := by
    intro wz b h hb
    have h' := Below.to_next HBZ.out h
    have hlt : nb < wz.heap.size := Nat.lt_of_lt_of_le HNB.out (HF.out h').2.2.2.1
    have hnc : ∀ (i : Nat) s, t.names[i]? = some s → wz.cell? ⟨nb, no + i, none⟩ = some (.string (B s)) := HNC.out h'
    have hl := HNL.out
    rw [hLO]
    refine (concatN_box (l1 := t.names.take k) (l2 := t.names.drop (k + 1)) (by simp only [List.length_take]; omega) (by simp only [List.length_drop]) (ns_take hlt hnc k (by rw [List.length_take]; omega)) (ns_drop_ad hlt hnc (k + 1) hncap HAD.out (by rw [List.length_drop])) hb (by omega) (by omega)).mono ?_
    rintro e w' ⟨a, c, h1, h2, h3⟩
    exact ⟨a, c, h1, h2.nsb.ns (Nat.le_refl _), h3⟩
  have HLO := Lib.hid hLO
  clear hLO
  have hP0 : Below z.heap.size z z.drew := (Below.refl _ _).drew
  go_cut [11] (fun s11 wx => ∃ ao co, s11 = .slice ao LO.length co ∧ Hid (NS wx (.slice ao LO.length co) LO ∧ Below z.heap.size z wx))
  case first =>
    go_region_held_law (fun w' => (w'.cell? ⟨w.heap.size, 5, none⟩ = some (.slice (some ⟨nb, no, none⟩) t.names.length cn)) ∧ Below z.heap.size z w')
      (first
        | (go_split_ands
           refine (fun hz => ⟨BOX.out (Below.to_next HBZ.out hz) 5 _ rfl, hz⟩) ?_
           first
             | assumption
             | exact Below.to_alloc (by assumption) _
             | exact Below.to_next (by assumption) (by assumption)))
      (first
        | (go_at_call 48; go_split_ands; refine (HCATN.out (by assumption) (by (repeat (first | with_reducible exact heap_alloc_new _ _ | with_reducible refine blk_drew ?_ | with_reducible refine blk_alloc ?_)))).mono ?_; rintro e wa ⟨aa, ca9, rfl, hns, hba⟩; have HNS := Lib.hid hns))
    all_goals
      go_split_ands
      go_wp2_with (fail)
      go_meet
      exact ⟨_, _, rfl, Lib.hid ⟨HNS.out, by assumption⟩⟩
  case rest =>
    obtain ⟨ao, co, rfl, HNS⟩ := hcut
    have HZC := Lib.hid HNS.out.2
    have HBZC : Hid (Below w1.heap.size w1 wc) := Lib.hid (Below.to_next HBZ.out HZC.out)
    obtain ⟨u, hu⟩ : ∃ u, u = t.re t.names (t.kids.set k v) := ⟨_, rfl⟩
    have HSU : Hid (∃ n', Sized 401 61 (dd + d' + 1) u 1 n') := Lib.hid (by
      obtain ⟨n1, hs1, _⟩ := HRT.out.2
      obtain ⟨n2, hs2, _⟩ := HRV.out
      have := sized_changed hs1 hs2 HRT.out.1 k
      rw [hu, show dd + d' + 1 = dd + 1 + d' by omega]
      exact this)
    have HKU : Hid (u.kind = 5 ∧ u.names.Nodup ∧ (∀ x ∈ LO, kidIn t.names t.kids x = kidIn u.names u.kids x) ∧ (∀ x ∈ LO, x ∈ t.names) ∧ LO.length ≤ 401) := Lib.hid (by
      rw [hu, re_kind, re_names, re_kids, HLO.out]
      refine ⟨HRT.out.1, HN.out.2.2.2, fun x hx => (kid_set v (out_ne HN.out.2.2.2 hx)).symm, fun x hx => ?_, ?_⟩
      · rcases List.mem_append.1 hx with hx | hx
        · exact List.mem_of_mem_take hx
        · exact List.mem_of_mem_drop hx
      · have := HNL.out
        rw [List.length_append, List.length_take, List.length_drop]
        omega)
    obtain ⟨_, hltU, an3, cn3, ak3, ck3, hrU, hcU⟩ := HUX.out
    rw [← hu] at hrU hcU
    have HRU : Hid (RepT z z.heap.size (dd + d' + 1) (.slice an3 u.names.length cn3) (.slice ak3 u.kids.length ck3) u) := Lib.hid hrU
    have HUC : Hid (∀ {wz : World}, Below wc.heap.size wc wz → ∀ (j : Nat) x, (tcells u (.slice an3 u.names.length cn3) (.slice ak3 u.kids.length ck3))[j]? = some x → wz.cell? ⟨w5.heap.size, j, none⟩ = some x) := fun h j x hx => ((Below.to_next HZC.out h).cell (p := ⟨w5.heap.size, j, none⟩) hltU).trans (hcU j x hx)
    clear hu hltU hrU hcU
    obtain ⟨cv, cw, hc⟩ := convFn
    have hcv := fun P X => (hc P X).1
    have HC := Lib.hid (fun P X => (hc P X).2)
    clear hc
    obtain ⟨P1, hP1⟩ : ∃ P, P = hPrint (dd + 1) t x0 := ⟨_, rfl⟩
    obtain ⟨P2, hP2⟩ : ∃ P, P = hPrint (dd + d' + 1) u x0 := ⟨_, rfl⟩
    have HPT : Hid (∀ {wz : World}, Below wc.heap.size wc wz → Calls Tryz.prog 31 #[.agg #[.int .u8 t.kind, .bool t.is, .bool t.minus, .int .u64 t.num, .string (B t.text), .slice (some ⟨nb, no, none⟩) t.names.length cn, .slice ak t.kids.length ck], .int .u64 x0] wz fun e w' => e = .returned (.string (B P1)) ∧ Below wz.heap.size wz w') := fun h => by
      have h' := Below.to_next HBZC.out h
      rw [hP1]
      exact rightPrint (x := x0) (HF.out h').1 HRT.out.2 (HF.out h').2.2.2.1 hx
    have HPU : Hid (∀ {wz : World}, Below wc.heap.size wc wz → Calls Tryz.prog 31 #[.agg #[.int .u8 u.kind, .bool u.is, .bool u.minus, .int .u64 u.num, .string (B u.text), .slice an3 u.names.length cn3, .slice ak3 u.kids.length ck3], .int .u64 x0] wz fun e w' => e = .returned (.string (B P2)) ∧ Below wz.heap.size wz w') := fun h => by
      rw [hP2]
      obtain ⟨n, hs⟩ := HSU.out
      exact print_any (x := x0) (HRU.out.below (Below.to_next HZC.out h)) hs (by have := sized_le hs (by decide); omega) (Below.to_next HZC.out h).size hx
    have HSAME : Hid (∀ {wz : World} {v1 v2 : Value}, Below wc.heap.size wc wz → BA wz v1 P1 → BA wz v2 P2 → Calls Tryz.prog 43 #[v1, v2, .slice ao LO.length co] wz fun e w' => e = .returned (.bool true) ∧ Below wz.heap.size wz w') := by
      intro wz v1 v2 h h2 h3
      have h' := Below.to_next HBZC.out h
      rw [hP1] at h2
      rw [hP2] at h3
      obtain ⟨n, hs⟩ := HSU.out
      refine same_any (rightRd HRT.out.2 HRT.out.1 x0) (rd_print hs (by decide) (by decide) HKU.out.1 HKU.out.2.1 x0) h2 h3 (HNS.out.1.below h) (HF.out h').2.2.1.1 (fun s hs => ?_) (by have := HKU.out.2.2.2.2; omega) HKU.out.2.2.1
      have := HN.out.1 s (HKU.out.2.2.2.1 s hs); omega
    have LIVE2 : Hid (∀ {wz : World}, Below wc.heap.size wc wz → Calls Tryz.prog 34 #[] wz fun e w' => e = .returned (.bool true) ∧ Below wz.heap.size wz w') := fun {wz} h => live_any wz (HF.out (Below.to_next HBZC.out h)).2.2.1.1
    clear hP1 hP2
    have hB0 : Below wc.heap.size wc wc.drew := (Below.refl _ _).drew
    have CWB : Hid (∀ {P : Bs} {X : World}, Below wc.heap.size wc X → Below wc.heap.size wc (cw P X)) := fun h => Below.to_next h (HC.out _ _).2
    clear gw gt g0 g1 g2 g3 had1 hP0 e0 e1 e2 e2c il i0 i9 hn0 hkk hkl
    go_wp2_with (fail)
    go_region_held_law (fun w' => (w'.cell? ⟨w.heap.size, 0, none⟩ = some (.int .u8 t.kind) ∧ w'.cell? ⟨w.heap.size, 1, none⟩ = some (.bool t.is) ∧ w'.cell? ⟨w.heap.size, 2, none⟩ = some (.bool t.minus) ∧ w'.cell? ⟨w.heap.size, 3, none⟩ = some (.int .u64 t.num) ∧ w'.cell? ⟨w.heap.size, 4, none⟩ = some (.string (B t.text)) ∧ w'.cell? ⟨w.heap.size, 5, none⟩ = some (.slice (some ⟨nb, no, none⟩) t.names.length cn) ∧ w'.cell? ⟨w.heap.size, 6, none⟩ = some (.slice ak t.kids.length ck) ∧ w'.cell? ⟨w5.heap.size, 0, none⟩ = some (.int .u8 u.kind) ∧ w'.cell? ⟨w5.heap.size, 1, none⟩ = some (.bool u.is) ∧ w'.cell? ⟨w5.heap.size, 2, none⟩ = some (.bool u.minus) ∧ w'.cell? ⟨w5.heap.size, 3, none⟩ = some (.int .u64 u.num) ∧ w'.cell? ⟨w5.heap.size, 4, none⟩ = some (.string (B u.text)) ∧ w'.cell? ⟨w5.heap.size, 5, none⟩ = some (.slice an3 u.names.length cn3) ∧ w'.cell? ⟨w5.heap.size, 6, none⟩ = some (.slice ak3 u.kids.length ck3)) ∧ Below wc.heap.size wc w')
      (first
        | (go_split_ands
           refine (fun hz => ⟨⟨BOX.out (Below.to_next HBZC.out hz) 0 _ rfl, BOX.out (Below.to_next HBZC.out hz) 1 _ rfl, BOX.out (Below.to_next HBZC.out hz) 2 _ rfl, BOX.out (Below.to_next HBZC.out hz) 3 _ rfl, BOX.out (Below.to_next HBZC.out hz) 4 _ rfl, BOX.out (Below.to_next HBZC.out hz) 5 _ rfl, BOX.out (Below.to_next HBZC.out hz) 6 _ rfl, HUC.out hz 0 _ rfl, HUC.out hz 1 _ rfl, HUC.out hz 2 _ rfl, HUC.out hz 3 _ rfl, HUC.out hz 4 _ rfl, HUC.out hz 5 _ rfl, HUC.out hz 6 _ rfl⟩, hz⟩) ?_
           first
             | assumption
             | exact CWB.out (by assumption)
             | exact Below.to_alloc (by assumption) _
             | exact Below.to_next (by assumption) (by assumption)))
      (first
        | (go_at_call 31; go_split_ands; with_reducible refine (HPT.out (by assumption)).mono ?_; rintro e w6 ⟨rfl, hb6⟩)
        | (go_at_call 31; go_split_ands; with_reducible refine (HPU.out (by assumption)).mono ?_; rintro e w7 ⟨rfl, hb7⟩)
        | (go_at_call 43; go_split_ands; refine (HSAME.out (by assumption) (BA.below (HC.out P1 _).1 (by (repeat (first | with_reducible exact Below.refl _ _ | with_reducible refine Below.drew ?_ | with_reducible refine Below.to_alloc ?_ _ | with_reducible refine Below.to_next ?_ (HC.out _ _).2 | with_reducible refine Below.to_next ?_ hb7 | with_reducible refine Below.to_next ?_ hb6)))) (BA.below (HC.out P2 _).1 (by (repeat (first | with_reducible exact Below.refl _ _ | with_reducible refine Below.drew ?_ | with_reducible refine Below.to_alloc ?_ _ | with_reducible refine Below.to_next ?_ (HC.out _ _).2 | with_reducible refine Below.to_next ?_ hb7 | with_reducible refine Below.to_next ?_ hb6))))).mono ?_; rintro e w9 ⟨rfl, hb9⟩)
        | (go_at_call 34; go_split_ands; refine (LIVE2.out (by assumption)).mono ?_; rintro e w10 ⟨rfl, hb10⟩))
    all_goals
      go_split_ands
      go_wp2
      go_ret
      exact ⟨rfl, (HF.out (Below.to_next HBZC.out (by assumption))).2.2.2.2⟩
end Go.Proofs.YtppkpcijmfdfmaaGreatDoor
