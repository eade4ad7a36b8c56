/- The walk of FnHeadAdded. Printed by gen_w215.py. -/
import Derived.Test.YtppkpcijmfdfmaaGreatDoorW189
import Derived.Test.YtppkpcijmfdfmaaGreatDoorW190
import Derived.Test.YtppkpcijmfdfmaaGreatDoorW197
import Derived.Test.YtppkpcijmfdfmaaGreatDoorH1
import Derived.Test.YtppkpcijmfdfmaaGreatDoorW134
import Derived.Deep.DeepCutAuto
set_option linter.unusedVariables false
set_option linter.unusedSimpArgs false
namespace Go.Proofs.YtppkpcijmfdfmaaGreatDoor
open Go.RowKit
attribute [local go_sem] B_size B_get B_lit B_ext_to B_ext B_toList B_app

set_option maxRecDepth 100000 in
set_option maxHeartbeats 8000000 in
theorem added_walk {d d' : Nat} {t v : HT} {nv kv nv' kv' : Value} {B0 x0 : Nat} {name : Bs} {w : World} (hr0 : RepT w B0 d nv kv t) (hv : RepT w B0 d' nv' kv' v) (hG : Ground w) (hB : B0 ≤ w.heap.size) (hx : x0 < 18446744073709551616) :
    Calls Tryz.prog 15 #[.agg (tcells t nv kv).toArray, .agg (tcells v nv' kv').toArray, .int .u64 x0, .string (B name)] w fun e w' => e = .returned (.bool true) ∧ Below w.heap.size w w' := by
  obtain ⟨dd, rfl⟩ : ∃ e, d = e + 1 := by
    cases d with
    | zero => exact hr0.elim
    | succ e => exact ⟨e, rfl⟩
  have hr := hr0
  clear hr0
  obtain ⟨⟨an, cn, rfl⟩, ak, ck, rfl⟩ := hr.slices
  obtain ⟨⟨an2, cn2, rfl⟩, ak2, ck2, rfl⟩ := hv.slices
  obtain ⟨w1, hw1⟩ : ∃ w1, w1 = (w.alloc (.cells (tcells t (.slice an t.names.length cn) (.slice ak t.kids.length ck)).toArray 45)).alloc (.cells (tcells v (.slice an2 v.names.length cn2) (.slice ak2 v.kids.length ck2)).toArray 45) := ⟨_, rfl⟩
  have hb1 : Below w.heap.size w w1 := by rw [hw1]; exact ((Below.refl _ _).alloc (Nat.le_refl _) _).alloc (by simp) _
  have hsz1 : w1.heap.size = w.heap.size + 2 := by rw [hw1]; simp
  have BOX : Hid (∀ {wz : World}, Below w1.heap.size w1 wz → ∀ (j : Nat) u, (tcells t (.slice an t.names.length cn) (.slice ak t.kids.length ck))[j]? = some u → wz.cell? ⟨w.heap.size, j, none⟩ = some u) := by
    intro wz hb j u hu
    refine (hb.cell (p := ⟨w.heap.size, j, none⟩) (by show w.heap.size < _; omega)).trans ?_
    have hb0 : w1.heap[w.heap.size]? = some (.cells (tcells t (.slice an t.names.length cn) (.slice ak t.kids.length ck)).toArray 45) := by rw [hw1]; exact blk_alloc (heap_alloc_new _ _)
    exact blk_cell hb0 j u hu
  have BOXV : Hid (∀ {wz : World}, Below w1.heap.size w1 wz → ∀ (j : Nat) u, (tcells v (.slice an2 v.names.length cn2) (.slice ak2 v.kids.length ck2))[j]? = some u → wz.cell? ⟨w.heap.size + 1, j, none⟩ = some u) := by
    intro wz hb j u hu
    refine (hb.cell (p := ⟨w.heap.size + 1, j, none⟩) (by show w.heap.size + 1 < _; omega)).trans ?_
    have e : (w.alloc (.cells (tcells t (.slice an t.names.length cn) (.slice ak t.kids.length ck)).toArray 45)).heap.size = w.heap.size + 1 := by simp
    rw [hw1, ← e, cell_box]
    exact hu
  have HF : Hid (∀ {wz : World}, Below w1.heap.size w1 wz → RepT wz B0 (dd + 1) (.slice an t.names.length cn) (.slice ak t.kids.length ck) t ∧ RepT wz B0 d' (.slice an2 v.names.length cn2) (.slice ak2 v.kids.length ck2) v ∧ Ground wz ∧ B0 ≤ wz.heap.size ∧ Below w.heap.size w wz) := by
    intro wz hb
    have hb2 : Below w.heap.size w wz := hb1.trans (hb.mono hb1.size)
    exact ⟨hr.below (hb2.mono hB), hv.below (hb2.mono hB), hG.below hb2, Nat.le_trans hB hb2.size, hb2⟩
  have HFIT := Lib.hid (fits11_any (HF.out (Below.refl _ _)).1 (HF.out (Below.refl _ _)).2.2.2.1)
  have HFITV : Hid (∀ {wz : World}, Below w1.heap.size w1 wz → Calls Tryz.prog 35 #[.agg (tcells v (.slice an2 v.names.length cn2) (.slice ak2 v.kids.length ck2)).toArray] wz fun e w' => (∃ b, e = .returned (.bool b)) ∧ Below wz.heap.size wz w') := fun h => fits11_any (HF.out h).2.1 (HF.out h).2.2.2.1
  have HRIGHT : Hid (∀ {wz : World}, Below w1.heap.size w1 wz → Calls Tryz.prog 41 #[.agg (tcells v (.slice an2 v.names.length cn2) (.slice ak2 v.kids.length ck2)).toArray] wz fun e w' => ∃ ok, e = .returned (.bool ok) ∧ (ok = true → Right d' v) ∧ Below wz.heap.size wz w') := fun h => right_any (HF.out h).2.1 (HF.out h).2.2.1.2 (HF.out h).2.2.2.1
  have HOBJ : Hid (∀ {wz : World}, Below w1.heap.size w1 wz → ∀ (v : Value), NSB wz wz.heap.size v [name] → Calls Tryz.prog 36 #[.agg (tcells t (.slice an t.names.length cn) (.slice ak t.kids.length ck)).toArray, v] wz fun e w' => ∃ ok, e = .returned (.bool ok) ∧ (ok = true → t.kind = 5 ∧ Right (dd + 1) t ∧ TextsOk [name]) ∧ Below wz.heap.size wz w') :=
    fun h v hv => object_any (HF.out h).1 (HF.out h).2.2.1.2 (HF.out h).2.2.2.1 hv (by simp)
  have HFND : Hid (∀ {wz : World}, Below w1.heap.size w1 wz → Calls Tryz.prog 46 #[.agg (tcells t (.slice an t.names.length cn) (.slice ak t.kids.length ck)).toArray, .string (B name)] wz fun e w' => FoundR t name e ∧ Below wz.heap.size wz w') := fun h => headFound_any (HF.out h).1 (HF.out h).2.2.2.1
  clear hr hv hG hb1
  simp only [tcells] at hw1 HFIT HFITV HRIGHT HOBJ HFND BOX BOXV ⊢
  have HW1 := Lib.hid hw1
  clear hw1
  go_enter Tryz.func15, Tryz.ntmps15
  go_wp2_with (fail)
  rw [← HW1.out]
  refine HFIT.out.mono ?_
  rintro e w2 ⟨⟨bf, rfl⟩, hb2⟩
  have H2 := Lib.hid hb2
  clear hb2
  have LIVE : Hid (∀ {wz : World}, Below w1.heap.size w1 wz → Calls Tryz.prog 34 #[] wz fun e w' => e = .returned (.bool true) ∧ Below w.heap.size w w') := fun {wz} h =>
    (live_any wz (HF.out h).2.2.1.1).mono fun e w' he => ⟨he.1, (HF.out h).2.2.2.2.trans (he.2.mono (HF.out h).2.2.2.2.size)⟩
  cases bf
  · go_wp2
    go_ret
    exact ⟨rfl, (HF.out H2.out).2.2.2.2⟩
  have r0 := BOXV.out H2.out 0 _ rfl
  have r1 := BOXV.out H2.out 1 _ rfl
  have r2 := BOXV.out H2.out 2 _ rfl
  have r3 := BOXV.out H2.out 3 _ rfl
  have r4 := BOXV.out H2.out 4 _ rfl
  have r5 := BOXV.out H2.out 5 _ rfl
  have r6 := BOXV.out H2.out 6 _ rfl
  go_wp2_with (fail)
  refine (HFITV.out H2.out).mono ?_
  rintro e w3 ⟨⟨bg, rfl⟩, hb3⟩
  have H3 := Lib.hid (Below.to_next H2.out hb3)
  clear hb3 r0 r1 r2 r3 r4 r5 r6
  cases bg
  · go_wp2
    go_ret
    exact ⟨rfl, (HF.out H3.out).2.2.2.2⟩
  by_cases hbig : 2147483647 < name.length
  · have f1 : decide ((2147483647 : Int) < name.length) = true := by simp; omega
    go_wp2
    go_ret
    exact ⟨rfl, (HF.out H3.out).2.2.2.2⟩
  have f1 : decide ((2147483647 : Int) < name.length) = false := by simp; omega
  have q0 := BOX.out H3.out 0 _ rfl
  have q1 := BOX.out H3.out 1 _ rfl
  have q2 := BOX.out H3.out 2 _ rfl
  have q3 := BOX.out H3.out 3 _ rfl
  have q4 := BOX.out H3.out 4 _ rfl
  have q5 := BOX.out H3.out 5 _ rfl
  have q6 := BOX.out H3.out 6 _ rfl
  go_wp2_with (fail)
  refine (HFND.out H3.out).mono ?_
  rintro e w4 ⟨⟨y0, y1, y2, y3, y4, ⟨y5, z5, z6⟩, ⟨y6, z7, z8⟩, b, rfl, hfd⟩, hb4⟩
  have HFD := Lib.hid hfd
  have H4 := Lib.hid (Below.to_next H3.out hb4)
  clear hfd hb4 q0 q1 q2 q3 q4 q5 q6
  dsimp only
  go_upto_region 4 with (fail)
  obtain ⟨w5, hw5⟩ : ∃ wm, wm = w4.alloc (.cells #[.int .u8 y0, .bool y1, .bool y2, .int .u64 y3, .string (B y4), .slice y5 z5 z6, .slice y6 z7 z8] 45) := ⟨_, rfl⟩
  rw [← hw5]
  have H5 := Lib.hid (show Below w1.heap.size w1 w5 by rw [hw5]; exact Below.to_alloc H4.out _)
  clear hw5
  cases b
  case true =>
    go_wp2_with (fail)
    refine (LIVE.out H5.out).mono ?_
    rintro e w9 ⟨rfl, hb9⟩
    have H9 := Lib.hid hb9
    clear hb9
    go_wp2
    go_ret
    exact ⟨rfl, H9.out⟩
  have q0 := BOX.out H5.out 0 _ rfl
  have q1 := BOX.out H5.out 1 _ rfl
  have q2 := BOX.out H5.out 2 _ rfl
  have q3 := BOX.out H5.out 3 _ rfl
  have q4 := BOX.out H5.out 4 _ rfl
  have q5 := BOX.out H5.out 5 _ rfl
  have q6 := BOX.out H5.out 6 _ rfl
  go_wp2_with (fail)
  obtain ⟨wn, hwn⟩ : ∃ wn, wn = w5.alloc (.cells #[Value.string (B name)] 9) := ⟨_, rfl⟩
  have HNM : Hid (NSB wn wn.heap.size (.slice (some ⟨w5.heap.size, 0, none⟩) 1 1) [name]) := Lib.hid (Or.inr ⟨w5.heap.size, 0, 1, rfl, ⟨by rw [hwn]; simp, Nat.le_refl _⟩, fun i s hi => by
    match i, hi with
    | 0, hi =>
      cases hi
      rw [hwn]
      exact oneBox w5 name⟩)
  have HPn : Hid (Below w1.heap.size w1 wn) := Lib.hid (by rw [hwn]; exact Below.to_alloc H5.out _)
  rw [← hwn]
  clear hwn
  refine (HOBJ.out HPn.out _ HNM.out).mono ?_
  rintro e w6 ⟨ok, rfl, hy, hbo⟩
  have HY := Lib.hid hy
  have H6 := Lib.hid (Below.to_next HPn.out hbo)
  clear hy hbo
  clear q0 q1 q2 q3 q4 q5 q6
  cases ok
  · go_wp2_with (fail)
    refine (LIVE.out H6.out).mono ?_
    rintro e w9 ⟨rfl, hb9⟩
    have H9 := Lib.hid hb9
    clear hb9
    go_wp2
    go_ret
    exact ⟨rfl, H9.out⟩
  have HRT : Hid (t.kind = 5 ∧ Right (dd + 1) t ∧ TextsOk [name]) := ⟨(HY.out rfl).1, (HY.out rfl).2.1, (HY.out rfl).2.2⟩
  clear HY
  have r0 := BOXV.out H6.out 0 _ rfl
  have r1 := BOXV.out H6.out 1 _ rfl
  have r2 := BOXV.out H6.out 2 _ rfl
  have r3 := BOXV.out H6.out 3 _ rfl
  have r4 := BOXV.out H6.out 4 _ rfl
  have r5 := BOXV.out H6.out 5 _ rfl
  have r6 := BOXV.out H6.out 6 _ rfl
  go_wp2_with (fail)
  refine (HRIGHT.out H6.out).mono ?_
  rintro e w7 ⟨ok2, rfl, hy2, hb7⟩
  have HY2 := Lib.hid hy2
  have H7 := Lib.hid (Below.to_next H6.out hb7)
  clear hy2 hb7 r0 r1 r2 r3 r4 r5 r6
  cases ok2
  · go_wp2_with (fail)
    refine (LIVE.out H7.out).mono ?_
    rintro e w9 ⟨rfl, hb9⟩
    have H9 := Lib.hid hb9
    clear hb9
    go_wp2
    go_ret
    exact ⟨rfl, H9.out⟩
  have HRV : Hid (Right d' v) := HY2.out rfl
  clear HY2
  have HN := Lib.hid (rightNames HRT.out.2.1 HRT.out.1)
  have HNOT : Hid (name ∉ t.names) := HFD.out (by trivial) HRT.out.1 HN.out.2.2.1
  have q0 := BOX.out H7.out 0 _ rfl
  have q1 := BOX.out H7.out 1 _ rfl
  have q2 := BOX.out H7.out 2 _ rfl
  have q3 := BOX.out H7.out 3 _ rfl
  have q4 := BOX.out H7.out 4 _ rfl
  have q5 := BOX.out H7.out 5 _ rfl
  have q6 := BOX.out H7.out 6 _ rfl
  obtain ⟨ps, hrp, hkr⟩ := KidsB.krow (HF.out (Below.refl _ _)).1.2.2 (HF.out (Below.refl _ _)).2.2.2.1
  have HPS := Lib.hid (And.intro hrp hkr)
  clear hrp hkr
  go_upto_region 7 with (fail)
  obtain ⟨wu, hwu⟩ : ∃ wu, wu = w7.alloc (.cells #[.int .u8 t.kind, .bool t.is, .bool t.minus, .int .u64 t.num, .string (B t.text), .slice an t.names.length cn, .slice ak t.kids.length ck] 45) := ⟨_, rfl⟩
  rw [← hwu]
  have HUB : Hid (wu.heap[w7.heap.size]? = some (.cells (tcells t (.slice an t.names.length cn) (.slice ak t.kids.length ck)).toArray 45 (0, 0))) := Lib.hid (by rw [hwu]; exact heap_alloc_new _ _)
  have HWU : Hid (Below w1.heap.size w1 wu ∧ w7.heap.size < wu.heap.size ∧ w1.heap.size ≤ w7.heap.size) := Lib.hid ⟨by rw [hwu]; exact Below.to_alloc H7.out _, by rw [hwu]; simp, H7.out.size⟩
  clear hwu q0 q1 q2 q3 q4 q5 q6
  have HCLN : Hid (∀ {wz : World}, Past w1 wu wz → Calls Tryz.prog 44 #[.slice an t.names.length cn] wz fun e w' => ∃ aa ca, e = .returned (.slice aa t.names.length ca) ∧ RowN wz.heap.size w' (.slice aa t.names.length ca) t.names ∧ Below wz.heap.size wz w' ∧ wu.heap.size ≤ wz.heap.size) := by
    intro wz h
    have h1 := (names_nsb (HF.out h.below).1).ns (HF.out h.below).2.2.2.1
    refine (cloneN_any h1 (by have := HN.out.2.1; omega)).mono ?_
    rintro e w' ⟨v', rfl, hrow, hb⟩
    obtain ⟨a, c, rfl⟩ := hrow.slice
    exact ⟨a, c, rfl, hrow, hb, h.size⟩
  have HCLK : Hid (∀ {wz : World}, Past w1 wu wz → Calls Tryz.prog 45 #[.slice ak t.kids.length ck] wz fun e w' => ∃ aa ca, e = .returned (.slice aa t.kids.length ca) ∧ RowK wz.heap.size w' (.slice aa t.kids.length ca) t.kids ps ∧ Below wz.heap.size wz w' ∧ wu.heap.size ≤ wz.heap.size) := by
    intro wz h
    refine (cloneK_any (HPS.out.2.below h.below) HPS.out.1.one (by have := HN.out.2.1; have := HN.out.2.2.1; omega)).mono ?_
    rintro e w' ⟨v', rfl, hrow, hb⟩
    obtain ⟨a, c, rfl⟩ := hrow.slice
    exact ⟨a, c, rfl, hrow, hb, h.size⟩
  have hP0 : Past w1 wu wu.drew := ⟨HWU.out.1.drew, Nat.le_refl _⟩
  have HONE : Hid (OneP [((Value.slice an2 v.names.length cn2), (Value.slice ak2 v.kids.length ck2))]) := Lib.hid (fun p hp => by rw [List.mem_singleton.1 hp]; exact ⟨rfl, rfl⟩)
  have HRP : Hid (∀ {wz : World}, Below w1.heap.size w1 wz → RepP wz w1.heap.size (dd + d') (t.kids ++ [v]) (ps ++ [((Value.slice an2 v.names.length cn2), (Value.slice ak2 v.kids.length ck2))])) := by
    intro wz h
    have h0 := (HF.out (Below.refl w1.heap.size w1)).2.2.2.1
    refine (((HPS.out.1.below (h.mono h0)).up h0).fuel (by omega)).app ⟨rfl, fun i k p h1 h2 => ?_⟩
    match i, h1, h2 with
    | 0, h1, h2 =>
      cases h1; cases h2
      exact ((HF.out h).2.1.up h0).fuel (by omega)
  have HT0 : Hid (t.kind < 256 ∧ t.num < 18446744073709551616) := Lib.hid ⟨(HF.out (Below.refl w1.heap.size w1)).1.1.1, (HF.out (Below.refl w1.heap.size w1)).1.1.2.1⟩
  have HLN : Hid (t.names.length ≤ 200 ∧ t.kids.length ≤ 200) := Lib.hid ⟨HN.out.2.1, by have := HN.out.2.1; have := HN.out.2.2.1; omega⟩
  go_cut [11] (fun s11 wx => s11 = .pointer (some ⟨w7.heap.size, 0, none⟩) ∧ Hid (UBox w1 wx w7.heap.size (dd + d' + 1) (t.re (t.names ++ [name]) (t.kids ++ [v]))))
  case first =>
    go_region_held_law (fun w' => (w'.cell? ⟨w.heap.size, 5, none⟩ = some (.slice an t.names.length cn) ∧ w'.cell? ⟨w.heap.size, 6, none⟩ = some (.slice ak t.kids.length ck) ∧ w'.cell? ⟨w.heap.size + 1, 0, none⟩ = some (.int .u8 v.kind) ∧ w'.cell? ⟨w.heap.size + 1, 1, none⟩ = some (.bool v.is) ∧ w'.cell? ⟨w.heap.size + 1, 2, none⟩ = some (.bool v.minus) ∧ w'.cell? ⟨w.heap.size + 1, 3, none⟩ = some (.int .u64 v.num) ∧ w'.cell? ⟨w.heap.size + 1, 4, none⟩ = some (.string (B v.text)) ∧ w'.cell? ⟨w.heap.size + 1, 5, none⟩ = some (.slice an2 v.names.length cn2) ∧ w'.cell? ⟨w.heap.size + 1, 6, none⟩ = some (.slice ak2 v.kids.length ck2)) ∧ Past w1 wu w')
      (first
        | (go_split_ands
           refine (fun hz => ⟨⟨BOX.out hz.below 5 _ rfl, BOX.out hz.below 6 _ rfl, BOXV.out hz.below 0 _ rfl, BOXV.out hz.below 1 _ rfl, BOXV.out hz.below 2 _ rfl, BOXV.out hz.below 3 _ rfl, BOXV.out hz.below 4 _ rfl, BOXV.out hz.below 5 _ rfl, BOXV.out hz.below 6 _ rfl⟩, hz⟩) ?_
           first
             | assumption
             | exact Past.alloc (by assumption) _
             | exact Past.next (by assumption) (by assumption)
             | exact Past.grownR (by assumption) hgn hga1
             | exact Past.grownR (by assumption) hgk hgk1
             | exact Past.set (by assumption) HWU.out.2.2 _ _))
      (first
        | (go_at_call 44; go_split_ands; refine (HCLN.out (by assumption)).mono ?_; rintro e wa ⟨aa, ca, rfl, hra, hba, hza⟩; have hoa := RowN.ownR hra; have hga1 : ∀ g, (Value.slice aa t.names.length ca).ownBlock = some g → w1.heap.size ≤ g := (fun g e => by have h1 := (hoa g e).1; have h2 := HWU.out; omega))
        | (go_at_call 45; go_split_ands; refine (HCLK.out (by assumption)).mono ?_; rintro e wk ⟨ah, ch, rfl, hrk, hbk, hzk⟩; have hok := RowK.ownR hrk; have hgk1 : ∀ g, (Value.slice ah t.kids.length ch).ownBlock = some g → w1.heap.size ≤ g := (fun g e => by have h1 := (hok g e).1; have h2 := HWU.out; omega))
        | (refine step_append_oneN (by rfl) _ _ (by rfl) (RowN.below hra (by (repeat (first | with_reducible exact Below.refl _ _ | with_reducible refine Below.drew ?_ | with_reducible refine Below.to_alloc ?_ _ | with_reducible refine Below.to_next ?_ hbk | with_reducible refine Below.to_next ?_ hba)))) (by rfl) _ name (by rfl) (blk_cell (l := [Value.string (B name)]) (by (repeat (first | with_reducible exact heap_alloc_new _ _ | with_reducible exact blk_new (by first | with_reducible rfl | (simp only [size_of_alloc, size_of_drew]; done)) | with_reducible exact HUB.out | with_reducible exact ho1 | with_reducible refine blk_drew ?_ | with_reducible refine blk_alloc ?_ | with_reducible refine blk_below hbk ?_ | with_reducible refine blk_below hba ?_ | ((with_reducible refine blk_grown hgk ?_ ?ne); case ne => exact (by intro e; have e1 := hok _ e.symm; have g1 := HWU.out.2; (try have h2 := hza); (try have h3 := hba.size); (try have h4 := hgn2); (try have h5 := hgn3); (try have h6 := hzk); (try have h7 := hbk.size); (try have h8 := hgn.size); (try simp only [size_of_alloc, size_of_drew] at e1); (try simp only [size_of_alloc, size_of_drew] at h2); (try simp only [size_of_alloc, size_of_drew] at h3); (try simp only [size_of_alloc, size_of_drew] at h4); (try simp only [size_of_alloc, size_of_drew] at h5); (try simp only [size_of_alloc, size_of_drew] at h6); (try simp only [size_of_alloc, size_of_drew] at h7); (try simp only [size_of_alloc, size_of_drew] at h8); omega)) | ((with_reducible refine blk_grown hgn ?_ ?ne); case ne => exact (by intro e; have e1 := hoa _ e.symm; have g1 := HWU.out.2; (try have h2 := hza); (try have h3 := hba.size); (try have h4 := hgn2); (try have h5 := hgn3); (try have h6 := hzk); (try have h7 := hbk.size); (try have h8 := hgn.size); (try simp only [size_of_alloc, size_of_drew] at e1); (try simp only [size_of_alloc, size_of_drew] at h2); (try simp only [size_of_alloc, size_of_drew] at h3); (try simp only [size_of_alloc, size_of_drew] at h4); (try simp only [size_of_alloc, size_of_drew] at h5); (try simp only [size_of_alloc, size_of_drew] at h6); (try simp only [size_of_alloc, size_of_drew] at h7); (try simp only [size_of_alloc, size_of_drew] at h8); omega))))) 0 _ rfl) (by have := HLN.out.1; omega) (Nat.le_trans hba.size (Below.size (B := wa.heap.size) (by (repeat (first | with_reducible exact Below.refl _ _ | with_reducible refine Below.drew ?_ | with_reducible refine Below.to_alloc ?_ _ | with_reducible refine Below.to_next ?_ hbk | with_reducible refine Below.to_next ?_ hba))))) ?_; intro gn cn3 wn hon hgn; have hgn2 := hon.lt; have hgn3 := hon.base)
        | (refine step_append_oneK (by rfl) _ _ (by rfl) (RowK.below hrk (by (repeat (first | with_reducible exact Below.refl _ _ | with_reducible refine Below.drew ?_ | with_reducible refine Below.to_alloc ?_ _ | with_reducible refine Below.to_next ?_ hbk | with_reducible refine Below.to_next ?_ hba)))) (by rfl) _ v (Value.slice an2 v.names.length cn2, Value.slice ak2 v.kids.length ck2) (by rfl) (fun j u hu => blk_cell (l := [Value.int .u8 v.kind, Value.bool v.is, Value.bool v.minus, Value.int .u64 v.num, Value.string (B v.text), Value.slice an2 v.names.length cn2, Value.slice ak2 v.kids.length ck2]) (by (repeat (first | with_reducible exact heap_alloc_new _ _ | with_reducible exact blk_new (by first | with_reducible rfl | (simp only [size_of_alloc, size_of_drew]; done)) | with_reducible exact HUB.out | with_reducible exact ho1 | with_reducible refine blk_drew ?_ | with_reducible refine blk_alloc ?_ | with_reducible refine blk_below hbk ?_ | with_reducible refine blk_below hba ?_ | ((with_reducible refine blk_grown hgk ?_ ?ne); case ne => exact (by intro e; have e1 := hok _ e.symm; have g1 := HWU.out.2; (try have h2 := hza); (try have h3 := hba.size); (try have h4 := hgn2); (try have h5 := hgn3); (try have h6 := hzk); (try have h7 := hbk.size); (try have h8 := hgn.size); (try simp only [size_of_alloc, size_of_drew] at e1); (try simp only [size_of_alloc, size_of_drew] at h2); (try simp only [size_of_alloc, size_of_drew] at h3); (try simp only [size_of_alloc, size_of_drew] at h4); (try simp only [size_of_alloc, size_of_drew] at h5); (try simp only [size_of_alloc, size_of_drew] at h6); (try simp only [size_of_alloc, size_of_drew] at h7); (try simp only [size_of_alloc, size_of_drew] at h8); omega)) | ((with_reducible refine blk_grown hgn ?_ ?ne); case ne => exact (by intro e; have e1 := hoa _ e.symm; have g1 := HWU.out.2; (try have h2 := hza); (try have h3 := hba.size); (try have h4 := hgn2); (try have h5 := hgn3); (try have h6 := hzk); (try have h7 := hbk.size); (try have h8 := hgn.size); (try simp only [size_of_alloc, size_of_drew] at e1); (try simp only [size_of_alloc, size_of_drew] at h2); (try simp only [size_of_alloc, size_of_drew] at h3); (try simp only [size_of_alloc, size_of_drew] at h4); (try simp only [size_of_alloc, size_of_drew] at h5); (try simp only [size_of_alloc, size_of_drew] at h6); (try simp only [size_of_alloc, size_of_drew] at h7); (try simp only [size_of_alloc, size_of_drew] at h8); omega))))) j u hu) HONE.out (by have := HLN.out.2; omega) (Nat.le_trans hbk.size (Below.size (B := wk.heap.size) (by (repeat (first | with_reducible exact Below.refl _ _ | with_reducible refine Below.drew ?_ | with_reducible refine Below.to_alloc ?_ _ | with_reducible refine Below.to_next ?_ hbk | with_reducible refine Below.to_next ?_ hba))))) ?_; intro gq cq wq hoq hgk; have hbq : wq.heap[w7.heap.size]? = some (.cells (tcells t (.slice an t.names.length cn) (.slice ak t.kids.length ck)).toArray 45 (0, 0)) := (by (repeat (first | with_reducible exact heap_alloc_new _ _ | with_reducible exact blk_new (by first | with_reducible rfl | (simp only [size_of_alloc, size_of_drew]; done)) | with_reducible exact HUB.out | with_reducible exact ho1 | with_reducible refine blk_drew ?_ | with_reducible refine blk_alloc ?_ | with_reducible refine blk_below hbk ?_ | with_reducible refine blk_below hba ?_ | ((with_reducible refine blk_grown hgk ?_ ?ne); case ne => exact (by intro e; have e1 := hok _ e.symm; have g1 := HWU.out.2; (try have h2 := hza); (try have h3 := hba.size); (try have h4 := hgn2); (try have h5 := hgn3); (try have h6 := hzk); (try have h7 := hbk.size); (try have h8 := hgn.size); (try simp only [size_of_alloc, size_of_drew] at e1); (try simp only [size_of_alloc, size_of_drew] at h2); (try simp only [size_of_alloc, size_of_drew] at h3); (try simp only [size_of_alloc, size_of_drew] at h4); (try simp only [size_of_alloc, size_of_drew] at h5); (try simp only [size_of_alloc, size_of_drew] at h6); (try simp only [size_of_alloc, size_of_drew] at h7); (try simp only [size_of_alloc, size_of_drew] at h8); omega)) | ((with_reducible refine blk_grown hgn ?_ ?ne); case ne => exact (by intro e; have e1 := hoa _ e.symm; have g1 := HWU.out.2; (try have h2 := hza); (try have h3 := hba.size); (try have h4 := hgn2); (try have h5 := hgn3); (try have h6 := hzk); (try have h7 := hbk.size); (try have h8 := hgn.size); (try simp only [size_of_alloc, size_of_drew] at e1); (try simp only [size_of_alloc, size_of_drew] at h2); (try simp only [size_of_alloc, size_of_drew] at h3); (try simp only [size_of_alloc, size_of_drew] at h4); (try simp only [size_of_alloc, size_of_drew] at h5); (try simp only [size_of_alloc, size_of_drew] at h6); (try simp only [size_of_alloc, size_of_drew] at h7); (try simp only [size_of_alloc, size_of_drew] at h8); omega))))); have hu5 := blk_cell hbq 5 _ rfl; have hu6 := blk_cell hbq 6 _ rfl; have hf5 := blk_free hbq 5; have hf6 := blk_free hbq 6; have HON := Lib.hid (OwnG.blk (w' := wq) hon (fun o ho1 => by (repeat (first | with_reducible exact heap_alloc_new _ _ | with_reducible exact blk_new (by first | with_reducible rfl | (simp only [size_of_alloc, size_of_drew]; done)) | with_reducible exact HUB.out | with_reducible exact ho1 | with_reducible refine blk_drew ?_ | with_reducible refine blk_alloc ?_ | with_reducible refine blk_below hbk ?_ | with_reducible refine blk_below hba ?_ | ((with_reducible refine blk_grown hgk ?_ ?ne); case ne => exact (by intro e; have e1 := hok _ e.symm; have g1 := HWU.out.2; (try have h2 := hza); (try have h3 := hba.size); (try have h4 := hgn2); (try have h5 := hgn3); (try have h6 := hzk); (try have h7 := hbk.size); (try have h8 := hgn.size); (try simp only [size_of_alloc, size_of_drew] at e1); (try simp only [size_of_alloc, size_of_drew] at h2); (try simp only [size_of_alloc, size_of_drew] at h3); (try simp only [size_of_alloc, size_of_drew] at h4); (try simp only [size_of_alloc, size_of_drew] at h5); (try simp only [size_of_alloc, size_of_drew] at h6); (try simp only [size_of_alloc, size_of_drew] at h7); (try simp only [size_of_alloc, size_of_drew] at h8); omega)) | ((with_reducible refine blk_grown hgn ?_ ?ne); case ne => exact (by intro e; have e1 := hoa _ e.symm; have g1 := HWU.out.2; (try have h2 := hza); (try have h3 := hba.size); (try have h4 := hgn2); (try have h5 := hgn3); (try have h6 := hzk); (try have h7 := hbk.size); (try have h8 := hgn.size); (try simp only [size_of_alloc, size_of_drew] at e1); (try simp only [size_of_alloc, size_of_drew] at h2); (try simp only [size_of_alloc, size_of_drew] at h3); (try simp only [size_of_alloc, size_of_drew] at h4); (try simp only [size_of_alloc, size_of_drew] at h5); (try simp only [size_of_alloc, size_of_drew] at h6); (try simp only [size_of_alloc, size_of_drew] at h7); (try simp only [size_of_alloc, size_of_drew] at h8); omega)))))); have HBQ := Lib.hid hbq; have HPQ := Lib.hid (Past.grownR (w1 := w1) (wu := wu) (by go_split_ands; assumption) hgk hgk1); clear hbq)
        | fail)
    all_goals
      go_split_ands
      have hfin := ubox_two (ns := t.names ++ [name]) (ks := t.kids ++ [v]) (t := t) HPQ.out.below HWU.out.2.2 HBQ.out HON.out hoq (HRP.out HPQ.out.below) (Nat.lt_of_lt_of_le HWU.out.2.1 hza) (Nat.lt_of_lt_of_le HWU.out.2.1 hzk) (by have := HLN.out.1; rw [List.length_append, List.length_singleton]; omega) (by have := HLN.out.2; rw [List.length_append, List.length_singleton]; omega) HT0.out
      go_wp2_with (fail)
      go_meet
      exact ⟨rfl, Lib.hid (by first | exact hfin | (simp only [List.length_append, List.length_cons, List.length_nil, Nat.zero_add] at hfin ⊢; exact hfin))⟩
  case rest =>
    obtain ⟨rfl, HU⟩ := hcut
    obtain ⟨u, hu⟩ : ∃ u, u = t.re (t.names ++ [name]) (t.kids ++ [v]) := ⟨_, rfl⟩
    have HSU : Hid (∃ n', Sized 401 61 (dd + d' + 1) u 1 n') := Lib.hid (by
      obtain ⟨n1, hs1, _⟩ := HRT.out.2.1
      obtain ⟨n2, hs2, _⟩ := HRV.out
      have := sized_added hs1 hs2 HRT.out.1 HRT.out.2.2
      rw [hu, show dd + d' + 1 = dd + 1 + d' by omega]
      exact this)
    have HKU : Hid (u.kind = 5 ∧ u.names.Nodup ∧ (∀ x ∈ t.names, kidIn t.names t.kids x = kidIn u.names u.kids x) ∧ kidIn u.names u.kids name = some v) := Lib.hid (by
      rw [hu, re_kind, re_names, re_kids]
      exact ⟨HRT.out.1, nodup_added HN.out.2.2.2 HNOT.out, fun x hx => (kid_added name v HN.out.2.2.1 hx).symm, kid_last v HN.out.2.2.1 HNOT.out⟩)
    obtain ⟨hbU0, hltU, an3, cn3, ak3, ck3, hrU, hcU⟩ := HU.out
    rw [← hu] at hrU hcU
    have hbU := Lib.hid hbU0
    have HRU := Lib.hid hrU
    have HUC : Hid (∀ {wz : World}, Below wc.heap.size wc wz → ∀ (j : Nat) x, (tcells u (.slice an3 u.names.length cn3) (.slice ak3 u.kids.length ck3))[j]? = some x → wz.cell? ⟨w7.heap.size, j, none⟩ = some x) := fun h j x hx => (h.cell (p := ⟨w7.heap.size, j, none⟩) hltU).trans (hcU j x hx)
    clear hu HU hbU0 hltU hrU hcU
    obtain ⟨cv, cw, hc⟩ := convFn
    have hcv := fun P X => (hc P X).1
    have HC := Lib.hid (fun P X => (hc P X).2)
    clear hc
    obtain ⟨P1, hP1⟩ : ∃ P, P = hPrint (dd + 1) t x0 := ⟨_, rfl⟩
    obtain ⟨P2, hP2⟩ : ∃ P, P = hPrint (dd + d' + 1) u x0 := ⟨_, rfl⟩
    have HPT : Hid (∀ {wz : World}, Below wc.heap.size wc wz → Calls Tryz.prog 31 #[.agg #[.int .u8 t.kind, .bool t.is, .bool t.minus, .int .u64 t.num, .string (B t.text), .slice an t.names.length cn, .slice ak t.kids.length ck], .int .u64 x0] wz fun e w' => e = .returned (.string (B P1)) ∧ Below wz.heap.size wz w') := fun h => by
      have h' := Below.to_next hbU.out h
      rw [hP1]
      exact rightPrint (x := x0) (HF.out h').1 HRT.out.2.1 (HF.out h').2.2.2.1 hx
    have HPU : Hid (∀ {wz : World}, Below wc.heap.size wc wz → Calls Tryz.prog 31 #[.agg #[.int .u8 u.kind, .bool u.is, .bool u.minus, .int .u64 u.num, .string (B u.text), .slice an3 u.names.length cn3, .slice ak3 u.kids.length ck3], .int .u64 x0] wz fun e w' => e = .returned (.string (B P2)) ∧ Below wz.heap.size wz w') := fun h => by
      rw [hP2]
      obtain ⟨n, hs⟩ := HSU.out
      exact print_any (x := x0) (HRU.out.below h) hs (by have := sized_le hs (by decide); omega) h.size hx
    have HRD1 : Hid (RdT P1 t) := Lib.hid (by rw [hP1]; exact rightRd HRT.out.2.1 HRT.out.1 x0)
    have HRD2 : Hid (RdT P2 u) := Lib.hid (by
      obtain ⟨n, hs⟩ := HSU.out
      rw [hP2]
      exact rd_print hs (by decide) (by decide) HKU.out.1 HKU.out.2.1 x0)
    have HSAME : Hid (∀ {wz : World} {v1 v2 : Value}, Below wc.heap.size wc wz → BA wz v1 P1 → BA wz v2 P2 → Calls Tryz.prog 43 #[v1, v2, .slice an t.names.length cn] wz fun e w' => e = .returned (.bool true) ∧ Below wz.heap.size wz w') := by
      intro wz v1 v2 h h2 h3
      have h' := Below.to_next hbU.out h
      exact same_any HRD1.out HRD2.out h2 h3 ((names_nsb (HF.out h').1).ns (HF.out h').2.2.2.1) (HF.out h').2.2.1.1 (fun s hs => by have := HN.out.1 s hs; omega) (by have := HLN.out.1; omega) HKU.out.2.2.1
    have HNL2 : Hid (name.length < 4294967290) := Lib.hid (by have := (HRT.out.2.2 name (by simp)).1; omega)
    have HSIL : Hid (∀ {wz : World} {v1 : Value} {b : Nat}, Below wc.heap.size wc wz → BA wz v1 P1 → wz.cell? ⟨b, 0, none⟩ = some (.string (B name)) → b < wz.heap.size → Calls Tryz.prog 42 #[v1, .slice (some ⟨b, 0, none⟩) 1 1] wz fun e w' => e = .returned (.bool true) ∧ Below wz.heap.size wz w') := by
      intro wz v1 b h h2 h3 h4
      have h' := Below.to_next hbU.out h
      refine silentRd_any HRD1.out h2 (names := [name]) (Or.inr ⟨b, 0, 1, rfl, h4, fun i s hi => ?_⟩) (HF.out h').2.2.1.1 (fun s' hs' => ?_) (fun s' hs' => ?_) (by simp)
      · match i, hi with
        | 0, hi => cases hi; exact h3
      · rw [List.mem_singleton.1 hs']; exact kidIn_none HNOT.out
      · rw [List.mem_singleton.1 hs']; exact HNL2.out
    have HHAS : Hid (∀ {wz : World} {v2 : Value}, Below wc.heap.size wc wz → BA wz v2 P2 → Calls Tryz.prog 47 #[v2, .string (B name)] wz fun e w' => e = .returned (.bool true) ∧ Below wz.heap.size wz w') := by
      intro wz v2 h h2
      have h' := Below.to_next hbU.out h
      refine (hasRd_any HRD2.out h2 (HF.out h').2.2.1.1 HNL2.out).mono ?_
      rintro e w' ⟨rfl, hb⟩
      exact ⟨by rw [HKU.out.2.2.2]; rfl, hb⟩
    have HCLB : Hid (∀ {wz : World} {v2 : Value}, BA wz v2 P2 → Calls Tryz.prog 29 #[v2] wz fun e w' => ∃ v3, e = .returned v3 ∧ BA w' v3 P2 ∧ Below wz.heap.size wz w') := by
      intro wz v2 h2
      refine (clone_any wz v2 P2 h2 (by have := HRD2.out.len; omega)).mono ?_
      rintro e w' ⟨v3, rfl, hv3, hb3, _⟩
      exact ⟨v3, rfl, hv3, hb3⟩
    have LIVE2 : Hid (∀ {wz : World}, Below wc.heap.size wc wz → Calls Tryz.prog 34 #[] wz fun e w' => e = .returned (.bool true) ∧ Below wz.heap.size wz w') := fun {wz} h => live_any wz (HF.out (Below.to_next hbU.out h)).2.2.1.1
    clear hP1 hP2
    have hB0 : Below wc.heap.size wc wc.drew := (Below.refl _ _).drew
    have CWB : Hid (∀ {P : Bs} {X : World}, Below wc.heap.size wc X → Below wc.heap.size wc (cw P X)) := fun h => Below.to_next h (HC.out _ _).2
    clear f1
    go_wp2_with (fail)
    go_region_held_law (fun w' => (w'.cell? ⟨w.heap.size, 0, none⟩ = some (.int .u8 t.kind) ∧ w'.cell? ⟨w.heap.size, 1, none⟩ = some (.bool t.is) ∧ w'.cell? ⟨w.heap.size, 2, none⟩ = some (.bool t.minus) ∧ w'.cell? ⟨w.heap.size, 3, none⟩ = some (.int .u64 t.num) ∧ w'.cell? ⟨w.heap.size, 4, none⟩ = some (.string (B t.text)) ∧ w'.cell? ⟨w.heap.size, 5, none⟩ = some (.slice an t.names.length cn) ∧ w'.cell? ⟨w.heap.size, 6, none⟩ = some (.slice ak t.kids.length ck) ∧ w'.cell? ⟨w7.heap.size, 0, none⟩ = some (.int .u8 u.kind) ∧ w'.cell? ⟨w7.heap.size, 1, none⟩ = some (.bool u.is) ∧ w'.cell? ⟨w7.heap.size, 2, none⟩ = some (.bool u.minus) ∧ w'.cell? ⟨w7.heap.size, 3, none⟩ = some (.int .u64 u.num) ∧ w'.cell? ⟨w7.heap.size, 4, none⟩ = some (.string (B u.text)) ∧ w'.cell? ⟨w7.heap.size, 5, none⟩ = some (.slice an3 u.names.length cn3) ∧ w'.cell? ⟨w7.heap.size, 6, none⟩ = some (.slice ak3 u.kids.length ck3)) ∧ Below wc.heap.size wc w')
      (first
        | (go_split_ands
           refine (fun hz => ⟨⟨BOX.out (Below.to_next hbU.out hz) 0 _ rfl, BOX.out (Below.to_next hbU.out hz) 1 _ rfl, BOX.out (Below.to_next hbU.out hz) 2 _ rfl, BOX.out (Below.to_next hbU.out hz) 3 _ rfl, BOX.out (Below.to_next hbU.out hz) 4 _ rfl, BOX.out (Below.to_next hbU.out hz) 5 _ rfl, BOX.out (Below.to_next hbU.out hz) 6 _ rfl, HUC.out hz 0 _ rfl, HUC.out hz 1 _ rfl, HUC.out hz 2 _ rfl, HUC.out hz 3 _ rfl, HUC.out hz 4 _ rfl, HUC.out hz 5 _ rfl, HUC.out hz 6 _ rfl⟩, hz⟩) ?_
           first
             | assumption
             | exact CWB.out (by assumption)
             | exact Below.to_alloc (by assumption) _
             | exact Below.to_next (by assumption) (by assumption)))
      (first
        | (go_at_call 31; go_split_ands; with_reducible refine (HPT.out (by assumption)).mono ?_; rintro e w6 ⟨rfl, hb6⟩)
        | (go_at_call 31; go_split_ands; with_reducible refine (HPU.out (by assumption)).mono ?_; rintro e w8 ⟨rfl, hb7⟩))
    all_goals
      go_split_ands
      go_wp2_with (fail)
      with_reducible refine (HSAME.out (by assumption) (BA.below (HC.out P1 _).1 (by (repeat (first | with_reducible exact Below.refl _ _ | with_reducible refine Below.drew ?_ | with_reducible refine Below.to_alloc ?_ _ | with_reducible refine Below.to_next ?_ (HC.out _ _).2 | with_reducible refine Below.to_next ?_ hb11 | with_reducible refine Below.to_next ?_ hb10 | with_reducible refine Below.to_next ?_ hb9 | with_reducible refine Below.to_next ?_ hb7 | with_reducible refine Below.to_next ?_ hb6)))) (BA.below (HC.out P2 _).1 (by (repeat (first | with_reducible exact Below.refl _ _ | with_reducible refine Below.drew ?_ | with_reducible refine Below.to_alloc ?_ _ | with_reducible refine Below.to_next ?_ (HC.out _ _).2 | with_reducible refine Below.to_next ?_ hb11 | with_reducible refine Below.to_next ?_ hb10 | with_reducible refine Below.to_next ?_ hb9 | with_reducible refine Below.to_next ?_ hb7 | with_reducible refine Below.to_next ?_ hb6))))).mono ?_
      rintro e w9 ⟨rfl, hb9⟩
      have H9 : Below wc.heap.size wc w9 := Below.to_next (by assumption) hb9
      go_wp2_with (fail)
      with_reducible refine (HSIL.out (Below.to_alloc H9 _) (BA.below (HC.out P1 _).1 (by (repeat (first | with_reducible exact Below.refl _ _ | with_reducible refine Below.drew ?_ | with_reducible refine Below.to_alloc ?_ _ | with_reducible refine Below.to_next ?_ (HC.out _ _).2 | with_reducible refine Below.to_next ?_ hb11 | with_reducible refine Below.to_next ?_ hb10 | with_reducible refine Below.to_next ?_ hb9 | with_reducible refine Below.to_next ?_ hb7 | with_reducible refine Below.to_next ?_ hb6)))) (oneBox _ _) (by rw [size_of_alloc]; omega)).mono ?_
      rintro e w10 ⟨rfl, hb10⟩
      have H10 : Below wc.heap.size wc w10 := Below.to_next (Below.to_alloc H9 _) hb10
      go_wp2_with (fail)
      with_reducible refine (HCLB.out (BA.below (HC.out P2 _).1 (by (repeat (first | with_reducible exact Below.refl _ _ | with_reducible refine Below.drew ?_ | with_reducible refine Below.to_alloc ?_ _ | with_reducible refine Below.to_next ?_ (HC.out _ _).2 | with_reducible refine Below.to_next ?_ hb11 | with_reducible refine Below.to_next ?_ hb10 | with_reducible refine Below.to_next ?_ hb9 | with_reducible refine Below.to_next ?_ hb7 | with_reducible refine Below.to_next ?_ hb6))))).mono ?_
      rintro e w11 ⟨v3, rfl, hv3, hb11⟩
      have H11 : Below wc.heap.size wc w11 := Below.to_next H10 hb11
      go_wp2_with (fail)
      with_reducible refine (HHAS.out H11 hv3).mono ?_
      rintro e w12 ⟨rfl, hb12⟩
      have H12 : Below wc.heap.size wc w12 := Below.to_next H11 hb12
      go_wp2_with (fail)
      with_reducible refine (LIVE2.out H12).mono ?_
      rintro e w13 ⟨rfl, hb13⟩
      have H13 : Below wc.heap.size wc w13 := Below.to_next H12 hb13
      go_wp2
      go_ret
      exact ⟨rfl, (HF.out (Below.to_next hbU.out H13)).2.2.2.2⟩
end Go.Proofs.YtppkpcijmfdfmaaGreatDoor
