/- The walk of FnHeadTrees. Printed by gen_w179.py. -/
import Derived.Test.YtppkpcijmfdfmaaGreatDoorG4
import Derived.Test.YtppkpcijmfdfmaaGreatDoorG1
import Derived.Test.YtppkpcijmfdfmaaGreatDoorH1
set_option linter.unusedVariables false
set_option linter.unusedSimpArgs false
namespace Go.Proofs.YtppkpcijmfdfmaaGreatDoor
open Go.RowKit
attribute [local go_sem] B_size B_get B_lit B_ext_to B_ext B_toList B_app

set_option maxRecDepth 100000 in
set_option maxHeartbeats 8000000 in
theorem trees_walk {d : Nat} {t : HT} {nv kv : Value} {B0 x : Nat} {name : Bs} {w : World} (hr : RepT w B0 d nv kv t) (hG : Ground w) (hB : B0 ≤ w.heap.size) (hx : x < 18446744073709551616) :
    Calls Tryz.prog 9 #[.agg (tcells t nv kv).toArray, .int .u64 x, .string (B name)] w fun e w' => e = .returned (.bool true) ∧ Below w.heap.size w w' := by
  obtain ⟨⟨an, cn, rfl⟩, ak, ck, rfl⟩ := hr.slices
  obtain ⟨w1, hw1⟩ : ∃ w1, w1 = w.alloc (.cells (tcells t (.slice an t.names.length cn) (.slice ak t.kids.length ck)).toArray 45) := ⟨_, rfl⟩
  have hb1 : Below w.heap.size w w1 := by rw [hw1]; exact (Below.refl _ _).alloc (Nat.le_refl _) _
  have hlt1 : w.heap.size < w1.heap.size := by rw [hw1]; simp
  have BOX : Hid (∀ {wz : World}, Below w1.heap.size w1 wz → ∀ (j : Nat) u, (tcells t (.slice an t.names.length cn) (.slice ak t.kids.length ck))[j]? = some u → wz.cell? ⟨w.heap.size, j, none⟩ = some u) := by
    intro wz hb j u hu
    refine (hb.cell (p := ⟨w.heap.size, j, none⟩) hlt1).trans ?_
    rw [hw1, cell_box]
    exact hu
  have HF : Hid (∀ {wz : World}, Below w1.heap.size w1 wz → RepT wz B0 d (.slice an t.names.length cn) (.slice ak t.kids.length ck) t ∧ Ground wz ∧ B0 ≤ wz.heap.size ∧ Below w.heap.size w wz) := by
    intro wz hb
    have hb2 : Below w.heap.size w wz := hb1.trans (hb.mono hb1.size)
    exact ⟨hr.below (hb2.mono hB), hG.below hb2, Nat.le_trans hB hb2.size, hb2⟩
  have HFIT := Lib.hid (fits11_any (HF.out (Below.refl _ _)).1 (HF.out (Below.refl _ _)).2.2.1)
  have HOBJ : Hid (∀ {wz : World}, Below w1.heap.size w1 wz → ∀ (v : Value), NSB wz wz.heap.size v [name] → Calls Tryz.prog 36 #[.agg (tcells t (.slice an t.names.length cn) (.slice ak t.kids.length ck)).toArray, v] wz fun e w' => ∃ ok, e = .returned (.bool ok) ∧ (ok = true → t.kind = 5 ∧ Right d t ∧ TextsOk [name]) ∧ Below wz.heap.size wz w') :=
    fun h v hv => object_any (HF.out h).1 (HF.out h).2.1.2 (HF.out h).2.2.1 hv (by simp)
  have HPRINT : Hid (∀ {wz : World}, Below w1.heap.size w1 wz → Right d t → Calls Tryz.prog 31 #[.agg (tcells t (.slice an t.names.length cn) (.slice ak t.kids.length ck)).toArray, .int .u64 x] wz fun e w' => e = .returned (.string (B (hPrint d t x))) ∧ Below wz.heap.size wz w') :=
    fun h hR => by
      obtain ⟨n, hs, _⟩ := hR
      exact print_any (HF.out h).1 hs (by have := sized_le hs (by decide); omega) (HF.out h).2.2.1 hx
  clear hr hG hb1
  simp only [tcells] at hw1 HFIT HOBJ HPRINT BOX ⊢
  have HW1 := Lib.hid hw1
  clear hw1
  go_enter Tryz.func9, Tryz.ntmps9
  go_wp2_with (fail)
  rw [← HW1.out]
  refine HFIT.out.mono ?_
  rintro e w2 ⟨⟨bf, rfl⟩, hb2⟩
  have H2 := Lib.hid hb2
  clear hb2
  have LIVE : Hid (∀ {wz : World}, Below w1.heap.size w1 wz → Calls Tryz.prog 34 #[] wz fun e w' => e = .returned (.bool true) ∧ Below w.heap.size w w') := fun {wz} h =>
    (live_any wz (HF.out h).2.1.1).mono fun e w' he => ⟨he.1, (HF.out h).2.2.2.trans (he.2.mono (HF.out h).2.2.2.size)⟩
  cases bf
  · go_wp2
    go_ret
    exact ⟨rfl, (HF.out H2.out).2.2.2⟩
  by_cases hbig : 2147483647 < name.length
  · have f1 : decide ((2147483647 : Int) < name.length) = true := by simp; omega
    go_wp2
    go_ret
    exact ⟨rfl, (HF.out H2.out).2.2.2⟩
  have f1 : decide ((2147483647 : Int) < name.length) = false := by simp; omega
  have q0 := BOX.out H2.out 0 _ rfl
  have q1 := BOX.out H2.out 1 _ rfl
  have q2 := BOX.out H2.out 2 _ rfl
  have q3 := BOX.out H2.out 3 _ rfl
  have q4 := BOX.out H2.out 4 _ rfl
  have q5 := BOX.out H2.out 5 _ rfl
  have q6 := BOX.out H2.out 6 _ rfl
  go_wp2_with (fail)
  obtain ⟨wn, hwn⟩ : ∃ wn, wn = w2.alloc (.cells #[Value.string (B name)] 9) := ⟨_, rfl⟩
  have HNM : Hid (NSB wn wn.heap.size (.slice (some ⟨w2.heap.size, 0, none⟩) 1 1) [name]) := Lib.hid (Or.inr ⟨w2.heap.size, 0, 1, rfl, ⟨by rw [hwn]; simp, Nat.le_refl _⟩, fun i s hi => by
    match i, hi with
    | 0, hi =>
      cases hi
      rw [hwn, cell_of_row (w2.alloc (.cells #[Value.string (B name)] 9)) w2.heap.size 0 _ _ _ (heap_alloc_new w2 _)]
      rfl⟩)
  have H2n : Hid (Below w1.heap.size w1 wn) := Lib.hid (by rw [hwn]; exact Below.to_alloc H2.out _)
  rw [← hwn]
  clear hwn
  refine (HOBJ.out H2n.out _ HNM.out).mono ?_
  rintro e w3 ⟨ok, rfl, hy, hb3⟩
  have HY := Lib.hid hy
  have H3 := Lib.hid (H2n.out.trans (hb3.mono H2n.out.size))
  clear hy hb3 q0 q1 q2 q3 q4 q5 q6
  cases ok
  · go_wp2_with (fail)
    refine (LIVE.out H3.out).mono ?_
    rintro e w4 ⟨rfl, hb4⟩
    have H4 := Lib.hid hb4
    clear hb4
    go_wp2
    go_ret
    exact ⟨rfl, H4.out⟩
  have HRT : Hid (t.kind = 5 ∧ Right d t ∧ TextsOk [name]) := ⟨(HY.out rfl).1, (HY.out rfl).2.1, (HY.out rfl).2.2⟩
  clear HY
  have q0 := BOX.out H3.out 0 _ rfl
  have q1 := BOX.out H3.out 1 _ rfl
  have q2 := BOX.out H3.out 2 _ rfl
  have q3 := BOX.out H3.out 3 _ rfl
  have q4 := BOX.out H3.out 4 _ rfl
  have q5 := BOX.out H3.out 5 _ rfl
  have q6 := BOX.out H3.out 6 _ rfl
  go_wp2_with (fail)
  refine (HPRINT.out H3.out HRT.out.2.1).mono ?_
  rintro e w4 ⟨rfl, hb4⟩
  have H4 := Lib.hid (H3.out.trans (hb4.mono H3.out.size))
  clear hb4 q0 q1 q2 q3 q4 q5 q6
  obtain ⟨P, hP⟩ : ∃ P, P = hPrint d t x := ⟨_, rfl⟩
  rw [← hP]
  have HP := Lib.hid hP
  clear hP
  obtain ⟨cv, w5, hcv, hba, hb5⟩ := conv_bytes w4 P
  have HBA := Lib.hid hba
  have H5 := Lib.hid (Below.to_next H4.out hb5)
  clear hba hb5
  have q5 := BOX.out H5.out 5 _ rfl
  have HNB : Hid (∀ {wz : World}, Below w1.heap.size w1 wz → NSB wz B0 (.slice an t.names.length cn) t.names ∧ t.names.length < 1000000) := fun h => by
    have hrr := (HF.out h).1
    obtain ⟨n, hs, _⟩ := HRT.out.2.1
    exact ⟨names_nsb hrr, by have := names_lt hs HRT.out.1; omega⟩
  have hbw : ∀ v, (w5.alloc (.cells #[Value.string (B name)] 9)).cell? ⟨w.heap.size, 5, none⟩ = some v ↔ w5.cell? ⟨w.heap.size, 5, none⟩ = some v := by
    intro v
    rw [(Below.to_alloc (Below.refl _ w5) (.cells #[Value.string (B name)] 9)).cell (p := ⟨w.heap.size, 5, none⟩) (Nat.lt_of_lt_of_le hlt1 H5.out.size)]
  have q5b := (hbw _).2 q5
  clear hbw
  have H5n : Hid (Below w1.heap.size w1 (w5.alloc (.cells #[Value.string (B name)] 9))) := Lib.hid (Below.to_alloc H5.out _)
  have hcell : (w5.alloc (.cells #[Value.string (B name)] 9)).cell? ⟨w5.heap.size, 0, none⟩ = some (.string (B name)) := by
    rw [cell_of_row (w5.alloc (.cells #[Value.string (B name)] 9)) w5.heap.size 0 _ _ _ (heap_alloc_new w5 _)]
    rfl
  obtain ⟨nvv, w6, happ, hns, hb6⟩ := append_names (w5.alloc (.cells #[Value.string (B name)] 9)) 29 w5.heap.size t.names name (.slice an t.names.length cn) hcell (HNB.out H5n.out).1 (HNB.out H5n.out).2
  have HNS := Lib.hid hns
  have H6 := Lib.hid (Below.to_next H5n.out hb6)
  have HB65 := Lib.hid (Below.to_next (Below.to_alloc (Below.refl _ w5) _) hb6)
  have HAPP := Lib.hid happ
  obtain ⟨vb, vof, vc, rfl, hvl, hvc⟩ : ∃ b off c, nvv = .slice (some ⟨b, off, none⟩) (name :: t.names).length c ∧ b < w6.heap.size ∧ ∀ (i : Nat) s, (name :: t.names)[i]? = some s → w6.cell? ⟨b, off + i, none⟩ = some (.string (B s)) := by
    rcases hns with ⟨_, _, _, h⟩ | ⟨b, off, c, h, h2, h3⟩
    · cases h
    · exact ⟨b, off, c, h, h2, h3⟩
  have HVC := Lib.hid hvc
  have HVL := Lib.hid hvl
  obtain ⟨n, hsz, hnd0⟩ := HRT.out.2.1
  have HSZ := Lib.hid hsz
  have HND : Hid (t.names.Nodup) := Lib.hid (by
    have h5 := HRT.out.1
    unfold HT.texts at hnd0
    rw [if_neg (by omega), if_pos h5] at hnd0
    exact hnd0)
  have HPL : Hid (P.length ≤ 80000000) := Lib.hid (by rw [HP.out]; exact print_length hsz (by have := sized_le hsz (by decide); omega) x)
  have HNL : Hid (∀ s ∈ name :: t.names, s.length < 4294967290) := Lib.hid (fun s hs => by
    rcases List.mem_cons.1 hs with rfl | hs
    · omega
    · have := names_short hsz HRT.out.1 s hs; omega)
  clear hvc hvl hsz hnd0
  clear happ hns hb6 hcell
  go_wp2_with (at_builtin; refine Lib.wpList_append_run _ rfl (.tmp 31) (.tmp 33) 29 29 rfl _ _ rfl rfl _ _ HAPP.out ?_)
  go_wp2_with (fail)
  have HRD := Lib.hid (rd_print HSZ.out (by decide) (by decide) HRT.out.1 HND.out x)
  have HLT1 : Hid ((name :: t.names).length ≤ 201) := Lib.hid (by have := names_lt HSZ.out HRT.out.1; rw [List.length_cons]; omega)
  have HKN : Hid ((∀ c ∈ t.kids, c.num < 18446744073709551616 ∧ c.kids.length ≤ 900000) ∧ t.names.length = t.kids.length ∧ t.names.length ≤ 1000000) := Lib.hid (by
    obtain ⟨e0, ms0, hd0, h1, h2, h3, h4, h6, h7, h8⟩ := sized_obj HSZ.out HRT.out.1
    refine ⟨fun c hc => ?_, h3, by omega⟩
    obtain ⟨i, hi⟩ := List.mem_iff_getElem?.1 hc
    obtain ⟨m, _, hm⟩ := (All2.get h6).2 i _ hi
    cases e0 with
    | zero => exact hm.elim
    | succ e0 => exact ⟨hm.2.1.2, by have := hm.2.2.1; omega⟩)
  refine (each_any w6 _ (name :: t.names) (Or.inr ⟨vb, vof, vc, rfl, HVL.out, HVC.out⟩) (by have := HLT1.out; omega)).mono ?_
  rintro e w7 ⟨av, rfl, hst⟩
  have HST := Lib.hid hst
  have H7 := Lib.hid (Below.to_next H6.out hst.below)
  have HL := Lib.hid (eachOf_length (name :: t.names))
  clear hst
  obtain ⟨ag, ac, rfl, hac, hagl⟩ : ∃ ag ac, av = .slice (some ⟨ag, 0, none⟩) (eachOf (name :: t.names)).length ac ∧ (∀ (i : Nat) q, (eachOf (name :: t.names))[i]? = some q → w7.cell? ⟨ag, i * 2, none⟩ = some (.int .i64 q.1) ∧ w7.cell? ⟨ag, i * 2 + 1, none⟩ = some (.string (B q.2))) ∧ ag < w7.heap.size := by
    rcases HST.out.ask with ⟨_, h2⟩ | ⟨b, c, h, hlt, hc⟩
    · have h3 := HL.out
      rw [h2] at h3
      simp at h3
    · exact ⟨b, c, h, hc, hlt⟩
  have HAC := Lib.hid hac
  have HAG := Lib.hid hagl
  have HRUN : Hid (Calls Tryz.prog 32 #[cv, .slice (some ⟨ag, 0, none⟩) (eachOf (name :: t.names)).length ac] w7 fun e w' => ∃ va xc l, e = .returned (.slice va (eachOf (name :: t.names)).length xc) ∧ l.length = (eachOf (name :: t.names)).length ∧ TRow w' (.slice va (eachOf (name :: t.names)).length xc) l ∧ (∀ (i : Nat) q p, (eachOf (name :: t.names))[i]? = some q → l[i]? = some p → p.1 = tell t q) ∧ (∀ p ∈ l, SL w' p.2 p.1.list ∧ p.1.list.length ≤ 1000000) ∧ Below w7.heap.size w7 w') := Lib.hid (by
    have hv7 : BA w7 cv (hPrint d t x) := by
      have := HBA.out.below (Below.to_next HB65.out HST.out.below)
      rw [HP.out] at this
      exact this
    refine (runRd_any HRD.out hv7 HST.out.ask (HF.out H7.out).2.1.1 (by rw [HL.out]; have := HLT1.out; omega) (fun q hq => ⟨(eachOf_mem hq).1, HNL.out _ (eachOf_mem hq).2⟩)).mono ?_
    rintro e w3 ⟨ov, l, rfl, hlen, htr, hans, hsl, hb3⟩
    obtain ⟨va, xc, rfl⟩ : ∃ va xc, ov = .slice va (eachOf (name :: t.names)).length xc := by
      rcases htr.row with ⟨h1, h2, _⟩ | ⟨g, cap, cur, h1, _⟩
      · exact ⟨none, 0, by rw [h1, ← hlen, h2]⟩
      · exact ⟨_, _, by rw [h1, hlen]⟩
    exact ⟨va, xc, l, rfl, hlen, htr, hans, hsl, hb3⟩)
  have HNLEN : Hid ((eachOf (name :: t.names)).length ≤ 2010) := Lib.hid (by rw [HL.out]; have := HLT1.out; omega)
  obtain ⟨AL, hAL⟩ : ∃ A, A = eachOf (name :: t.names) := ⟨_, rfl⟩
  rw [← hAL] at HRUN HAC HNLEN ⊢
  have HALE := Lib.hid hAL
  clear hAL hac hagl
  dsimp only
  go_wp2_with (fail)
  refine HRUN.out.mono ?_
  rintro e w8 ⟨va, xcap, l, rfl, hlen, htr, hans, hsl, hb8⟩
  have HX := Lib.hid (And.intro hlen (And.intro htr (And.intro hans hsl)))
  have H8 := Lib.hid (Below.to_next H7.out hb8)
  have HB78 := Lib.hid hb8
  clear hlen htr hans hsl hb8 HRUN
  dsimp only
  go_wp2_with (fail)
  go_loopw [46] (fun s46 wr => ∃ i : Nat, i ≤ AL.length ∧ s46 = .int .i64 (i : Int) ∧ Hid (Below w8.heap.size w8 wr)) (fun s46 _ => AL.length + 1 - (intOf s46).toNat)
  case atStart => exact ⟨0, Nat.zero_le _, rfl, Lib.hid (Below.refl _ _)⟩
  case round =>
    obtain ⟨i, hi, rfl, HBR⟩ := hrel
    by_cases hlt : i < AL.length
    · obtain ⟨⟨q, s⟩, hq⟩ : ∃ q, AL[i]? = some q := ⟨_, List.getElem?_eq_getElem hlt⟩
      obtain ⟨⟨a, lv⟩, hp⟩ : ∃ p, l[i]? = some p := ⟨l[i]'(by rw [HX.out.1]; exact hlt), List.getElem?_eq_getElem _⟩
      obtain ⟨xa, xm, xc, hlv⟩ := HX.out.2.1.sl _ (List.mem_of_getElem? hp)
      simp only at hlv
      subst hlv
      obtain ⟨g, cap, hov, hg, c0, c1, c2, c3, c4, c5, c6⟩ := HX.out.2.1.cells hp
      rw [HX.out.1] at hov
      cases hov
      have hans := HX.out.2.2.1 i _ _ hq hp
      simp only at hans
      have hsl := HX.out.2.2.2 _ (List.mem_of_getElem? hp)
      have hq10 : q < 10 := (eachOf_mem (by rw [← HALE.out]; exact List.mem_of_getElem? hq)).1
      have a0 := (HBR.out.cell (p := ⟨ag, i * 2, none⟩) (Nat.lt_of_lt_of_le HAG.out HB78.out.size)).trans ((HB78.out.cell (p := ⟨ag, i * 2, none⟩) HAG.out).trans (HAC.out i _ hq).1)
      have a1 := (HBR.out.cell (p := ⟨ag, i * 2 + 1, none⟩) (Nat.lt_of_lt_of_le HAG.out HB78.out.size)).trans ((HB78.out.cell (p := ⟨ag, i * 2 + 1, none⟩) HAG.out).trans (HAC.out i _ hq).2)
      obtain ⟨wa, hwa⟩ : ∃ wa, wa = wr.alloc (.cells #[Value.int .i64 q, .string (B s)] 62) := ⟨_, rfl⟩
      have HAR : Hid (Below wr.heap.size wr wa) := Lib.hid (by rw [hwa]; exact Below.to_alloc (Below.refl _ _) _)
      have HA8 := Lib.hid (Below.to_next HBR.out HAR.out)
      have HA1 := Lib.hid (Below.to_next H8.out HA8.out)
      have hqb : wa.heap[wr.heap.size]? = some (.cells ([Value.int .i64 q, .string (B s)] : List Value).toArray 62 (0, 0)) := by rw [hwa]; exact heap_alloc_new _ _
      have HQ0 : Hid (∀ {wz : World}, Below wa.heap.size wa wz → wz.cell? ⟨wr.heap.size, 0, none⟩ = some (.int .i64 q)) := fun h => blk_cell (blk_below h hqb) 0 _ rfl
      have HQ1 : Hid (∀ {wz : World}, Below wa.heap.size wa wz → wz.cell? ⟨wr.heap.size, 1, none⟩ = some (.string (B s))) := fun h => blk_cell (blk_below h hqb) 1 _ rfl
      have HXC0 : Hid (∀ {wz : World}, Below wa.heap.size wa wz → wz.cell? ⟨g, i * 7, none⟩ = some (.bool a.ok)) := fun h => ((Below.to_next HA8.out h).cell (p := ⟨g, i * 7, none⟩) hg).trans c0
      have HXC1 : Hid (∀ {wz : World}, Below wa.heap.size wa wz → wz.cell? ⟨g, i * 7 + 1, none⟩ = some (.string (B a.text))) := fun h => ((Below.to_next HA8.out h).cell (p := ⟨g, i * 7 + 1, none⟩) hg).trans c1
      have HXC2 : Hid (∀ {wz : World}, Below wa.heap.size wa wz → wz.cell? ⟨g, i * 7 + 2, none⟩ = some (.bool a.is)) := fun h => ((Below.to_next HA8.out h).cell (p := ⟨g, i * 7 + 2, none⟩) hg).trans c2
      have HXC3 : Hid (∀ {wz : World}, Below wa.heap.size wa wz → wz.cell? ⟨g, i * 7 + 3, none⟩ = some (.int .i64 a.int)) := fun h => ((Below.to_next HA8.out h).cell (p := ⟨g, i * 7 + 3, none⟩) hg).trans c3
      have HXC4 : Hid (∀ {wz : World}, Below wa.heap.size wa wz → wz.cell? ⟨g, i * 7 + 4, none⟩ = some (.int .u64 a.uint)) := fun h => ((Below.to_next HA8.out h).cell (p := ⟨g, i * 7 + 4, none⟩) hg).trans c4
      have HXC5 : Hid (∀ {wz : World}, Below wa.heap.size wa wz → wz.cell? ⟨g, i * 7 + 5, none⟩ = some (.float .f64 a.fl)) := fun h => ((Below.to_next HA8.out h).cell (p := ⟨g, i * 7 + 5, none⟩) hg).trans c5
      have HXC6 : Hid (∀ {wz : World}, Below wa.heap.size wa wz → wz.cell? ⟨g, i * 7 + 6, none⟩ = some (.slice xa xm xc)) := fun h => ((Below.to_next HA8.out h).cell (p := ⟨g, i * 7 + 6, none⟩) hg).trans c6
      have HTOLD : Hid (∀ {wz : World}, Below wa.heap.size wa wz → Calls Tryz.prog 39 #[.agg #[.int .u8 t.kind, .bool t.is, .bool t.minus, .int .u64 t.num, .string (B t.text), .slice an t.names.length cn, .slice ak t.kids.length ck], .agg #[.int .i64 q, .string (B s)]] wz (ToldR (kidIn t.names t.kids s) q wz)) := fun h => by
        have h1 := Below.to_next HA1.out h
        obtain ⟨e0, _, hd0, _⟩ := sized_obj HSZ.out HRT.out.1
        subst hd0
        exact headTold_any (HF.out h1).1 (HF.out h1).2.2.1 HRT.out.1 HKN.out.2.1 HKN.out.2.2 HKN.out.1 hq10
      have HEX : Hid (∀ {wz : World}, Below wa.heap.size wa wz → Calls Tryz.prog 40 #[.agg #[.int .u8 t.kind, .bool t.is, .bool t.minus, .int .u64 t.num, .string (B t.text), .slice an t.names.length cn, .slice ak t.kids.length ck], .string (B s)] wz fun e w' => e = .returned (.bool (exactT (kidIn t.names t.kids s))) ∧ Below wz.heap.size wz w') := fun h => by
        have h1 := Below.to_next HA1.out h
        obtain ⟨e0, _, hd0, _⟩ := sized_obj HSZ.out HRT.out.1
        subst hd0
        exact headExact_any (HF.out h1).1 (HF.out h1).2.2.1 HRT.out.1 HKN.out.2.1 HKN.out.2.2
      obtain ⟨tg1, tg2⟩ := tell_gold t (fun c hc => (HKN.out.1 c hc).1) q s hq10
      rw [← hans] at tg1 tg2
      have HSAME : Hid (∀ {wz : World} {lv : Value}, Below wa.heap.size wa wz → NS wz lv (goldT (kidIn t.names t.kids s) q).list → Calls Tryz.prog 37 #[.agg #[.bool a.ok, .string (B a.text), .bool a.is, .int .i64 a.int, .int .u64 a.uint, .float .f64 a.fl, .slice xa xm xc], .agg ((goldT (kidIn t.names t.kids s) q).cells lv).toArray, .bool (exactT (kidIn t.names t.kids s))] wz fun e w' => e = .returned (.bool true) ∧ Below wz.heap.size wz w') := fun h hn =>
        sameTold_any _ a (goldT (kidIn t.names t.kids s) q) (exactT (kidIn t.names t.kids s)) ((hsl.1.ns.below HA8.out).below h) hn hsl.2 tg1 tg2
      have HLT := Lib.hid hlt
      have il : (i : Int) < (AL.length : Int) := by omega
      have il2 : i < AL.length := hlt
      have i9 : (i : Int) < 100000 := by have := HNLEN.out; omega
      have i0 : (0 : Int) ≤ (i : Int) := by omega
      have hP0 : Below wa.heap.size wa wa.drew := (Below.refl _ _).drew
      clear hq hp hlt hi c0 c1 c2 c3 c4 c5 c6 hans hsl tg1 tg2 hqb hq10
      generalize exactT (kidIn t.names t.kids s) = ex at *
      go_upto_region 13 with (fail)
      rw [← hwa]
      have HWA := Lib.hid hwa
      clear hwa a0 a1
      go_region_held_law (fun w' => (w'.cell? ⟨g, i * 7, none⟩ = some (.bool a.ok) ∧ w'.cell? ⟨g, i * 7 + 1, none⟩ = some (.string (B a.text)) ∧ w'.cell? ⟨g, i * 7 + 2, none⟩ = some (.bool a.is) ∧ w'.cell? ⟨g, i * 7 + 3, none⟩ = some (.int .i64 a.int) ∧ w'.cell? ⟨g, i * 7 + 4, none⟩ = some (.int .u64 a.uint) ∧ w'.cell? ⟨g, i * 7 + 5, none⟩ = some (.float .f64 a.fl) ∧ w'.cell? ⟨g, i * 7 + 6, none⟩ = some (.slice xa xm xc) ∧ w'.cell? ⟨w.heap.size, 0, none⟩ = some (.int .u8 t.kind) ∧ w'.cell? ⟨w.heap.size, 1, none⟩ = some (.bool t.is) ∧ w'.cell? ⟨w.heap.size, 2, none⟩ = some (.bool t.minus) ∧ w'.cell? ⟨w.heap.size, 3, none⟩ = some (.int .u64 t.num) ∧ w'.cell? ⟨w.heap.size, 4, none⟩ = some (.string (B t.text)) ∧ w'.cell? ⟨w.heap.size, 5, none⟩ = some (.slice an t.names.length cn) ∧ w'.cell? ⟨w.heap.size, 6, none⟩ = some (.slice ak t.kids.length ck) ∧ w'.cell? ⟨wr.heap.size, 0, none⟩ = some (.int .i64 q) ∧ w'.cell? ⟨wr.heap.size, 1, none⟩ = some (.string (B s))) ∧ Below wa.heap.size wa w')
        (first
          | (go_split_ands
             refine (fun hz => ⟨⟨HXC0.out hz, HXC1.out hz, HXC2.out hz, HXC3.out hz, HXC4.out hz, HXC5.out hz, HXC6.out hz, BOX.out (Below.to_next HA1.out hz) 0 _ rfl, BOX.out (Below.to_next HA1.out hz) 1 _ rfl, BOX.out (Below.to_next HA1.out hz) 2 _ rfl, BOX.out (Below.to_next HA1.out hz) 3 _ rfl, BOX.out (Below.to_next HA1.out hz) 4 _ rfl, BOX.out (Below.to_next HA1.out hz) 5 _ rfl, BOX.out (Below.to_next HA1.out hz) 6 _ rfl, HQ0.out hz, HQ1.out hz⟩, hz⟩) ?_
             first
               | assumption
               | exact Below.to_alloc (by assumption) _
               | exact Below.to_next (by assumption) (by assumption)))
        (first
          | (go_at_call 39; go_split_ands; refine (HTOLD.out (by assumption)).mono ?_; rintro e w9 ⟨lv, rfl, hns, hb5⟩)
          | (go_at_call 40; go_split_ands; refine (HEX.out (by assumption)).mono ?_; rintro e w10 ⟨rfl, hb6⟩)
          | (go_at_call 37; go_split_ands; with_reducible refine (HSAME.out (by assumption) (hns.below (by (repeat (first | with_reducible exact Below.refl _ _ | with_reducible refine Below.drew ?_ | with_reducible refine Below.to_alloc ?_ _ | with_reducible refine Below.to_next ?_ hb6 | with_reducible refine Below.to_next ?_ hb5))))).mono ?_; rintro e w11 ⟨rfl, hb7⟩))
      all_goals
        go_split_ands
        go_wp2
        go_roundw
        case rel => exact ⟨i + 1, by have := HLT.out; omega, by go_num, Lib.hid (Below.to_next HA8.out (by assumption))⟩
        case measure => (have := HLT.out; simp [intOf]; omega)
    · obtain rfl : i = AL.length := by omega
      have H8r : Hid (Below w1.heap.size w1 wr) := Lib.hid (Below.to_next H8.out HBR.out)
      clear hlt hi
      go_wp2_with (fail)
      refine (LIVE.out H8r.out).mono ?_
      rintro e w12 ⟨rfl, hb12⟩
      have H12 := Lib.hid hb12
      clear hb12
      go_wp2
      go_ret
      exact ⟨rfl, H12.out⟩
end Go.Proofs.YtppkpcijmfdfmaaGreatDoor
