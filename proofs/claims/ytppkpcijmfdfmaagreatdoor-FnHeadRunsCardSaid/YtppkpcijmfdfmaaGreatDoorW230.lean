/- The walk of FnHeadRuns. Printed by gen_w230.py. -/
import Derived.Test.YtppkpcijmfdfmaaGreatDoorG4
import Derived.Test.YtppkpcijmfdfmaaGreatDoorG1
import Derived.Test.YtppkpcijmfdfmaaGreatDoorH1
import Derived.Test.YtppkpcijmfdfmaaGreatDoorW192
set_option linter.unusedVariables false
set_option linter.unusedSimpArgs false
namespace Go.Proofs.YtppkpcijmfdfmaaGreatDoor
open Go.RowKit
attribute [local go_sem] B_size B_get B_lit B_ext_to B_ext B_toList B_app

/-- An answer alone, in memory. -/
def OneAt (w : World) (g : Nat) (a : Told) : Prop := ∃ x m c, g < w.heap.size ∧ w.cell? ⟨g, 0, none⟩ = some (.bool a.ok) ∧ w.cell? ⟨g, 1, none⟩ = some (.string (B a.text)) ∧ w.cell? ⟨g, 2, none⟩ = some (.bool a.is) ∧ w.cell? ⟨g, 3, none⟩ = some (.int .i64 a.int) ∧
  w.cell? ⟨g, 4, none⟩ = some (.int .u64 a.uint) ∧ w.cell? ⟨g, 5, none⟩ = some (.float .f64 a.fl) ∧ w.cell? ⟨g, 6, none⟩ = some (.slice x m c) ∧ NS w (.slice x m c) a.list
set_option maxRecDepth 100000 in
set_option maxHeartbeats 8000000 in
theorem runs_walk {d : Nat} {t : HT} {nv kv : Value} {B0 x lc : Nat} {la : Option Addr} {ls : List (Nat × Nat)} {name : Bs} {w : World} (hr : RepT w B0 d nv kv t) (hls : QRow w (.slice la ls.length lc) ls) (hls9 : ls.length ≤ 9223372036854775807) (hG : Ground w) (hB : B0 ≤ w.heap.size) (hx : x < 18446744073709551616) :
    Calls Tryz.prog 8 #[.agg (tcells t nv kv).toArray, .int .u64 x, .slice la ls.length lc, .string (B name)] w fun e w' => e = .returned (.bool true) ∧ Below w.heap.size w w' := by
  obtain ⟨⟨an, cn, rfl⟩, ak, ck, rfl⟩ := hr.slices
  obtain ⟨w1, hw1⟩ : ∃ w1, w1 = w.alloc (.cells (tcells t (.slice an t.names.length cn) (.slice ak t.kids.length ck)).toArray 45) := ⟨_, rfl⟩
  have hb1 : Below w.heap.size w w1 := by rw [hw1]; exact (Below.refl _ _).alloc (Nat.le_refl _) _
  have hlt1 : w.heap.size < w1.heap.size := by rw [hw1]; simp
  have BOX : Hid (∀ {wz : World}, Below w1.heap.size w1 wz → ∀ (j : Nat) u, (tcells t (.slice an t.names.length cn) (.slice ak t.kids.length ck))[j]? = some u → wz.cell? ⟨w.heap.size, j, none⟩ = some u) := by
    intro wz hb j u hu
    refine (hb.cell (p := ⟨w.heap.size, j, none⟩) hlt1).trans ?_
    rw [hw1, cell_box]
    exact hu
  have HF : Hid (∀ {wz : World}, Below w1.heap.size w1 wz → RepT wz B0 d (.slice an t.names.length cn) (.slice ak t.kids.length ck) t ∧ Ground wz ∧ B0 ≤ wz.heap.size ∧ Below w.heap.size w wz) := by
    intro wz hb
    have hb2 : Below w.heap.size w wz := hb1.trans (hb.mono hb1.size)
    exact ⟨hr.below (hb2.mono hB), hG.below hb2, Nat.le_trans hB hb2.size, hb2⟩
  have HFIT := Lib.hid (fits11_any (HF.out (Below.refl _ _)).1 (HF.out (Below.refl _ _)).2.2.1)
  have HOBJ : Hid (∀ {wz : World}, Below w1.heap.size w1 wz → ∀ (v : Value), NSB wz wz.heap.size v [name] → Calls Tryz.prog 36 #[.agg (tcells t (.slice an t.names.length cn) (.slice ak t.kids.length ck)).toArray, v] wz fun e w' => ∃ ok, e = .returned (.bool ok) ∧ (ok = true → t.kind = 5 ∧ Right d t ∧ TextsOk [name]) ∧ Below wz.heap.size wz w') :=
    fun h v hv => object_any (HF.out h).1 (HF.out h).2.1.2 (HF.out h).2.2.1 hv (by simp)
  have HPRINT : Hid (∀ {wz : World}, Below w1.heap.size w1 wz → Right d t → Calls Tryz.prog 31 #[.agg (tcells t (.slice an t.names.length cn) (.slice ak t.kids.length ck)).toArray, .int .u64 x] wz fun e w' => e = .returned (.string (B (hPrint d t x))) ∧ Below wz.heap.size wz w') :=
    fun h hR => by
      obtain ⟨n, hs, _⟩ := hR
      exact print_any (HF.out h).1 hs (by have := sized_le hs (by decide); omega) (HF.out h).2.2.1 hx
  have HLS : Hid (∀ {wz : World}, Below w1.heap.size w1 wz → QRow wz (.slice la ls.length lc) ls) := fun h => hls.below (HF.out h).2.2.2
  clear hr hG hb1 hls
  simp only [tcells] at hw1 HFIT HOBJ HPRINT BOX ⊢
  have HW1 := Lib.hid hw1
  clear hw1
  go_enter Tryz.func8, Tryz.ntmps8
  go_wp2_with (fail)
  rw [← HW1.out]
  refine HFIT.out.mono ?_
  rintro e w2 ⟨⟨bf, rfl⟩, hb2⟩
  have H2 := Lib.hid hb2
  clear hb2
  have LIVE : Hid (∀ {wz : World}, Below w1.heap.size w1 wz → Calls Tryz.prog 34 #[] wz fun e w' => e = .returned (.bool true) ∧ Below w.heap.size w w') := fun {wz} h =>
    (live_any wz (HF.out h).2.1.1).mono fun e w' he => ⟨he.1, (HF.out h).2.2.2.trans (he.2.mono (HF.out h).2.2.2.size)⟩
  cases bf
  · go_wp2
    go_ret
    exact ⟨rfl, (HF.out H2.out).2.2.2⟩
  by_cases hbig0 : 2147483647 < ls.length
  · have f1 : decide ((2147483647 : Int) < ls.length) = true := by simp; omega
    go_wp2
    go_ret
    exact ⟨rfl, (HF.out H2.out).2.2.2⟩
  have f3 : decide ((2147483647 : Int) < ls.length) = false := by simp; omega
  by_cases hbig : 2147483647 < name.length
  · have f1 : decide ((2147483647 : Int) < name.length) = true := by simp; omega
    go_wp2
    go_ret
    exact ⟨rfl, (HF.out H2.out).2.2.2⟩
  have f1 : decide ((2147483647 : Int) < name.length) = false := by simp; omega
  have q0 := BOX.out H2.out 0 _ rfl
  have q1 := BOX.out H2.out 1 _ rfl
  have q2 := BOX.out H2.out 2 _ rfl
  have q3 := BOX.out H2.out 3 _ rfl
  have q4 := BOX.out H2.out 4 _ rfl
  have q5 := BOX.out H2.out 5 _ rfl
  have q6 := BOX.out H2.out 6 _ rfl
  go_wp2_with (fail)
  obtain ⟨wn, hwn⟩ : ∃ wn, wn = w2.alloc (.cells #[Value.string (B name)] 9) := ⟨_, rfl⟩
  have HNM : Hid (NSB wn wn.heap.size (.slice (some ⟨w2.heap.size, 0, none⟩) 1 1) [name]) := Lib.hid (Or.inr ⟨w2.heap.size, 0, 1, rfl, ⟨by rw [hwn]; simp, Nat.le_refl _⟩, fun i s hi => by
    match i, hi with
    | 0, hi =>
      cases hi
      rw [hwn, cell_of_row (w2.alloc (.cells #[Value.string (B name)] 9)) w2.heap.size 0 _ _ _ (heap_alloc_new w2 _)]
      rfl⟩)
  have H2n : Hid (Below w1.heap.size w1 wn) := Lib.hid (by rw [hwn]; exact Below.to_alloc H2.out _)
  rw [← hwn]
  clear hwn
  refine (HOBJ.out H2n.out _ HNM.out).mono ?_
  rintro e w3 ⟨ok, rfl, hy, hb3⟩
  have HY := Lib.hid hy
  have H3 := Lib.hid (H2n.out.trans (hb3.mono H2n.out.size))
  clear hy hb3 q0 q1 q2 q3 q4 q5 q6
  cases ok
  · go_wp2_with (fail)
    refine (LIVE.out H3.out).mono ?_
    rintro e w4 ⟨rfl, hb4⟩
    have H4 := Lib.hid hb4
    clear hb4
    go_wp2
    go_ret
    exact ⟨rfl, H4.out⟩
  have HRT : Hid (t.kind = 5 ∧ Right d t ∧ TextsOk [name]) := ⟨(HY.out rfl).1, (HY.out rfl).2.1, (HY.out rfl).2.2⟩
  clear HY
  by_cases hsix : 60 < ls.length
  · have f4 : decide ((60 : Int) < ls.length) = true := by simp; omega
    go_wp2_with (fail)
    refine (LIVE.out H3.out).mono ?_
    rintro e w9 ⟨rfl, hb9⟩
    have H9 := Lib.hid hb9
    clear hb9
    go_wp2
    go_ret
    exact ⟨rfl, H9.out⟩
  have f4 : decide ((60 : Int) < ls.length) = false := by simp; omega
  have q0 := BOX.out H3.out 0 _ rfl
  have q1 := BOX.out H3.out 1 _ rfl
  have q2 := BOX.out H3.out 2 _ rfl
  have q3 := BOX.out H3.out 3 _ rfl
  have q4 := BOX.out H3.out 4 _ rfl
  have q5 := BOX.out H3.out 5 _ rfl
  have q6 := BOX.out H3.out 6 _ rfl
  go_wp2_with (fail)
  refine (HPRINT.out H3.out HRT.out.2.1).mono ?_
  rintro e w4 ⟨rfl, hb4⟩
  have H4 := Lib.hid (H3.out.trans (hb4.mono H3.out.size))
  clear hb4 q0 q1 q2 q3 q4 q5 q6
  obtain ⟨P, hP⟩ : ∃ P, P = hPrint d t x := ⟨_, rfl⟩
  rw [← hP]
  have HP := Lib.hid hP
  clear hP
  obtain ⟨cv, w5, hcv, hba, hb5⟩ := conv_bytes w4 P
  have HBA := Lib.hid hba
  have H5 := Lib.hid (Below.to_next H4.out hb5)
  clear hba hb5
  obtain ⟨n, hsz, hnd0⟩ := HRT.out.2.1
  have HSZ := Lib.hid hsz
  have HND : Hid (t.names.Nodup) := Lib.hid (by
    have h5 := HRT.out.1
    unfold HT.texts at hnd0
    rw [if_neg (by omega), if_pos h5] at hnd0
    exact hnd0)
  have HPL : Hid (P.length ≤ 80000000) := Lib.hid (by rw [HP.out]; exact print_length hsz (by have := sized_le hsz (by decide); omega) x)
  have HNL : Hid (∀ s ∈ name :: t.names, s.length < 4294967290) := Lib.hid (fun s hs => by
    rcases List.mem_cons.1 hs with rfl | hs
    · omega
    · have := names_short hsz HRT.out.1 s hs; omega)
  clear hsz hnd0
  have HRD := Lib.hid (rd_print HSZ.out (by decide) (by decide) HRT.out.1 HND.out x)
  have HKN : Hid ((∀ c ∈ t.kids, c.num < 18446744073709551616 ∧ c.kids.length ≤ 900000) ∧ t.names.length = t.kids.length ∧ t.names.length ≤ 1000000) := Lib.hid (by
    obtain ⟨e0, ms0, hd0, h1, h2, h3, h4, h6, h7, h8⟩ := sized_obj HSZ.out HRT.out.1
    refine ⟨fun c hc => ?_, h3, by omega⟩
    obtain ⟨i, hi⟩ := List.mem_iff_getElem?.1 hc
    obtain ⟨m, _, hm⟩ := (All2.get h6).2 i _ hi
    cases e0 with
    | zero => exact hm.elim
    | succ e0 => exact ⟨hm.2.1.2, by have := hm.2.2.1; omega⟩)
  have HLT1 : Hid (t.names.length ≤ 201) := Lib.hid (by have := names_lt HSZ.out HRT.out.1; omega)
  have HLSN : Hid (ls.length ≤ 60) := Lib.hid (by omega)
  have q0 := BOX.out H5 0 _ rfl
  have q1 := BOX.out H5 1 _ rfl
  have q2 := BOX.out H5 2 _ rfl
  have q3 := BOX.out H5 3 _ rfl
  have q4 := BOX.out H5 4 _ rfl
  have q5 := BOX.out H5 5 _ rfl
  have q6 := BOX.out H5 6 _ rfl
  go_wp2_with (fail)
  refine (asks_any (HF.out H5.out).1 (HF.out H5.out).2.2.1 (by have := HLT1.out; omega) (HLS.out H5.out) (by have := HLSN.out; omega)).mono ?_
  rintro e w6 ⟨av, rfl, hst, hb6⟩
  have HST := Lib.hid hst
  have H6 := Lib.hid (Below.to_next H5.out hb6)
  have HB65 := Lib.hid hb6
  clear hst hb6 q0 q1 q2 q3 q4 q5 q6
  obtain ⟨AL, hAL⟩ : ∃ A, A = asksOf (name :: t.names) ls := ⟨_, rfl⟩
  rw [← hAL] at HST
  have HALE := Lib.hid hAL
  have HNLEN : Hid (AL.length ≤ 60) := Lib.hid (by rw [HALE.out, asksOf_length]; exact HLSN.out)
  have HAQ : Hid (∀ q ∈ AL, q.1 < 10 ∧ q.2.length < 4294967290) := Lib.hid (fun q hq => by
    have := asksOf_mem (by rw [← HALE.out]; exact hq) (by simp)
    exact ⟨this.1, HNL.out _ this.2⟩)
  clear hAL
  obtain ⟨ag, ac, rfl⟩ : ∃ ag ac, av = .slice ag AL.length ac := by
    rcases HST.out with ⟨h, h2⟩ | ⟨b, c, h, hlt, hc⟩
    · exact ⟨none, 0, by rw [h, h2]; rfl⟩
    · exact ⟨_, c, h⟩
  have HRUN : Hid (∀ {wz : World} {v av : Value} {asks : Asks}, Below w1.heap.size w1 wz → BA wz v P → AskRow wz av asks → (∀ q ∈ asks, q.1 < 10 ∧ q.2.length < 4294967290) → asks.length ≤ 60 → Calls Tryz.prog 32 #[v, av] wz fun e w' => ∃ va xc l, e = .returned (.slice va asks.length xc) ∧ l.length = asks.length ∧ TRow w' (.slice va asks.length xc) l ∧ (∀ (i : Nat) q p, asks[i]? = some q → l[i]? = some p → p.1 = tell t q) ∧ (∀ p ∈ l, SL w' p.2 p.1.list ∧ p.1.list.length ≤ 1000000) ∧ Below wz.heap.size wz w') := by
    intro wz v av asks h hv ha hq hlen
    rw [HP.out] at hv
    refine (runRd_any HRD.out hv ha (HF.out h).2.1.1 (by omega) hq).mono ?_
    rintro e w3 ⟨ov, l, rfl, hlen, htr, hans, hsl, hb3⟩
    obtain ⟨va, xc, rfl⟩ : ∃ va xc, ov = .slice va asks.length xc := by
      rcases htr.row with ⟨h1, h2, _⟩ | ⟨g, cap, cur, h1, _⟩
      · exact ⟨none, 0, by rw [h1, ← hlen, h2]⟩
      · exact ⟨_, _, by rw [h1, hlen]⟩
    exact ⟨va, xc, l, rfl, hlen, htr, hans, hsl, hb3⟩
  have HCLB : Hid (∀ {wz : World}, Below w5.heap.size w5 wz → Calls Tryz.prog 29 #[cv] wz fun e w' => ∃ v3, e = .returned v3 ∧ BA w' v3 P ∧ Below wz.heap.size wz w') := by
    intro wz h
    refine (clone_any wz cv P (HBA.out.below h) (by have := HPL.out; omega)).mono ?_
    rintro e w' ⟨v3, rfl, hv3, hb3, _⟩
    exact ⟨v3, rfl, hv3, hb3⟩
  dsimp only
  go_wp2_with (fail)
  refine (HCLB.out HB65.out).mono ?_
  rintro e w7 ⟨v3, rfl, hv3, hb7⟩
  have H7 := Lib.hid (Below.to_next H6.out hb7)
  have HB75 := Lib.hid (Below.to_next HB65.out hb7)
  have HV3 := Lib.hid hv3
  have HST7 := Lib.hid (HST.out.below hb7)
  clear hv3 hb7
  go_wp2_with (fail)
  refine (HRUN.out H7.out HV3.out HST7.out HAQ.out HNLEN.out).mono ?_
  rintro e w8 ⟨va, xcap, l, rfl, hlen, htr, hans, hsl, hb8⟩
  have HX := Lib.hid (And.intro hlen (And.intro htr (And.intro hans hsl)))
  have H8 := Lib.hid (Below.to_next H7.out hb8)
  have HB85 := Lib.hid (Below.to_next HB75.out hb8)
  have HST8 := Lib.hid (HST7.out.below hb8)
  clear hlen htr hans hsl hb8
  dsimp only
  go_wp2_with (fail)
  go_loopw [58] (fun s58 wr => ∃ i : Nat, i ≤ AL.length ∧ s58 = .int .i64 (i : Int) ∧ Hid (Below w8.heap.size w8 wr)) (fun s58 _ => AL.length + 1 - (intOf s58).toNat)
  case atStart => exact ⟨0, Nat.zero_le _, rfl, Lib.hid (Below.refl _ _)⟩
  case round =>
    obtain ⟨i, hi, rfl, HBR⟩ := hrel
    by_cases hlt : i < AL.length
    · obtain ⟨⟨q, s⟩, hq⟩ : ∃ q, AL[i]? = some q := ⟨_, List.getElem?_eq_getElem hlt⟩
      obtain ⟨⟨a, lv⟩, hp⟩ : ∃ p, l[i]? = some p := ⟨l[i]'(by rw [HX.out.1]; exact hlt), List.getElem?_eq_getElem _⟩
      obtain ⟨xa, xm, xc, hlv⟩ := HX.out.2.1.sl _ (List.mem_of_getElem? hp)
      simp only at hlv
      subst hlv
      obtain ⟨g, cap, hov, hg, c0, c1, c2, c3, c4, c5, c6⟩ := HX.out.2.1.cells hp
      rw [HX.out.1] at hov
      cases hov
      have hans := HX.out.2.2.1 i _ _ hq hp
      simp only at hans
      have hsl := HX.out.2.2.2 _ (List.mem_of_getElem? hp)
      have hq10 : q < 10 := (HAQ.out _ (List.mem_of_getElem? hq)).1
      obtain ⟨ab, rfl, hab, hac⟩ : ∃ b, ag = some ⟨b, 0, none⟩ ∧ b < w8.heap.size ∧ ∀ (i : Nat) q, AL[i]? = some q → w8.cell? ⟨b, i * 2, none⟩ = some (.int .i64 q.1) ∧ w8.cell? ⟨b, i * 2 + 1, none⟩ = some (.string (B q.2)) := by
        rcases HST8.out with ⟨h, h2⟩ | ⟨b, c, h, h3, h4⟩
        · rw [h2] at hlt; simp at hlt
        · cases h; exact ⟨b, rfl, h3, h4⟩
      have a0 := (HBR.out.cell (p := ⟨ab, i * 2, none⟩) hab).trans (hac i _ hq).1
      have a1 := (HBR.out.cell (p := ⟨ab, i * 2 + 1, none⟩) hab).trans (hac i _ hq).2
      clear hac hab
      obtain ⟨wa, hwa⟩ : ∃ wa, wa = wr.alloc (.cells #[Value.int .i64 q, .string (B s)] 62) := ⟨_, rfl⟩
      have HAR : Hid (Below wr.heap.size wr wa) := Lib.hid (by rw [hwa]; exact Below.to_alloc (Below.refl _ _) _)
      have HA8 := Lib.hid (Below.to_next HBR.out HAR.out)
      have HA1 := Lib.hid (Below.to_next H8.out HA8.out)
      have hqb : wa.heap[wr.heap.size]? = some (.cells ([Value.int .i64 q, .string (B s)] : List Value).toArray 62 (0, 0)) := by rw [hwa]; exact heap_alloc_new _ _
      have HQ0 : Hid (∀ {wz : World}, Below wa.heap.size wa wz → wz.cell? ⟨wr.heap.size, 0, none⟩ = some (.int .i64 q)) := fun h => blk_cell (blk_below h hqb) 0 _ rfl
      have HQ1 : Hid (∀ {wz : World}, Below wa.heap.size wa wz → wz.cell? ⟨wr.heap.size, 1, none⟩ = some (.string (B s))) := fun h => blk_cell (blk_below h hqb) 1 _ rfl
      have HXC0 : Hid (∀ {wz : World}, Below wa.heap.size wa wz → wz.cell? ⟨g, i * 7, none⟩ = some (.bool a.ok)) := fun h => ((Below.to_next HA8.out h).cell (p := ⟨g, i * 7, none⟩) hg).trans c0
      have HXC1 : Hid (∀ {wz : World}, Below wa.heap.size wa wz → wz.cell? ⟨g, i * 7 + 1, none⟩ = some (.string (B a.text))) := fun h => ((Below.to_next HA8.out h).cell (p := ⟨g, i * 7 + 1, none⟩) hg).trans c1
      have HXC2 : Hid (∀ {wz : World}, Below wa.heap.size wa wz → wz.cell? ⟨g, i * 7 + 2, none⟩ = some (.bool a.is)) := fun h => ((Below.to_next HA8.out h).cell (p := ⟨g, i * 7 + 2, none⟩) hg).trans c2
      have HXC3 : Hid (∀ {wz : World}, Below wa.heap.size wa wz → wz.cell? ⟨g, i * 7 + 3, none⟩ = some (.int .i64 a.int)) := fun h => ((Below.to_next HA8.out h).cell (p := ⟨g, i * 7 + 3, none⟩) hg).trans c3
      have HXC4 : Hid (∀ {wz : World}, Below wa.heap.size wa wz → wz.cell? ⟨g, i * 7 + 4, none⟩ = some (.int .u64 a.uint)) := fun h => ((Below.to_next HA8.out h).cell (p := ⟨g, i * 7 + 4, none⟩) hg).trans c4
      have HXC5 : Hid (∀ {wz : World}, Below wa.heap.size wa wz → wz.cell? ⟨g, i * 7 + 5, none⟩ = some (.float .f64 a.fl)) := fun h => ((Below.to_next HA8.out h).cell (p := ⟨g, i * 7 + 5, none⟩) hg).trans c5
      have HXC6 : Hid (∀ {wz : World}, Below wa.heap.size wa wz → wz.cell? ⟨g, i * 7 + 6, none⟩ = some (.slice xa xm xc)) := fun h => ((Below.to_next HA8.out h).cell (p := ⟨g, i * 7 + 6, none⟩) hg).trans c6
      have HTOLD : Hid (∀ {wz : World}, Below wa.heap.size wa wz → Calls Tryz.prog 39 #[.agg #[.int .u8 t.kind, .bool t.is, .bool t.minus, .int .u64 t.num, .string (B t.text), .slice an t.names.length cn, .slice ak t.kids.length ck], .agg #[.int .i64 q, .string (B s)]] wz (ToldR (kidIn t.names t.kids s) q wz)) := fun h => by
        have h1 := Below.to_next HA1.out h
        obtain ⟨e0, _, hd0, _⟩ := sized_obj HSZ.out HRT.out.1
        subst hd0
        exact headTold_any (HF.out h1).1 (HF.out h1).2.2.1 HRT.out.1 HKN.out.2.1 HKN.out.2.2 HKN.out.1 hq10
      have HEX : Hid (∀ {wz : World}, Below wa.heap.size wa wz → Calls Tryz.prog 40 #[.agg #[.int .u8 t.kind, .bool t.is, .bool t.minus, .int .u64 t.num, .string (B t.text), .slice an t.names.length cn, .slice ak t.kids.length ck], .string (B s)] wz fun e w' => e = .returned (.bool (exactT (kidIn t.names t.kids s))) ∧ Below wz.heap.size wz w') := fun h => by
        have h1 := Below.to_next HA1.out h
        obtain ⟨e0, _, hd0, _⟩ := sized_obj HSZ.out HRT.out.1
        subst hd0
        exact headExact_any (HF.out h1).1 (HF.out h1).2.2.1 HRT.out.1 HKN.out.2.1 HKN.out.2.2
      obtain ⟨tg1, tg2⟩ := tell_gold t (fun c hc => (HKN.out.1 c hc).1) q s hq10
      rw [← hans] at tg1 tg2
      have HSAME : Hid (∀ {wz : World} {lv : Value}, Below wa.heap.size wa wz → NS wz lv (goldT (kidIn t.names t.kids s) q).list → Calls Tryz.prog 37 #[.agg #[.bool a.ok, .string (B a.text), .bool a.is, .int .i64 a.int, .int .u64 a.uint, .float .f64 a.fl, .slice xa xm xc], .agg ((goldT (kidIn t.names t.kids s) q).cells lv).toArray, .bool (exactT (kidIn t.names t.kids s))] wz fun e w' => e = .returned (.bool true) ∧ Below wz.heap.size wz w') := fun h hn =>
        sameTold_any _ a (goldT (kidIn t.names t.kids s) q) (exactT (kidIn t.names t.kids s)) ((hsl.1.ns.below HA8.out).below h) hn hsl.2 tg1 tg2
      have HSELF : Hid ((FloatKind.f64.format.order a.fl a.fl == some .eq) = true ∧ a = tell t (q, s)) := Lib.hid ⟨by rw [hans]; exact tell_self t (fun c hc => (HKN.out.1 c hc).1) (q, s), hans⟩
      have HRUN1 : Hid (∀ {wz : World} {v : Value} {b : Nat}, Below wa.heap.size wa wz → BA wz v P → wz.heap[b]? = some (.cells ([Value.int .i64 q, .string (B s)] : List Value).toArray 62 (0, 0)) → Calls Tryz.prog 32 #[v, .slice (some ⟨b, 0, none⟩) 1 1] wz fun e w' => ∃ g9 c9, e = .returned (.slice (some ⟨g9, 0, none⟩) 1 c9) ∧ OneAt w' g9 a ∧ Below wz.heap.size wz w') := by
        intro wz v b h hv hb
        have hqs := HAQ.out _ (List.mem_of_getElem? hq)
        refine (HRUN.out (asks := [(q, s)]) (Below.to_next HA1.out h) hv (Or.inr ⟨b, 1, rfl, blk_lt' hb, fun i p hi => ?_⟩) (fun p hp => by rw [List.mem_singleton.1 hp]; exact hqs) (by simp)).mono ?_
        · match i, hi with
          | 0, hi => cases hi; exact ⟨blk_cell hb 0 _ rfl, blk_cell hb 1 _ rfl⟩
        · rintro e w3 ⟨va9, xc9, l9, rfl, hlen9, htr9, hans9, hsl9, hb9⟩
          obtain ⟨⟨a9, lv9⟩, hp9⟩ : ∃ p, l9[0]? = some p := ⟨l9[0]'(by rw [hlen9]; simp), List.getElem?_eq_getElem _⟩
          have e9 : a9 = a := (hans9 0 _ _ rfl hp9).trans HSELF.out.2.symm
          subst e9
          obtain ⟨ya, ym, yc, hlv9⟩ := htr9.sl _ (List.mem_of_getElem? hp9)
          simp only at hlv9
          subst hlv9
          obtain ⟨g9, c9, hov9, hg9, d0, d1, d2, d3, d4, d5, d6⟩ := htr9.cells hp9
          rw [hlen9] at hov9
          cases hov9
          have hm9 := (hsl9 _ (List.mem_of_getElem? hp9)).1
          rw [Nat.zero_mul] at d0 d1 d2 d3 d4 d5 d6
          rw [Nat.zero_add] at d1 d2 d3 d4 d5 d6
          exact ⟨g9, _, rfl, ⟨ya, ym, yc, hg9, d0, d1, d2, d3, d4, d5, d6, hm9.ns⟩, hb9⟩
      have HNSA := Lib.hid (And.intro (hsl.1.ns.below HA8.out) hsl.2)
      have HCLW : Hid (∀ {wz : World}, Below wa.heap.size wa wz → Calls Tryz.prog 29 #[cv] wz fun e w' => ∃ v3, e = .returned v3 ∧ BA w' v3 P ∧ Below wz.heap.size wz w') := fun h => HCLB.out (Below.to_next (Below.to_next HB85.out HA8.out) h)
      have HLT := Lib.hid hlt
      have il : (i : Int) < (AL.length : Int) := by omega
      have il2 : i < AL.length := hlt
      have i9 : (i : Int) < 100000 := by have := HNLEN.out; omega
      have i0 : (0 : Int) ≤ (i : Int) := by omega
      have hP0 : Below wa.heap.size wa wa.drew := (Below.refl _ _).drew
      clear hq hp hlt hi c0 c1 c2 c3 c4 c5 c6 hans hsl tg1 tg2 hqb hq10
      generalize exactT (kidIn t.names t.kids s) = ex at *
      go_upto_region 13 with (fail)
      rw [← hwa]
      have HWA := Lib.hid hwa
      clear hwa a0 a1
      go_region_held_law (fun w' => (w'.cell? ⟨wr.heap.size, 0, none⟩ = some (.int .i64 q) ∧ w'.cell? ⟨wr.heap.size, 1, none⟩ = some (.string (B s))) ∧ Below wa.heap.size wa w')
        (first
          | (go_split_ands
             refine (fun hz => ⟨⟨HQ0.out hz, HQ1.out hz⟩, hz⟩) ?_
             first
               | assumption
               | exact Below.to_alloc (by assumption) _
               | exact Below.to_next (by assumption) (by assumption)))
        (first
          | (go_at_call 29; go_split_ands; refine (HCLW.out (by assumption)).mono ?_; rintro e wb ⟨v4, rfl, hv4, hbb⟩)
          | (go_at_call 32; go_split_ands; refine (HRUN1.out (by assumption) (BA.below hv4 (by (repeat (first | with_reducible exact Below.refl _ _ | with_reducible refine Below.drew ?_ | with_reducible refine Below.to_alloc ?_ _ | with_reducible refine Below.to_next ?_ hbb)))) (by (repeat (first | with_reducible exact heap_alloc_new _ _ | with_reducible refine blk_drew ?_ | with_reducible refine blk_alloc ?_ | with_reducible refine blk_below hbb ?_)))).mono ?_; rintro e w15 ⟨g9, c9, rfl, hone, hb15⟩; have HONE := Lib.hid hone))
      all_goals
        go_split_ands
        have HA15 : Hid (Below wa.heap.size wa w15) := Lib.hid (by assumption)
        obtain ⟨ya, ym, yc, hg9, d0, d1, d2, d3, d4, d5, d6, hn9⟩ := HONE.out
        have HN9 := Lib.hid hn9
        have HSAME1 : Hid (∀ {wz : World}, Below w15.heap.size w15 wz → Calls Tryz.prog 37 #[.agg #[.bool a.ok, .string (B a.text), .bool a.is, .int .i64 a.int, .int .u64 a.uint, .float .f64 a.fl, .slice xa xm xc], .agg #[.bool a.ok, .string (B a.text), .bool a.is, .int .i64 a.int, .int .u64 a.uint, .float .f64 a.fl, .slice ya ym yc], .bool true] wz fun e w' => e = .returned (.bool true) ∧ Below wz.heap.size wz w') := fun h =>
          sameTold_any _ a a true ((HNSA.out.1.below HA15.out).below h) (HN9.out.below h) HNSA.out.2 rfl (fun _ => HSELF.out.1)
        have hP15 : Below w15.heap.size w15 w15.drew := (Below.refl _ _).drew
        clear hn9 hone
        go_wp2_with (fail)
        go_region_held_law (fun w' => (w'.cell? ⟨g, i * 7, none⟩ = some (.bool a.ok) ∧ w'.cell? ⟨g, i * 7 + 1, none⟩ = some (.string (B a.text)) ∧ w'.cell? ⟨g, i * 7 + 2, none⟩ = some (.bool a.is) ∧ w'.cell? ⟨g, i * 7 + 3, none⟩ = some (.int .i64 a.int) ∧ w'.cell? ⟨g, i * 7 + 4, none⟩ = some (.int .u64 a.uint) ∧ w'.cell? ⟨g, i * 7 + 5, none⟩ = some (.float .f64 a.fl) ∧ w'.cell? ⟨g, i * 7 + 6, none⟩ = some (.slice xa xm xc) ∧ w'.cell? ⟨w.heap.size, 0, none⟩ = some (.int .u8 t.kind) ∧ w'.cell? ⟨w.heap.size, 1, none⟩ = some (.bool t.is) ∧ w'.cell? ⟨w.heap.size, 2, none⟩ = some (.bool t.minus) ∧ w'.cell? ⟨w.heap.size, 3, none⟩ = some (.int .u64 t.num) ∧ w'.cell? ⟨w.heap.size, 4, none⟩ = some (.string (B t.text)) ∧ w'.cell? ⟨w.heap.size, 5, none⟩ = some (.slice an t.names.length cn) ∧ w'.cell? ⟨w.heap.size, 6, none⟩ = some (.slice ak t.kids.length ck) ∧ w'.cell? ⟨wr.heap.size, 0, none⟩ = some (.int .i64 q) ∧ w'.cell? ⟨wr.heap.size, 1, none⟩ = some (.string (B s)) ∧ w'.cell? ⟨g9, 0, none⟩ = some (.bool a.ok) ∧ w'.cell? ⟨g9, 1, none⟩ = some (.string (B a.text)) ∧ w'.cell? ⟨g9, 2, none⟩ = some (.bool a.is) ∧ w'.cell? ⟨g9, 3, none⟩ = some (.int .i64 a.int) ∧ w'.cell? ⟨g9, 4, none⟩ = some (.int .u64 a.uint) ∧ w'.cell? ⟨g9, 5, none⟩ = some (.float .f64 a.fl) ∧ w'.cell? ⟨g9, 6, none⟩ = some (.slice ya ym yc)) ∧ Below w15.heap.size w15 w')
          (first
            | (go_split_ands
               refine (fun hz => ⟨⟨HXC0.out (Below.to_next HA15.out hz), HXC1.out (Below.to_next HA15.out hz), HXC2.out (Below.to_next HA15.out hz), HXC3.out (Below.to_next HA15.out hz), HXC4.out (Below.to_next HA15.out hz), HXC5.out (Below.to_next HA15.out hz), HXC6.out (Below.to_next HA15.out hz), BOX.out (Below.to_next HA1.out (Below.to_next HA15.out hz)) 0 _ rfl, BOX.out (Below.to_next HA1.out (Below.to_next HA15.out hz)) 1 _ rfl, BOX.out (Below.to_next HA1.out (Below.to_next HA15.out hz)) 2 _ rfl, BOX.out (Below.to_next HA1.out (Below.to_next HA15.out hz)) 3 _ rfl, BOX.out (Below.to_next HA1.out (Below.to_next HA15.out hz)) 4 _ rfl, BOX.out (Below.to_next HA1.out (Below.to_next HA15.out hz)) 5 _ rfl, BOX.out (Below.to_next HA1.out (Below.to_next HA15.out hz)) 6 _ rfl, HQ0.out (Below.to_next HA15.out hz), HQ1.out (Below.to_next HA15.out hz), (hz.cell (p := ⟨g9, 0, none⟩) hg9).trans d0, (hz.cell (p := ⟨g9, 1, none⟩) hg9).trans d1, (hz.cell (p := ⟨g9, 2, none⟩) hg9).trans d2, (hz.cell (p := ⟨g9, 3, none⟩) hg9).trans d3, (hz.cell (p := ⟨g9, 4, none⟩) hg9).trans d4, (hz.cell (p := ⟨g9, 5, none⟩) hg9).trans d5, (hz.cell (p := ⟨g9, 6, none⟩) hg9).trans d6⟩, hz⟩) ?_
               first
                 | assumption
                 | exact Below.to_alloc (by assumption) _
                 | exact Below.to_next (by assumption) (by assumption)))
          (first
            | (go_at_call 39; go_split_ands; refine (HTOLD.out (Below.to_next HA15.out (by assumption))).mono ?_; rintro e w9 ⟨lv, rfl, hns, hb5⟩)
            | (go_at_call 40; go_split_ands; refine (HEX.out (Below.to_next HA15.out (by assumption))).mono ?_; rintro e w10 ⟨rfl, hb6⟩)
            | (go_at_call 37; go_split_ands; with_reducible refine (HSAME1.out (by assumption)).mono ?_; rintro e w16 ⟨rfl, hb4⟩)
            | (go_at_call 37; go_split_ands; with_reducible refine (HSAME.out (Below.to_next HA15.out (by assumption)) (hns.below (by (repeat (first | with_reducible exact Below.refl _ _ | with_reducible refine Below.drew ?_ | with_reducible refine Below.to_alloc ?_ _ | with_reducible refine Below.to_next ?_ hb6 | with_reducible refine Below.to_next ?_ hb5 | with_reducible refine Below.to_next ?_ hb4))))).mono ?_; rintro e w11 ⟨rfl, hb7⟩))
        all_goals
          go_split_ands
          go_wp2
          go_roundw
          case rel => exact ⟨i + 1, by have := HLT.out; omega, by go_num, Lib.hid (Below.to_next (Below.to_next HA8.out HA15.out) (by assumption))⟩
          case measure => (have := HLT.out; simp [intOf]; omega)
    · obtain rfl : i = AL.length := by omega
      have H8r : Hid (Below w1.heap.size w1 wr) := Lib.hid (Below.to_next H8.out HBR.out)
      clear hlt hi
      go_wp2_with (fail)
      refine (LIVE.out H8r.out).mono ?_
      rintro e w12 ⟨rfl, hb12⟩
      have H12 := Lib.hid hb12
      clear hb12
      go_wp2
      go_ret
      exact ⟨rfl, H12.out⟩
end Go.Proofs.YtppkpcijmfdfmaaGreatDoor
