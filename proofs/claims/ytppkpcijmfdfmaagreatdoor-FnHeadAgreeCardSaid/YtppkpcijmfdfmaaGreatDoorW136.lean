/- The walk of FnHeadAgree. Printed by gen_w136.py. -/
import Derived.Test.YtppkpcijmfdfmaaGreatDoorW133
import Derived.Test.YtppkpcijmfdfmaaGreatDoorE3
import Derived.Lib.QuietBelow
import Derived.BigQuiet
set_option linter.unusedVariables false
set_option linter.unusedSimpArgs false
namespace Go.Proofs.YtppkpcijmfdfmaaGreatDoor
open Go.RowKit
attribute [local go_sem] B_size B_get B_lit B_ext_to B_ext B_toList B_app

/-- An answer among others, in memory. -/
def TellAt (w : World) (g q : Nat) (a : Told) : Prop := ∃ x m c, g < w.heap.size ∧ w.cell? ⟨g, q * 7, none⟩ = some (.bool a.ok) ∧ w.cell? ⟨g, q * 7 + 1, none⟩ = some (.string (B a.text)) ∧ w.cell? ⟨g, q * 7 + 2, none⟩ = some (.bool a.is) ∧ w.cell? ⟨g, q * 7 + 3, none⟩ = some (.int .i64 a.int) ∧
  w.cell? ⟨g, q * 7 + 4, none⟩ = some (.int .u64 a.uint) ∧ w.cell? ⟨g, q * 7 + 5, none⟩ = some (.float .f64 a.fl) ∧ w.cell? ⟨g, q * 7 + 6, none⟩ = some (.slice x m c) ∧ SL w (.slice x m c) a.list ∧ a.list.length ≤ 1000000
theorem runTenF_any {P : Bs} {t : HT} (h : RdT P t) {v av : Value} {s : Bs} {w : World} (hv : BA w v P) (ha : AskRow w av (eachOf [s])) (hG : Gw w) (hs : s.length < 4294967290) :
    Calls Tryz.prog 32 #[v, av] w fun e w' => ∃ g cap, e = .returned (.slice (some ⟨g, 0, none⟩) 10 cap) ∧ (∀ q, q < 10 → TellAt w' g q (tell t (q, s))) ∧ Below w.heap.size w w' := by
  obtain ⟨el, ea⟩ := each_one s
  refine (runRd_any h hv ha hG (by omega) (fun q hq => ⟨(eachOf_mem hq).1, by have := (eachOf_mem hq).2; simp at this; rw [this]; exact hs⟩)).mono ?_
  rintro e w3 ⟨ov, l3, rfl, hlen, htr, hans, hsl, hb⟩
  rw [el] at hlen
  have at_ : ∀ q, q < 10 → ∃ g cap x m c, ov = .slice (some ⟨g, 0, none⟩) 10 cap ∧ g < w3.heap.size ∧ l3[q]? = some (tell t (q, s), .slice x m c) := by
    intro q hq
    have hl3 : l3[q]? = some l3[q] := List.getElem?_eq_getElem (by omega)
    have h2 := hans q _ _ (ea q hq) hl3
    obtain ⟨x, m, c, hx⟩ := htr.sl _ (List.mem_of_getElem? hl3)
    have e : l3[q]? = some (tell t (q, s), .slice x m c) := by rw [hl3, ← h2, ← hx]
    obtain ⟨g, cap, hov, hg, _⟩ := htr.cells e
    exact ⟨g, cap, x, m, c, by rw [hov, hlen], hg, e⟩
  obtain ⟨g, cap, _, _, _, hov, hg, _⟩ := at_ 0 (by decide)
  subst hov
  refine ⟨g, cap, rfl, fun q hq => ?_, hb⟩
  obtain ⟨g', cap', x, m, c, e1, _, e2⟩ := at_ q hq
  cases e1
  obtain ⟨g', cap', hov', _, c0, c1, c2, c3, c4, c5, c6⟩ := htr.cells e2
  rw [hlen] at hov'
  cases hov'
  have hm := hsl _ (List.mem_of_getElem? e2)
  exact ⟨x, m, c, hg, c0, c1, c2, c3, c4, c5, c6, hm.1, hm.2⟩
theorem tell_agree (t : HT) (s : Bs) : tell t (2, s) = tell t (1, s) ∧ tell t (8, s) = tell t (4, s) ∧ tell t (9, s) = tell t (5, s) ∧
    ((tell t (4, s)).ok = true → 0 ≤ (tell t (4, s)).int → (tell t (5, s)).ok = true ∧ (tell t (4, s)).int = (tell t (5, s)).uint) ∧ ((tell t (4, s)).ok = true → (tell t (4, s)).int < 0 → (tell t (5, s)).ok = false) ∧ (tell t (4, s)).int < 9223372036854775808 := by
  unfold tell
  generalize kidIn t.names t.kids s = k
  cases k with
  | none => exact ⟨rfl, rfl, rfl, fun h => (by cases h), fun h => (by cases h), by show (0 : Int) < _; decide⟩
  | some t =>
    refine ⟨?_, ?_, ?_, ?_⟩
    · by_cases h : t.kind = 3 <;> simp [toldT, h]
    · cases hI : hInt t.minus t.num <;> by_cases h : t.kind = 2 <;> simp [toldT, h, hI]
    · cases hI : hUint t.minus t.num <;> by_cases h : t.kind = 2 <;> simp [toldT, h, hI]
    · by_cases h : t.kind = 2
      · by_cases hm : t.minus = true ∧ 0 < t.num
        · have hU : hUint t.minus t.num = none := by unfold hUint; rw [if_pos hm]
          by_cases hb : 9223372036854775808 < t.num
          · have hI : hInt t.minus t.num = none := by unfold hInt; rw [if_pos hm, if_pos hb]
            have e4 : toldT (some t) 4 = Told.zero := by simp [toldT, h, hI]
            rw [e4]
            exact ⟨fun h => (by cases h), fun h => (by cases h), by show (0 : Int) < _; decide⟩
          · have hI : hInt t.minus t.num = some (-(t.num : Int)) := by unfold hInt; rw [if_pos hm, if_neg hb]
            have e4 : toldT (some t) 4 = { Told.zero with ok := true, int := -(t.num : Int) } := by simp [toldT, h, hI]
            have e5 : toldT (some t) 5 = Told.zero := by simp [toldT, h, hU]
            rw [e4, e5]
            exact ⟨fun _ h0 => by exfalso; simp only at h0; omega, fun _ _ => rfl, by simp only; omega⟩
        · have hU : hUint t.minus t.num = some (t.num : Int) := by unfold hUint; rw [if_neg hm]
          by_cases hb : 9223372036854775808 ≤ t.num
          · have hI : hInt t.minus t.num = none := by unfold hInt; rw [if_neg hm, if_pos hb]
            have e4 : toldT (some t) 4 = Told.zero := by simp [toldT, h, hI]
            rw [e4]
            exact ⟨fun h => (by cases h), fun h => (by cases h), by show (0 : Int) < _; decide⟩
          · have hI : hInt t.minus t.num = some (t.num : Int) := by unfold hInt; rw [if_neg hm, if_neg hb]
            have e4 : toldT (some t) 4 = { Told.zero with ok := true, int := (t.num : Int) } := by simp [toldT, h, hI]
            have e5 : toldT (some t) 5 = { Told.zero with ok := true, uint := (t.num : Int) } := by simp [toldT, h, hU]
            rw [e4, e5]
            exact ⟨fun _ _ => ⟨rfl, rfl⟩, fun _ h0 => by exfalso; simp only at h0; omega, by simp only; omega⟩
      · have e4 : toldT (some t) 4 = Told.zero := by simp [toldT, h]
        rw [e4]
        exact ⟨fun h => (by cases h), fun h => (by cases h), by show (0 : Int) < _; decide⟩

set_option maxRecDepth 100000 in
set_option maxHeartbeats 8000000 in
theorem agree_walk {d : Nat} {t : HT} {nv kv : Value} {B0 x : Nat} {name : Bs} {w : World} (hr : RepT w B0 d nv kv t) (hG : Ground w) (hB : B0 ≤ w.heap.size) (hx : x < 18446744073709551616) :
    Calls Tryz.prog 7 #[.agg (tcells t nv kv).toArray, .int .u64 x, .string (B name)] w fun e w' => e = .returned (.bool true) ∧ Below w.heap.size w w' := by
  obtain ⟨⟨an, cn, rfl⟩, ak, ck, rfl⟩ := hr.slices
  obtain ⟨w1, hw1⟩ : ∃ w1, w1 = w.alloc (.cells (tcells t (.slice an t.names.length cn) (.slice ak t.kids.length ck)).toArray 45) := ⟨_, rfl⟩
  have hb1 : Below w.heap.size w w1 := by rw [hw1]; exact (Below.refl _ _).alloc (Nat.le_refl _) _
  have hlt1 : w.heap.size < w1.heap.size := by rw [hw1]; simp
  have BOX : Hid (∀ {wz : World}, Below w1.heap.size w1 wz → ∀ (j : Nat) u, (tcells t (.slice an t.names.length cn) (.slice ak t.kids.length ck))[j]? = some u → wz.cell? ⟨w.heap.size, j, none⟩ = some u) := by
    intro wz hb j u hu
    refine (hb.cell (p := ⟨w.heap.size, j, none⟩) hlt1).trans ?_
    rw [hw1, cell_box]
    exact hu
  have HF : Hid (∀ {wz : World}, Below w1.heap.size w1 wz → RepT wz B0 d (.slice an t.names.length cn) (.slice ak t.kids.length ck) t ∧ Ground wz ∧ B0 ≤ wz.heap.size ∧ Below w.heap.size w wz) := by
    intro wz hb
    have hb2 : Below w.heap.size w wz := hb1.trans (hb.mono hb1.size)
    exact ⟨hr.below (hb2.mono hB), hG.below hb2, Nat.le_trans hB hb2.size, hb2⟩
  have HFIT := Lib.hid (fits11_any (HF.out (Below.refl _ _)).1 (HF.out (Below.refl _ _)).2.2.1)
  have HOBJ : Hid (∀ {wz : World}, Below w1.heap.size w1 wz → ∀ (v : Value), NSB wz wz.heap.size v [name] → Calls Tryz.prog 36 #[.agg (tcells t (.slice an t.names.length cn) (.slice ak t.kids.length ck)).toArray, v] wz fun e w' => ∃ ok, e = .returned (.bool ok) ∧ (ok = true → t.kind = 5 ∧ Right d t ∧ TextsOk [name]) ∧ Below wz.heap.size wz w') :=
    fun h v hv => object_any (HF.out h).1 (HF.out h).2.1.2 (HF.out h).2.2.1 hv (by simp)
  have HPRINT : Hid (∀ {wz : World}, Below w1.heap.size w1 wz → Right d t → Calls Tryz.prog 31 #[.agg (tcells t (.slice an t.names.length cn) (.slice ak t.kids.length ck)).toArray, .int .u64 x] wz fun e w' => e = .returned (.string (B (hPrint d t x))) ∧ Below wz.heap.size wz w') :=
    fun h hR => by
      obtain ⟨n, hs, _⟩ := hR
      exact print_any (HF.out h).1 hs (by have := sized_le hs (by decide); omega) (HF.out h).2.2.1 hx
  clear hr hG hb1
  simp only [tcells] at hw1 HFIT HOBJ HPRINT BOX ⊢
  have HW1 := Lib.hid hw1
  clear hw1
  go_enter Tryz.func7, Tryz.ntmps7
  go_wp2_with (fail)
  rw [← HW1.out]
  refine HFIT.out.mono ?_
  rintro e w2 ⟨⟨bf, rfl⟩, hb2⟩
  have H2 := Lib.hid hb2
  clear hb2
  have LIVE : Hid (∀ {wz : World}, Below w1.heap.size w1 wz → Calls Tryz.prog 34 #[] wz fun e w' => e = .returned (.bool true) ∧ Below w.heap.size w w') := fun {wz} h =>
    (live_any wz (HF.out h).2.1.1).mono fun e w' he => ⟨he.1, (HF.out h).2.2.2.trans (he.2.mono (HF.out h).2.2.2.size)⟩
  cases bf
  · go_wp2
    go_ret
    exact ⟨rfl, (HF.out H2.out).2.2.2⟩
  by_cases hbig : 2147483647 < name.length
  · have f1 : decide ((2147483647 : Int) < name.length) = true := by simp; omega
    go_wp2
    go_ret
    exact ⟨rfl, (HF.out H2.out).2.2.2⟩
  have f1 : decide ((2147483647 : Int) < name.length) = false := by simp; omega
  have q0 := BOX.out H2.out 0 _ rfl
  have q1 := BOX.out H2.out 1 _ rfl
  have q2 := BOX.out H2.out 2 _ rfl
  have q3 := BOX.out H2.out 3 _ rfl
  have q4 := BOX.out H2.out 4 _ rfl
  have q5 := BOX.out H2.out 5 _ rfl
  have q6 := BOX.out H2.out 6 _ rfl
  go_wp2_with (fail)
  obtain ⟨wn, hwn⟩ : ∃ wn, wn = w2.alloc (.cells #[Value.string (B name)] 9) := ⟨_, rfl⟩
  have HNM : Hid (NSB wn wn.heap.size (.slice (some ⟨w2.heap.size, 0, none⟩) 1 1) [name]) := Lib.hid (Or.inr ⟨w2.heap.size, 0, 1, rfl, ⟨by rw [hwn]; simp, Nat.le_refl _⟩, fun i s hi => by
    match i, hi with
    | 0, hi =>
      cases hi
      rw [hwn, cell_of_row (w2.alloc (.cells #[Value.string (B name)] 9)) w2.heap.size 0 _ _ _ (heap_alloc_new w2 _)]
      rfl⟩)
  have H2n : Hid (Below w1.heap.size w1 wn) := Lib.hid (by rw [hwn]; exact Below.to_alloc H2.out _)
  rw [← hwn]
  clear hwn
  refine (HOBJ.out H2n.out _ HNM.out).mono ?_
  rintro e w3 ⟨ok, rfl, hy, hb3⟩
  have HY := Lib.hid hy
  have H3 := Lib.hid (H2n.out.trans (hb3.mono H2n.out.size))
  clear hy hb3 q0 q1 q2 q3 q4 q5 q6
  cases ok
  · go_wp2_with (fail)
    refine (LIVE.out H3.out).mono ?_
    rintro e w4 ⟨rfl, hb4⟩
    have H4 := Lib.hid hb4
    clear hb4
    go_wp2
    go_ret
    exact ⟨rfl, H4.out⟩
  have HRT : Hid (t.kind = 5 ∧ Right d t ∧ TextsOk [name]) := ⟨(HY.out rfl).1, (HY.out rfl).2.1, (HY.out rfl).2.2⟩
  clear HY
  have q0 := BOX.out H3.out 0 _ rfl
  have q1 := BOX.out H3.out 1 _ rfl
  have q2 := BOX.out H3.out 2 _ rfl
  have q3 := BOX.out H3.out 3 _ rfl
  have q4 := BOX.out H3.out 4 _ rfl
  have q5 := BOX.out H3.out 5 _ rfl
  have q6 := BOX.out H3.out 6 _ rfl
  go_wp2_with (fail)
  refine (HPRINT.out H3.out HRT.out.2.1).mono ?_
  rintro e w4 ⟨rfl, hb4⟩
  have H4 := Lib.hid (H3.out.trans (hb4.mono H3.out.size))
  clear hb4 q0 q1 q2 q3 q4 q5 q6
  obtain ⟨P, hP⟩ : ∃ P, P = hPrint d t x := ⟨_, rfl⟩
  rw [← hP]
  have HP := Lib.hid hP
  clear hP
  obtain ⟨cv, w5, hcv, hba, hb5⟩ := conv_bytes w4 P
  have HBA := Lib.hid hba
  have H5 := Lib.hid (Below.to_next H4.out hb5)
  clear hba hb5
  have q5 := BOX.out H5.out 5 _ rfl
  have HNB : Hid (∀ {wz : World}, Below w1.heap.size w1 wz → NSB wz B0 (.slice an t.names.length cn) t.names ∧ t.names.length < 1000000) := fun h => by
    have hrr := (HF.out h).1
    obtain ⟨n, hs, _⟩ := HRT.out.2.1
    exact ⟨names_nsb hrr, by have := names_lt hs HRT.out.1; omega⟩
  have hbw : ∀ v, (w5.alloc (.cells #[Value.string (B name)] 9)).cell? ⟨w.heap.size, 5, none⟩ = some v ↔ w5.cell? ⟨w.heap.size, 5, none⟩ = some v := by
    intro v
    rw [(Below.to_alloc (Below.refl _ w5) (.cells #[Value.string (B name)] 9)).cell (p := ⟨w.heap.size, 5, none⟩) (Nat.lt_of_lt_of_le hlt1 H5.out.size)]
  have q5b := (hbw _).2 q5
  clear hbw
  have H5n : Hid (Below w1.heap.size w1 (w5.alloc (.cells #[Value.string (B name)] 9))) := Lib.hid (Below.to_alloc H5.out _)
  have hcell : (w5.alloc (.cells #[Value.string (B name)] 9)).cell? ⟨w5.heap.size, 0, none⟩ = some (.string (B name)) := by
    rw [cell_of_row (w5.alloc (.cells #[Value.string (B name)] 9)) w5.heap.size 0 _ _ _ (heap_alloc_new w5 _)]
    rfl
  obtain ⟨nvv, w6, happ, hns, hb6⟩ := append_names (w5.alloc (.cells #[Value.string (B name)] 9)) 29 w5.heap.size t.names name (.slice an t.names.length cn) hcell (HNB.out H5n.out).1 (HNB.out H5n.out).2
  have HNS := Lib.hid hns
  have H6 := Lib.hid (Below.to_next H5n.out hb6)
  have HB65 := Lib.hid (Below.to_next (Below.to_alloc (Below.refl _ w5) _) hb6)
  have HAPP := Lib.hid happ
  obtain ⟨vb, vof, vc, rfl, hvl, hvc⟩ : ∃ b off c, nvv = .slice (some ⟨b, off, none⟩) (name :: t.names).length c ∧ b < w6.heap.size ∧ ∀ (i : Nat) s, (name :: t.names)[i]? = some s → w6.cell? ⟨b, off + i, none⟩ = some (.string (B s)) := by
    rcases hns with ⟨_, _, _, h⟩ | ⟨b, off, c, h, h2, h3⟩
    · cases h
    · exact ⟨b, off, c, h, h2, h3⟩
  have HVC := Lib.hid hvc
  have HVL := Lib.hid hvl
  obtain ⟨n, hsz, hnd0⟩ := HRT.out.2.1
  have HSZ := Lib.hid hsz
  have HND : Hid (t.names.Nodup) := Lib.hid (by
    have h5 := HRT.out.1
    unfold HT.texts at hnd0
    rw [if_neg (by omega), if_pos h5] at hnd0
    exact hnd0)
  have HPL : Hid (P.length ≤ 80000000) := Lib.hid (by rw [HP.out]; exact print_length hsz (by have := sized_le hsz (by decide); omega) x)
  have HNL : Hid (∀ s ∈ name :: t.names, s.length < 4294967290) := Lib.hid (fun s hs => by
    rcases List.mem_cons.1 hs with rfl | hs
    · omega
    · have := names_short hsz HRT.out.1 s hs; omega)
  clear hvc hvl hsz hnd0
  clear happ hns hb6 hcell
  go_wp2_with (at_builtin; refine Lib.wpList_append_run _ rfl (.tmp 30) (.tmp 32) 29 29 rfl _ _ rfl rfl _ _ HAPP.out ?_)
  go_loopw [35] (fun s38 wr => ∃ i : Nat, i ≤ (name :: t.names).length ∧ s38 = .int .i64 (i : Int) ∧ Hid (Below w6.heap.size w6 wr)) (fun s38 _ => (name :: t.names).length + 1 - (intOf s38).toNat)
  case atStart => exact ⟨0, Nat.zero_le _, rfl, Lib.hid (Below.refl _ _)⟩
  case round =>
    obtain ⟨i, hi, rfl, HBR⟩ := hrel
    by_cases hlt : i < (name :: t.names).length
    · have hs : (name :: t.names)[i]? = some (name :: t.names)[i] := List.getElem?_eq_getElem hlt
      obtain ⟨s, hsv⟩ : ∃ s, s = (name :: t.names)[i] := ⟨_, rfl⟩
      rw [← hsv] at hs
      have HSL : Hid (s.length < 4294967290) := Lib.hid (HNL.out s (List.mem_of_getElem? hs))
      have qi := ((HBR.out).cell (p := ⟨vb, vof + i, none⟩) HVL.out).trans (HVC.out i s hs)
      have HCL := Lib.hid (clone_any wr cv P (HBA.out.below (HB65.out.trans (HBR.out.mono HB65.out.size))) (by have := HPL.out; omega))
      have HLT := Lib.hid hlt
      have il : (i : Int) < (t.names.length : Int) + 1 := by simp at hlt; omega
      have i9 : (i : Int) < 1000001 := by have := (HNB.out H6.out).2; omega
      have i0 : (0 : Int) ≤ (i : Int) := by omega
      clear hs hsv hlt hi
      go_wp2_with (fail)
      refine HCL.out.mono ?_
      rintro e w7 ⟨v2, rfl, hv2, hb7, _⟩
      dsimp only
      have HV2 := Lib.hid hv2
      have HB7 := Lib.hid hb7
      clear hv2 hb7 qi
      go_wp2_with (fail)
      refine (each_any _ _ [s] (one_name w7 s) (by simp)).mono ?_
      rintro e w8 ⟨av, rfl, hst⟩
      dsimp only
      have HST := Lib.hid hst
      have HB78 := Lib.hid (Below.to_next (Below.to_alloc (Below.refl _ w7) (.cells [Value.string (B s)].toArray 9)) hst.below)
      clear hst
      have H8 : Hid (Below w1.heap.size w1 w8) := Lib.hid (Below.to_next (Below.to_next (Below.to_next H6.out HBR.out) HB7.out) HB78.out)
      have HRUN : Hid (Calls Tryz.prog 32 #[v2, av] w8 fun e w' => ∃ g cap, e = .returned (.slice (some ⟨g, 0, none⟩) 10 cap) ∧ (∀ q, q < 10 → TellAt w' g q (tell t (q, s))) ∧ Below w8.heap.size w8 w') := Lib.hid (by
        have hv8 : BA w8 v2 (hPrint d t x) := by
          have := HV2.out.below HB78.out
          rw [HP.out] at this
          exact this
        exact runTenF_any (rd_print HSZ.out (by decide) (by decide) HRT.out.1 HND.out x) hv8 HST.out.ask (HF.out H8.out).2.1.1 HSL.out)
      go_wp2_with (fail)
      refine HRUN.out.mono ?_
      rintro e w9 ⟨g, cap, rfl, hten, hb9⟩
      dsimp only
      have HTEN := Lib.hid hten
      have H9 : Hid (Below w1.heap.size w1 w9) := Lib.hid (Below.to_next H8.out hb9)
      have HB69 : Hid (Below w6.heap.size w6 w9) := Lib.hid (Below.to_next (Below.to_next (Below.to_next HBR.out HB7.out) HB78.out) hb9)
      clear hten hb9
      obtain ⟨e12, e48, e59, f1, f2, f3⟩ := tell_agree t s
      obtain ⟨x1, m1, c1, g1, p0, p1, p2, p3, p4, p5, p6, l1, b1⟩ := HTEN.out 1 (by decide)
      obtain ⟨x2, m2, c2, _, r0, r1, r2, r3, r4, r5, r6, l2, b2⟩ := HTEN.out 2 (by decide)
      obtain ⟨x4, m4, c4, _, s0, s1, s2, s3, s4, s5, s6, l4, b4⟩ := HTEN.out 4 (by decide)
      obtain ⟨x8, m8, c8, _, t0, t1, t2, t3, t4, t5, t6, l8, b8⟩ := HTEN.out 8 (by decide)
      obtain ⟨x5, m5, c5, _, u0, u1, u2, u3, u4, u5, u6, l5, b5⟩ := HTEN.out 5 (by decide)
      obtain ⟨x9, m9, c9, _, v0, v1, v2', v3, v4, v5, v6, l9, b9⟩ := HTEN.out 9 (by decide)
      rw [e12] at r0 r1 r2 r3 r4 r5 l2
      rw [e48] at t0 t1 t2 t3 t4 t5 l8
      rw [e59] at v0 v1 v2' v3 v4 v5 l9
      have y1 := tell_self t (fun c hc => ((rd_print HSZ.out (by decide) (by decide) HRT.out.1 HND.out x).kids c hc).1) (1, s)
      have y4 := tell_self t (fun c hc => ((rd_print HSZ.out (by decide) (by decide) HRT.out.1 HND.out x).kids c hc).1) (4, s)
      have y5 := tell_self t (fun c hc => ((rd_print HSZ.out (by decide) (by decide) HRT.out.1 HND.out x).kids c hc).1) (5, s)
      generalize tell t (1, s) = A1 at *
      generalize tell t (4, s) = A4 at *
      generalize tell t (5, s) = A5 at *
      have S1 : ∀ d os, Calls Tryz.prog 37 #[.agg #[.bool A1.ok, .string (B A1.text), .bool A1.is, .int .i64 A1.int, .int .u64 A1.uint, .float .f64 A1.fl, .slice x1 m1 c1], .agg #[.bool A1.ok, .string (B A1.text), .bool A1.is, .int .i64 A1.int, .int .u64 A1.uint, .float .f64 A1.fl, .slice x2 m2 c2], .bool true] (Sort.grow (redrawn w9 d) os) fun e w'' => e = .returned (.bool true) ∧ ∃ p : Regrown, w'' = Sort.grow (redrawn w9 p.d) p.os :=
        fun d os => Calls.regrown_of (sameTold_in _ A1.ok A1.is true A1.text A1.int A1.uint A1.fl A1.fl (l1.ns.below (below_regrown w9 d os)) (l2.ns.below (below_regrown w9 d os)) b1 (fun _ => y1))
      have S4 : ∀ d os, Calls Tryz.prog 37 #[.agg #[.bool A4.ok, .string (B A4.text), .bool A4.is, .int .i64 A4.int, .int .u64 A4.uint, .float .f64 A4.fl, .slice x4 m4 c4], .agg #[.bool A4.ok, .string (B A4.text), .bool A4.is, .int .i64 A4.int, .int .u64 A4.uint, .float .f64 A4.fl, .slice x8 m8 c8], .bool true] (Sort.grow (redrawn w9 d) os) fun e w'' => e = .returned (.bool true) ∧ ∃ p : Regrown, w'' = Sort.grow (redrawn w9 p.d) p.os :=
        fun d os => Calls.regrown_of (sameTold_in _ A4.ok A4.is true A4.text A4.int A4.uint A4.fl A4.fl (l4.ns.below (below_regrown w9 d os)) (l8.ns.below (below_regrown w9 d os)) b4 (fun _ => y4))
      have S5 : ∀ d os, Calls Tryz.prog 37 #[.agg #[.bool A5.ok, .string (B A5.text), .bool A5.is, .int .i64 A5.int, .int .u64 A5.uint, .float .f64 A5.fl, .slice x5 m5 c5], .agg #[.bool A5.ok, .string (B A5.text), .bool A5.is, .int .i64 A5.int, .int .u64 A5.uint, .float .f64 A5.fl, .slice x9 m9 c9], .bool true] (Sort.grow (redrawn w9 d) os) fun e w'' => e = .returned (.bool true) ∧ ∃ p : Regrown, w'' = Sort.grow (redrawn w9 p.d) p.os :=
        fun d os => Calls.regrown_of (sameTold_in _ A5.ok A5.is true A5.text A5.int A5.uint A5.fl A5.fl (l5.ns.below (below_regrown w9 d os)) (l9.ns.below (below_regrown w9 d os)) b5 (fun _ => y5))
      have Kp0 := cell_regrown p0
      have Kp1 := cell_regrown p1
      have Kp2 := cell_regrown p2
      have Kp3 := cell_regrown p3
      have Kp4 := cell_regrown p4
      have Kp5 := cell_regrown p5
      have Kp6 := cell_regrown p6
      have Kr0 := cell_regrown r0
      have Kr1 := cell_regrown r1
      have Kr2 := cell_regrown r2
      have Kr3 := cell_regrown r3
      have Kr4 := cell_regrown r4
      have Kr5 := cell_regrown r5
      have Kr6 := cell_regrown r6
      have Ks0 := cell_regrown s0
      have Ks1 := cell_regrown s1
      have Ks2 := cell_regrown s2
      have Ks3 := cell_regrown s3
      have Ks4 := cell_regrown s4
      have Ks5 := cell_regrown s5
      have Ks6 := cell_regrown s6
      have Kt0 := cell_regrown t0
      have Kt1 := cell_regrown t1
      have Kt2 := cell_regrown t2
      have Kt3 := cell_regrown t3
      have Kt4 := cell_regrown t4
      have Kt5 := cell_regrown t5
      have Kt6 := cell_regrown t6
      have Ku0 := cell_regrown u0
      have Ku1 := cell_regrown u1
      have Ku2 := cell_regrown u2
      have Ku3 := cell_regrown u3
      have Ku4 := cell_regrown u4
      have Ku5 := cell_regrown u5
      have Ku6 := cell_regrown u6
      have Kv0 := cell_regrown v0
      have Kv1 := cell_regrown v1
      have Kv2 := cell_regrown v2'
      have Kv3 := cell_regrown v3
      have Kv4 := cell_regrown v4
      have Kv5 := cell_regrown v5
      have Kv6 := cell_regrown v6
      clear p0 p1 p2 p3 p4 p5 p6 r0 r1 r2 r3 r4 r5 r6 s0 s1 s2 s3 s4 s5 s6 t0 t1 t2 t3 t4 t5 t6 u0 u1 u2 u3 u4 u5 u6 v0 v1 v2' v3 v4 v5 v6
      clear e12 e48 e59 HTEN y1 y4 y5 l1 l2 l4 l8 l5 l9 b1 b2 b4 b8 b5 b9
      have HFA := Lib.hid (And.intro f1 (And.intro f2 f3))
      clear f1 f2 f3
      go_wp2_with (fail)
      refine wp_region_quiet_below (by kernel_rfl) (by kernel_rfl) ?_
      repeat (go_big_quiet_step (first | with_reducible exact S1 _ _ | with_reducible exact S4 _ _ | with_reducible exact S5 _ _))
      refine wpQuiet_nil ?_
      intro _ hw'
      obtain ⟨⟨dq, osq⟩, hw''⟩ := hw'
      subst hw''
      have Z0 := Ks0 dq osq
      have Z3 := Ks3 dq osq
      have Y0 := Ku0 dq osq
      have Y4 := Ku4 dq osq
      have HBQ : Hid (Below w6.heap.size w6 (Sort.grow (redrawn w9 dq) osq)) := Lib.hid (Below.to_next HB69.out (below_regrown w9 dq osq))
      clear S1 S4 S5 Kp0 Kp1 Kp2 Kp3 Kp4 Kp5 Kp6 Kr0 Kr1 Kr2 Kr3 Kr4 Kr5 Kr6 Ks0 Ks1 Ks2 Ks3 Ks4 Ks5 Ks6 Kt0 Kt1 Kt2 Kt3 Kt4 Kt5 Kt6 Ku0 Ku1 Ku2 Ku3 Ku4 Ku5 Ku6 Kv0 Kv1 Kv2 Kv3 Kv4 Kv5 Kv6
      generalize Sort.grow (redrawn w9 dq) osq = wq at *
      obtain ⟨k1, k2, k3⟩ := HFA.out
      generalize A4.ok = o4 at *
      generalize A4.int = n4 at *
      generalize A5.ok = o5 at *
      generalize A5.uint = n5 at *
      cases o4
      · clear k1 k2 k3 HFA
        go_wp2_with (fail)
        go_quiet (fail)
        go_wp2
        go_roundw
        case rel => exact ⟨i + 1, by have h := HLT.out; simp only [List.length_cons] at h; (try simp only [List.length_cons]); omega, by go_num, Lib.hid (Below.to_next HBQ.out (drewN_below _ _))⟩
        case measure => (have h := HLT.out; simp only [List.length_cons] at h; simp [intOf]; omega)
      · by_cases hneg : n4 < 0
        · have e5 := k2 rfl hneg
          subst e5
          have d1 : decide ((0 : Int) ≤ n4) = false := by simp; omega
          have d2 : decide (n4 < (0 : Int)) = true := by simp; omega
          clear k1 k2 k3 HFA
          go_wp2_with (fail)
          go_quiet (fail)
          go_wp2
          go_roundw
          case rel => exact ⟨i + 1, by have h := HLT.out; simp only [List.length_cons] at h; (try simp only [List.length_cons]); omega, by go_num, Lib.hid (Below.to_next HBQ.out (drewN_below _ _))⟩
          case measure => (have h := HLT.out; simp only [List.length_cons] at h; simp [intOf]; omega)
        · obtain ⟨e5, e6⟩ := k1 rfl (by omega)
          have hb63 := k3
          subst e5
          subst e6
          have d1 : decide ((0 : Int) ≤ n4) = true := by simp; omega
          have d2 : decide (n4 < (0 : Int)) = false := by simp; omega
          have d3 : IntKind.u64.wrap n4 = n4 := by simp [IntKind.wrap, IntKind.signed, IntKind.bits]; omega
          clear k1 k2 k3 HFA hneg
          go_wp2_with (fail)
          go_quiet (fail)
          go_wp2
          go_roundw
          case rel => exact ⟨i + 1, by have h := HLT.out; simp only [List.length_cons] at h; (try simp only [List.length_cons]); omega, by go_num, Lib.hid (Below.to_next HBQ.out (drewN_below _ _))⟩
          case measure => (have h := HLT.out; simp only [List.length_cons] at h; simp [intOf]; omega)
    · obtain rfl : i = (name :: t.names).length := by omega
      have H6r : Hid (Below w1.heap.size w1 wr) := Lib.hid (Below.to_next H6.out HBR.out)
      clear hlt hi
      go_wp2_with (fail)
      refine (LIVE.out H6r.out).mono ?_
      rintro e w7 ⟨rfl, hb7⟩
      have H7 := Lib.hid hb7
      clear hb7
      go_wp2
      go_ret
      exact ⟨rfl, H7.out⟩
end Go.Proofs.YtppkpcijmfdfmaaGreatDoor
