/- The walk of FnHeadOneKind. -/
import Derived.Test.YtppkpcijmfdfmaaGreatDoorF9
import Derived.Test.YtppkpcijmfdfmaaGreatDoorE3
set_option linter.unusedVariables false
set_option linter.unusedSimpArgs false
namespace Go.Proofs.YtppkpcijmfdfmaaGreatDoor
open Go.RowKit
attribute [local go_sem] B_size B_get B_lit B_ext_to B_ext B_toList B_app

def b2n (b : Bool) : Nat := if b then 1 else 0
theorem b2n_t : b2n true = 1 := rfl
theorem b2n_f : b2n false = 0 := rfl
/-- How many of the first so many are there. -/
def cntO (o1 o3 o6 o7 : Bool) (j : Nat) : Nat := (if 0 < j then b2n o1 else 0) + (if 1 < j then b2n o3 else 0) + (if 2 < j then b2n o6 else 0) + (if 3 < j then b2n o7 else 0)
theorem told_oks (k : Option HT) : ∃ N : Nat, N = b2n (toldT k 1).ok + b2n (toldT k 3).ok + b2n (toldT k 6).ok + b2n (toldT k 7).ok ∧ N ≤ 1 ∧ (N = 1 → (toldT k 0).ok = true) ∧ ((toldT k 4).ok = true → (toldT k 6).ok = true) ∧ ((toldT k 5).ok = true → (toldT k 6).ok = true) := by
  cases k with
  | none => exact ⟨0, rfl, by decide, (fun h => by omega), (fun h => by cases h), (fun h => by cases h)⟩
  | some t =>
    have e0 : (toldT (some t) 0).ok = true := rfl
    have e1 : (toldT (some t) 1).ok = decide (t.kind = 3) := by by_cases h : t.kind = 3 <;> simp [toldT, h, Told.zero]
    have e3 : (toldT (some t) 3).ok = decide (t.kind = 1) := by by_cases h : t.kind = 1 <;> simp [toldT, h, Told.zero]
    have e6 : (toldT (some t) 6).ok = decide (t.kind = 2) := by by_cases h : t.kind = 2 <;> simp [toldT, h, Told.zero]
    have e4 : (toldT (some t) 4).ok = true → (toldT (some t) 6).ok = true := by rw [e6]; by_cases h : t.kind = 2 <;> simp [toldT, h, Told.zero]
    have e5 : (toldT (some t) 5).ok = true → (toldT (some t) 6).ok = true := by rw [e6]; by_cases h : t.kind = 2 <;> simp [toldT, h, Told.zero]
    have e7 : (toldT (some t) 7).ok = true → t.kind = 4 := by by_cases h : t.kind = 4 <;> simp [toldT, h, Told.zero]
    refine ⟨_, rfl, ?_, fun _ => e0, e4, e5⟩
    rw [e1, e3, e6]
    unfold b2n
    by_cases h7 : (toldT (some t) 7).ok = true
    · have := e7 h7
      simp [this, h7]
    · simp only [h7, decide_eq_true_eq]
      by_cases h1 : t.kind = 3
      · simp [h1]
      · by_cases h2 : t.kind = 1
        · simp [h2]
        · by_cases h3 : t.kind = 2 <;> simp [h1, h2, h3]

set_option maxRecDepth 100000 in
set_option maxHeartbeats 8000000 in
theorem oneKind_walk {d : Nat} {t : HT} {nv kv : Value} {B0 x : Nat} {name : Bs} {w : World} (hr : RepT w B0 d nv kv t) (hG : Ground w) (hB : B0 ≤ w.heap.size) (hx : x < 18446744073709551616) :
    Calls Tryz.prog 6 #[.agg (tcells t nv kv).toArray, .int .u64 x, .string (B name)] w fun e w' => e = .returned (.bool true) ∧ Below w.heap.size w w' := by
  obtain ⟨⟨an, cn, rfl⟩, ak, ck, rfl⟩ := hr.slices
  obtain ⟨w1, hw1⟩ : ∃ w1, w1 = w.alloc (.cells (tcells t (.slice an t.names.length cn) (.slice ak t.kids.length ck)).toArray 45) := ⟨_, rfl⟩
  have hb1 : Below w.heap.size w w1 := by rw [hw1]; exact (Below.refl _ _).alloc (Nat.le_refl _) _
  have hlt1 : w.heap.size < w1.heap.size := by rw [hw1]; simp
  have BOX : Hid (∀ {wz : World}, Below w1.heap.size w1 wz → ∀ (j : Nat) u, (tcells t (.slice an t.names.length cn) (.slice ak t.kids.length ck))[j]? = some u → wz.cell? ⟨w.heap.size, j, none⟩ = some u) := by
    intro wz hb j u hu
    refine (hb.cell (p := ⟨w.heap.size, j, none⟩) hlt1).trans ?_
    rw [hw1, cell_box]
    exact hu
  have HF : Hid (∀ {wz : World}, Below w1.heap.size w1 wz → RepT wz B0 d (.slice an t.names.length cn) (.slice ak t.kids.length ck) t ∧ Ground wz ∧ B0 ≤ wz.heap.size ∧ Below w.heap.size w wz) := by
    intro wz hb
    have hb2 : Below w.heap.size w wz := hb1.trans (hb.mono hb1.size)
    exact ⟨hr.below (hb2.mono hB), hG.below hb2, Nat.le_trans hB hb2.size, hb2⟩
  have HFIT := Lib.hid (fits11_any (HF.out (Below.refl _ _)).1 (HF.out (Below.refl _ _)).2.2.1)
  have HOBJ : Hid (∀ {wz : World}, Below w1.heap.size w1 wz → ∀ (v : Value), NSB wz wz.heap.size v [name] → Calls Tryz.prog 36 #[.agg (tcells t (.slice an t.names.length cn) (.slice ak t.kids.length ck)).toArray, v] wz fun e w' => ∃ ok, e = .returned (.bool ok) ∧ (ok = true → t.kind = 5 ∧ Right d t ∧ TextsOk [name]) ∧ Below wz.heap.size wz w') :=
    fun h v hv => object_any (HF.out h).1 (HF.out h).2.1.2 (HF.out h).2.2.1 hv (by simp)
  have HPRINT : Hid (∀ {wz : World}, Below w1.heap.size w1 wz → Right d t → Calls Tryz.prog 31 #[.agg (tcells t (.slice an t.names.length cn) (.slice ak t.kids.length ck)).toArray, .int .u64 x] wz fun e w' => e = .returned (.string (B (hPrint d t x))) ∧ Below wz.heap.size wz w') :=
    fun h hR => by
      obtain ⟨n, hs, _⟩ := hR
      exact print_any (HF.out h).1 hs (by have := sized_le hs (by decide); omega) (HF.out h).2.2.1 hx
  clear hr hG hb1
  simp only [tcells] at hw1 HFIT HOBJ HPRINT BOX ⊢
  have HW1 := Lib.hid hw1
  clear hw1
  go_enter Tryz.func6, Tryz.ntmps6
  go_wp2_with (fail)
  rw [← HW1.out]
  refine HFIT.out.mono ?_
  rintro e w2 ⟨⟨bf, rfl⟩, hb2⟩
  have H2 := Lib.hid hb2
  clear hb2
  have LIVE : Hid (∀ {wz : World}, Below w1.heap.size w1 wz → Calls Tryz.prog 34 #[] wz fun e w' => e = .returned (.bool true) ∧ Below w.heap.size w w') := fun {wz} h =>
    (live_any wz (HF.out h).2.1.1).mono fun e w' he => ⟨he.1, (HF.out h).2.2.2.trans (he.2.mono (HF.out h).2.2.2.size)⟩
  cases bf
  · go_wp2
    go_ret
    exact ⟨rfl, (HF.out H2.out).2.2.2⟩
  by_cases hbig : 2147483647 < name.length
  · have f1 : decide ((2147483647 : Int) < name.length) = true := by simp; omega
    go_wp2
    go_ret
    exact ⟨rfl, (HF.out H2.out).2.2.2⟩
  have f1 : decide ((2147483647 : Int) < name.length) = false := by simp; omega
  have q0 := BOX.out H2.out 0 _ rfl
  have q1 := BOX.out H2.out 1 _ rfl
  have q2 := BOX.out H2.out 2 _ rfl
  have q3 := BOX.out H2.out 3 _ rfl
  have q4 := BOX.out H2.out 4 _ rfl
  have q5 := BOX.out H2.out 5 _ rfl
  have q6 := BOX.out H2.out 6 _ rfl
  go_wp2_with (fail)
  obtain ⟨wn, hwn⟩ : ∃ wn, wn = w2.alloc (.cells #[Value.string (B name)] 9) := ⟨_, rfl⟩
  have HNM : Hid (NSB wn wn.heap.size (.slice (some ⟨w2.heap.size, 0, none⟩) 1 1) [name]) := Lib.hid (Or.inr ⟨w2.heap.size, 0, 1, rfl, ⟨by rw [hwn]; simp, Nat.le_refl _⟩, fun i s hi => by
    match i, hi with
    | 0, hi =>
      cases hi
      rw [hwn, cell_of_row (w2.alloc (.cells #[Value.string (B name)] 9)) w2.heap.size 0 _ _ _ (heap_alloc_new w2 _)]
      rfl⟩)
  have H2n : Hid (Below w1.heap.size w1 wn) := Lib.hid (by rw [hwn]; exact Below.to_alloc H2.out _)
  rw [← hwn]
  clear hwn
  refine (HOBJ.out H2n.out _ HNM.out).mono ?_
  rintro e w3 ⟨ok, rfl, hy, hb3⟩
  have HY := Lib.hid hy
  have H3 := Lib.hid (H2n.out.trans (hb3.mono H2n.out.size))
  clear hy hb3 q0 q1 q2 q3 q4 q5 q6
  cases ok
  · go_wp2_with (fail)
    refine (LIVE.out H3.out).mono ?_
    rintro e w4 ⟨rfl, hb4⟩
    have H4 := Lib.hid hb4
    clear hb4
    go_wp2
    go_ret
    exact ⟨rfl, H4.out⟩
  have HRT : Hid (t.kind = 5 ∧ Right d t ∧ TextsOk [name]) := ⟨(HY.out rfl).1, (HY.out rfl).2.1, (HY.out rfl).2.2⟩
  clear HY
  have q0 := BOX.out H3.out 0 _ rfl
  have q1 := BOX.out H3.out 1 _ rfl
  have q2 := BOX.out H3.out 2 _ rfl
  have q3 := BOX.out H3.out 3 _ rfl
  have q4 := BOX.out H3.out 4 _ rfl
  have q5 := BOX.out H3.out 5 _ rfl
  have q6 := BOX.out H3.out 6 _ rfl
  go_wp2_with (fail)
  refine (HPRINT.out H3.out HRT.out.2.1).mono ?_
  rintro e w4 ⟨rfl, hb4⟩
  have H4 := Lib.hid (H3.out.trans (hb4.mono H3.out.size))
  clear hb4 q0 q1 q2 q3 q4 q5 q6
  obtain ⟨P, hP⟩ : ∃ P, P = hPrint d t x := ⟨_, rfl⟩
  rw [← hP]
  have HP := Lib.hid hP
  clear hP
  obtain ⟨cv, w5, hcv, hba, hb5⟩ := conv_bytes w4 P
  have HBA := Lib.hid hba
  have H5 := Lib.hid (Below.to_next H4.out hb5)
  clear hba hb5
  have q5 := BOX.out H5.out 5 _ rfl
  have HNB : Hid (∀ {wz : World}, Below w1.heap.size w1 wz → NSB wz B0 (.slice an t.names.length cn) t.names ∧ t.names.length < 1000000) := fun h => by
    have hrr := (HF.out h).1
    obtain ⟨n, hs, _⟩ := HRT.out.2.1
    exact ⟨names_nsb hrr, by have := names_lt hs HRT.out.1; omega⟩
  have hbw : ∀ v, (w5.alloc (.cells #[Value.string (B name)] 9)).cell? ⟨w.heap.size, 5, none⟩ = some v ↔ w5.cell? ⟨w.heap.size, 5, none⟩ = some v := by
    intro v
    rw [(Below.to_alloc (Below.refl _ w5) (.cells #[Value.string (B name)] 9)).cell (p := ⟨w.heap.size, 5, none⟩) (Nat.lt_of_lt_of_le hlt1 H5.out.size)]
  have q5b := (hbw _).2 q5
  clear hbw
  have H5n : Hid (Below w1.heap.size w1 (w5.alloc (.cells #[Value.string (B name)] 9))) := Lib.hid (Below.to_alloc H5.out _)
  have hcell : (w5.alloc (.cells #[Value.string (B name)] 9)).cell? ⟨w5.heap.size, 0, none⟩ = some (.string (B name)) := by
    rw [cell_of_row (w5.alloc (.cells #[Value.string (B name)] 9)) w5.heap.size 0 _ _ _ (heap_alloc_new w5 _)]
    rfl
  obtain ⟨nvv, w6, happ, hns, hb6⟩ := append_names (w5.alloc (.cells #[Value.string (B name)] 9)) 29 w5.heap.size t.names name (.slice an t.names.length cn) hcell (HNB.out H5n.out).1 (HNB.out H5n.out).2
  have HNS := Lib.hid hns
  have H6 := Lib.hid (Below.to_next H5n.out hb6)
  have HB65 := Lib.hid (Below.to_next (Below.to_alloc (Below.refl _ w5) _) hb6)
  have HAPP := Lib.hid happ
  obtain ⟨vb, vof, vc, rfl, hvl, hvc⟩ : ∃ b off c, nvv = .slice (some ⟨b, off, none⟩) (name :: t.names).length c ∧ b < w6.heap.size ∧ ∀ (i : Nat) s, (name :: t.names)[i]? = some s → w6.cell? ⟨b, off + i, none⟩ = some (.string (B s)) := by
    rcases hns with ⟨_, _, _, h⟩ | ⟨b, off, c, h, h2, h3⟩
    · cases h
    · exact ⟨b, off, c, h, h2, h3⟩
  have HVC := Lib.hid hvc
  have HVL := Lib.hid hvl
  obtain ⟨n, hsz, hnd0⟩ := HRT.out.2.1
  have HSZ := Lib.hid hsz
  have HND : Hid (t.names.Nodup) := Lib.hid (by
    have h5 := HRT.out.1
    unfold HT.texts at hnd0
    rw [if_neg (by omega), if_pos h5] at hnd0
    exact hnd0)
  have HPL : Hid (P.length ≤ 80000000) := Lib.hid (by rw [HP.out]; exact print_length hsz (by have := sized_le hsz (by decide); omega) x)
  have HNL : Hid (∀ s ∈ name :: t.names, s.length < 4294967290) := Lib.hid (fun s hs => by
    rcases List.mem_cons.1 hs with rfl | hs
    · omega
    · have := names_short hsz HRT.out.1 s hs; omega)
  clear hvc hvl hsz hnd0
  clear happ hns hb6 hcell
  go_wp2_with (at_builtin; refine Lib.wpList_append_run _ rfl (.tmp 33) (.tmp 35) 29 29 rfl _ _ rfl rfl _ _ HAPP.out ?_)
  go_loopw [38] (fun s38 wr => ∃ i : Nat, i ≤ (name :: t.names).length ∧ s38 = .int .i64 (i : Int) ∧ Hid (Below w6.heap.size w6 wr)) (fun s38 _ => (name :: t.names).length + 1 - (intOf s38).toNat)
  case atStart => exact ⟨0, Nat.zero_le _, rfl, Lib.hid (Below.refl _ _)⟩
  case round =>
    obtain ⟨i, hi, rfl, HBR⟩ := hrel
    by_cases hlt : i < (name :: t.names).length
    · have hs : (name :: t.names)[i]? = some (name :: t.names)[i] := List.getElem?_eq_getElem hlt
      obtain ⟨s, hsv⟩ : ∃ s, s = (name :: t.names)[i] := ⟨_, rfl⟩
      rw [← hsv] at hs
      have HSL : Hid (s.length < 4294967290) := Lib.hid (HNL.out s (List.mem_of_getElem? hs))
      have qi := ((HBR.out).cell (p := ⟨vb, vof + i, none⟩) HVL.out).trans (HVC.out i s hs)
      have HCL := Lib.hid (clone_any wr cv P (HBA.out.below (HB65.out.trans (HBR.out.mono HB65.out.size))) (by have := HPL.out; omega))
      have HLT := Lib.hid hlt
      have il : (i : Int) < (t.names.length : Int) + 1 := by simp at hlt; omega
      have i9 : (i : Int) < 1000001 := by have := (HNB.out H6.out).2; omega
      have i0 : (0 : Int) ≤ (i : Int) := by omega
      clear hs hsv hlt hi
      go_wp2_with (fail)
      refine HCL.out.mono ?_
      rintro e w7 ⟨v2, rfl, hv2, hb7, _⟩
      dsimp only
      have HV2 := Lib.hid hv2
      have HB7 := Lib.hid hb7
      clear hv2 hb7 qi
      go_wp2_with (fail)
      refine (each_any _ _ [s] (one_name w7 s) (by simp)).mono ?_
      rintro e w8 ⟨av, rfl, hst⟩
      dsimp only
      have HST := Lib.hid hst
      have HB78 := Lib.hid (Below.to_next (Below.to_alloc (Below.refl _ w7) (.cells [Value.string (B s)].toArray 9)) hst.below)
      clear hst
      have H8 : Hid (Below w1.heap.size w1 w8) := Lib.hid (Below.to_next (Below.to_next (Below.to_next H6.out HBR.out) HB7.out) HB78.out)
      have HRUN : Hid (Calls Tryz.prog 32 #[v2, av] w8 fun e w' => ∃ g cap k, e = .returned (.slice (some ⟨g, 0, none⟩) 10 cap) ∧ KidAt t s k ∧ TenT w' g k ∧ Below w8.heap.size w8 w') := Lib.hid (by
        have hv8 : BA w8 v2 (hPrint d t x) := by
          have := HV2.out.below HB78.out
          rw [HP.out] at this
          exact this
        exact runTen_any HSZ.out HRT.out.1 HND.out hv8 HST.out.ask (HF.out H8.out).2.1.1 HSL.out)
      go_wp2_with (fail)
      refine HRUN.out.mono ?_
      rintro e w9 ⟨g, cap, k, rfl, _, hten, hb9⟩
      dsimp only
      have HTEN := Lib.hid hten
      have H9 : Hid (Below w1.heap.size w1 w9) := Lib.hid (Below.to_next H8.out hb9)
      have HB69 : Hid (Below w6.heap.size w6 w9) := Lib.hid (Below.to_next (Below.to_next (Below.to_next HBR.out HB7.out) HB78.out) hb9)
      clear hten hb9
      go_wp2_with (fail)
      obtain ⟨NN, hN, hN1, hN0, h46, h56⟩ := told_oks k
      obtain ⟨wi, hwi⟩ : ∃ wi, wi = w9.alloc (.cells #[Value.int IntKind.i64 1, Value.int IntKind.i64 3, Value.int IntKind.i64 6, Value.int IntKind.i64 7] 3) := ⟨_, rfl⟩
      have hlift : ∀ {p v}, w9.cell? p = some v → wi.cell? p = some v := fun h => by rw [hwi]; exact Below.kept (Below.to_alloc (Below.refl _ w9) _) h
      have c0 := hlift (HTEN.out.ok 0 (by decide))
      have c7 := hlift (HTEN.out.ok 1 (by decide))
      have c21 := hlift (HTEN.out.ok 3 (by decide))
      have c28 := hlift (HTEN.out.ok 4 (by decide))
      have c35 := hlift (HTEN.out.ok 5 (by decide))
      have c42 := hlift (HTEN.out.ok 6 (by decide))
      have c49 := hlift (HTEN.out.ok 7 (by decide))
      have m0 : wi.cell? ⟨w9.heap.size, 0, none⟩ = some (.int .i64 1) := by rw [hwi, cell_box]; rfl
      have m1 : wi.cell? ⟨w9.heap.size, 1, none⟩ = some (.int .i64 3) := by rw [hwi, cell_box]; rfl
      have m2 : wi.cell? ⟨w9.heap.size, 2, none⟩ = some (.int .i64 6) := by rw [hwi, cell_box]; rfl
      have m3 : wi.cell? ⟨w9.heap.size, 3, none⟩ = some (.int .i64 7) := by rw [hwi, cell_box]; rfl
      have HBI : Hid (Below w6.heap.size w6 wi ∧ Below w1.heap.size w1 wi) := Lib.hid (by rw [hwi]; exact ⟨Below.to_alloc HB69.out _, Below.to_alloc H9.out _⟩)
      rw [← hwi]
      clear hwi hlift
      generalize (toldT k 0).ok = o0 at *
      generalize (toldT k 1).ok = o1 at *
      generalize (toldT k 3).ok = o3 at *
      generalize (toldT k 4).ok = o4 at *
      generalize (toldT k 5).ok = o5 at *
      generalize (toldT k 6).ok = o6 at *
      generalize (toldT k 7).ok = o7 at *
      have HO := Lib.hid (And.intro hN (And.intro hN1 (And.intro hN0 (And.intro h46 h56))))
      clear hN hN1 hN0 h46 h56
      go_loopw [11, 53] (fun s11 s53 wq => wq = wi ∧ ∃ (j c : Nat), j ≤ 4 ∧ c ≤ 4 ∧ s53 = .int .i64 (j : Int) ∧ s11 = .int .i64 (c : Int) ∧ Hid (c = cntO o1 o3 o6 o7 j)) (fun _ s53 _ => 5 - (intOf s53).toNat)
      case atStart => exact ⟨rfl, 0, 0, by omega, by omega, rfl, rfl, Lib.hid rfl⟩
      case round =>
        obtain ⟨rfl, j, c, hj, hc, rfl, rfl, HC⟩ := hrel
        rcases (by omega : j = 0 ∨ j = 1 ∨ j = 2 ∨ j = 3 ∨ j = 4) with rfl | rfl | rfl | rfl | rfl
        · cases o1
          · go_wp2_with (fail)
            go_roundw
            case rel => exact ⟨trivial, 1, c, by omega, by omega, rfl, rfl, Lib.hid (by have h := HC.out; simp [cntO, b2n_t, b2n_f] at h ⊢; omega)⟩
            case measure => simp [intOf]
          · have hc3 : c ≤ 3 := by have h := HC.out; have h2 := HO.out; simp [cntO, b2n_t, b2n_f] at h h2; omega
            go_wp2_with (fail)
            go_roundw
            case rel => exact ⟨trivial, 1, c + 1, by omega, by omega, rfl, by go_num, Lib.hid (by have h := HC.out; simp [cntO, b2n_t, b2n_f] at h ⊢; omega)⟩
            case measure => simp [intOf]
        · cases o3
          · go_wp2_with (fail)
            go_roundw
            case rel => exact ⟨trivial, 2, c, by omega, by omega, rfl, rfl, Lib.hid (by have h := HC.out; simp [cntO, b2n_t, b2n_f] at h ⊢; omega)⟩
            case measure => simp [intOf]
          · have hc3 : c ≤ 3 := by have h := HC.out; have h2 := HO.out; simp [cntO, b2n_t, b2n_f] at h h2; omega
            go_wp2_with (fail)
            go_roundw
            case rel => exact ⟨trivial, 2, c + 1, by omega, by omega, rfl, by go_num, Lib.hid (by have h := HC.out; simp [cntO, b2n_t, b2n_f] at h ⊢; omega)⟩
            case measure => simp [intOf]
        · cases o6
          · go_wp2_with (fail)
            go_roundw
            case rel => exact ⟨trivial, 3, c, by omega, by omega, rfl, rfl, Lib.hid (by have h := HC.out; simp [cntO, b2n_t, b2n_f] at h ⊢; omega)⟩
            case measure => simp [intOf]
          · have hc3 : c ≤ 3 := by have h := HC.out; have h2 := HO.out; simp [cntO, b2n_t, b2n_f] at h h2; omega
            go_wp2_with (fail)
            go_roundw
            case rel => exact ⟨trivial, 3, c + 1, by omega, by omega, rfl, by go_num, Lib.hid (by have h := HC.out; simp [cntO, b2n_t, b2n_f] at h ⊢; omega)⟩
            case measure => simp [intOf]
        · cases o7
          · go_wp2_with (fail)
            go_roundw
            case rel => exact ⟨trivial, 4, c, by omega, by omega, rfl, rfl, Lib.hid (by have h := HC.out; simp [cntO, b2n_t, b2n_f] at h ⊢; omega)⟩
            case measure => simp [intOf]
          · have hc3 : c ≤ 3 := by have h := HC.out; have h2 := HO.out; simp [cntO, b2n_t, b2n_f] at h h2; omega
            go_wp2_with (fail)
            go_roundw
            case rel => exact ⟨trivial, 4, c + 1, by omega, by omega, rfl, by go_num, Lib.hid (by have h := HC.out; simp [cntO, b2n_t, b2n_f] at h ⊢; omega)⟩
            case measure => simp [intOf]
        · have hc1 : c ≤ 1 ∧ (c = 1 → o0 = true) ∧ (o4 = true → o6 = true) ∧ (o5 = true → o6 = true) := by
            obtain ⟨h1, h2, h3, h4, h5⟩ := HO.out
            have h := HC.out
            simp [cntO] at h
            exact ⟨by omega, fun e => h3 (by omega), h4, h5⟩
          obtain ⟨k1, k2, k3, k4⟩ := hc1
          have HBI1 := Lib.hid HBI.out.1
          have HLT2 := Lib.hid HLT.out
          clear HO HC HBI HTEN hc hj
          rcases (by omega : c = 0 ∨ c = 1) with rfl | rfl
          · clear k1 k2
            cases o4 <;> cases o5 <;> cases o6
            all_goals first
              | (exfalso; revert k3 k4; simp; done)
              | (clear k3 k4
                 go_wp2_with (fail)
                 go_roundw
                 case rel => exact ⟨i + 1, by have h := HLT2.out; simp only [List.length_cons] at h; (try simp only [List.length_cons]); omega, by go_num, HBI1⟩
                 case measure => (have h := HLT2.out; simp only [List.length_cons] at h; simp [intOf]; omega))
          · have k5 := k2 rfl
            subst k5
            clear k1 k2
            cases o4 <;> cases o5 <;> cases o6
            all_goals first
              | (exfalso; revert k3 k4; simp; done)
              | (clear k3 k4
                 go_wp2_with (fail)
                 go_roundw
                 case rel => exact ⟨i + 1, by have h := HLT2.out; simp only [List.length_cons] at h; (try simp only [List.length_cons]); omega, by go_num, HBI1⟩
                 case measure => (have h := HLT2.out; simp only [List.length_cons] at h; simp [intOf]; omega))
    · obtain rfl : i = (name :: t.names).length := by omega
      have H6r : Hid (Below w1.heap.size w1 wr) := Lib.hid (Below.to_next H6.out HBR.out)
      clear hlt hi
      go_wp2_with (fail)
      refine (LIVE.out H6r.out).mono ?_
      rintro e w7 ⟨rfl, hb7⟩
      have H7 := Lib.hid hb7
      clear hb7
      go_wp2
      go_ret
      exact ⟨rfl, H7.out⟩
end Go.Proofs.YtppkpcijmfdfmaaGreatDoor
