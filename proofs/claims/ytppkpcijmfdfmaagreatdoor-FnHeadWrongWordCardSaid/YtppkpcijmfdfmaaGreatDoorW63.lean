/- The walk of FnHeadWrongWord. -/
import Derived.Test.YtppkpcijmfdfmaaGreatDoorE3
import Derived.Test.YtppkpcijmfdfmaaGreatDoorA19
namespace Go.Proofs.YtppkpcijmfdfmaaGreatDoor
open Go.RowKit
attribute [local go_sem] B_size B_get B_lit B_ext_to B_ext B_toList B_app
set_option maxRecDepth 100000 in
set_option maxHeartbeats 8000000 in
theorem wrong_walk {d : Nat} {t : HT} {nv kv : Value} {B0 at0 word : Nat} {w : World} (hr : RepT w B0 (d + 1) nv kv t) (hG : Ground w) (hB : B0 ≤ w.heap.size) (hat : at0 < 256) (hwd : word < 256) :
    Calls Tryz.prog 12 #[.agg (tcells t nv kv).toArray, .int .u8 at0, .int .u8 word] w fun e w' => e = .returned (.bool true) ∧ Below w.heap.size w w' := by
  obtain ⟨⟨an, cn, rfl⟩, ak, ck, rfl⟩ := hr.slices
  obtain ⟨w1, hw1⟩ : ∃ w1, w1 = w.alloc (.cells (tcells t (.slice an t.names.length cn) (.slice ak t.kids.length ck)).toArray 45) := ⟨_, rfl⟩
  have hb1 : Below w.heap.size w w1 := by rw [hw1]; exact (Below.refl _ _).alloc (Nat.le_refl _) _
  have hlt1 : w.heap.size < w1.heap.size := by rw [hw1]; simp
  have BOX : Hid (∀ {wz : World}, Below w1.heap.size w1 wz → ∀ (j : Nat) u, (tcells t (.slice an t.names.length cn) (.slice ak t.kids.length ck))[j]? = some u → wz.cell? ⟨w.heap.size, j, none⟩ = some u) := by
    intro wz hb j u hu
    refine (hb.cell (p := ⟨w.heap.size, j, none⟩) hlt1).trans ?_
    rw [hw1, cell_box]
    exact hu
  have HF : Hid (∀ {wz : World}, Below w1.heap.size w1 wz → RepT wz B0 (d + 1) (.slice an t.names.length cn) (.slice ak t.kids.length ck) t ∧ Ground wz ∧ B0 ≤ wz.heap.size ∧ Below w.heap.size w wz) := by
    intro wz hb
    have hb2 : Below w.heap.size w wz := hb1.trans (hb.mono hb1.size)
    exact ⟨hr.below (hb2.mono hB), hG.below hb2, Nat.le_trans hB hb2.size, hb2⟩
  have HFIT := Lib.hid (fits11_any (HF.out (Below.refl _ _)).1 (HF.out (Below.refl _ _)).2.2.1)
  have HOBJ : Hid (∀ {wz : World}, Below w1.heap.size w1 wz → Calls Tryz.prog 36 #[.agg (tcells t (.slice an t.names.length cn) (.slice ak t.kids.length ck)).toArray, .slice none 0 0] wz fun e w' => ∃ ok, e = .returned (.bool ok) ∧ (ok = true → t.kind = 5 ∧ Right (d + 1) t ∧ TextsOk []) ∧ Below wz.heap.size wz w') :=
    fun h => object_any (HF.out h).1 (HF.out h).2.1.2 (HF.out h).2.2.1 (Or.inl ⟨none, 0, rfl, rfl⟩) (by simp)
  clear hr hG hb1
  simp only [tcells] at hw1 HFIT HOBJ BOX ⊢
  have HW1 := Lib.hid hw1
  clear hw1
  go_enter Tryz.func12, Tryz.ntmps12
  go_wp2_with (fail)
  rw [← HW1.out]
  refine HFIT.out.mono ?_
  rintro e w2 ⟨⟨bf, rfl⟩, hb2⟩
  have H2 := Lib.hid hb2
  clear hb2
  have LIVE : Hid (∀ {wz : World}, Below w1.heap.size w1 wz → Calls Tryz.prog 34 #[] wz fun e w' => e = .returned (.bool true) ∧ Below w.heap.size w w') := fun {wz} h =>
    (live_any wz (HF.out h).2.1.1).mono fun e w' he => ⟨he.1, (HF.out h).2.2.2.trans (he.2.mono (HF.out h).2.2.2.size)⟩
  cases bf
  · go_wp2
    go_ret
    exact ⟨rfl, (HF.out H2.out).2.2.2⟩
  obtain ⟨wv, hwv⟩ : ∃ wv, wv = w2.alloc (.cells (wrongWords.map fun s => Value.string (B s)).toArray 9) := ⟨_, rfl⟩
  have hbv : Below w2.heap.size w2 wv := by rw [hwv]; exact (Below.refl _ _).alloc (Nat.le_refl _) _
  have HV := Lib.hid (Below.to_next H2.out hbv)
  have WORD : Hid (∀ {wz : World}, Below wv.heap.size wv wz → ∀ (j : Nat) s, wrongWords[j]? = some s → wz.cell? ⟨w2.heap.size, j, none⟩ = some (.string (B s))) := by
    intro wz hb j s hj
    refine Below.kept hb ?_
    rw [hwv, cell_box, List.getElem?_map, hj]
    rfl
  clear hbv
  simp only [wrongWords, List.map_cons, List.map_nil] at hwv
  have HWV := Lib.hid hwv
  clear hwv
  have q0 := BOX.out HV.out 0 _ rfl
  have q1 := BOX.out HV.out 1 _ rfl
  have q2 := BOX.out HV.out 2 _ rfl
  have q3 := BOX.out HV.out 3 _ rfl
  have q4 := BOX.out HV.out 4 _ rfl
  have q5 := BOX.out HV.out 5 _ rfl
  have q6 := BOX.out HV.out 6 _ rfl
  go_upto_region 4 with (fail)
  rw [← HWV.out]
  go_wp2_with (fail)
  refine (HOBJ.out HV.out).mono ?_
  rintro e w3 ⟨ok, rfl, hy, hb3⟩
  have HY := Lib.hid hy
  have HV3 : Hid (Below wv.heap.size wv w3) := hb3
  have H3 := Lib.hid (HV.out.trans (hb3.mono HV.out.size))
  clear hy hb3 q0 q1 q2 q3 q4 q5 q6
  cases ok
  · go_wp2_with (fail)
    refine (LIVE.out H3.out).mono ?_
    rintro e w4 ⟨rfl, hb4⟩
    have H4 := Lib.hid hb4
    clear hb4
    go_wp2
    go_ret
    exact ⟨rfl, H4.out⟩
  have HRT : Hid (t.kind = 5 ∧ Right (d + 1) t) := ⟨(HY.out rfl).1, (HY.out rfl).2.1⟩
  clear HY
  have H3w : Hid (Below w1.heap.size w1 w3) := H3
  have q6 := BOX.out H3.out 6 _ rfl
  by_cases hk0 : t.kids.length = 0
  · have f1 : ((t.kids.length : Int) == 0) = true := by rw [beq_iff_eq]; omega
    clear hk0
    go_wp2_with (fail)
    refine (LIVE.out H3.out).mono ?_
    rintro e w4 ⟨rfl, hb4⟩
    have H4 := Lib.hid hb4
    clear hb4
    go_wp2
    go_ret
    exact ⟨rfl, H4.out⟩
  have f1 : ((t.kids.length : Int) == 0) = false := by rw [beq_eq_false_iff_ne]; omega
  obtain ⟨L, hL⟩ : ∃ L, L = t.kids.length := ⟨_, rfl⟩
  obtain ⟨k, hk⟩ : ∃ k, k = at0 % L := ⟨_, rfl⟩
  have hkl : k < L := by rw [hk]; exact Nat.mod_lt _ (by omega)
  have e0 : IntKind.i64.wrap (at0 : Int) = (at0 : Int) := by rw [IntKind.wrap_i64]; omega
  have e1 : ((at0 : Int).tmod (t.kids.length : Int)) = (k : Int) := by rw [hk, hL]; exact Int.ofNat_tmod at0 _
  have e2 : ¬ (t.kids = []) := by intro e; rw [e] at hk0; simp at hk0
  have HK := Lib.hid hk
  have HL := Lib.hid hL
  clear hk hL
  go_wp2_with (fail)
  have hqw : word % 20 < 20 := Nat.mod_lt _ (by decide)
  obtain ⟨q, hq⟩ : ∃ q, q = word % 20 := ⟨_, rfl⟩
  obtain ⟨wrd, hwrd⟩ : ∃ s, wrongWords[q]? = some s := ⟨_, List.getElem?_eq_getElem (by rw [hq]; exact hqw)⟩
  have hwl : wrd.length ≤ 9 := word_short _ (List.mem_of_getElem? hwrd)
  have hwm : wrd ∈ wrongWords := List.mem_of_getElem? hwrd
  have e0w : IntKind.i64.wrap (word : Int) = (word : Int) := by rw [IntKind.wrap_i64]; omega
  have e1w : ((word : Int).tmod 20) = (q : Int) := by rw [hq]; exact Int.ofNat_tmod word 20
  have hq20 : q < 20 := by rw [hq]; exact hqw
  have HQ := Lib.hid hq
  have HWRD := Lib.hid hwrd
  have HWM := Lib.hid hwm
  clear hq hwrd hwm hqw
  obtain ⟨vals, hvals⟩ : ∃ vals, vals = (t.kids.map (hToks d)).set k [wrd] := ⟨_, rfl⟩
  have HVALS := Lib.hid hvals
  have hvl : vals.length = t.kids.length := by rw [hvals]; simp
  have HVL := Lib.hid hvl
  have HVAT : Hid (∀ m kid, t.kids[m]? = some kid → vals[m]? = some (if m = k then [wrd] else hToks d kid)) := fun m kid hm => by
    rw [hvals, set_at _ k m [wrd] (hToks d kid) (by rw [List.getElem?_map, hm]; rfl)]
  have HLEN : Hid (∀ m, m ≤ t.kids.length → (outTo t.names vals m).length ≤ 80000009) := fun m hm => by
    obtain ⟨n, hs, _⟩ := HRT.out.2
    rw [hvals]
    exact wrong_length hs HRT.out.1 k (by have := HL.out; omega) wrd hwl m hm
  have HKIDS : Hid (∀ m kid, t.kids[m]? = some kid → (∃ mk, mk ≤ 1000 ∧ Sized 200 60 d kid 1 mk) ∧ ∃ s, t.names[m]? = some s ∧ s.length ≤ 200 ∧ Lib.validD s = true) := fun m kid hm => by
    obtain ⟨n, hs, _⟩ := HRT.out.2
    have hlt := (List.getElem?_eq_some_iff.1 hm).1
    obtain ⟨_, _, h3, h4, h5, h6⟩ := hs
    have h4 := h4 HRT.out.1
    refine ⟨?_, ?_⟩
    · rcases h6 with h6 | ⟨_, h7, ms, h8, h9⟩
      · have := HRT.out.1; omega
      · obtain ⟨mk, hmk, hsz⟩ := h8.of_mem kid (List.mem_of_getElem? hm)
        exact ⟨mk, by have := mem_sum hmk; omega, sized_less (by omega) hsz⟩
    · refine ⟨t.names[m]'(by omega), List.getElem?_eq_getElem (by omega), ?_⟩
      exact h5 _ (by rw [texts_five HRT.out.1]; exact List.getElem_mem _)
  have hk200 : t.kids.length ≤ 200 ∧ t.names.length = t.kids.length := by
    obtain ⟨n, hs, _⟩ := HRT.out.2
    obtain ⟨_, _, h3, h4, _⟩ := hs
    exact ⟨h3, h4 HRT.out.1⟩
  obtain ⟨hk200, hnk⟩ := hk200
  have HNK := Lib.hid hnk
  clear hvals hvl hnk
  rw [show ({ data := #[123] } : ByteArray) = B (outTo t.names vals 0) from by rw [outTo_zero]; rfl]
  go_loopw [9, 36] (fun o i wr => ∃ m : Nat, Hid (m ≤ t.kids.length ∧ Below w3.heap.size w3 wr) ∧ i = .int .i64 m ∧ o = .string (B (outTo t.names vals m))) (fun _ i _ => t.kids.length - (intOf i).toNat)
  case atStart => exact ⟨0, ⟨Nat.zero_le _, Below.refl _ _⟩, rfl, rfl⟩
  case round =>
    obtain ⟨m, HM, rfl, rfl⟩ := hrel
    obtain ⟨u, hu⟩ : ∃ u, u = outTo t.names vals m := ⟨_, rfl⟩
    rw [← hu]
    have hul : u.length ≤ 80000009 := by rw [hu]; exact HLEN.out m HM.out.1
    have HU := Lib.hid hu
    clear hu
    have HVR : Hid (Below wv.heap.size wv wr) := Below.to_next HV3.out HM.out.2
    have HR : Hid (Below w1.heap.size w1 wr) := Below.to_next H3w.out HM.out.2
    by_cases hlt : m < t.kids.length
    · have hltn : m < t.names.length := by have := HNK.out; omega
      obtain ⟨b, off, hbo, hcell⟩ : ∃ b off, ak = some ⟨b, off, none⟩ ∧ ∀ (i : Nat) k, t.kids[i]? = some k → ∃ nv kv, RepT wr B0 d nv kv k ∧ ∀ (j : Nat) u, (tcells k nv kv)[j]? = some u → wr.cell? ⟨b, off + i * 7 + j, none⟩ = some u := by
        rcases (HF.out HR.out).1.2.2 with ⟨a, c, e, hnil⟩ | ⟨b, off, c, e, h1, h2⟩
        · rw [hnil] at hlt; simp at hlt
        · cases e; exact ⟨b, off, rfl, h2⟩
      subst hbo
      obtain ⟨kid, hkid⟩ : ∃ kid, t.kids[m]? = some kid := ⟨_, List.getElem?_eq_getElem hlt⟩
      obtain ⟨⟨mk, hmk, hsz⟩, s, hname, hsl, hsv⟩ := HKIDS.out m kid hkid
      obtain ⟨bn, offn, hbn, hncell⟩ : ∃ b off, an = some ⟨b, off, none⟩ ∧ ∀ {wz : World}, Below w1.heap.size w1 wz → wz.cell? ⟨b, off + m, none⟩ = some (.string (B s)) := by
        have hx := (HF.out (Below.refl _ w1)).1.2.1
        rcases hx with ⟨a, c, e, hnil⟩ | ⟨b, off, c, e, h1, h2⟩
        · rw [hnil] at hname; cases hname
        · cases e
          exact ⟨b, off, rfl, fun hb => Below.kept hb (h2 m s hname)⟩
      subst hbn
      obtain ⟨nv', kv', hrep, hcl⟩ := hcell m kid hkid
      obtain ⟨⟨an', cn', rfl⟩, ak', ck', rfl⟩ := hrep.slices
      have p0 := hcl 0 _ rfl
      have p1 := hcl 1 _ rfl
      have p2 := hcl 2 _ rfl
      have p3 := hcl 3 _ rfl
      have p4 := hcl 4 _ rfl
      have p5 := hcl 5 _ rfl
      have p6 := hcl 6 _ rfl
      rw [Nat.add_zero] at p0
      obtain ⟨WA, hWA⟩ : ∃ WA, WA = wr.alloc (.cells (tcells kid (.slice an' kid.names.length cn') (.slice ak' kid.kids.length ck')).toArray 45) := ⟨_, rfl⟩
      have hba : Below wr.heap.size wr WA := by rw [hWA]; exact (Below.refl _ _).alloc (Nat.le_refl _) _
      have HA := Lib.hid hba
      have HRA : Hid (Below w1.heap.size w1 WA) := Below.to_next HR.out hba
      have HVA : Hid (Below wv.heap.size wv WA) := Below.to_next HVR.out hba
      have KBX : Hid (∀ (j : Nat) v, (tcells kid (.slice an' kid.names.length cn') (.slice ak' kid.kids.length ck'))[j]? = some v → WA.cell? ⟨wr.heap.size, j, none⟩ = some v) := by
        intro j v hv
        rw [hWA, cell_box]
        exact hv
      have HPK : Hid (Calls Tryz.prog 31 #[.agg (tcells kid (.slice an' kid.names.length cn') (.slice ak' kid.kids.length ck')).toArray, .int .u64 0] WA fun e w' => e = .returned (.string (B (hPrint d kid 0))) ∧ Below WA.heap.size WA w') := by
        have hB2 : B0 ≤ wr.heap.size := (HF.out HR.out).2.2.1
        exact print_any (x := 0) (hrep.below (hba.mono hB2)) hsz hmk (Nat.le_trans hB2 hba.size) (by decide)
      have HPN : Hid (∀ {wz : World}, Calls Tryz.prog 31 #[.agg (tcells (tText s) (.slice none 0 0) (.slice none 0 0)).toArray, .int .u64 0] wz fun e w' => e = .returned (.string (B (hPrint 1 (tText s) 0))) ∧ Below wz.heap.size wz w') := fun {wz} =>
        print_any (x := 0) (B0 := 0) ⟨⟨show 3 < 256 by decide, show 0 < 18446744073709551616 by decide, Nat.zero_le _, Nat.zero_le _⟩, Or.inl ⟨none, 0, rfl, rfl⟩, Or.inl ⟨none, 0, rfl, rfl⟩⟩ (tText_sized hsl hsv) (by decide) (Nat.zero_le _) (by decide)
      obtain ⟨pk, hpk⟩ : ∃ pk, pk = hPrint d kid 0 := ⟨_, rfl⟩
      have hpkl : pk.length ≤ 80000000 := by
        rw [hpk]
        exact print_length hsz (by have := sized_le hsz (by decide); omega) 0
      obtain ⟨tn, htn⟩ : ∃ tn, tn = (hText s 0).1 := ⟨_, rfl⟩
      have htnl : tn.length ≤ 2402 := by rw [htn]; have := hText_length s 0; omega
      rw [tText_print, ← htn] at HPN
      rw [← hpk] at HPK
      have HPKE := Lib.hid hpk
      have HTNE := Lib.hid htn
      have HSTEP : Hid (outTo t.names vals (m + 1) = u ++ ((if m = 0 then [] else [44]) ++ (tn ++ (58 :: (if m = k then wrd else pk))))) := by
        refine Lib.hid ?_
        rw [outTo_step _ _ m _ (HVAT.out m kid hkid), HU.out, htn, hpk, print_toks]
        have e1 : t.names.getD m [] = s := by rw [List.getD_eq_getElem?_getD, hname]; rfl
        rw [e1]
        by_cases hmk : m = k
        · simp [hmk]
        · simp [hmk]
      clear hpk htn hcell hcl hrep hsz hkid hname hsv hba
      simp only [tcells] at hWA HPK KBX
      simp only [tcells, tText, HT.kind, HT.is, HT.minus, HT.num, HT.text] at HPN
      have HWA := Lib.hid hWA
      clear hWA
      have QX : Hid (∀ {wz : World}, Below WA.heap.size WA wz → wz.cell? ⟨w.heap.size, 5, none⟩ = some (.slice (some ⟨bn, offn, none⟩) t.names.length cn) ∧ wz.cell? ⟨bn, offn + m, none⟩ = some (.string (B s)) ∧ wz.cell? ⟨w2.heap.size, q, none⟩ = some (.string (B wrd))) := fun h =>
        ⟨BOX.out (Below.to_next HRA.out h) 5 _ rfl, hncell (Below.to_next HRA.out h), WORD.out (Below.to_next HVA.out h) q _ HWRD.out⟩
      clear hncell
      by_cases hm0 : 0 < m
      all_goals
        go_wp2_with (fail)
        rw [← HWA.out]
        refine HPK.out.mono ?_
        rintro e w4 ⟨rfl, hb4⟩
        have hq4 := QX.out hb4
        have q5 := hq4.1
        have qn := hq4.2.1
        have qw := hq4.2.2
        have H4 := Lib.hid hb4
        clear hb4 hq4
        by_cases hmk : m = k
        all_goals
          first
            | (have f3 : ((m : Int) == (k : Int)) = true := by rw [beq_iff_eq]; omega)
            | (have f3 : ((m : Int) == (k : Int)) = false := by rw [beq_eq_false_iff_ne]; omega)
          have HMK := Lib.hid hmk
          clear hmk
          go_wp2_with (fail)
          refine HPN.out.mono ?_
          rintro e w5 ⟨rfl, hb5⟩
          have H5 := Lib.hid (Below.to_next HA.out (Below.to_next H4.out hb5))
          clear hb5
          go_wp2
          go_roundw
          case rel =>
            refine ⟨m + 1, ⟨by omega, Below.to_next HM.out.2 H5.out⟩, by go_num, ?_⟩
            rw [HSTEP.out]
            first | rw [if_pos (show m = 0 by omega)] | rw [if_neg (show ¬ m = 0 by omega)]
            first | rw [if_pos HMK.out] | rw [if_neg HMK.out]
            simp
          case measure => simp [intOf]; omega
    · obtain rfl : m = t.kids.length := by have := HM.out.1; omega
      have q5 := BOX.out HR.out 5 _ rfl
      obtain ⟨v, w6, hcv, hba, hb6⟩ := conv_bytes wr (u ++ [125])
      have H6 := Lib.hid (Below.to_next HR.out hb6)
      have q56 := BOX.out H6.out 5 _ rfl
      have HSIL : Hid (Calls Tryz.prog 42 #[v, .slice an t.names.length cn] w6 fun e w' => e = .returned (.bool true) ∧ Below w6.heap.size w6 w') := by
        obtain ⟨n, hs, hnd⟩ := HRT.out.2
        have e : jParse (u ++ [125]) = none := by
          have := wrong_none hs HRT.out.1 k (by have := HL.out; omega) wrd HWM.out
          rw [HU.out, ← HVL.out, outTo_all, HVALS.out]
          exact this
        have hx := HF.out H6.out
        refine silent_any w6 v _ _ t.names hba ((names_nsb hx.1).ns hx.2.2.1) ?_ hx.2.1.1 (fun j hj => by rw [e] at hj; cases hj) (fun s _ j hj => by rw [e] at hj; cases hj) (fun s hs' => ?_) ?_
        · rw [List.length_append, List.length_singleton]; omega
        · have := names_short hs HRT.out.1 s hs'; omega
        · have := names_lt hs HRT.out.1; omega
      clear hba hb6
      go_wp2_with (fail)
      refine HSIL.out.mono ?_
      rintro e w8 ⟨rfl, hb8⟩
      have H8 := Lib.hid (Below.to_next H6.out hb8)
      clear hb8 hcv
      go_wp2_with (fail)
      refine (LIVE.out H8.out).mono ?_
      rintro e w9 ⟨rfl, hb9⟩
      have H9 := Lib.hid hb9
      clear hb9
      go_wp2
      go_ret
      exact ⟨rfl, H9.out⟩
theorem wrong_walk0 {d : Nat} {t : HT} {nv kv : Value} {B0 at0 word : Nat} {w : World} (hr : RepT w B0 d nv kv t) (hG : Ground w) (hB : B0 ≤ w.heap.size) (hat : at0 < 256) (hwd : word < 256) :
    Calls Tryz.prog 12 #[.agg (tcells t nv kv).toArray, .int .u8 at0, .int .u8 word] w fun e w' => e = .returned (.bool true) ∧ Below w.heap.size w w' := by
  cases d with
  | zero => exact hr.elim
  | succ d => exact wrong_walk hr hG hB hat hwd
end Go.Proofs.YtppkpcijmfdfmaaGreatDoor
