/- The walk of HeadText. Printed by gen_w201.py. -/
import Derived.Test.YtppkpcijmfdfmaaGreatDoorW200
import Derived.Deep.CutRange
import Derived.Deep.DeepCutAuto
set_option linter.unusedVariables false
set_option linter.unusedSimpArgs false
namespace Go.Proofs.YtppkpcijmfdfmaaGreatDoor
open Go.RowKit
attribute [local go_sem] B_size B_get B_lit B_ext_to B_ext B_toList B_app

set_option maxRecDepth 100000 in
set_option maxHeartbeats 8000000 in
theorem headText_any {x B0 : Nat} {w : World} {v : Value} {l : List HF} (hr : FRow w B0 v l) (hB : B0 ≤ w.heap.size) (hok : ∀ f ∈ l, f.Ok) (hl : l.length ≤ 30) (hx : x < 18446744073709551616) :
    Calls Tryz.prog 25 #[v, .int .u64 x] w fun e w' => e = .returned (.string (B (hPrint 3 (fTree l) x))) ∧ Below w.heap.size w w' := by
  obtain ⟨va, vc, rfl⟩ : ∃ a c, v = .slice a l.length c := by
    rcases hr with ⟨a, c, h, rfl⟩ | ⟨b, off, c, h, _⟩
    · exact ⟨a, c, h⟩
    · exact ⟨_, c, h⟩
  obtain ⟨sb, hsb⟩ : ∃ sb, sb = w.heap.size := ⟨_, rfl⟩
  obtain ⟨w1, hw1⟩ : ∃ w1, w1 = w.alloc (.cells [Value.int .u64 (x : Int)].toArray 99) := ⟨_, rfl⟩
  have hs1 : StyleAt sb w1 x := by
    refine ⟨?_, ?_, ?_, hx⟩
    · rw [hw1, hsb, cell_box]; rfl
    · rw [hw1, hsb]
      unfold World.frozen?
      rw [show (w.alloc (.cells [Value.int .u64 (x : Int)].toArray 99)).heap[(⟨w.heap.size, 0, none⟩ : Addr).block]? = some (.cells [Value.int .u64 (x : Int)].toArray 99) from heap_alloc_new _ _]
      rfl
    · rw [hw1, hsb]; simp
  have hb1 : Below w.heap.size w w1 := by rw [hw1]; exact (Below.refl _ _).alloc (Nat.le_refl _) _
  have hBsb : B0 ≤ sb := by omega
  have H1 := Lib.hid hs1
  have HR := Lib.hid hr
  have HOK := Lib.hid hok
  have HB1 := Lib.hid hb1
  obtain ⟨P, hP⟩ : ∃ P, P = hPrint 3 (fTree l) x := ⟨_, rfl⟩
  obtain ⟨res, hres⟩ : ∃ r, r = hTree 3 (fTree l) (blank x).2 := ⟨_, rfl⟩
  obtain ⟨ns, hns⟩ : ∃ ns, ns = l.map (·.name) := ⟨_, rfl⟩
  obtain ⟨ks, hks⟩ : ∃ ks, ks = l.map HF.tree := ⟨_, rfl⟩
  have HP : Hid (P = (blank x).1 ++ (res.1 ++ (blank res.2).1)) := Lib.hid (by rw [hP, hres]; rfl)
  have HRES : Hid (res = (123 :: ((blank (blank x).2).1 ++ ((hKids (hTree 2) true ns ks (blank (blank x).2).2).1 ++ [125])), (hKids (hTree 2) true ns ks (blank (blank x).2).2).2)) := Lib.hid (by rw [hres, hns, hks]; exact hTree_obj (d := 2) (t := fTree l) rfl)
  have HSM : Hid (res.1.length ≤ 400000000) := Lib.hid (by
    rw [hres]
    obtain ⟨n, hn⟩ := fTree_sized hok hl
    have h1 := tree_length 3 _ _ _ hn (blank x).2
    have h2 := sized_le hn (by decide)
    omega)
  have HKN : Hid (ks.length = l.length ∧ ∀ (i : Nat) f, l[i]? = some f → ks[i]? = some f.tree ∧ (ns.drop i).headD [] = f.name) := Lib.hid ⟨by rw [hks, List.length_map], fun i f hf => ⟨by rw [hks, List.getElem?_map, hf]; rfl, by
    have hlt := (List.getElem?_eq_some_iff.1 hf).1
    rw [hns, ← List.map_drop, List.drop_eq_getElem_cons hlt, List.map_cons, List.headD_cons, (List.getElem?_eq_some_iff.1 hf).2]⟩⟩
  rw [← hP]
  have bl1 := blank_length x
  have bl2 := blank_length (blank x).2
  have bl3 := blank_length res.2
  clear hr hok hs1 hb1 hP hres hns hks
  have HW1 := Lib.hid hw1
  have HSB := Lib.hid hsb
  clear hw1 hsb
  go_enter Tryz.func25, Tryz.ntmps25
  go_upto_region 2 with (fail)
  first | rw [← HW1.out] | (have hw := HW1.out; simp only [List.toArray] at hw; rw [← hw])
  rw [← HSB.out]
  go_wp2_with (fail)
  with_reducible refine (blank_any H1.out).mono ?_
  rintro e2 w2 ⟨rfl, hs2, ho2⟩
  have H2 := Lib.hid (And.intro hs2 ho2)
  clear hs2 ho2
  go_wp2_with (fail)
  with_reducible refine (blank_any H2.out.1).mono ?_
  rintro e2 w3 ⟨rfl, hs3, ho3⟩
  have HT0 : Hid (TreeSt (hTree 2) true ns ks res [125] sb w3 0 (blank (blank x).2).2 (123 :: (blank (blank x).2).1) w3) := ⟨Nat.zero_le _, hs3, Only.refl _ _, by rw [HRES.out]; simp [hFrom]⟩
  have HO3 := Lib.hid (H2.out.2.trans ho3)
  have HBW3 : Hid (Below w.heap.size w w3) := Lib.hid (HB1.out.trans (HO3.out.low (by have := HSB.out; omega) HB1.out.size))
  clear hs3 ho3
  go_upto_region 4 with (fail)
  go_loopw [6, 20] (fun o i wr => ∃ (m y : Nat) (u : Bs), Hid (TreeSt (hTree 2) true ns ks res [125] sb w3 m y u wr) ∧ i = .int .i64 m ∧ o = .string (B ((blank x).1 ++ u))) (fun _ i _ => l.length - (intOf i).toNat)
  case atStart => exact ⟨0, _, _, HT0, rfl, by simp⟩
  case round =>
    clear HT0
    obtain ⟨m, y, u, HS, rfl, rfl⟩ := hrel
    have hul : u.length ≤ 400000000 := by
      have h1 := HSM.out
      rw [HS.out.eq] at h1
      simp only [List.length_append] at h1
      omega
    have hul2 : ((blank x).1 ++ u).length ≤ 400065536 := by rw [List.length_append]; omega
    obtain ⟨uu, huu⟩ : ∃ uu, uu = (blank x).1 ++ u := ⟨_, rfl⟩
    rw [← huu] at hul2 ⊢
    have HUU := Lib.hid huu
    clear huu
    by_cases hlt : m < l.length
    · obtain ⟨b, off, hbo, hbB, hcell⟩ : ∃ b off, va = some ⟨b, off, none⟩ ∧ b < B0 ∧ ∀ (i : Nat) f, l[i]? = some f → ∃ lv, (∀ (j : Nat) u, (fcells f lv)[j]? = some u → w.cell? ⟨b, off + i * 7 + j, none⟩ = some u) ∧ NSB w B0 lv f.list ∧ f.kind < 256 ∧ f.num < 18446744073709551616 ∧ f.list.length ≤ 9223372036854775807 := by
        rcases HR.out with ⟨a, c, e, hnil⟩ | ⟨b, off, c, e, h1, h2⟩
        · rw [hnil] at hlt; simp at hlt
        · cases e; exact ⟨b, off, rfl, h1, h2⟩
      subst hbo
      obtain ⟨f, hf⟩ : ∃ f, l[m]? = some f := ⟨_, List.getElem?_eq_getElem hlt⟩
      obtain ⟨lv, hcl, hnb, _, _⟩ := hcell m f hf
      obtain ⟨la, lc, rfl⟩ := hnb.slice
      have hfok := HOK.out f (List.mem_of_getElem? hf)
      have HBR : Hid (Below w.heap.size w wr) := Lib.hid (HBW3.out.trans (HS.out.only.low (by have := HSB.out; omega) HBW3.out.size))
      have pc : ∀ (j : Nat) u, (fcells f (.slice la f.list.length lc))[j]? = some u → wr.cell? ⟨b, off + m * 7 + j, none⟩ = some u := fun j u hj => (HBR.out.cell (p := ⟨b, off + m * 7 + j, none⟩) (by show b < _; omega)).trans (hcl j u hj)
      have p0 := pc 0 _ rfl
      have p1 := pc 1 _ rfl
      have p2 := pc 2 _ rfl
      have p3 := pc 3 _ rfl
      have p4 := pc 4 _ rfl
      have p5 := pc 5 _ rfl
      have p6 := pc 6 _ rfl
      rw [Nat.add_zero] at p0
      have HKID := Lib.hid (HKN.out.2 m f hf).1
      have HDR := Lib.hid (HKN.out.2 m f hf).2
      have hsl : f.name.length ≤ 200 := (hfok.texts f.name (by simp)).1
      have KL : Hid (∀ z, (hTree 2 f.tree z).1.length ≤ 400000000) := Lib.hid (fun z => HF.small hfok z)
      obtain ⟨WA, hWA⟩ : ∃ WA, WA = wr.alloc (.cells (fcells f (.slice la f.list.length lc)).toArray 32) := ⟨_, rfl⟩
      have hba : Below wr.heap.size wr WA := by rw [hWA]; exact (Below.refl _ _).alloc (Nat.le_refl _) _
      have hsw : sb < wr.heap.size := HS.out.st.lt
      have SA := Lib.hid (HS.out.st.below hba)
      have OA := Lib.hid (Only.below (sb := sb) hba)
      have BA2 : Hid (Below B0 w WA) := Lib.hid ((HBR.out.mono hB).trans (hba.mono (Nat.le_trans hB HBR.out.size)))
      have hB0A : B0 ≤ WA.heap.size := Nat.le_trans hB (Nat.le_trans HBR.out.size hba.size)
      have KBX : Hid (∀ {wz : World}, Only sb WA wz → ∀ (j : Nat) v, (fcells f (.slice la f.list.length lc))[j]? = some v → wz.cell? ⟨wr.heap.size, j, none⟩ = some v) := by
        intro wz ho j v hv
        refine (ho.cell (by rw [hWA]; simp) (by omega)).trans ?_
        rw [hWA, cell_box]
        exact hv
      have HVAL : Hid (∀ {wz : World} {z : Nat}, StyleAt sb wz z → Below B0 w wz → Calls Tryz.prog 60 #[.pointer (some ⟨sb, 0, none⟩), .agg (fcells f (.slice la f.list.length lc)).toArray] wz fun e w' => e = .returned (.string (B (hTree 2 f.tree z).1)) ∧ StyleAt sb w' (hTree 2 f.tree z).2 ∧ Only sb wz w') :=
        fun h1 h2 => valueF_any h1 hfok (hnb.below h2) hBsb
      have il : (m : Int) < (l.length : Int) := by omega
      have HLT := Lib.hid hlt
      have hm9 : m ≤ 30 := by omega
      clear hcell hcl hnb hfok pc hf hba
      simp only [fcells] at hWA KBX HVAL
      have HWA := Lib.hid hWA
      clear hWA
      go_upto_region 6 with (fail)
      rw [← HWA.out]
      clear p0 p1 p2 p3 p4 p5 p6
      obtain ⟨y2, hy2⟩ : ∃ z, z = (hComma m y).2 := ⟨_, rfl⟩
      obtain ⟨o2, ho2⟩ : ∃ z, z = uu ++ (hComma m y).1 := ⟨_, rfl⟩
      have hol : o2.length ≤ 400200000 := by
        have := blank_length y
        rw [ho2, List.length_append]
        unfold hComma
        split
        · show uu.length + 0 ≤ _; omega
        · show uu.length + ((blank y).1.length + 1) ≤ _; omega
      have HY2 := Lib.hid hy2
      have HOO := Lib.hid ho2
      clear hy2 ho2
      go_upto_if 26 with (fail)
      go_cut [6] from 21 to 52 (fun s6 wx => s6 = .string (B o2) ∧ Hid (StyleAt sb wx y2 ∧ Only sb WA wx))
      case first =>
        by_cases hm0 : 0 < m
        · have hcm : hComma m y = (44 :: (blank y).1, (blank y).2) := by unfold hComma; rw [if_neg (by omega)]
          have HCM := Lib.hid hcm
          have hd0 : decide ((0 : Int) < (m : Int)) = true := by simp; omega
          clear hcm
          go_wp2_with (go_at_call 58; with_reducible refine (blank_any SA.out).mono ?_; rintro e2 w9 ⟨rfl, hs9, ho9⟩; have l9 := blank_length y; have H9 := Lib.hid (And.intro hs9 ho9); clear hs9 ho9)
          go_meet
          exact ⟨by (rw [HOO.out, HCM.out] <;> simp), Lib.hid ⟨by rw [HY2.out, HCM.out]; exact H9.out.1, H9.out.2⟩⟩
        · have hcm : hComma m y = ([], y) := by unfold hComma; rw [if_pos (by omega)]
          have HCM := Lib.hid hcm
          have hd0 : decide ((0 : Int) < (m : Int)) = false := by simp; omega
          clear hcm
          go_wp2_with (fail)
          go_meet
          exact ⟨by (rw [HOO.out, HCM.out] <;> simp), Lib.hid ⟨by rw [HY2.out, HCM.out]; exact SA.out, Only.refl _ _⟩⟩
      case rest =>
        obtain ⟨rfl, HCU⟩ := hcut
        have hP0 : Only sb WA wc.drew := Only.drew HCU.out.2
        have HS0 := Lib.hid HCU.out.1.drew
        have m1 := hText_length f.name y2
        have m2 := blank_length (hText f.name y2).2
        have m3 := blank_length (blank (hText f.name y2).2).2
        have m4 := blank_length (hTree 2 f.tree (blank (blank (hText f.name y2).2).2).2).2
        have m5 := KL.out (blank (blank (hText f.name y2).2).2).2
        have r1 := run_sum (a := (hText f.name y2).1) (b := (blank (hText f.name y2).2).1) (c := ((hText f.name y2).1 ++ (blank (hText f.name y2).2).1)) (by simp) (by simp; omega)
        have r2 := run_sum (a := ((hText f.name y2).1 ++ (blank (hText f.name y2).2).1)) (b := [58]) (c := ((hText f.name y2).1 ++ ((blank (hText f.name y2).2).1 ++ [58]))) (by simp) (by simp; omega)
        have r3 := run_sum (a := ((hText f.name y2).1 ++ ((blank (hText f.name y2).2).1 ++ [58]))) (b := (blank (blank (hText f.name y2).2).2).1) (c := ((hText f.name y2).1 ++ ((blank (hText f.name y2).2).1 ++ (58 :: (blank (blank (hText f.name y2).2).2).1)))) (by simp) (by simp; omega)
        have r4 := run_sum (a := ((hText f.name y2).1 ++ ((blank (hText f.name y2).2).1 ++ (58 :: (blank (blank (hText f.name y2).2).2).1)))) (b := (hTree 2 f.tree (blank (blank (hText f.name y2).2).2).2).1) (c := ((hText f.name y2).1 ++ ((blank (hText f.name y2).2).1 ++ (58 :: ((blank (blank (hText f.name y2).2).2).1 ++ (hTree 2 f.tree (blank (blank (hText f.name y2).2).2).2).1))))) (by simp) (by simp; omega)
        have r5 := run_sum (a := ((hText f.name y2).1 ++ ((blank (hText f.name y2).2).1 ++ (58 :: ((blank (blank (hText f.name y2).2).2).1 ++ (hTree 2 f.tree (blank (blank (hText f.name y2).2).2).2).1))))) (b := (blank (hTree 2 f.tree (blank (blank (hText f.name y2).2).2).2).2).1) (c := ((hText f.name y2).1 ++ ((blank (hText f.name y2).2).1 ++ (58 :: ((blank (blank (hText f.name y2).2).2).1 ++ ((hTree 2 f.tree (blank (blank (hText f.name y2).2).2).2).1 ++ (blank (hTree 2 f.tree (blank (blank (hText f.name y2).2).2).2).2).1)))))) (by simp) (by simp; omega)
        have r9 := run_sum (a := o2) (b := ((hText f.name y2).1 ++ ((blank (hText f.name y2).2).1 ++ (58 :: ((blank (blank (hText f.name y2).2).2).1 ++ ((hTree 2 f.tree (blank (blank (hText f.name y2).2).2).2).1 ++ (blank (hTree 2 f.tree (blank (blank (hText f.name y2).2).2).2).2).1)))))) (c := o2 ++ ((hText f.name y2).1 ++ ((blank (hText f.name y2).2).1 ++ (58 :: ((blank (blank (hText f.name y2).2).2).1 ++ ((hTree 2 f.tree (blank (blank (hText f.name y2).2).2).2).1 ++ (blank (hTree 2 f.tree (blank (blank (hText f.name y2).2).2).2).2).1)))))) (by simp) (by simp; omega)
        go_upto_region 8 with (fail)
        go_region_held_law (fun w' => (w'.cell? ⟨wr.heap.size, 0, none⟩ = some (.string (B f.name)) ∧ w'.cell? ⟨wr.heap.size, 1, none⟩ = some (.int .u8 f.kind) ∧ w'.cell? ⟨wr.heap.size, 2, none⟩ = some (.bool f.is) ∧ w'.cell? ⟨wr.heap.size, 3, none⟩ = some (.bool f.minus) ∧ w'.cell? ⟨wr.heap.size, 4, none⟩ = some (.int .u64 f.num) ∧ w'.cell? ⟨wr.heap.size, 5, none⟩ = some (.string (B f.text)) ∧ w'.cell? ⟨wr.heap.size, 6, none⟩ = some (.slice la f.list.length lc)) ∧ Only sb WA w')
          (first
            | (go_split_ands
               refine (fun hz => ⟨⟨KBX.out hz 0 _ rfl, KBX.out hz 1 _ rfl, KBX.out hz 2 _ rfl, KBX.out hz 3 _ rfl, KBX.out hz 4 _ rfl, KBX.out hz 5 _ rfl, KBX.out hz 6 _ rfl⟩, hz⟩) ?_
               first
                 | assumption
                 | exact Only.trans (by assumption) (by assumption)))
          (first
            | (go_at_call 59; with_reducible refine (text_any f.name HS0.out (by omega)).mono ?_; rintro e2 w4 ⟨rfl, hs4, ho4⟩; have l4 := hText_length f.name (y2); have H4 := Lib.hid hs4)
            | (go_at_call 58; with_reducible refine (blank_any H4.out).mono ?_; rintro e2 w5 ⟨rfl, hs5, ho5⟩; have l5 := blank_length ((hText f.name (y2)).2); have H5 := Lib.hid hs5)
            | (go_at_call 58; with_reducible refine (blank_any H5.out).mono ?_; rintro e2 w6 ⟨rfl, hs6, ho6⟩; have l6 := blank_length ((blank ((hText f.name (y2)).2)).2); have H6 := Lib.hid hs6)
            | (go_at_call 60; go_split_ands; with_reducible refine (HVAL.out H6.out (BA2.out.trans (Only.low (by assumption) hBsb hB0A))).mono ?_; rintro e2 w7 ⟨rfl, hs7, ho7⟩; have l7 := KL.out ((blank ((blank ((hText f.name (y2)).2)).2)).2); have H7 := Lib.hid hs7)
            | (go_at_call 58; with_reducible refine (blank_any H7.out).mono ?_; rintro e2 w8 ⟨rfl, hs8, ho8⟩; have l8 := blank_length ((hTree 2 f.tree ((blank ((blank ((hText f.name (y2)).2)).2)).2)).2); have H8 := Lib.hid hs8))
        all_goals
          go_split_ands
          go_wp2
          go_roundw
          case rel =>
            have hst := HS.out.step HKID.out (by rw [hKid_obj _ _ _ _ _ HDR.out]) (by rw [HY2.out, hKid_obj _ _ _ _ _ HDR.out]) H8.out (OA.out.trans (by assumption))
            refine ⟨m + 1, _, _, hst, by go_num, ?_⟩
            rw [HOO.out, HUU.out, HY2.out]
            simp
          case measure => (have := HLT.out; simp [intOf]; omega)
    · obtain rfl : m = l.length := by have := HS.out.le; have := HKN.out.1; omega
      have he := HS.out.eq
      rw [hFrom_end _ _ _ _ _ _ (by have := HKN.out.1; omega)] at he
      have h1 := congrArg Prod.fst he
      have h2 := congrArg Prod.snd he
      simp only [List.nil_append] at h1 h2
      have HE1 := Lib.hid h1
      have HE2 := Lib.hid h2
      have l9 := blank_length y
      clear he h1 h2
      go_wp2_with (fail)
      with_reducible refine (blank_any HS.out.st).mono ?_
      rintro e2 w4 ⟨rfl, hs4, ho4⟩
      have HO4 := Lib.hid (HS.out.only.trans ho4)
      clear hs4 ho4
      go_wp2
      go_ret
      refine ⟨?_, HBW3.out.trans (HO4.out.low (by have := HSB.out; omega) HBW3.out.size)⟩
      rw [HP.out, HE1.out, HE2.out, HUU.out]
      simp
end Go.Proofs.YtppkpcijmfdfmaaGreatDoor
