/- The walk of FnHeadFloats. Printed by gen_w240.py. -/
import Derived.Test.YtppkpcijmfdfmaaGreatDoorW201
import Derived.Test.YtppkpcijmfdfmaaGreatDoorG8
import Derived.Test.YtppkpcijmfdfmaaGreatDoorG8
import Derived.Test.YtppkpcijmfdfmaaGreatDoorG8
import Derived.BigQuiet
set_option linter.unusedVariables false
set_option linter.unusedSimpArgs false
namespace Go.Proofs.YtppkpcijmfdfmaaGreatDoor
open Go.RowKit
attribute [local go_sem] B_size B_get B_lit B_ext_to B_ext B_toList B_app

theorem tell_none {l : List HF} {s : Bs} (h : findF l s = none) : tell (fTree l) (6, s) = Told.zero := by
  unfold tell
  show toldT (kidIn (l.map (·.name)) (l.map HF.tree) s) 6 = _
  rw [kid_find, h]
  rfl
theorem tell_other {l : List HF} {s : Bs} {f : HF} (h : findF l s = some f) (hk : f.kind ≠ 2) : tell (fTree l) (6, s) = Told.zero := by
  unfold tell
  show toldT (kidIn (l.map (·.name)) (l.map HF.tree) s) 6 = _
  rw [kid_find, h]
  show toldT (some f.tree) 6 = _
  have : ¬ f.tree.kind = 2 := fun e => hk ((tree_two f).1 e)
  simp [toldT, this]
theorem tell_num {l : List HF} {s : Bs} {f : HF} (h : findF l s = some f) (hk : f.kind = 2) (hn : f.num < 18446744073709551616) : ∃ q, tell (fTree l) (6, s) = { Told.zero with ok := true, fl := q } ∧
    (f.num ≤ 9007199254740992 → (FloatKind.f64.format.order q (floatOfInt .f64 ((wholeI f.kind f.minus f.num).getD 0)) == some .eq) = true) := by
  obtain ⟨q, hf, _, h3, h4⟩ := numF_at (s := hNum f.minus f.num) ⟨_, _, hn, rfl⟩
  refine ⟨q, ?_, fun hle => ?_⟩
  · unfold tell
    show toldT (kidIn (l.map (·.name)) (l.map HF.tree) s) 6 = _
    rw [kid_find, h]
    show toldT (some f.tree) 6 = _
    obtain ⟨e1, e2⟩ := tree_num hk
    simp [toldT, (tree_two f).2 hk, e1, e2, hf]
  · have e3 := h4 f.minus f.num rfl hle
    have e4 : (wholeI f.kind f.minus f.num).getD 0 = if f.minus then -(f.num : Int) else f.num := by
      unfold wholeI hInt
      rw [if_pos hk]
      cases hm : f.minus
      · rw [if_neg (by simp), if_neg (by omega)]; rfl
      · by_cases h0 : 0 < f.num
        · rw [if_pos ⟨rfl, h0⟩, if_neg (by omega)]; rfl
        · rw [if_neg (by simp [h0]), if_neg (by omega)]
          have : f.num = 0 := by omega
          rw [this]; rfl
    rw [e4, ← e3]
    exact h3

set_option maxRecDepth 100000 in
set_option maxHeartbeats 8000000 in
theorem floats_walk {a : Option Addr} {c x : Nat} {l : List HF} {name : Bs} {w : World} (hr : FRow w w.heap.size (.slice a l.length c) l) (hl : l.length ≤ 9223372036854775807) (hG : Ground w) (hx : x < 18446744073709551616) :
    Calls Tryz.prog 3 #[.slice a l.length c, .int .u64 x, .string (B name)] w fun e w' => e = .returned (.bool true) ∧ Below w.heap.size w w' := by
  have HF : Hid (∀ {wz : World}, Below w.heap.size w wz → FRow wz w.heap.size (.slice a l.length c) l ∧ Ground wz ∧ w.heap.size ≤ wz.heap.size) := fun h => ⟨hr.below h, hG.below h, h.size⟩
  have HLIVE : Hid (∀ {wz : World}, Below w.heap.size w wz → Calls Tryz.prog 24 #[] wz fun e w' => e = .returned (.bool true) ∧ Below wz.heap.size wz w') := fun h => headLive_any _ (HF.out h).2.1.1
  clear hr hG
  go_enter Tryz.func3, Tryz.ntmps3
  go_wp2_with (fail)
  refine (fits9_any (HF.out (Below.refl _ _)).1 (Nat.le_refl _) hl).mono ?_
  rintro e w1 ⟨⟨bf, rfl⟩, hb1⟩
  have H1 := Lib.hid hb1
  clear hb1
  cases bf
  · go_wp2
    go_ret
    exact ⟨rfl, H1.out⟩
  by_cases hbig : 2147483647 < name.length
  · have f1 : decide ((2147483647 : Int) < name.length) = true := by simp; omega
    go_wp2
    go_ret
    exact ⟨rfl, H1.out⟩
  have f1 : decide ((2147483647 : Int) < name.length) = false := by simp; omega
  go_wp2_with (fail)
  refine (headFits_any (HF.out H1.out).1 (HF.out H1.out).2.2 (HF.out H1.out).2.1 hl).mono ?_
  rintro e w2 ⟨ok, rfl, hok, hb2⟩
  have HOK := Lib.hid hok
  have H2 := Lib.hid (Below.to_next H1.out hb2)
  clear hok hb2
  cases ok
  · go_wp2_with (fail)
    refine (HLIVE.out H2.out).mono ?_
    rintro e w9 ⟨rfl, hb9⟩
    have H9 := Lib.hid (Below.to_next H2.out hb9)
    clear hb9
    go_wp2
    go_ret
    exact ⟨rfl, H9.out⟩
  have HFO : Hid ((∀ f ∈ l, f.Ok) ∧ l.length ≤ 30 ∧ (l.map (·.name)).Nodup) := Lib.hid (HOK.out rfl)
  clear HOK
  by_cases h200 : 200 < name.length
  · have f2 : decide ((200 : Int) < name.length) = true := by simp; omega
    go_wp2_with (fail)
    refine (HLIVE.out H2.out).mono ?_
    rintro e w9 ⟨rfl, hb9⟩
    have H9 := Lib.hid (Below.to_next H2.out hb9)
    clear hb9
    go_wp2
    go_ret
    exact ⟨rfl, H9.out⟩
  have f2 : decide ((200 : Int) < name.length) = false := by simp; omega
  go_wp2_with (fail)
  refine (valid_any name w2 (HF.out H2.out).2.1.2 (by omega)).mono ?_
  rintro e w3 ⟨rfl, hb3⟩
  have H3 := Lib.hid (Below.to_next H2.out hb3)
  clear hb3
  cases hv : Lib.validD name
  · clear hv
    go_wp2_with (fail)
    refine (HLIVE.out H3.out).mono ?_
    rintro e w9 ⟨rfl, hb9⟩
    have H9 := Lib.hid (Below.to_next H3.out hb9)
    clear hb9
    go_wp2
    go_ret
    exact ⟨rfl, H9.out⟩
  clear hv
  go_wp2_with (fail)
  refine (headText_any (HF.out H3.out).1 (HF.out H3.out).2.2 HFO.out.1 HFO.out.2.1 hx).mono ?_
  rintro e w4 ⟨rfl, hb4⟩
  have H4 := Lib.hid (Below.to_next H3.out hb4)
  clear hb4
  obtain ⟨P, hP⟩ : ∃ P, P = hPrint 3 (fTree l) x := ⟨_, rfl⟩
  rw [← hP]
  have HRD : Hid (RdT P (fTree l)) := Lib.hid (by
    rw [hP]
    obtain ⟨n, hn⟩ := fTree_sized HFO.out.1 HFO.out.2.1
    exact rd_print hn (by decide) (by decide) rfl HFO.out.2.2 x)
  clear hP
  obtain ⟨cv, w5, hcv, hba, hb5⟩ := conv_bytes w4 P
  have HBA := Lib.hid hba
  have H5 := Lib.hid (Below.to_next H4.out hb5)
  clear hba hb5
  go_wp2_with (fail)
  refine (headNames_any (HF.out H5.out).1 (HF.out H5.out).2.2 HFO.out.2.1).mono ?_
  rintro e w6 ⟨ng, nc, rfl, hown, hb6⟩
  have HOWN := Lib.hid hown
  have H6 := Lib.hid (Below.to_next H5.out hb6)
  have HB65 := Lib.hid hb6
  clear hown hb6
  obtain ⟨NS, hNS⟩ : ∃ n, n = askNames l name := ⟨_, rfl⟩
  rw [← hNS] at HOWN ⊢
  have HNL : Hid (NS.length ≤ 31 ∧ ∀ s ∈ NS, s.length ≤ 200) := Lib.hid (by
    rw [hNS]
    unfold askNames
    refine ⟨by rw [List.length_cons, List.length_map]; have := HFO.out.2.1; omega, fun s hs => ?_⟩
    rcases List.mem_cons.1 hs with rfl | hs
    · omega
    · obtain ⟨f, hf, rfl⟩ := List.mem_map.1 hs
      exact ((HFO.out.1 f hf).texts f.name (by simp)).1)
  clear hNS
  have HCLB : Hid (∀ {wz : World}, Below w6.heap.size w6 wz → Calls Tryz.prog 29 #[cv] wz fun e w' => ∃ v3, e = .returned v3 ∧ BA w' v3 P ∧ Below wz.heap.size wz w') := by
    intro wz h
    refine (clone_any wz cv P (HBA.out.below (Below.to_next HB65.out h)) (by have := HRD.out.len; omega)).mono ?_
    rintro e w' ⟨v3, rfl, hv3, hb3, _⟩
    exact ⟨v3, rfl, hv3, hb3⟩
  go_wp2_with (fail)
  go_loopw [46] (fun s46 wr => ∃ i : Nat, i ≤ NS.length ∧ s46 = .int .i64 (i : Int) ∧ Hid (Below w6.heap.size w6 wr)) (fun s46 _ => NS.length + 1 - (intOf s46).toNat)
  case atStart => exact ⟨0, Nat.zero_le _, rfl, Lib.hid (Below.refl _ _)⟩
  case round =>
    obtain ⟨i, hi, rfl, HS⟩ := hrel
    by_cases hlt : i < NS.length
    · obtain ⟨s, hs⟩ : ∃ s, NS[i]? = some s := ⟨_, List.getElem?_eq_getElem hlt⟩
      have HSL : Hid (s.length ≤ 200) := Lib.hid (HNL.out.2 s (List.mem_of_getElem? hs))
      have n0 : wr.cell? ⟨ng, i, none⟩ = some (.string (B s)) := (HS.out.cell (p := ⟨ng, i, none⟩) HOWN.out.lt).trans (HOWN.out.cells i s hs)
      have HWR : Hid (Below w.heap.size w wr) := Lib.hid (Below.to_next H6.out HS.out)
      have il : (i : Int) < (NS.length : Int) := by omega
      have i9 : (i : Int) < 100000 := by have := HNL.out.1; omega
      have i0 : (0 : Int) ≤ (i : Int) := by omega
      have HLT := Lib.hid hlt
      have HFIND := Lib.hid (find_any (s := s) (HF.out HWR.out).1 (HF.out HWR.out).2.2 HFO.out.2.1)
      clear hs
      go_wp2_with (fail)
      refine HFIND.out.mono ?_
      rintro e w7 ⟨hfr, hb7⟩
      have H7 := Lib.hid (Below.to_next HWR.out hb7)
      have HT76 := Lib.hid (Below.to_next HS.out hb7)
      clear hb7 n0
      cases hfd : findF l s with
      | none =>
        rw [hfd] at hfr
        have he : e = .returned (.tuple #[.agg #[.string (B []), .int .u8 0, .bool false, .bool false, .int .u64 0, .string (B []), .slice none 0 0], .bool false]) := hfr
        subst he
        clear hfr
        have HFLT : Hid (∀ {wz : World} {v : Value}, Below w.heap.size w wz → BA wz v P → Calls Tryz.prog 28 #[v, .string (B s)] wz fun e w' => e = .returned (.tuple #[.float .f64 0, .bool false]) ∧ Below wz.heap.size wz w') := fun h hv => by
          have h28 := floatRd_any HRD.out hv (HF.out h).2.1.1 (s := s) (by have := HSL.out; omega)
          rw [tell_none hfd] at h28
          exact h28
        dsimp only
        go_upto_region 10 with (fail)
        obtain ⟨wf, hwf⟩ : ∃ wf, wf = w7.alloc (.cells #[.string (B []), .int .u8 0, .bool false, .bool false, .int .u64 0, .string (B []), .slice none 0 0] 32) := ⟨_, rfl⟩
        rw [← hwf]
        have hfb : wf.heap[w7.heap.size]? = some (.cells ([.string (B []), .int .u8 0, .bool false, .bool false, .int .u64 0, .string (B []), .slice none 0 0] : List Value).toArray 32 (0, 0)) := by rw [hwf]; exact heap_alloc_new _ _
        have HWF := Lib.hid (show Below w.heap.size w wf by rw [hwf]; exact Below.to_alloc H7.out _)
        have HW6F := Lib.hid (show Below w6.heap.size w6 wf by rw [hwf]; exact Below.to_alloc HT76.out _)
        have HFB : Hid (∀ {wz : World}, Below wf.heap.size wf wz → ∀ (j : Nat) u, ([.string (B []), .int .u8 0, .bool false, .bool false, .int .u64 0, .string (B []), .slice none 0 0] : List Value)[j]? = some u → wz.cell? ⟨w7.heap.size, j, none⟩ = some u) := fun h j u hu => blk_cell (blk_below h hfb) j u hu
        clear hwf hfb
        generalize w7.heap.size = fb at *
        go_wp2_with (fail)
        refine (HCLB.out HW6F.out).mono ?_
        rintro e w8 ⟨v3, rfl, hv3, hb8⟩
        have HV3 := Lib.hid hv3
        have H8 := Lib.hid (Below.to_next HWF.out hb8)
        have HF8 := Lib.hid hb8
        clear hv3 hb8
        go_wp2_with (fail)
        refine (HFLT.out H8.out HV3.out).mono ?_
        rintro e w10 ⟨rfl, hb10⟩
        have H10 := Lib.hid (Below.to_next H8.out hb10)
        have HF10 := Lib.hid (Below.to_next HF8.out hb10)
        clear hb10
        dsimp only
        have g0 := HFB.out HF10.out 0 _ rfl
        have g1 := HFB.out HF10.out 1 _ rfl
        have g2 := HFB.out HF10.out 2 _ rfl
        have g3 := HFB.out HF10.out 3 _ rfl
        have g4 := HFB.out HF10.out 4 _ rfl
        have g5 := HFB.out HF10.out 5 _ rfl
        have g6 := HFB.out HF10.out 6 _ rfl
        go_wp2_with (fail)
        refine (headIntF w10 [] [] 0 false false 0 0 0 none (by decide)).mono ?_
        rintro e w11 ⟨rfl, hb11⟩
        have H11 := Lib.hid (Below.to_next H10.out hb11)
        have HF11 := Lib.hid (Below.to_next HF10.out hb11)
        clear hb11 g0 g1 g2 g3 g4 g5 g6
        dsimp only
        have g4 := HFB.out HF11.out 4 _ rfl
        go_wp2
        go_roundw
        case rel => exact ⟨i + 1, by have := HLT.out; omega, by go_num, Lib.hid (Below.to_next HW6F.out HF11.out)⟩
        case measure => (have := HLT.out; simp [intOf]; omega)
      | some f =>
        rw [hfd] at hfr
        obtain ⟨la, lc, rfl⟩ := hfr
        have hfok : f.Ok := HFO.out.1 f (List.mem_of_find?_eq_some hfd)
        have hfn := hfok.num
        by_cases hk : f.kind = 2
        · obtain ⟨q, ht, hord⟩ := tell_num hfd hk hfn
          have HFLT : Hid (∀ {wz : World} {v : Value}, Below w.heap.size w wz → BA wz v P → Calls Tryz.prog 28 #[v, .string (B s)] wz fun e w' => e = .returned (.tuple #[.float .f64 q, .bool true]) ∧ Below wz.heap.size wz w') := fun h hv => by
            have h28 := floatRd_any HRD.out hv (HF.out h).2.1.1 (s := s) (by have := HSL.out; omega)
            rw [ht] at h28
            exact h28
          have k1 : ((f.kind : Int) == 2) = true := by rw [beq_iff_eq]; omega
          clear ht hfok hfd
          by_cases hle : f.num ≤ 9007199254740992
          · have k2 : decide ((f.num : Int) ≤ 9007199254740992) = true := by simp; omega
            have k3 := hord hle
            clear hord hle hk
            dsimp only
            go_upto_region 10 with (fail)
            obtain ⟨wf, hwf⟩ : ∃ wf, wf = w7.alloc (.cells #[.string (B f.name), .int .u8 f.kind, .bool f.is, .bool f.minus, .int .u64 f.num, .string (B f.text), .slice la f.list.length lc] 32) := ⟨_, rfl⟩
            rw [← hwf]
            have hfb : wf.heap[w7.heap.size]? = some (.cells ([.string (B f.name), .int .u8 f.kind, .bool f.is, .bool f.minus, .int .u64 f.num, .string (B f.text), .slice la f.list.length lc] : List Value).toArray 32 (0, 0)) := by rw [hwf]; exact heap_alloc_new _ _
            have HWF := Lib.hid (show Below w.heap.size w wf by rw [hwf]; exact Below.to_alloc H7.out _)
            have HW6F := Lib.hid (show Below w6.heap.size w6 wf by rw [hwf]; exact Below.to_alloc HT76.out _)
            have HFB : Hid (∀ {wz : World}, Below wf.heap.size wf wz → ∀ (j : Nat) u, ([.string (B f.name), .int .u8 f.kind, .bool f.is, .bool f.minus, .int .u64 f.num, .string (B f.text), .slice la f.list.length lc] : List Value)[j]? = some u → wz.cell? ⟨w7.heap.size, j, none⟩ = some u) := fun h j u hu => blk_cell (blk_below h hfb) j u hu
            clear hwf hfb
            generalize w7.heap.size = fb at *
            go_wp2_with (fail)
            refine (HCLB.out HW6F.out).mono ?_
            rintro e w8 ⟨v3, rfl, hv3, hb8⟩
            have HV3 := Lib.hid hv3
            have H8 := Lib.hid (Below.to_next HWF.out hb8)
            have HF8 := Lib.hid hb8
            clear hv3 hb8
            go_wp2_with (fail)
            refine (HFLT.out H8.out HV3.out).mono ?_
            rintro e w10 ⟨rfl, hb10⟩
            have H10 := Lib.hid (Below.to_next H8.out hb10)
            have HF10 := Lib.hid (Below.to_next HF8.out hb10)
            clear hb10
            dsimp only
            have g0 := HFB.out HF10.out 0 _ rfl
            have g1 := HFB.out HF10.out 1 _ rfl
            have g2 := HFB.out HF10.out 2 _ rfl
            have g3 := HFB.out HF10.out 3 _ rfl
            have g4 := HFB.out HF10.out 4 _ rfl
            have g5 := HFB.out HF10.out 5 _ rfl
            have g6 := HFB.out HF10.out 6 _ rfl
            go_wp2_with (fail)
            refine (headIntF w10 f.name f.text f.kind f.is f.minus f.num f.list.length lc la hfn).mono ?_
            rintro e w11 ⟨rfl, hb11⟩
            have H11 := Lib.hid (Below.to_next H10.out hb11)
            have HF11 := Lib.hid (Below.to_next HF10.out hb11)
            clear hb11 g0 g1 g2 g3 g4 g5 g6
            dsimp only
            have g4 := HFB.out HF11.out 4 _ rfl
            generalize (wholeI f.kind f.minus f.num).isSome = nb at *
            generalize (wholeI f.kind f.minus f.num).getD 0 = nn at *
            obtain ⟨y, hy⟩ : ∃ y, y = floatOfInt .f64 nn := ⟨_, rfl⟩
            rw [← hy] at k3
            have hcy : ∀ W : World, (convert 2 35 (.int .i64 nn)).run Tryz.prog W = .ok (.float .f64 y) W := fun W => by rw [hy]; exact run_convert_int_float W 2 35 .i64 .f64 nn (by rw [Tryz.underlying2]; rfl) Tryz.underlying35
            have k4 : (FloatKind.f64.format.order q y != some .eq) = false := by show (!(FloatKind.f64.format.order q y == some .eq)) = false; rw [k3]; rfl
            clear hy k3
            go_wp2
            go_roundw
            case rel => exact ⟨i + 1, by have := HLT.out; omega, by go_num, Lib.hid (Below.to_next HW6F.out HF11.out)⟩
            case measure => (have := HLT.out; simp [intOf]; omega)
          · have k2 : decide ((f.num : Int) ≤ 9007199254740992) = false := by simp; omega
            clear hord hle hk
            dsimp only
            go_upto_region 10 with (fail)
            obtain ⟨wf, hwf⟩ : ∃ wf, wf = w7.alloc (.cells #[.string (B f.name), .int .u8 f.kind, .bool f.is, .bool f.minus, .int .u64 f.num, .string (B f.text), .slice la f.list.length lc] 32) := ⟨_, rfl⟩
            rw [← hwf]
            have hfb : wf.heap[w7.heap.size]? = some (.cells ([.string (B f.name), .int .u8 f.kind, .bool f.is, .bool f.minus, .int .u64 f.num, .string (B f.text), .slice la f.list.length lc] : List Value).toArray 32 (0, 0)) := by rw [hwf]; exact heap_alloc_new _ _
            have HWF := Lib.hid (show Below w.heap.size w wf by rw [hwf]; exact Below.to_alloc H7.out _)
            have HW6F := Lib.hid (show Below w6.heap.size w6 wf by rw [hwf]; exact Below.to_alloc HT76.out _)
            have HFB : Hid (∀ {wz : World}, Below wf.heap.size wf wz → ∀ (j : Nat) u, ([.string (B f.name), .int .u8 f.kind, .bool f.is, .bool f.minus, .int .u64 f.num, .string (B f.text), .slice la f.list.length lc] : List Value)[j]? = some u → wz.cell? ⟨w7.heap.size, j, none⟩ = some u) := fun h j u hu => blk_cell (blk_below h hfb) j u hu
            clear hwf hfb
            generalize w7.heap.size = fb at *
            go_wp2_with (fail)
            refine (HCLB.out HW6F.out).mono ?_
            rintro e w8 ⟨v3, rfl, hv3, hb8⟩
            have HV3 := Lib.hid hv3
            have H8 := Lib.hid (Below.to_next HWF.out hb8)
            have HF8 := Lib.hid hb8
            clear hv3 hb8
            go_wp2_with (fail)
            refine (HFLT.out H8.out HV3.out).mono ?_
            rintro e w10 ⟨rfl, hb10⟩
            have H10 := Lib.hid (Below.to_next H8.out hb10)
            have HF10 := Lib.hid (Below.to_next HF8.out hb10)
            clear hb10
            dsimp only
            have g0 := HFB.out HF10.out 0 _ rfl
            have g1 := HFB.out HF10.out 1 _ rfl
            have g2 := HFB.out HF10.out 2 _ rfl
            have g3 := HFB.out HF10.out 3 _ rfl
            have g4 := HFB.out HF10.out 4 _ rfl
            have g5 := HFB.out HF10.out 5 _ rfl
            have g6 := HFB.out HF10.out 6 _ rfl
            go_wp2_with (fail)
            refine (headIntF w10 f.name f.text f.kind f.is f.minus f.num f.list.length lc la hfn).mono ?_
            rintro e w11 ⟨rfl, hb11⟩
            have H11 := Lib.hid (Below.to_next H10.out hb11)
            have HF11 := Lib.hid (Below.to_next HF10.out hb11)
            clear hb11 g0 g1 g2 g3 g4 g5 g6
            dsimp only
            have g4 := HFB.out HF11.out 4 _ rfl
            go_wp2
            go_roundw
            case rel => exact ⟨i + 1, by have := HLT.out; omega, by go_num, Lib.hid (Below.to_next HW6F.out HF11.out)⟩
            case measure => (have := HLT.out; simp [intOf]; omega)
        · have k1 : ((f.kind : Int) == 2) = false := by rw [beq_eq_false_iff_ne]; omega
          have HFLT : Hid (∀ {wz : World} {v : Value}, Below w.heap.size w wz → BA wz v P → Calls Tryz.prog 28 #[v, .string (B s)] wz fun e w' => e = .returned (.tuple #[.float .f64 0, .bool false]) ∧ Below wz.heap.size wz w') := fun h hv => by
            have h28 := floatRd_any HRD.out hv (HF.out h).2.1.1 (s := s) (by have := HSL.out; omega)
            rw [tell_other hfd hk] at h28
            exact h28
          clear hfok hk hfd
          dsimp only
          go_upto_region 10 with (fail)
          obtain ⟨wf, hwf⟩ : ∃ wf, wf = w7.alloc (.cells #[.string (B f.name), .int .u8 f.kind, .bool f.is, .bool f.minus, .int .u64 f.num, .string (B f.text), .slice la f.list.length lc] 32) := ⟨_, rfl⟩
          rw [← hwf]
          have hfb : wf.heap[w7.heap.size]? = some (.cells ([.string (B f.name), .int .u8 f.kind, .bool f.is, .bool f.minus, .int .u64 f.num, .string (B f.text), .slice la f.list.length lc] : List Value).toArray 32 (0, 0)) := by rw [hwf]; exact heap_alloc_new _ _
          have HWF := Lib.hid (show Below w.heap.size w wf by rw [hwf]; exact Below.to_alloc H7.out _)
          have HW6F := Lib.hid (show Below w6.heap.size w6 wf by rw [hwf]; exact Below.to_alloc HT76.out _)
          have HFB : Hid (∀ {wz : World}, Below wf.heap.size wf wz → ∀ (j : Nat) u, ([.string (B f.name), .int .u8 f.kind, .bool f.is, .bool f.minus, .int .u64 f.num, .string (B f.text), .slice la f.list.length lc] : List Value)[j]? = some u → wz.cell? ⟨w7.heap.size, j, none⟩ = some u) := fun h j u hu => blk_cell (blk_below h hfb) j u hu
          clear hwf hfb
          generalize w7.heap.size = fb at *
          go_wp2_with (fail)
          refine (HCLB.out HW6F.out).mono ?_
          rintro e w8 ⟨v3, rfl, hv3, hb8⟩
          have HV3 := Lib.hid hv3
          have H8 := Lib.hid (Below.to_next HWF.out hb8)
          have HF8 := Lib.hid hb8
          clear hv3 hb8
          go_wp2_with (fail)
          refine (HFLT.out H8.out HV3.out).mono ?_
          rintro e w10 ⟨rfl, hb10⟩
          have H10 := Lib.hid (Below.to_next H8.out hb10)
          have HF10 := Lib.hid (Below.to_next HF8.out hb10)
          clear hb10
          dsimp only
          have g0 := HFB.out HF10.out 0 _ rfl
          have g1 := HFB.out HF10.out 1 _ rfl
          have g2 := HFB.out HF10.out 2 _ rfl
          have g3 := HFB.out HF10.out 3 _ rfl
          have g4 := HFB.out HF10.out 4 _ rfl
          have g5 := HFB.out HF10.out 5 _ rfl
          have g6 := HFB.out HF10.out 6 _ rfl
          go_wp2_with (fail)
          refine (headIntF w10 f.name f.text f.kind f.is f.minus f.num f.list.length lc la hfn).mono ?_
          rintro e w11 ⟨rfl, hb11⟩
          have H11 := Lib.hid (Below.to_next H10.out hb11)
          have HF11 := Lib.hid (Below.to_next HF10.out hb11)
          clear hb11 g0 g1 g2 g3 g4 g5 g6
          dsimp only
          have g4 := HFB.out HF11.out 4 _ rfl
          go_wp2
          go_roundw
          case rel => exact ⟨i + 1, by have := HLT.out; omega, by go_num, Lib.hid (Below.to_next HW6F.out HF11.out)⟩
          case measure => (have := HLT.out; simp [intOf]; omega)
    · obtain rfl : i = NS.length := by omega
      have HSR := Lib.hid (Below.to_next H6.out HS.out)
      go_wp2_with (fail)
      refine (HLIVE.out HSR.out).mono ?_
      rintro e w9 ⟨rfl, hb9⟩
      have H9 := Lib.hid (Below.to_next HSR.out hb9)
      clear hb9
      go_wp2
      go_ret
      exact ⟨rfl, H9.out⟩
end Go.Proofs.YtppkpcijmfdfmaaGreatDoor
