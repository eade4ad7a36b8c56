/- The walk of FnHeadWithout. Printed by gen_w225.py. -/
import Derived.Test.YtppkpcijmfdfmaaGreatDoorW189
import Derived.Test.YtppkpcijmfdfmaaGreatDoorG5
import Derived.Test.YtppkpcijmfdfmaaGreatDoorH1
import Derived.Test.YtppkpcijmfdfmaaGreatDoorW134
import Derived.Deep.DeepCutAuto
set_option linter.unusedVariables false
set_option linter.unusedSimpArgs false
namespace Go.Proofs.YtppkpcijmfdfmaaGreatDoor
open Go.RowKit
attribute [local go_sem] B_size B_get B_lit B_ext_to B_ext B_toList B_app

set_option maxRecDepth 100000 in
set_option maxHeartbeats 8000000 in
theorem without_walk {d : Nat} {t : HT} {nv kv : Value} {B0 x at0 : Nat} {w : World} (hr0 : RepT w B0 d nv kv t) (hcap : ∀ a n c, kv = .slice a n c → n ≤ c) (hG : Ground w) (hB : B0 ≤ w.heap.size) (hx : x < 18446744073709551616) (hat : at0 < 256) :
    Calls Tryz.prog 18 #[.agg (tcells t nv kv).toArray, .int .u64 x, .int .u8 at0] w fun e w' => e = .returned (.bool true) ∧ Below w.heap.size w w' := by
  obtain ⟨dd, rfl⟩ : ∃ e, d = e + 1 := by
    cases d with
    | zero => exact hr0.elim
    | succ e => exact ⟨e, rfl⟩
  have hr := hr0
  clear hr0
  obtain ⟨⟨an, cn, rfl⟩, ak, ck, rfl⟩ := hr.slices
  obtain ⟨w1, hw1⟩ : ∃ w1, w1 = w.alloc (.cells (tcells t (.slice an t.names.length cn) (.slice ak t.kids.length ck)).toArray 45) := ⟨_, rfl⟩
  have hb1 : Below w.heap.size w w1 := by rw [hw1]; exact (Below.refl _ _).alloc (Nat.le_refl _) _
  have hlt1 : w.heap.size < w1.heap.size := by rw [hw1]; simp
  have BOX : Hid (∀ {wz : World}, Below w1.heap.size w1 wz → ∀ (j : Nat) u, (tcells t (.slice an t.names.length cn) (.slice ak t.kids.length ck))[j]? = some u → wz.cell? ⟨w.heap.size, j, none⟩ = some u) := by
    intro wz hb j u hu
    refine (hb.cell (p := ⟨w.heap.size, j, none⟩) hlt1).trans ?_
    rw [hw1, cell_box]
    exact hu
  have HF : Hid (∀ {wz : World}, Below w1.heap.size w1 wz → RepT wz B0 (dd + 1) (.slice an t.names.length cn) (.slice ak t.kids.length ck) t ∧ Ground wz ∧ B0 ≤ wz.heap.size ∧ Below w.heap.size w wz) := by
    intro wz hb
    have hb2 : Below w.heap.size w wz := hb1.trans (hb.mono hb1.size)
    exact ⟨hr.below (hb2.mono hB), hG.below hb2, Nat.le_trans hB hb2.size, hb2⟩
  have HFIT := Lib.hid (fits11_any (HF.out (Below.refl _ _)).1 (HF.out (Below.refl _ _)).2.2.1)
  have HOBJ : Hid (∀ {wz : World}, Below w1.heap.size w1 wz → Calls Tryz.prog 36 #[.agg (tcells t (.slice an t.names.length cn) (.slice ak t.kids.length ck)).toArray, .slice none 0 0] wz fun e w' => ∃ ok, e = .returned (.bool ok) ∧ (ok = true → t.kind = 5 ∧ Right (dd + 1) t ∧ TextsOk []) ∧ Below wz.heap.size wz w') :=
    fun h => object_any (HF.out h).1 (HF.out h).2.1.2 (HF.out h).2.2.1 (Or.inl ⟨none, 0, rfl, rfl⟩) (by simp)
  have hckp : t.kids.length ≤ ck := hcap _ _ _ rfl
  clear hcap
  clear hr hG hb1
  simp only [tcells] at hw1 HFIT HOBJ BOX ⊢
  have HW1 := Lib.hid hw1
  clear hw1
  go_enter Tryz.func18, Tryz.ntmps18
  go_wp2_with (fail)
  rw [← HW1.out]
  refine HFIT.out.mono ?_
  rintro e w2 ⟨⟨bf, rfl⟩, hb2⟩
  have H2 := Lib.hid hb2
  clear hb2
  have LIVE : Hid (∀ {wz : World}, Below w1.heap.size w1 wz → Calls Tryz.prog 34 #[] wz fun e w' => e = .returned (.bool true) ∧ Below w.heap.size w w') := fun {wz} h =>
    (live_any wz (HF.out h).2.1.1).mono fun e w' he => ⟨he.1, (HF.out h).2.2.2.trans (he.2.mono (HF.out h).2.2.2.size)⟩
  cases bf
  · go_wp2
    go_ret
    exact ⟨rfl, (HF.out H2.out).2.2.2⟩
  have q0 := BOX.out H2 0 _ rfl
  have q1 := BOX.out H2 1 _ rfl
  have q2 := BOX.out H2 2 _ rfl
  have q3 := BOX.out H2 3 _ rfl
  have q4 := BOX.out H2 4 _ rfl
  have q5 := BOX.out H2 5 _ rfl
  have q6 := BOX.out H2 6 _ rfl
  go_wp2_with (fail)
  refine (HOBJ.out H2.out).mono ?_
  rintro e w3 ⟨ok, rfl, hy, hbo⟩
  have HY := Lib.hid hy
  have H3 := Lib.hid (Below.to_next H2.out hbo)
  clear hy hbo q0 q1 q2 q3 q4 q5 q6
  cases ok
  · go_wp2_with (fail)
    refine (LIVE.out H3.out).mono ?_
    rintro e w9 ⟨rfl, hb9⟩
    have H9 := Lib.hid hb9
    clear hb9
    go_wp2
    go_ret
    exact ⟨rfl, H9.out⟩
  have HRT : Hid (t.kind = 5 ∧ Right (dd + 1) t ∧ TextsOk []) := ⟨(HY.out rfl).1, (HY.out rfl).2.1, (HY.out rfl).2.2⟩
  clear HY
  have q0 := BOX.out H3 0 _ rfl
  have q1 := BOX.out H3 1 _ rfl
  have q2 := BOX.out H3 2 _ rfl
  have q3 := BOX.out H3 3 _ rfl
  have q4 := BOX.out H3 4 _ rfl
  have q5 := BOX.out H3 5 _ rfl
  have q6 := BOX.out H3 6 _ rfl
  by_cases hk0 : t.kids.length = 0
  · have f0 : ((t.kids.length : Int) == 0) = true := by rw [beq_iff_eq]; omega
    go_wp2_with (fail)
    refine (LIVE.out H3.out).mono ?_
    rintro e w9 ⟨rfl, hb9⟩
    have H9 := Lib.hid hb9
    clear hb9
    go_wp2
    go_ret
    exact ⟨rfl, H9.out⟩
  have f0 : ((t.kids.length : Int) == 0) = false := by rw [beq_eq_false_iff_ne]; omega
  have HN := Lib.hid (rightNames HRT.out.2.1 HRT.out.1)
  obtain ⟨nb, no, rfl, hnb, hncap, hnc⟩ : ∃ nb no, an = some ⟨nb, no, none⟩ ∧ nb < B0 ∧ t.names.length ≤ cn ∧ ∀ {wz : World}, Below w1.heap.size w1 wz → ∀ (i : Nat) s, t.names[i]? = some s → wz.cell? ⟨nb, no + i, none⟩ = some (.string (B s)) := by
    have h1 := names_nsb (HF.out (Below.refl _ _)).1
    rcases h1 with ⟨_, _, _, h2⟩ | ⟨b, off, c, h2, h3, h4⟩
    · have := HN.out.2.2.1; rw [h2] at this; simp at this; omega
    · cases h2
      exact ⟨b, off, rfl, h3.1, h3.2, fun hb i s hi => (hb.cell (p := ⟨b, off + i, none⟩) (Nat.lt_of_lt_of_le h3.1 (HF.out (Below.refl _ _)).2.2.1)).trans (h4 i s hi)⟩
  have HNB := Lib.hid hnb
  have HNC : Hid (∀ {wz : World}, Below w1.heap.size w1 wz → ∀ (i : Nat) s, t.names[i]? = some s → wz.cell? ⟨nb, no + i, none⟩ = some (.string (B s))) := fun h => hnc h
  clear hnb hnc
  obtain ⟨ps, hrp, hkr⟩ := KidsB.krow (HF.out (Below.refl _ _)).1.2.2 (HF.out (Below.refl _ _)).2.2.1
  obtain ⟨kb, ko, rfl, hkb, hkc⟩ : ∃ kb ko, ak = some ⟨kb, ko, none⟩ ∧ kb < w1.heap.size ∧ ∀ (j : Nat) u, (flatK t.kids ps)[j]? = some u → w1.cell? ⟨kb, ko + j, none⟩ = some u := by
    obtain ⟨_, ⟨_, _, _, e⟩ | ⟨b, off, c, e, h1, h2⟩⟩ := hkr
    · exfalso; apply hk0; rw [e]; rfl
    · cases e; exact ⟨b, off, rfl, h1, h2⟩
  have HPS := Lib.hid (And.intro hrp (And.intro hkb hkc))
  clear hrp hkr hkb hkc
  obtain ⟨k, hk⟩ : ∃ k, k = at0 % t.kids.length := ⟨_, rfl⟩
  have hn0 : 0 < t.names.length := by have := HN.out.2.2.1; omega
  have hkk : 0 < t.kids.length := by omega
  have hkn : k < t.names.length := by have := HN.out.2.2.1; rw [hk]; have := Nat.mod_lt at0 (show 0 < t.kids.length by omega); omega
  have hkl : k < t.kids.length := by have := HN.out.2.2.1; omega
  have e0 : IntKind.i64.wrap (at0 : Int) = (at0 : Int) := by rw [IntKind.wrap_i64]; omega
  have e1 : ((at0 : Int).tmod (t.kids.length : Int)) = (k : Int) := by rw [hk]; exact Int.ofNat_tmod at0 t.kids.length
  have e2 : ¬ (t.kids.length = 0) := by omega
  have e2c : ¬ ((t.kids.length : Int) = 0) := by omega
  have il : (k : Int) < t.kids.length := by omega
  have i0 : (0 : Int) ≤ (k : Int) := by omega
  have i9 : (k : Int) < 1000001 := by have := HN.out.2.1; omega
  clear hk
  go_upto_region 7 with (fail)
  obtain ⟨wu, hwu⟩ : ∃ wu, wu = w3.alloc (.cells #[.int .u8 t.kind, .bool t.is, .bool t.minus, .int .u64 t.num, .string (B t.text), .slice (some ⟨nb, no, none⟩) t.names.length cn, .slice (some ⟨kb, ko, none⟩) t.kids.length ck] 45) := ⟨_, rfl⟩
  rw [← hwu]
  have HUB : Hid (wu.heap[w3.heap.size]? = some (.cells (tcells t (.slice (some ⟨nb, no, none⟩) t.names.length cn) (.slice (some ⟨kb, ko, none⟩) t.kids.length ck)).toArray 45 (0, 0))) := Lib.hid (by rw [hwu]; exact heap_alloc_new _ _)
  have HWU : Hid (Below w1.heap.size w1 wu ∧ w3.heap.size < wu.heap.size ∧ w1.heap.size ≤ w3.heap.size) := Lib.hid ⟨by rw [hwu]; exact Below.to_alloc H3.out _, by rw [hwu]; simp, H3.out.size⟩
  clear hwu q0 q1 q2 q3 q4 q5 q6
  obtain ⟨L, hL⟩ : ∃ L, L = t.names.take k ++ t.names.drop (k + 1) := ⟨_, rfl⟩
  obtain ⟨LK, hLK⟩ : ∃ L, L = t.kids.take k ++ t.kids.drop (k + 1) := ⟨_, rfl⟩
  have HNL : Hid (t.names.length ≤ 200 ∧ t.kids.length ≤ 200 ∧ t.names.length = t.kids.length) := Lib.hid ⟨HN.out.2.1, by have := HN.out.2.1; have := HN.out.2.2.1; omega, HN.out.2.2.1⟩
  have HLL : Hid (L.length ≤ 401 ∧ LK.length ≤ 401) := Lib.hid (by
    have := HNL.out
    rw [hL, hLK, List.length_append, List.length_append]
    simp only [List.length_take, List.length_drop]
    omega)
  have gw : IntKind.i64.wrap ((k : Int) + 1) = (k : Int) + 1 := by rw [IntKind.wrap_i64]; omega
  have gt : ((k : Int) + 1).toNat = k + 1 := by omega
  have g0 : (0 : Int) ≤ (k : Int) + 1 := by omega
  have g1 : (k : Int) + 1 ≤ (t.names.length : Int) := by omega
  have g2 : (t.names.length : Int) ≤ (cn : Int) := by omega
  have g3 : (k : Int) ≤ (cn : Int) := by omega
  have g4 : (k : Int) + 1 ≤ (t.kids.length : Int) := by omega
  have g5 : (t.kids.length : Int) ≤ (ck : Int) := by omega
  have g6 : (k : Int) ≤ (ck : Int) := by omega
  obtain ⟨ad1, had1⟩ : ∃ a, (if cn = k + 1 then (some ⟨nb, no, none⟩ : Option Addr) else some ⟨nb, no + (k + 1), none⟩) = a := ⟨_, rfl⟩
  obtain ⟨ad2, had2⟩ : ∃ a, (if ck = k + 1 then (some ⟨kb, ko, none⟩ : Option Addr) else some ⟨kb, ko + (k + 1) * 7, none⟩) = a := ⟨_, rfl⟩
  have HAD := Lib.hid (And.intro had1 had2)
  have HCATN : Hid (∀ {wz : World} {b : Nat}, Past w1 wu wz → wz.heap[b]? = some (.cells ([Value.slice (some ⟨nb, no, none⟩) (k) (cn), Value.slice (ad1) (t.names.length - (k + 1)) (cn - (k + 1))] : List Value).toArray 29 (0, 0)) → Calls Tryz.prog 48 #[.slice (some ⟨b, 0, none⟩) 2 2] wz fun e w' => ∃ a c, e = .returned (.slice a L.length c) ∧ RowN wz.heap.size w' (.slice a L.length c) L ∧ Below wz.heap.size wz w' ∧ wu.heap.size ≤ wz.heap.size) := by
    intro wz b h hb
    have hlt : nb < wz.heap.size := Nat.lt_of_lt_of_le HNB.out (HF.out h.below).2.2.1
    have hnc : ∀ (i : Nat) s, t.names[i]? = some s → wz.cell? ⟨nb, no + i, none⟩ = some (.string (B s)) := HNC.out h.below
    have hl := HNL.out
    rw [hL]
    refine (concatN_box (l1 := t.names.take k) (l2 := t.names.drop (k + 1)) (by (simp only [List.length_take, List.length_drop] <;> omega)) (by (simp only [List.length_take, List.length_drop] <;> omega)) (ns_take hlt hnc k (by rw [List.length_take]; omega)) (ns_drop_ad hlt hnc (k + 1) hncap HAD.out.1 (by rw [List.length_drop])) hb (by omega) (by omega)).mono ?_
    rintro e w' ⟨a, c, h1, h2, h3⟩
    exact ⟨a, c, h1, h2, h3, h.size⟩
  have HCATK : Hid (∀ {wz : World} {b : Nat}, Past w1 wu wz → wz.heap[b]? = some (.cells ([Value.slice (some ⟨kb, ko, none⟩) (k) (ck), Value.slice (ad2) (t.kids.length - (k + 1)) (ck - (k + 1))] : List Value).toArray 43 (0, 0)) → Calls Tryz.prog 49 #[.slice (some ⟨b, 0, none⟩) 2 2] wz fun e w' => ∃ a c, e = .returned (.slice a LK.length c) ∧ RowK wz.heap.size w' (.slice a LK.length c) LK (ps.take k ++ ps.drop (k + 1)) ∧ Below wz.heap.size wz w' ∧ wu.heap.size ≤ wz.heap.size) := by
    intro wz b h hb
    have hlt : kb < wz.heap.size := Nat.lt_of_lt_of_le HPS.out.2.1 h.below.size
    have hkc : ∀ (j : Nat) u, (flatK t.kids ps)[j]? = some u → wz.cell? ⟨kb, ko + j, none⟩ = some u := fun j u hu => (h.below.cell (p := ⟨kb, ko + j, none⟩) HPS.out.2.1).trans (HPS.out.2.2 j u hu)
    have hl := HNL.out
    have hps := HPS.out.1.1
    have ho := HPS.out.1.one
    rw [hLK]
    refine (concatK_box (l1 := t.kids.take k) (l2 := t.kids.drop (k + 1)) (ps1 := ps.take k) (ps2 := ps.drop (k + 1)) (by (simp only [List.length_take, List.length_drop] <;> omega)) (by (simp only [List.length_take, List.length_drop] <;> omega)) (krow_take hps hlt hkc k (by rw [List.length_take]; omega)) (krow_drop_ad hps hlt hkc (k + 1) hckp HAD.out.2 (by rw [List.length_drop])) (ho.take k) (ho.drop (k + 1)) hb (by omega) (by omega)).mono ?_
    rintro e w' ⟨a, c, h1, h2, h3⟩
    exact ⟨a, c, h1, h2, h3, h.size⟩
  have hP0 : Past w1 wu wu.drew := ⟨HWU.out.1.drew, Nat.le_refl _⟩
  have HRP : Hid (∀ {wz : World}, Below w1.heap.size w1 wz → RepP wz w1.heap.size dd LK (ps.take k ++ ps.drop (k + 1))) := by
    intro wz h
    have h0 := (HF.out (Below.refl w1.heap.size w1)).2.2.1
    have h1 := (HPS.out.1.below (h.mono h0)).up h0
    rw [hLK]
    exact (h1.take k).app (h1.drop (k + 1))
  have HT0 : Hid (t.kind < 256 ∧ t.num < 18446744073709551616) := Lib.hid ⟨(HF.out (Below.refl w1.heap.size w1)).1.1.1, (HF.out (Below.refl w1.heap.size w1)).1.1.2.1⟩
  have HL := Lib.hid (And.intro hL hLK)
  clear hL hLK
  go_cut [8] (fun s8 wx => s8 = .pointer (some ⟨w3.heap.size, 0, none⟩) ∧ Hid (UBox w1 wx w3.heap.size (dd + 1) (t.re L LK)))
  case first =>
    go_region_held_law (fun w' => (w'.cell? ⟨w.heap.size, 5, none⟩ = some (.slice (some ⟨nb, no, none⟩) t.names.length cn) ∧ w'.cell? ⟨w.heap.size, 6, none⟩ = some (.slice (some ⟨kb, ko, none⟩) t.kids.length ck)) ∧ Past w1 wu w')
      (first
        | (go_split_ands
           refine (fun hz => ⟨⟨BOX.out hz.below 5 _ rfl, BOX.out hz.below 6 _ rfl⟩, hz⟩) ?_
           first
             | assumption
             | exact Past.alloc (by assumption) _
             | exact Past.next (by assumption) (by assumption)
             | exact Past.set (by assumption) HWU.out.2.2 _ _))
      (first
        | (go_at_call 48; go_split_ands; refine (HCATN.out (by assumption) (by (repeat (first | with_reducible exact heap_alloc_new _ _ | with_reducible exact blk_new (by first | with_reducible rfl | (simp only [size_of_alloc, size_of_drew]; done)) | with_reducible exact HUB.out | with_reducible refine blk_drew ?_ | with_reducible refine blk_alloc ?_ | with_reducible refine blk_below hbk ?_ | with_reducible refine blk_below hba ?_)))).mono ?_; rintro e wa ⟨aa, ca, rfl, hra, hba, hza⟩)
        | (go_at_call 49; go_split_ands; refine (HCATK.out (by assumption) (by (repeat (first | with_reducible exact heap_alloc_new _ _ | with_reducible exact blk_new (by first | with_reducible rfl | (simp only [size_of_alloc, size_of_drew]; done)) | with_reducible exact HUB.out | with_reducible refine blk_drew ?_ | with_reducible refine blk_alloc ?_ | with_reducible refine blk_below hbk ?_ | with_reducible refine blk_below hba ?_)))).mono ?_; rintro e wk ⟨ah, ch, rfl, hrk, hbk, hzk⟩; have hbq : wk.heap[w3.heap.size]? = some (.cells (tcells t (.slice (some ⟨nb, no, none⟩) t.names.length cn) (.slice (some ⟨kb, ko, none⟩) t.kids.length ck)).toArray 45 (0, 0)) := (by (repeat (first | with_reducible exact heap_alloc_new _ _ | with_reducible exact blk_new (by first | with_reducible rfl | (simp only [size_of_alloc, size_of_drew]; done)) | with_reducible exact HUB.out | with_reducible refine blk_drew ?_ | with_reducible refine blk_alloc ?_ | with_reducible refine blk_below hbk ?_ | with_reducible refine blk_below hba ?_))); have hu5 := blk_cell hbq 5 _ rfl; have hu6 := blk_cell hbq 6 _ rfl; have hf5 := blk_free hbq 5; have hf6 := blk_free hbq 6; have HON := Lib.hid (RowN.below (w' := wk) hra (by (repeat (first | with_reducible exact Below.refl _ _ | with_reducible refine Below.drew ?_ | with_reducible refine Below.to_alloc ?_ _ | with_reducible refine Below.to_next ?_ hbk | with_reducible refine Below.to_next ?_ hba)))); have HBQ := Lib.hid hbq; have HPQ := Lib.hid (Past.next (w1 := w1) (wu := wu) (by assumption) hbk); clear hbq))
    all_goals
      go_split_ands
      have hfin := ubox_rows (ns := L) (ks := LK) (t := t) HPQ.out.below HWU.out.2.2 HBQ.out HON.out hrk (HRP.out HPQ.out.below) (Nat.lt_of_lt_of_le HWU.out.2.1 hza) (Nat.lt_of_lt_of_le HWU.out.2.1 hzk) (by have := HLL.out.1; omega) (by have := HLL.out.2; omega) HT0.out
      go_wp2_with (fail)
      go_meet
      exact ⟨rfl, Lib.hid hfin⟩
  case rest =>
    obtain ⟨rfl, HU⟩ := hcut
    obtain ⟨u, hu⟩ : ∃ u, u = t.re L LK := ⟨_, rfl⟩
    obtain ⟨s, hs⟩ : ∃ s, t.names[k]? = some s := ⟨_, List.getElem?_eq_getElem hkn⟩
    have HS := Lib.hid hs
    clear hs
    have HSU : Hid (∃ n', Sized 401 61 (dd + 1) u 1 n') := Lib.hid (by
      obtain ⟨n1, hs1, _⟩ := HRT.out.2.1
      have := sized_without hs1 HRT.out.1 k
      rw [hu, HL.out.1, HL.out.2]
      exact this)
    have HKU : Hid (u.kind = 5 ∧ u.names.Nodup ∧ (∀ x ∈ u.names, kidIn t.names t.kids x = kidIn u.names u.kids x) ∧ kidIn u.names u.kids s = none ∧ (∀ x ∈ u.names, x ∈ t.names) ∧ u.names.length ≤ 401) := Lib.hid (by
      rw [hu, re_kind, re_names, re_kids, HL.out.1, HL.out.2]
      refine ⟨HRT.out.1, nodup_without k HN.out.2.2.2, fun x hx => (kid_without HN.out.2.2.1 (out_ne HN.out.2.2.2 hx)).symm, kidIn_none (nodup_out HN.out.2.2.2 HS.out), fun x hx => ?_, by rw [← HL.out.1]; exact HLL.out.1⟩
      rcases List.mem_append.1 hx with hx | hx
      · exact List.mem_of_mem_take hx
      · exact List.mem_of_mem_drop hx)
    obtain ⟨hbU0, hltU, an3, cn3, ak3, ck3, hrU, hcU⟩ := HU.out
    rw [← hu] at hrU hcU
    have hbU := Lib.hid hbU0
    have HRU := Lib.hid hrU
    have HUC : Hid (∀ {wz : World}, Below wc.heap.size wc wz → ∀ (j : Nat) x, (tcells u (.slice an3 u.names.length cn3) (.slice ak3 u.kids.length ck3))[j]? = some x → wz.cell? ⟨w3.heap.size, j, none⟩ = some x) := fun h j x hx => (h.cell (p := ⟨w3.heap.size, j, none⟩) hltU).trans (hcU j x hx)
    clear hu HU hbU0 hltU hrU hcU
    obtain ⟨cv, cw, hc⟩ := convFn
    have hcv := fun P X => (hc P X).1
    have HC := Lib.hid (fun P X => (hc P X).2)
    clear hc
    obtain ⟨P1, hP1⟩ : ∃ P, P = hPrint (dd + 1) t x := ⟨_, rfl⟩
    obtain ⟨P2, hP2⟩ : ∃ P, P = hPrint (dd + 1) u x := ⟨_, rfl⟩
    have HPT : Hid (∀ {wz : World}, Below wc.heap.size wc wz → Calls Tryz.prog 31 #[.agg #[.int .u8 t.kind, .bool t.is, .bool t.minus, .int .u64 t.num, .string (B t.text), .slice (some ⟨nb, no, none⟩) t.names.length cn, .slice (some ⟨kb, ko, none⟩) t.kids.length ck], .int .u64 x] wz fun e w' => e = .returned (.string (B P1)) ∧ Below wz.heap.size wz w') := fun h => by
      have h' := Below.to_next hbU.out h
      rw [hP1]
      exact rightPrint (x := x) (HF.out h').1 HRT.out.2.1 (HF.out h').2.2.1 hx
    have HPU : Hid (∀ {wz : World}, Below wc.heap.size wc wz → Calls Tryz.prog 31 #[.agg #[.int .u8 u.kind, .bool u.is, .bool u.minus, .int .u64 u.num, .string (B u.text), .slice an3 u.names.length cn3, .slice ak3 u.kids.length ck3], .int .u64 x] wz fun e w' => e = .returned (.string (B P2)) ∧ Below wz.heap.size wz w') := fun h => by
      rw [hP2]
      obtain ⟨n, hs⟩ := HSU.out
      exact print_any (x := x) (HRU.out.below h) hs (by have := sized_le hs (by decide); omega) h.size hx
    have HSAME : Hid (∀ {wz : World} {v1 v2 : Value}, Below wc.heap.size wc wz → BA wz v1 P1 → BA wz v2 P2 → Calls Tryz.prog 43 #[v1, v2, .slice an3 u.names.length cn3] wz fun e w' => e = .returned (.bool true) ∧ Below wz.heap.size wz w') := by
      intro wz v1 v2 h h2 h3
      have h' := Below.to_next hbU.out h
      rw [hP1] at h2
      rw [hP2] at h3
      obtain ⟨n, hs⟩ := HSU.out
      refine same_any (rightRd HRT.out.2.1 HRT.out.1 x) (rd_print hs (by decide) (by decide) HKU.out.1 HKU.out.2.1 x) h2 h3 ((names_nsb (HRU.out.below h)).ns h.size) (HF.out h').2.1.1 (fun s hs => ?_) (by have := HKU.out.2.2.2.2.2; omega) HKU.out.2.2.1
      have := HN.out.1 s (HKU.out.2.2.2.2.1 s hs); omega
    have HSIL : Hid (∀ {wz : World} {v2 : Value} {c : Nat}, Below wc.heap.size wc wz → BA wz v2 P2 → Calls Tryz.prog 42 #[v2, .slice (some ⟨nb, no + k, none⟩) 1 c] wz fun e w' => e = .returned (.bool true) ∧ Below wz.heap.size wz w') := by
      intro wz v2 c h h3
      have h' := Below.to_next hbU.out h
      rw [hP2] at h3
      obtain ⟨n, hs⟩ := HSU.out
      refine silentRd_any (rd_print hs (by decide) (by decide) HKU.out.1 HKU.out.2.1 x) h3 (ns_one (Nat.lt_of_lt_of_le HNB.out (HF.out h').2.2.1) (HNC.out h') HS.out) (HF.out h').2.1.1 (fun s' hs' => ?_) (fun s' hs' => ?_) (by simp)
      · rw [List.mem_singleton.1 hs']; exact HKU.out.2.2.2.1
      · rw [List.mem_singleton.1 hs']; have := HN.out.1 s (List.mem_of_getElem? HS.out); omega
    have LIVE2 : Hid (∀ {wz : World}, Below wc.heap.size wc wz → Calls Tryz.prog 34 #[] wz fun e w' => e = .returned (.bool true) ∧ Below wz.heap.size wz w') := fun {wz} h => live_any wz (HF.out (Below.to_next hbU.out h)).2.1.1
    clear hP1 hP2
    have hB0 : Below wc.heap.size wc wc.drew := (Below.refl _ _).drew
    have CWB : Hid (∀ {P : Bs} {X : World}, Below wc.heap.size wc X → Below wc.heap.size wc (cw P X)) := fun h => Below.to_next h (HC.out _ _).2
    clear g4 g5 g6 had1 had2 e0 e1 e2 e2c il i9 hn0 hkk hkl
    go_wp2_with (fail)
    go_region_held_law (fun w' => (w'.cell? ⟨w.heap.size, 0, none⟩ = some (.int .u8 t.kind) ∧ w'.cell? ⟨w.heap.size, 1, none⟩ = some (.bool t.is) ∧ w'.cell? ⟨w.heap.size, 2, none⟩ = some (.bool t.minus) ∧ w'.cell? ⟨w.heap.size, 3, none⟩ = some (.int .u64 t.num) ∧ w'.cell? ⟨w.heap.size, 4, none⟩ = some (.string (B t.text)) ∧ w'.cell? ⟨w.heap.size, 5, none⟩ = some (.slice (some ⟨nb, no, none⟩) t.names.length cn) ∧ w'.cell? ⟨w.heap.size, 6, none⟩ = some (.slice (some ⟨kb, ko, none⟩) t.kids.length ck) ∧ w'.cell? ⟨w3.heap.size, 0, none⟩ = some (.int .u8 u.kind) ∧ w'.cell? ⟨w3.heap.size, 1, none⟩ = some (.bool u.is) ∧ w'.cell? ⟨w3.heap.size, 2, none⟩ = some (.bool u.minus) ∧ w'.cell? ⟨w3.heap.size, 3, none⟩ = some (.int .u64 u.num) ∧ w'.cell? ⟨w3.heap.size, 4, none⟩ = some (.string (B u.text)) ∧ w'.cell? ⟨w3.heap.size, 5, none⟩ = some (.slice an3 u.names.length cn3) ∧ w'.cell? ⟨w3.heap.size, 6, none⟩ = some (.slice ak3 u.kids.length ck3)) ∧ Below wc.heap.size wc w')
      (first
        | (go_split_ands
           refine (fun hz => ⟨⟨BOX.out (Below.to_next hbU.out hz) 0 _ rfl, BOX.out (Below.to_next hbU.out hz) 1 _ rfl, BOX.out (Below.to_next hbU.out hz) 2 _ rfl, BOX.out (Below.to_next hbU.out hz) 3 _ rfl, BOX.out (Below.to_next hbU.out hz) 4 _ rfl, BOX.out (Below.to_next hbU.out hz) 5 _ rfl, BOX.out (Below.to_next hbU.out hz) 6 _ rfl, HUC.out hz 0 _ rfl, HUC.out hz 1 _ rfl, HUC.out hz 2 _ rfl, HUC.out hz 3 _ rfl, HUC.out hz 4 _ rfl, HUC.out hz 5 _ rfl, HUC.out hz 6 _ rfl⟩, hz⟩) ?_
           first
             | assumption
             | exact CWB.out (by assumption)
             | exact Below.to_alloc (by assumption) _
             | exact Below.to_next (by assumption) (by assumption)))
      (first
        | (go_at_call 31; go_split_ands; with_reducible refine (HPT.out (by assumption)).mono ?_; rintro e w6 ⟨rfl, hb6⟩)
        | (go_at_call 31; go_split_ands; with_reducible refine (HPU.out (by assumption)).mono ?_; rintro e w7 ⟨rfl, hb7⟩))
    all_goals
      go_split_ands
      have gs : (k : Int) + 1 - (k : Int) = 1 := by omega
      have gs2 : k + 1 - k = 1 := by omega
      have gs3 : ¬ (cn = k) := by omega
      have gs4 : (k : Int) ≤ (k : Int) + 1 := by omega
      have gs5 : (k : Int) + 1 ≤ (cn : Int) := by omega
      go_wp2_with (fail)
      with_reducible refine (HSAME.out (by assumption) (BA.below (HC.out P1 _).1 (by (repeat (first | with_reducible exact Below.refl _ _ | with_reducible refine Below.drew ?_ | with_reducible refine Below.to_next ?_ (HC.out _ _).2 | with_reducible refine Below.to_alloc ?_ _ | with_reducible refine Below.to_next ?_ hb9 | with_reducible refine Below.to_next ?_ hb7 | with_reducible refine Below.to_next ?_ hb6)))) (BA.below (HC.out P2 _).1 (by (repeat (first | with_reducible exact Below.refl _ _ | with_reducible refine Below.drew ?_ | with_reducible refine Below.to_next ?_ (HC.out _ _).2 | with_reducible refine Below.to_alloc ?_ _ | with_reducible refine Below.to_next ?_ hb9 | with_reducible refine Below.to_next ?_ hb7 | with_reducible refine Below.to_next ?_ hb6))))).mono ?_
      rintro e w9 ⟨rfl, hb9⟩
      have H9 : Below wc.heap.size wc w9 := Below.to_next (by assumption) hb9
      have q5 := BOX.out (Below.to_next hbU.out H9) 5 _ rfl
      go_wp2_with (fail)
      with_reducible refine (HSIL.out H9 (BA.below (HC.out P2 _).1 (by (repeat (first | with_reducible exact Below.refl _ _ | with_reducible refine Below.drew ?_ | with_reducible refine Below.to_next ?_ (HC.out _ _).2 | with_reducible refine Below.to_alloc ?_ _ | with_reducible refine Below.to_next ?_ hb9 | with_reducible refine Below.to_next ?_ hb7 | with_reducible refine Below.to_next ?_ hb6))))).mono ?_
      rintro e w10 ⟨rfl, hb10⟩
      have H10 : Below wc.heap.size wc w10 := Below.to_next H9 hb10
      go_wp2_with (fail)
      with_reducible refine (LIVE2.out H10).mono ?_
      rintro e w11 ⟨rfl, hb11⟩
      have H11 : Below wc.heap.size wc w11 := Below.to_next H10 hb11
      go_wp2
      go_ret
      exact ⟨rfl, (HF.out (Below.to_next hbU.out H11)).2.2.2⟩
end Go.Proofs.YtppkpcijmfdfmaaGreatDoor
