/- The walk of FnHeadWritten. -/
import Derived.Test.YtppkpcijmfdfmaaGreatDoorW134
import Derived.Test.YtppkpcijmfdfmaaGreatDoorE3
set_option linter.unusedVariables false
set_option linter.unusedSimpArgs false
namespace Go.Proofs.YtppkpcijmfdfmaaGreatDoor
open Go.RowKit
attribute [local go_sem] B_size B_get B_lit B_ext_to B_ext B_toList B_app

theorem right_rd {d : Nat} {t : HT} (h : Right d t) (h5 : t.kind = 5) (x : Nat) : RdT (hPrint d t x) t := by
  obtain ⟨n, hs, hnd⟩ := h
  refine rd_print hs (by decide) (by decide) h5 ?_ x
  unfold HT.texts at hnd
  rw [if_neg (by omega), if_pos h5] at hnd
  exact hnd
theorem right_names {d : Nat} {t : HT} (h : Right d t) (h5 : t.kind = 5) : (∀ s ∈ t.names, s.length ≤ 200) ∧ t.names.length ≤ 200 ∧ t.names.length = t.kids.length ∧ t.names.Nodup := by
  obtain ⟨n, hs, hnd⟩ := h
  unfold HT.texts at hnd
  rw [if_neg (by omega), if_pos h5] at hnd
  obtain ⟨e, ms, rfl, h1, h2, h3, h4, h6, h7, h8⟩ := sized_obj hs h5
  exact ⟨fun s hs => (h4 s hs).1, by omega, h3, hnd⟩
theorem right_print {d : Nat} {t : HT} {nv kv : Value} {x B0 : Nat} {w : World} (hr : RepT w B0 d nv kv t) (h : Right d t) (hB : B0 ≤ w.heap.size) (hx : x < 18446744073709551616) :
    Calls Tryz.prog 31 #[.agg (tcells t nv kv).toArray, .int .u64 x] w fun e w' => e = .returned (.string (B (hPrint d t x))) ∧ Below w.heap.size w w' := by
  obtain ⟨n, hs, _⟩ := h
  exact print_any hr hs (by have := sized_le hs (by decide); omega) hB hx
theorem NS.cons_names {w : World} {v : Value} {l : List Bs} (h : NS w v l) : NS w v l := h
/-- Texts to bytes, as a function of the world. -/
theorem conv_fn : ∃ (cv : Bs → World → Value) (cw : Bs → World → World), ∀ P X, (convert 9 27 (.string (B P))).run Tryz.prog X = .ok (cv P X) (cw P X) ∧ BA (cw P X) (cv P X) P ∧ Below X.heap.size X (cw P X) :=
  ⟨fun P X => (conv_bytes X P).choose, fun P X => (conv_bytes X P).choose_spec.choose, fun P X => (conv_bytes X P).choose_spec.choose_spec⟩
theorem one_box (w : World) (s : Bs) : (w.alloc (.cells #[Value.string (B s)] 9)).cell? ⟨w.heap.size, 0, none⟩ = some (.string (B s)) := by
  have := cell_of_row (w.alloc (.cells #[Value.string (B s)] 9)) w.heap.size 0 _ _ _ (heap_alloc_new w _)
  rw [this]
  rfl

set_option maxRecDepth 100000 in
set_option maxHeartbeats 8000000 in
theorem written_walk {d : Nat} {t : HT} {nv kv : Value} {B0 x y : Nat} {name : Bs} {w : World} (hr : RepT w B0 d nv kv t) (hG : Ground w) (hB : B0 ≤ w.heap.size) (hx : x < 18446744073709551616) (hy : y < 18446744073709551616) :
    Calls Tryz.prog 13 #[.agg (tcells t nv kv).toArray, .int .u64 x, .int .u64 y, .string (B name)] w fun e w' => e = .returned (.bool true) ∧ Below w.heap.size w w' := by
  obtain ⟨⟨an, cn, rfl⟩, ak, ck, rfl⟩ := hr.slices
  obtain ⟨w1, hw1⟩ : ∃ w1, w1 = w.alloc (.cells (tcells t (.slice an t.names.length cn) (.slice ak t.kids.length ck)).toArray 45) := ⟨_, rfl⟩
  have hb1 : Below w.heap.size w w1 := by rw [hw1]; exact (Below.refl _ _).alloc (Nat.le_refl _) _
  have hlt1 : w.heap.size < w1.heap.size := by rw [hw1]; simp
  have BOX : Hid (∀ {wz : World}, Below w1.heap.size w1 wz → ∀ (j : Nat) u, (tcells t (.slice an t.names.length cn) (.slice ak t.kids.length ck))[j]? = some u → wz.cell? ⟨w.heap.size, j, none⟩ = some u) := by
    intro wz hb j u hu
    refine (hb.cell (p := ⟨w.heap.size, j, none⟩) hlt1).trans ?_
    rw [hw1, cell_box]
    exact hu
  have HF : Hid (∀ {wz : World}, Below w1.heap.size w1 wz → RepT wz B0 d (.slice an t.names.length cn) (.slice ak t.kids.length ck) t ∧ Ground wz ∧ B0 ≤ wz.heap.size ∧ Below w.heap.size w wz) := by
    intro wz hb
    have hb2 : Below w.heap.size w wz := hb1.trans (hb.mono hb1.size)
    exact ⟨hr.below (hb2.mono hB), hG.below hb2, Nat.le_trans hB hb2.size, hb2⟩
  have HFIT := Lib.hid (fits11_any (HF.out (Below.refl _ _)).1 (HF.out (Below.refl _ _)).2.2.1)
  have HOBJ : Hid (∀ {wz : World}, Below w1.heap.size w1 wz → ∀ (v : Value), NSB wz wz.heap.size v [name] → Calls Tryz.prog 36 #[.agg (tcells t (.slice an t.names.length cn) (.slice ak t.kids.length ck)).toArray, v] wz fun e w' => ∃ ok, e = .returned (.bool ok) ∧ (ok = true → t.kind = 5 ∧ Right d t ∧ TextsOk [name]) ∧ Below wz.heap.size wz w') :=
    fun h v hv => object_any (HF.out h).1 (HF.out h).2.1.2 (HF.out h).2.2.1 hv (by simp)
  obtain ⟨P1, hP1⟩ : ∃ P, P = hPrint d t x := ⟨_, rfl⟩
  obtain ⟨P2, hP2⟩ : ∃ P, P = hPrint d t y := ⟨_, rfl⟩
  have HPR1 : Hid (∀ {wz : World}, Below w1.heap.size w1 wz → Right d t → Calls Tryz.prog 31 #[.agg (tcells t (.slice an t.names.length cn) (.slice ak t.kids.length ck)).toArray, .int .u64 x] wz fun e w' => e = .returned (.string (B P1)) ∧ Below wz.heap.size wz w') :=
    fun h hR => by rw [hP1]; exact right_print (HF.out h).1 hR (HF.out h).2.2.1 hx
  have HPR2 : Hid (∀ {wz : World}, Below w1.heap.size w1 wz → Right d t → Calls Tryz.prog 31 #[.agg (tcells t (.slice an t.names.length cn) (.slice ak t.kids.length ck)).toArray, .int .u64 y] wz fun e w' => e = .returned (.string (B P2)) ∧ Below wz.heap.size wz w') :=
    fun h hR => by rw [hP2]; exact right_print (HF.out h).1 hR (HF.out h).2.2.1 hy
  have HP := Lib.hid (And.intro hP1 hP2)
  clear hr hG hb1 hP1 hP2
  simp only [tcells] at hw1 HFIT HOBJ HPR1 HPR2 BOX ⊢
  have HW1 := Lib.hid hw1
  clear hw1
  go_enter Tryz.func13, Tryz.ntmps13
  go_wp2_with (fail)
  rw [← HW1.out]
  refine HFIT.out.mono ?_
  rintro e w2 ⟨⟨bf, rfl⟩, hb2⟩
  have H2 := Lib.hid hb2
  clear hb2
  have LIVE : Hid (∀ {wz : World}, Below w1.heap.size w1 wz → Calls Tryz.prog 34 #[] wz fun e w' => e = .returned (.bool true) ∧ Below w.heap.size w w') := fun {wz} h =>
    (live_any wz (HF.out h).2.1.1).mono fun e w' he => ⟨he.1, (HF.out h).2.2.2.trans (he.2.mono (HF.out h).2.2.2.size)⟩
  cases bf
  · go_wp2
    go_ret
    exact ⟨rfl, (HF.out H2.out).2.2.2⟩
  by_cases hbig : 2147483647 < name.length
  · have f1 : decide ((2147483647 : Int) < name.length) = true := by simp; omega
    go_wp2
    go_ret
    exact ⟨rfl, (HF.out H2.out).2.2.2⟩
  have f1 : decide ((2147483647 : Int) < name.length) = false := by simp; omega
  have q0 := BOX.out H2.out 0 _ rfl
  have q1 := BOX.out H2.out 1 _ rfl
  have q2 := BOX.out H2.out 2 _ rfl
  have q3 := BOX.out H2.out 3 _ rfl
  have q4 := BOX.out H2.out 4 _ rfl
  have q5 := BOX.out H2.out 5 _ rfl
  have q6 := BOX.out H2.out 6 _ rfl
  go_wp2_with (fail)
  obtain ⟨wn, hwn⟩ : ∃ wn, wn = w2.alloc (.cells #[Value.string (B name)] 9) := ⟨_, rfl⟩
  have HNM : Hid (NSB wn wn.heap.size (.slice (some ⟨w2.heap.size, 0, none⟩) 1 1) [name]) := Lib.hid (Or.inr ⟨w2.heap.size, 0, 1, rfl, ⟨by rw [hwn]; simp, Nat.le_refl _⟩, fun i s hi => by
    match i, hi with
    | 0, hi =>
      cases hi
      rw [hwn]
      exact one_box w2 name⟩)
  have H2n : Hid (Below w1.heap.size w1 wn) := Lib.hid (by rw [hwn]; exact Below.to_alloc H2.out _)
  rw [← hwn]
  clear hwn
  refine (HOBJ.out H2n.out _ HNM.out).mono ?_
  rintro e w3 ⟨ok, rfl, hy, hb3⟩
  have HY := Lib.hid hy
  have H3 := Lib.hid (H2n.out.trans (hb3.mono H2n.out.size))
  clear hy hb3 q0 q1 q2 q3 q4 q5 q6
  cases ok
  · go_wp2_with (fail)
    refine (LIVE.out H3.out).mono ?_
    rintro e w4 ⟨rfl, hb4⟩
    have H4 := Lib.hid hb4
    clear hb4
    go_wp2
    go_ret
    exact ⟨rfl, H4.out⟩
  have HRT : Hid (t.kind = 5 ∧ Right d t ∧ TextsOk [name]) := ⟨(HY.out rfl).1, (HY.out rfl).2.1, (HY.out rfl).2.2⟩
  clear HY
  have q0 := BOX.out H3.out 0 _ rfl
  have q1 := BOX.out H3.out 1 _ rfl
  have q2 := BOX.out H3.out 2 _ rfl
  have q3 := BOX.out H3.out 3 _ rfl
  have q4 := BOX.out H3.out 4 _ rfl
  have q5 := BOX.out H3.out 5 _ rfl
  have q6 := BOX.out H3.out 6 _ rfl
  obtain ⟨cv, cw, hc⟩ := conv_fn
  have hcv := fun P X => (hc P X).1
  have HC := Lib.hid (fun P X => (hc P X).2)
  clear hc
  have HNB : Hid (∀ {wz : World}, Below w1.heap.size w1 wz → NSB wz B0 (.slice an t.names.length cn) t.names ∧ t.names.length < 1000000) := fun h => by
    have := (right_names HRT.out.2.1 HRT.out.1).2.1
    exact ⟨names_nsb (HF.out h).1, by omega⟩
  have HSAME : Hid (∀ {wz : World} {v1 v2 nv : Value}, Below w1.heap.size w1 wz → BA wz v1 P1 → BA wz v2 P2 → NS wz nv (name :: t.names) → Calls Tryz.prog 43 #[v1, v2, nv] wz fun e w' => e = .returned (.bool true) ∧ Below wz.heap.size wz w') := by
    intro wz v1 v2 nv h1 h2 h3 h4
    have hn := right_names HRT.out.2.1 HRT.out.1
    rw [HP.out.1] at h2
    rw [HP.out.2] at h3
    refine same_any (right_rd HRT.out.2.1 HRT.out.1 x) (right_rd HRT.out.2.1 HRT.out.1 y) h2 h3 h4 (HF.out h1).2.1.1 (fun s hs => ?_) (by rw [List.length_cons]; omega) (fun _ _ => rfl)
    rcases List.mem_cons.1 hs with rfl | hs
    · omega
    · have := hn.1 s hs; omega
  have LIVE2 : Hid (∀ {wz : World}, Below w1.heap.size w1 wz → Calls Tryz.prog 34 #[] wz fun e w' => e = .returned (.bool true) ∧ Below wz.heap.size wz w') := fun {wz} h => live_any wz (HF.out h).2.1.1
  have hB3 : Below w1.heap.size w1 w3.drew := H3.out.drew
  have CWB : Hid (∀ {P : Bs} {X : World}, Below w1.heap.size w1 X → Below w1.heap.size w1 (cw P X)) := fun h => Below.to_next h (HC.out _ _).2
  have HP1 : Hid (∀ {wz : World}, Below w1.heap.size w1 wz → Calls Tryz.prog 31 #[.agg #[.int .u8 t.kind, .bool t.is, .bool t.minus, .int .u64 t.num, .string (B t.text), .slice an t.names.length cn, .slice ak t.kids.length ck], .int .u64 x] wz fun e w' => e = .returned (.string (B P1)) ∧ Below wz.heap.size wz w') := fun h => HPR1.out h HRT.out.2.1
  have HP2 : Hid (∀ {wz : World}, Below w1.heap.size w1 wz → Calls Tryz.prog 31 #[.agg #[.int .u8 t.kind, .bool t.is, .bool t.minus, .int .u64 t.num, .string (B t.text), .slice an t.names.length cn, .slice ak t.kids.length ck], .int .u64 y] wz fun e w' => e = .returned (.string (B P2)) ∧ Below wz.heap.size wz w') := fun h => HPR2.out h HRT.out.2.1
  clear HPR1 HPR2 HFIT HOBJ q0 q1 q2 q3 q4 q5 q6 f1
  go_wp2_with (fail)
  go_region_held_law (fun w' => (w'.cell? ⟨w.heap.size, 0, none⟩ = some (.int .u8 t.kind) ∧ w'.cell? ⟨w.heap.size, 1, none⟩ = some (.bool t.is) ∧ w'.cell? ⟨w.heap.size, 2, none⟩ = some (.bool t.minus) ∧ w'.cell? ⟨w.heap.size, 3, none⟩ = some (.int .u64 t.num) ∧ w'.cell? ⟨w.heap.size, 4, none⟩ = some (.string (B t.text)) ∧ w'.cell? ⟨w.heap.size, 5, none⟩ = some (.slice an t.names.length cn) ∧ w'.cell? ⟨w.heap.size, 6, none⟩ = some (.slice ak t.kids.length ck)) ∧ Below w1.heap.size w1 w')
    (first
      | (go_split_ands
         refine (fun hbz => ⟨⟨BOX.out hbz 0 _ rfl, BOX.out hbz 1 _ rfl, BOX.out hbz 2 _ rfl, BOX.out hbz 3 _ rfl, BOX.out hbz 4 _ rfl, BOX.out hbz 5 _ rfl, BOX.out hbz 6 _ rfl⟩, hbz⟩) ?_
         first
           | assumption
           | exact CWB.out (by assumption)
           | exact Below.to_alloc (by assumption) _
           | exact Below.to_next (by assumption) (by assumption)))
    (first
      | (refine step_append_names (by rfl) _ _ (by rfl) _ t.names name _ B0 (by rfl) (by rfl) (by first | exact one_box _ _ | exact Below.kept (by (repeat (first | with_reducible exact Below.refl _ _ | with_reducible refine Below.drew ?_ | with_reducible refine Below.to_next ?_ (HC.out _ _).2 | with_reducible refine Below.to_alloc ?_ _ | with_reducible refine Below.to_next ?_ hb8 | with_reducible refine Below.to_next ?_ hb7 | with_reducible refine Below.to_next ?_ hb6))) (one_box _ _)) (HNB.out (by go_split_ands; assumption)).1 (HNB.out (by go_split_ands; assumption)).2 ?_; intro v' w8 hns hb8)
      | (go_at_call 31; go_split_ands; with_reducible refine (HP1.out (by assumption)).mono ?_; rintro e w6 ⟨rfl, hb6⟩)
      | (go_at_call 31; go_split_ands; with_reducible refine (HP2.out (by assumption)).mono ?_; rintro e w7 ⟨rfl, hb7⟩)
      | (go_at_call 43; go_split_ands; refine (HSAME.out (by assumption) (BA.below (HC.out P1 _).1 (by (repeat (first | with_reducible exact Below.refl _ _ | with_reducible refine Below.drew ?_ | with_reducible refine Below.to_next ?_ (HC.out _ _).2 | with_reducible refine Below.to_alloc ?_ _ | with_reducible refine Below.to_next ?_ hb8 | with_reducible refine Below.to_next ?_ hb7 | with_reducible refine Below.to_next ?_ hb6)))) (BA.below (HC.out P2 _).1 (by (repeat (first | with_reducible exact Below.refl _ _ | with_reducible refine Below.drew ?_ | with_reducible refine Below.to_next ?_ (HC.out _ _).2 | with_reducible refine Below.to_alloc ?_ _ | with_reducible refine Below.to_next ?_ hb8 | with_reducible refine Below.to_next ?_ hb7 | with_reducible refine Below.to_next ?_ hb6)))) (NS.below hns (by (repeat (first | with_reducible exact Below.refl _ _ | with_reducible refine Below.drew ?_ | with_reducible refine Below.to_next ?_ (HC.out _ _).2 | with_reducible refine Below.to_alloc ?_ _ | with_reducible refine Below.to_next ?_ hb8 | with_reducible refine Below.to_next ?_ hb7 | with_reducible refine Below.to_next ?_ hb6))))).mono ?_; rintro e w9 ⟨rfl, hb9⟩)
      | (go_at_call 34; go_split_ands; refine (LIVE2.out (by assumption)).mono ?_; rintro e w10 ⟨rfl, hb10⟩))
  all_goals
    go_split_ands
    go_wp2
    go_ret
    exact ⟨rfl, (HF.out (by assumption)).2.2.2⟩
end Go.Proofs.YtppkpcijmfdfmaaGreatDoor
