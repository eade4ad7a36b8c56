/- The walk of FnHeadNoObject. -/
import Derived.Test.YtppkpcijmfdfmaaGreatDoorD4
import Derived.Test.YtppkpcijmfdfmaaGreatDoorC15
set_option linter.unusedVariables false
set_option linter.unusedSimpArgs false
namespace Go.Proofs.YtppkpcijmfdfmaaGreatDoor
open Go.RowKit
attribute [local go_sem] B_size B_get B_lit B_ext_to B_ext B_toList B_app

theorem Mt.not_obj : ∀ {d : Nat} {j : J} {t : HT}, Mt d j t → t.kind ≠ 5 → ∀ ms, j ≠ .obj ms
  | 0, _, _, h, _, _ => h.elim
  | d + 1, j, t, h, h5, ms => by
    rintro rfl
    rcases h with ⟨_, e⟩ | ⟨_, e⟩ | ⟨_, e⟩ | ⟨_, _, e, _⟩ | ⟨_, _, e, _⟩ | ⟨e, _⟩
    · cases e
    · split at e <;> cases e
    · cases e
    · cases e
    · cases e
    · exact h5 e
theorem silent_other {d : Nat} {t : HT} {n : Nat} (h : Sized 200 60 d t 1 n) (h5 : t.kind ≠ 5) (x : Nat) : Silent (jParse (hPrint d t x)) := by
  obtain ⟨j, e1, e2⟩ := print_back h (by decide) x
  intro j' hj ms
  rw [e1] at hj
  cases hj
  exact e2.not_obj h5 ms
/-- What a law's start gives. -/
def Ground (w : World) : Prop := Base w ∧ TabV w
theorem Ground.below {w w' : World} (h : Ground w) (hb : Below w.heap.size w w') : Ground w' := ⟨h.1.below hb, h.2.below hb⟩
theorem conv_bytes (w : World) (l : Bs) : ∃ v w', (convert 9 27 (.string (B l))).run Tryz.prog w = .ok v w' ∧ BA w' v l ∧ Below w.heap.size w w' := by
  refine ⟨_, _, Lib.run_convert_string_bytes (P := Tryz.prog) w 9 27 5 (B l) Tryz.underlying9 Tryz.underlying27 Tryz.underlying5, ?_, ?_⟩
  · refine Or.inr ⟨w.heap.size, 0, _, by rw [B_size], by rw [Lib.bytesWorld_size]; omega, fun i u hu => ?_⟩
    have hlt : i < (B l).size := by rw [B_size]; exact (List.getElem?_eq_some_iff.1 hu).1
    rw [Nat.zero_add, Lib.bytesWorld_cell _ _ _ _ hlt, B_data, List.getD, hu]
    rfl
  · exact ⟨rfl, rfl, rfl, by rw [Lib.bytesWorld_size]; omega, fun k hk => Lib.bytesWorld_at_old _ _ _ _ hk⟩
/-- A slice of one text that is made. -/
theorem one_name (w : World) (s : Bs) : NS (w.alloc (.cells [Value.string (B s)].toArray 9)) (.slice (some ⟨w.heap.size, 0, none⟩) 1 1) [s] := by
  refine Or.inr ⟨w.heap.size, 0, 1, rfl, by simp, fun i s' hi => ?_⟩
  match i, hi with
  | 0, hi =>
    cases hi
    rw [show 0 + 0 = 0 from rfl, cell_box]
    rfl

set_option maxRecDepth 100000 in
set_option maxHeartbeats 8000000 in
theorem noObject_walk {d : Nat} {t : HT} {nv kv : Value} {B0 x : Nat} {name : Bs} {w : World} (hr : RepT w B0 d nv kv t) (hG : Ground w) (hB : B0 ≤ w.heap.size) (hx : x < 18446744073709551616) :
    Calls Tryz.prog 10 #[.agg (tcells t nv kv).toArray, .int .u64 x, .string (B name)] w fun e w' => e = .returned (.bool true) ∧ Below w.heap.size w w' := by
  obtain ⟨⟨an, cn, rfl⟩, ak, ck, rfl⟩ := hr.slices
  obtain ⟨w1, hw1⟩ : ∃ w1, w1 = w.alloc (.cells (tcells t (.slice an t.names.length cn) (.slice ak t.kids.length ck)).toArray 45) := ⟨_, rfl⟩
  have hb1 : Below w.heap.size w w1 := by rw [hw1]; exact (Below.refl _ _).alloc (Nat.le_refl _) _
  have hlt1 : w.heap.size < w1.heap.size := by rw [hw1]; simp
  have BOX : Hid (∀ {wz : World}, Below w1.heap.size w1 wz → ∀ (j : Nat) u, (tcells t (.slice an t.names.length cn) (.slice ak t.kids.length ck))[j]? = some u → wz.cell? ⟨w.heap.size, j, none⟩ = some u) := by
    intro wz hb j u hu
    refine (hb.cell (p := ⟨w.heap.size, j, none⟩) hlt1).trans ?_
    rw [hw1, cell_box]
    exact hu
  have HF : Hid (∀ {wz : World}, Below w1.heap.size w1 wz → RepT wz B0 d (.slice an t.names.length cn) (.slice ak t.kids.length ck) t ∧ Ground wz ∧ B0 ≤ wz.heap.size ∧ Below w.heap.size w wz) := by
    intro wz hb
    have hb2 : Below w.heap.size w wz := hb1.trans (hb.mono hb1.size)
    exact ⟨hr.below (hb2.mono hB), hG.below hb2, Nat.le_trans hB hb2.size, hb2⟩
  have HFIT := Lib.hid (fits11_any (HF.out (Below.refl _ _)).1 (HF.out (Below.refl _ _)).2.2.1)
  have HRIGHT : Hid (∀ {wz : World}, Below w1.heap.size w1 wz → Calls Tryz.prog 41 #[.agg (tcells t (.slice an t.names.length cn) (.slice ak t.kids.length ck)).toArray] wz fun e w' => ∃ ok, e = .returned (.bool ok) ∧ (ok = true → Right d t) ∧ Below wz.heap.size wz w') :=
    fun h => right_any (HF.out h).1 (HF.out h).2.1.2 (HF.out h).2.2.1
  have HPRINT : Hid (∀ {wz : World}, Below w1.heap.size w1 wz → Right d t → Calls Tryz.prog 31 #[.agg (tcells t (.slice an t.names.length cn) (.slice ak t.kids.length ck)).toArray, .int .u64 x] wz fun e w' => e = .returned (.string (B (hPrint d t x))) ∧ Below wz.heap.size wz w') :=
    fun h hR => by
      obtain ⟨n, hs, _⟩ := hR
      exact print_any (HF.out h).1 hs (by have := sized_le hs (by decide); omega) (HF.out h).2.2.1 hx
  clear hr hG hb1
  simp only [tcells] at hw1 HFIT HRIGHT HPRINT BOX ⊢
  have HW1 := Lib.hid hw1
  clear hw1
  go_enter Tryz.func10, Tryz.ntmps10
  go_wp2_with (fail)
  rw [← HW1.out]
  refine HFIT.out.mono ?_
  rintro e w2 ⟨⟨bf, rfl⟩, hb2⟩
  have H2 := Lib.hid hb2
  clear hb2
  cases bf
  · go_wp2
    go_ret
    exact ⟨rfl, (HF.out H2.out).2.2.2⟩
  by_cases hbig : 2147483647 < name.length
  · have f1 : decide ((2147483647 : Int) < name.length) = true := by simp; omega
    go_wp2
    go_ret
    exact ⟨rfl, (HF.out H2.out).2.2.2⟩
  have f1 : decide ((2147483647 : Int) < name.length) = false := by simp; omega
  have q0 := BOX.out H2.out 0 _ rfl
  have LIVE : Hid (∀ {wz : World}, Below w1.heap.size w1 wz → Calls Tryz.prog 34 #[] wz fun e w' => e = .returned (.bool true) ∧ Below w.heap.size w w') := fun {wz} h =>
    (live_any wz (HF.out h).2.1.1).mono fun e w' he => ⟨he.1, (HF.out h).2.2.2.trans (he.2.mono (HF.out h).2.2.2.size)⟩
  by_cases h5 : t.kind = 5
  · have f2 : ((t.kind : Int) == 5) = true := by rw [beq_iff_eq]; omega
    clear h5
    go_wp2_with (fail)
    refine (LIVE.out H2.out).mono ?_
    rintro e w3 ⟨rfl, hb3⟩
    have H3 := Lib.hid hb3
    clear hb3
    go_wp2
    go_ret
    exact ⟨rfl, H3.out⟩
  have f2 : ((t.kind : Int) == 5) = false := by rw [beq_eq_false_iff_ne]; omega
  have H5 := Lib.hid h5
  have q1 := BOX.out H2.out 1 _ rfl
  have q2 := BOX.out H2.out 2 _ rfl
  have q3 := BOX.out H2.out 3 _ rfl
  have q4 := BOX.out H2.out 4 _ rfl
  have q5 := BOX.out H2.out 5 _ rfl
  have q6 := BOX.out H2.out 6 _ rfl
  clear h5
  go_wp2_with (fail)
  refine (HRIGHT.out H2.out).mono ?_
  rintro e w3 ⟨ok, rfl, hy, hb3⟩
  have HY := Lib.hid hy
  have H3 := Lib.hid (H2.out.trans (hb3.mono H2.out.size))
  clear hy hb3 q0 q1 q2 q3 q4 q5 q6
  cases ok
  · go_wp2_with (fail)
    refine (LIVE.out H3.out).mono ?_
    rintro e w4 ⟨rfl, hb4⟩
    have H4 := Lib.hid hb4
    clear hb4
    go_wp2
    go_ret
    exact ⟨rfl, H4.out⟩
  by_cases hlen : 200 < name.length
  · have f3 : decide ((200 : Int) < name.length) = true := by simp; omega
    go_wp2_with (fail)
    refine (LIVE.out H3.out).mono ?_
    rintro e w4 ⟨rfl, hb4⟩
    have H4 := Lib.hid hb4
    clear hb4
    go_wp2
    go_ret
    exact ⟨rfl, H4.out⟩
  have f3 : decide ((200 : Int) < name.length) = false := by simp; omega
  have HV := Lib.hid (valid_any name w3 (HF.out H3.out).2.1.2 (by omega))
  go_wp2_with (fail)
  refine HV.out.mono ?_
  rintro e w4 ⟨rfl, hb4⟩
  have H4 := Lib.hid (H3.out.trans (hb4.mono H3.out.size))
  clear hb4
  cases hvv : Lib.validD name
  · clear hvv
    go_wp2_with (fail)
    refine (LIVE.out H4.out).mono ?_
    rintro e w5 ⟨rfl, hb5⟩
    have H5 := Lib.hid hb5
    clear hb5
    go_wp2
    go_ret
    exact ⟨rfl, H5.out⟩
  clear hvv
  have q0 := BOX.out H4.out 0 _ rfl
  have q1 := BOX.out H4.out 1 _ rfl
  have q2 := BOX.out H4.out 2 _ rfl
  have q3 := BOX.out H4.out 3 _ rfl
  have q4 := BOX.out H4.out 4 _ rfl
  have q5 := BOX.out H4.out 5 _ rfl
  have q6 := BOX.out H4.out 6 _ rfl
  have HRT : Hid (Right d t) := HY.out trivial
  clear HY
  go_wp2_with (fail)
  refine (HPRINT.out H4.out HRT.out).mono ?_
  rintro e w5 ⟨rfl, hb5⟩
  have H5w := Lib.hid (H4.out.trans (hb5.mono H4.out.size))
  clear hb5 q0 q1 q2 q3 q4 q5 q6
  obtain ⟨v, w6, hcv, hba, hb6⟩ := conv_bytes w5 (hPrint d t x)
  have H6 := Lib.hid (H5w.out.trans (hb6.mono H5w.out.size))
  have HBA := Lib.hid hba
  clear hba hb6
  obtain ⟨w7, hw7⟩ : ∃ w7, w7 = w6.alloc (.cells [Value.string (B (97 :: name))].toArray 9) := ⟨_, rfl⟩
  have hb7 : Below w6.heap.size w6 w7 := by rw [hw7]; exact (Below.refl _ _).alloc (Nat.le_refl _) _
  have H7 := Lib.hid (H6.out.trans (hb7.mono H6.out.size))
  have HNS : Hid (NS w7 (.slice (some ⟨w6.heap.size, 0, none⟩) 1 1) [97 :: name]) := by rw [hw7]; exact one_name w6 _
  have HSIL : Hid (Calls Tryz.prog 42 #[v, .slice (some ⟨w6.heap.size, 0, none⟩) 1 1] w7 fun e w' => e = .returned (.bool true) ∧ Below w7.heap.size w7 w') := by
    obtain ⟨n, hs, _⟩ := HRT.out
    refine silent_any w7 v _ _ [97 :: name] (HBA.out.below hb7) HNS.out ?_ (HF.out H7.out).2.1.1 (silent_other hs H5.out x) (fun s hs j _ _ => ?_) (fun s hs => ?_) (by simp)
    · have := print_length hs (sized_le hs (by decide)) x
      omega
    · rw [List.mem_singleton.1 hs]; exact ⟨_, rfl⟩
    · rw [List.mem_singleton.1 hs, List.length_cons]; omega
  clear hb7
  have HW7 := Lib.hid hw7
  clear hw7
  go_wp2_with (fail)
  rw [← HW7.out]
  refine HSIL.out.mono ?_
  rintro e w8 ⟨rfl, hb8⟩
  have H8 := Lib.hid (H7.out.trans (hb8.mono H7.out.size))
  clear hb8 hcv
  go_wp2_with (fail)
  refine (LIVE.out H8.out).mono ?_
  rintro e w9 ⟨rfl, hb9⟩
  have H9 := Lib.hid hb9
  clear hb9
  go_wp2
  go_ret
  exact ⟨rfl, H9.out⟩
end Go.Proofs.YtppkpcijmfdfmaaGreatDoor
