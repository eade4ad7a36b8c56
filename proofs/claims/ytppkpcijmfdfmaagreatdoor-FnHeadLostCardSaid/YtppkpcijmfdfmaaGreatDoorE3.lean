/- append of the names of a tree behind one text. -/
import Derived.Test.YtppkpcijmfdfmaaGreatDoorE1
import Derived.Deep.AppendSrc
import Derived.Test.YtppkpcijmfdfmaaGreatDoorC1
import Derived.Deep.RegionHeld3
import Derived.Deep.RegionHeldLaw
set_option linter.unusedVariables false
set_option linter.unusedSimpArgs false
namespace Go.Proofs.YtppkpcijmfdfmaaGreatDoor
open Go.RowKit
/-- Names below a bound are names. -/
theorem NSB.ns {w : World} {B0 : Nat} {v : Value} {l : List Bs} (h : NSB w B0 v l) (hB : B0 ≤ w.heap.size) : NS w v l := by
  rcases h with h | ⟨b, off, c, h1, ⟨h2, _⟩, h3⟩
  · exact Or.inl h
  · exact Or.inr ⟨b, off, c, h1, Nat.lt_of_lt_of_le h2 hB, h3⟩
theorem strs_one (l : List Bs) : ∀ u ∈ l.map (fun s => Value.string (B s)), u.oneCell' = true := by
  intro u hu
  obtain ⟨_, _, rfl⟩ := List.mem_map.1 hu
  rfl
theorem names_src {w : World} {B0 : Nat} {nv : Value} {l : List Bs} (hn : NSB w B0 nv l) : Src Tryz.prog 1 29 nv l.length (l.map fun s => .string (B s)) w := by
  rcases hn with ⟨a, c, rfl, rfl⟩ | ⟨b, off, c, rfl, _, hc⟩
  · cases a with
    | none => exact Src.ofNil w Tryz.underlying29 c
    | some a => exact Src.ofSlice w Tryz.underlying29 a 0 c [] (by simp) (by simp) (by simp)
  · refine Src.ofSlice w Tryz.underlying29 ⟨b, off, none⟩ l.length c _ (by simp) (fun j v hj => ?_) (strs_one l)
    rw [List.getElem?_map, Option.map_eq_some_iff] at hj
    obtain ⟨s, hs, rfl⟩ := hj
    have e : (⟨b, off, none⟩ : Addr).add j = ⟨b, off + j, none⟩ := by
      simp only [Addr.add]
      split <;> simp_all
    rw [e]
    exact hc j s hs
theorem append_names (w : World) (ty b0 : Nat) (l : List Bs) (s0 : Bs) (nv : Value) {B0 : Nat} (h0 : w.cell? ⟨b0, 0, none⟩ = some (.string (B s0))) (hn : NSB w B0 nv l) (hl : l.length < 1000000) :
    ∃ v' w', (Builtin.append_ #[29, 29] ty #[.slice (some ⟨b0, 0, none⟩) 1 1, nv]).run Tryz.prog w = .ok v' w' ∧ NS w' v' (s0 :: l) ∧ Below w.heap.size w w' := by
  obtain ⟨i, hi, hz, hs, hb⟩ := info_parts info9
  have hsrc := names_src hn
  by_cases hm : l = []
  · subst hm
    have hr := run_append_room_src (P := Tryz.prog) w 29 29 ty 9 i Tryz.underlying29 hi b0 0 1 1 nv 0 [] (by rw [hs]; exact hsrc) (by omega) (by simp) (by simp)
    refine ⟨_, _, hr, Or.inr ⟨b0, 0, 1, rfl, ?_, fun j s hj => ?_⟩, ?_⟩
    · have : b0 < w.heap.size := by
        rcases Nat.lt_or_ge b0 w.heap.size with h' | h'
        · exact h'
        · simp [World.cell?, Array.getElem?_eq_none h'] at h0
      simpa [World.setCells] using this
    · match j, hj with
      | 0, hj =>
        cases hj
        simpa [World.setCells] using h0
    · simpa [World.setCells] using Below.refl w.heap.size w
  · have hp : 0 < l.length := List.length_pos_iff.2 hm
    have hold : (Builtin.firstCells i.size 1 (.slice (some ⟨b0, 0, none⟩) 1 1)).run Tryz.prog w.drew = .ok [Value.string (B s0)].toArray w.drew :=
      run_firstCells_some w.drew i.size 1 ⟨b0, 0, none⟩ 1 1 [Value.string (B s0)] (by rw [hs]; rfl) (fun j v hj => by
        match j, hj with
        | 0, hj => cases hj; simpa [Addr.add] using h0)
    have hr := run_append_grow_src (P := Tryz.prog) w 29 29 ty 9 i _ Tryz.underlying29 hi hz (some ⟨b0, 0, none⟩) 1 1 [Value.string (B s0)] hold nv l.length _ (by rw [hs]; exact hsrc) (by omega) (by omega)
      (growslice_fits (by omega) (by rw [hb]; omega))
    refine ⟨_, _, hr, Or.inr ⟨w.heap.size, 0, _, by rw [List.length_cons, Nat.add_comm], by simp, fun j s hj => ?_⟩, (Below.refl _ _).drew.alloc (Nat.le_refl _) _⟩
    have hlt : j < (s0 :: l).length := (List.getElem?_eq_some_iff.1 hj).1
    rw [Nat.zero_add]
    have hw := heap_alloc_new w.drew (.cells (([Value.string (B s0)] ++ l.map fun s => Value.string (B s)).toArray ++ Builtin.zeroCells (Value.string ⟨#[]⟩).cells (grownCap w (1 + l.length) 1 9 - (1 + l.length))) 9)
    refine (cell_of_row _ w.heap.size j _ _ _ hw).trans ?_
    have e : ([Value.string (B s0)] ++ l.map fun s => Value.string (B s)) = ((s0 :: l).map fun s => Value.string (B s)) := by simp
    rw [e, Array.getElem?_append_left (by simpa using hlt), List.getElem?_toArray, List.getElem?_map, hj]
    rfl
end Go.Proofs.YtppkpcijmfdfmaaGreatDoor

/- The walk of FnHeadTorn. -/
namespace Go.Proofs.YtppkpcijmfdfmaaGreatDoor
open Go.RowKit
attribute [local go_sem] B_size B_get B_lit B_ext_to B_ext B_toList B_app

theorem step_append_names {w : World} {ops : Array Oper} {o : Oper} {a : Act} {K : Act → World → Prop} {Q : Exit → Act → World → Prop} {E : Prop} (hgd : o.guard = none) (s x : Operand)
    (ho : o.op = .call { callee := .builtin .append, args := #[s, x], argTypes := #[29, 29] }) (b0 : Nat) (l : List Bs) (s0 : Bs) (nv : Value) (B0 : Nat) (hs : a.eval s = .slice (some ⟨b0, 0, none⟩) 1 1) (hx : a.eval x = nv)
    (h0 : w.cell? ⟨b0, 0, none⟩ = some (.string (B s0))) (hn : NSB w B0 nv l) (hl : l.length < 1000000) (h : ∀ v' w', NS w' v' (s0 :: l) → Below w.heap.size w w' → K (a.put o.dst v') w') :
    if Region.wanted o (yielded ops a.tmps) = true then Oper.wp Tryz.prog o a w K Q else E := by
  have hw : Region.wanted o (yielded ops a.tmps) = true := by simp [Region.wanted, hgd]
  rw [if_pos hw]
  obtain ⟨v', w', hr, h1, h2⟩ := append_names w o.type b0 l s0 nv h0 hn hl
  exact Lib.wp_append_run w s x 29 29 ho _ _ hs hx v' w' hr (h v' w' h1 h2)

theorem names_nsb {w : World} {B0 d : Nat} {nv kv : Value} {t : HT} (h : RepT w B0 d nv kv t) : NSB w B0 nv t.names := by
  cases d with
  | zero => exact h.elim
  | succ d => exact h.2.1
theorem names_short {d n : Nat} {t : HT} (h : Sized 200 60 d t 1 n) (h5 : t.kind = 5) : ∀ s ∈ t.names, s.length ≤ 200 := by
  cases d with
  | zero => exact h.elim
  | succ d =>
    intro s hs
    refine (h.2.2.2.2.1 s ?_).1
    unfold HT.texts
    rw [if_neg (by omega), if_pos h5]
    exact hs
theorem names_lt {d n : Nat} {t : HT} (h : Sized 200 60 d t 1 n) (h5 : t.kind = 5) : t.names.length ≤ 200 := by
  cases d with
  | zero => exact h.elim
  | succ d => rw [h.2.2.2.1 h5]; exact h.2.2.1
theorem print_pos {d n : Nat} {t : HT} (h : Sized 200 60 d t 1 n) : 0 < (hPrint d t 0).length := by
  rw [hPrint_zero]
  obtain ⟨c, r, hc, _⟩ := tree_starts d t 0 1 n h
  rw [hc]
  simp
theorem torn_silent {w : World} {v nv : Value} {d : Nat} {t : HT} {k : Nat} (hv : BA w v ((hPrint d t 0).take k)) (hn : NS w nv ([] :: t.names)) (hB : Base w) (hR : Right d t) (h5 : t.kind = 5) (hk : k < (hPrint d t 0).length) :
    Calls Tryz.prog 42 #[v, nv] w fun e w' => e = .returned (.bool true) ∧ Below w.heap.size w w' := by
  obtain ⟨n, hs, _⟩ := hR
  have e := torn_none hs (by decide) h5 k hk
  refine silent_any w v nv _ _ hv hn ?_ hB (fun j hj => by rw [e] at hj; cases hj) (fun s _ j hj => by rw [e] at hj; cases hj) (fun s hs' => ?_) ?_
  · have := print_length hs (sized_le hs (by decide)) 0
    have h2 := List.length_take_le k (hPrint d t 0)
    omega
  · rcases List.mem_cons.1 hs' with rfl | hs'
    · decide
    · have := names_short hs h5 s hs'
      omega
  · have := names_lt hs h5
    rw [List.length_cons]
    omega
theorem Below.to_alloc {w X : World} (h : Below w.heap.size w X) (o : Obj) : Below w.heap.size w (X.alloc o) := h.alloc h.size o
theorem Below.to_next {w X Y : World} (h : Below w.heap.size w X) (k : Below X.heap.size X Y) : Below w.heap.size w Y := h.trans (k.mono h.size)
theorem Below.kept {w X : World} (h : Below w.heap.size w X) {p : Addr} {v : Value} (hp : w.cell? p = some v) : X.cell? p = some v := by
  refine (h.cell (p := p) ?_).trans hp
  rcases Nat.lt_or_ge p.block w.heap.size with h' | h'
  · exact h'
  · simp [World.cell?, Array.getElem?_eq_none h'] at hp
theorem empty_box (w : World) : (w.alloc (.cells #[Value.string (B [])] 9)).cell? ⟨w.heap.size, 0, none⟩ = some (.string (B [])) := by
  have := cell_of_row (w.alloc (.cells #[Value.string (B [])] 9)) w.heap.size 0 _ _ _ (heap_alloc_new w _)
  rw [this]
  rfl

set_option maxRecDepth 100000 in
set_option maxHeartbeats 8000000 in
theorem torn_walk {d : Nat} {t : HT} {nv kv : Value} {B0 at0 : Nat} {w : World} (hr : RepT w B0 d nv kv t) (hG : Ground w) (hB : B0 ≤ w.heap.size) (hat : at0 < 65536) :
    Calls Tryz.prog 11 #[.agg (tcells t nv kv).toArray, .int .u16 at0] w fun e w' => e = .returned (.bool true) ∧ Below w.heap.size w w' := by
  obtain ⟨⟨an, cn, rfl⟩, ak, ck, rfl⟩ := hr.slices
  obtain ⟨w1, hw1⟩ : ∃ w1, w1 = w.alloc (.cells (tcells t (.slice an t.names.length cn) (.slice ak t.kids.length ck)).toArray 45) := ⟨_, rfl⟩
  have hb1 : Below w.heap.size w w1 := by rw [hw1]; exact (Below.refl _ _).alloc (Nat.le_refl _) _
  have hlt1 : w.heap.size < w1.heap.size := by rw [hw1]; simp
  have BOX : Hid (∀ {wz : World}, Below w1.heap.size w1 wz → ∀ (j : Nat) u, (tcells t (.slice an t.names.length cn) (.slice ak t.kids.length ck))[j]? = some u → wz.cell? ⟨w.heap.size, j, none⟩ = some u) := by
    intro wz hb j u hu
    refine (hb.cell (p := ⟨w.heap.size, j, none⟩) hlt1).trans ?_
    rw [hw1, cell_box]
    exact hu
  have HF : Hid (∀ {wz : World}, Below w1.heap.size w1 wz → RepT wz B0 d (.slice an t.names.length cn) (.slice ak t.kids.length ck) t ∧ Ground wz ∧ B0 ≤ wz.heap.size ∧ Below w.heap.size w wz) := by
    intro wz hb
    have hb2 : Below w.heap.size w wz := hb1.trans (hb.mono hb1.size)
    exact ⟨hr.below (hb2.mono hB), hG.below hb2, Nat.le_trans hB hb2.size, hb2⟩
  have HFIT := Lib.hid (fits11_any (HF.out (Below.refl _ _)).1 (HF.out (Below.refl _ _)).2.2.1)
  have HOBJ : Hid (∀ {wz : World}, Below w1.heap.size w1 wz → Calls Tryz.prog 36 #[.agg (tcells t (.slice an t.names.length cn) (.slice ak t.kids.length ck)).toArray, .slice none 0 0] wz fun e w' => ∃ ok, e = .returned (.bool ok) ∧ (ok = true → t.kind = 5 ∧ Right d t ∧ TextsOk []) ∧ Below wz.heap.size wz w') :=
    fun h => object_any (HF.out h).1 (HF.out h).2.1.2 (HF.out h).2.2.1 (Or.inl ⟨none, 0, rfl, rfl⟩) (by simp)
  have HPRINT : Hid (∀ {wz : World}, Below w1.heap.size w1 wz → Right d t → Calls Tryz.prog 31 #[.agg (tcells t (.slice an t.names.length cn) (.slice ak t.kids.length ck)).toArray, .int .u64 0] wz fun e w' => e = .returned (.string (B (hPrint d t 0))) ∧ Below wz.heap.size wz w') :=
    fun h hR => by
      obtain ⟨n, hs, _⟩ := hR
      exact print_any (x := 0) (HF.out h).1 hs (by have := sized_le hs (by decide); omega) (HF.out h).2.2.1 (by decide)
  clear hr hG hb1
  simp only [tcells] at hw1 HFIT HOBJ HPRINT BOX ⊢
  have HW1 := Lib.hid hw1
  clear hw1
  go_enter Tryz.func11, Tryz.ntmps11
  go_wp2_with (fail)
  rw [← HW1.out]
  refine HFIT.out.mono ?_
  rintro e w2 ⟨⟨bf, rfl⟩, hb2⟩
  have H2 := Lib.hid hb2
  clear hb2
  have LIVE : Hid (∀ {wz : World}, Below w1.heap.size w1 wz → Calls Tryz.prog 34 #[] wz fun e w' => e = .returned (.bool true) ∧ Below w.heap.size w w') := fun {wz} h =>
    (live_any wz (HF.out h).2.1.1).mono fun e w' he => ⟨he.1, (HF.out h).2.2.2.trans (he.2.mono (HF.out h).2.2.2.size)⟩
  cases bf
  · go_wp2
    go_ret
    exact ⟨rfl, (HF.out H2.out).2.2.2⟩
  have q0 := BOX.out H2.out 0 _ rfl
  have q1 := BOX.out H2.out 1 _ rfl
  have q2 := BOX.out H2.out 2 _ rfl
  have q3 := BOX.out H2.out 3 _ rfl
  have q4 := BOX.out H2.out 4 _ rfl
  have q5 := BOX.out H2.out 5 _ rfl
  have q6 := BOX.out H2.out 6 _ rfl
  go_wp2_with (fail)
  refine (HOBJ.out H2.out).mono ?_
  rintro e w3 ⟨ok, rfl, hy, hb3⟩
  have HY := Lib.hid hy
  have H3 := Lib.hid (H2.out.trans (hb3.mono H2.out.size))
  clear hy hb3 q0 q1 q2 q3 q4 q5 q6
  cases ok
  · go_wp2_with (fail)
    refine (LIVE.out H3.out).mono ?_
    rintro e w4 ⟨rfl, hb4⟩
    have H4 := Lib.hid hb4
    clear hb4
    go_wp2
    go_ret
    exact ⟨rfl, H4.out⟩
  have HRT : Hid (t.kind = 5 ∧ Right d t) := ⟨(HY.out rfl).1, (HY.out rfl).2.1⟩
  clear HY
  have q0 := BOX.out H3.out 0 _ rfl
  have q1 := BOX.out H3.out 1 _ rfl
  have q2 := BOX.out H3.out 2 _ rfl
  have q3 := BOX.out H3.out 3 _ rfl
  have q4 := BOX.out H3.out 4 _ rfl
  have q5 := BOX.out H3.out 5 _ rfl
  have q6 := BOX.out H3.out 6 _ rfl
  go_wp2_with (fail)
  refine (HPRINT.out H3.out HRT.out.2).mono ?_
  rintro e w4 ⟨rfl, hb4⟩
  have H4 := Lib.hid (H3.out.trans (hb4.mono H3.out.size))
  clear hb4 q0 q1 q2 q3 q4 q5 q6
  have q5 := BOX.out H4.out 5 _ rfl
  obtain ⟨P, hP⟩ : ∃ P, P = hPrint d t 0 := ⟨_, rfl⟩
  rw [← hP]
  have hp0 : 0 < P.length := by
    rw [hP]
    obtain ⟨n, hs, _⟩ := HRT.out.2
    exact print_pos hs
  obtain ⟨k, hk⟩ : ∃ k, k = at0 % P.length := ⟨_, rfl⟩
  have hkl : k < P.length := by rw [hk]; exact Nat.mod_lt _ hp0
  have e1 : ((at0 : Int).tmod (P.length : Int)) = (k : Int) := by rw [hk]; exact Int.ofNat_tmod at0 P.length
  have e2 : ¬ (P.length = 0) := by omega
  have e2b : ¬ (P = []) := by rintro rfl; simp at hp0
  have e2c : ¬ ((P.length : Int) = 0) := by omega
  have e5 : ¬ ((P.length : Int) < (k : Int)) := by omega
  have e6 : ¬ (P.length < k) := by omega
  have e3 : decide ((k : Int) < 0) = false := by simp
  have e4 : decide ((P.length : Int) < k) = false := by simp; omega
  have e0 : IntKind.i64.wrap (at0 : Int) = (at0 : Int) := by rw [IntKind.wrap_i64]; omega
  have HP := Lib.hid hP
  have HK := Lib.hid hk
  clear hP hk
  have CV : ∀ X : World, ∃ v w', (convert 9 27 (.string (B (P.take k)))).run Tryz.prog X = .ok v w' ∧ BA w' v (P.take k) ∧ Below X.heap.size X w' := fun X => conv_bytes X _
  obtain ⟨cv, cw, hc⟩ : ∃ (cv : World → Value) (cw : World → World), ∀ X, (convert 9 27 (.string (B (P.take k)))).run Tryz.prog X = .ok (cv X) (cw X) ∧ BA (cw X) (cv X) (P.take k) ∧ Below X.heap.size X (cw X) :=
    ⟨fun X => (CV X).choose, fun X => (CV X).choose_spec.choose, fun X => (CV X).choose_spec.choose_spec⟩
  have hcv := fun X => (hc X).1
  have HC := Lib.hid (fun X => (hc X).2)
  clear hc CV
  have HNB : Hid (∀ {wz : World}, Below w1.heap.size w1 wz → NSB wz B0 (.slice an t.names.length cn) t.names ∧ t.names.length < 1000000) := fun h => by
    have hrr := (HF.out h).1
    obtain ⟨n, hs, _⟩ := HRT.out.2
    exact ⟨names_nsb hrr, by have := names_lt hs HRT.out.1; omega⟩
  go_wp2_with (fail)
  have hB4 : Below w1.heap.size w1 w4.drew := H4.out.drew
  have CWB : Hid (∀ {X : World}, Below w1.heap.size w1 X → Below w1.heap.size w1 (cw X)) := fun h => Below.to_next h (HC.out _).2
  have HSIL : Hid (∀ {wz : World} {v nv : Value}, Below w1.heap.size w1 wz → BA wz v (P.take k) → NS wz nv ([] :: t.names) → Calls Tryz.prog 42 #[v, nv] wz fun e w' => e = .returned (.bool true) ∧ Below wz.heap.size wz w') := by
    intro wz v nv h1 h2 h3
    exact torn_silent (HP.out ▸ h2) h3 (HF.out h1).2.1.1 HRT.out.2 HRT.out.1 (HP.out ▸ hkl)
  have LIVE2 : Hid (∀ {wz : World}, Below w1.heap.size w1 wz → Calls Tryz.prog 34 #[] wz fun e w' => e = .returned (.bool true) ∧ Below wz.heap.size wz w') := fun {wz} h => live_any wz (HF.out h).2.1.1
  go_region_held_law (fun w' => w'.cell? ⟨w.heap.size, 5, none⟩ = some (.slice an t.names.length cn) ∧ Below w1.heap.size w1 w')
    (first
      | (go_split_ands
         refine (fun hbz => ⟨BOX.out hbz 5 _ rfl, hbz⟩) ?_
         first
           | assumption
           | exact CWB.out (by assumption)
           | exact Below.to_alloc (by assumption) _
           | exact Below.to_next (by assumption) (by assumption)))
    (first
      | (refine step_append_names (by rfl) _ _ (by rfl) _ t.names [] _ B0 (by rfl) (by rfl) (by first | exact empty_box _ | exact Below.kept (HC.out _).2 (empty_box _)) (HNB.out (by go_split_ands; assumption)).1 (HNB.out (by go_split_ands; assumption)).2 ?_; intro v' w5 hns hb5)
      | (go_at_call 42; go_split_ands; refine (HSIL.out (by assumption) (by first | exact (HC.out _).1 | exact BA.below (HC.out _).1 (by assumption) | exact BA.below (HC.out _).1 (Below.to_next (Below.to_alloc (Below.refl _ _) _) (by assumption))) (by first | assumption | exact NS.below (by assumption) (HC.out _).2)).mono ?_; rintro e w6 ⟨rfl, hb6⟩)
      | (go_at_call 34; go_split_ands; refine (LIVE2.out (by assumption)).mono ?_; rintro e w7 ⟨rfl, hb7⟩))
  all_goals
    go_split_ands
    go_wp2
    go_ret
    exact ⟨rfl, (HF.out (by assumption)).2.2.2⟩
end Go.Proofs.YtppkpcijmfdfmaaGreatDoor
