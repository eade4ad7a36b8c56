/- The walks of FnHeadDoubled and FnHeadLost. -/
import Derived.Test.YtppkpcijmfdfmaaGreatDoorW72
import Derived.Test.YtppkpcijmfdfmaaGreatDoorW70
import Derived.Test.YtppkpcijmfdfmaaGreatDoorE3
import Derived.Test.YtppkpcijmfdfmaaGreatDoorA21
namespace Go.Proofs.YtppkpcijmfdfmaaGreatDoor
open Go.RowKit
attribute [local go_sem] B_size B_get B_lit B_ext_to B_ext B_toList B_app

theorem join_flat (l : List Bs) : Lib.join l [] = l.flatten := by
  cases l with
  | nil => rfl
  | cons x r => rw [Lib.join_cons]; simp [Lib.joinTail]
theorem join_any {w : World} {b n cap : Nat} {l : List Bs} (hn : l.length = n) (ht : TxtAt w b 0 l) (hc : n ≤ cap) (h1 : n ≤ 1000000) (h2 : l.flatten.length ≤ 1000000000) :
    Calls Tryz.prog 52 #[.slice (some ⟨b, 0, none⟩) n cap, .string (B [])] w fun e w' => e = .returned (.string (B l.flatten)) ∧ Below w.heap.size w w' := by
  subst hn
  have e : (l.map B).map (·.data.toList) = l := by
    rw [List.map_map]
    exact (List.map_congr_left (fun x _ => rfl)).trans (List.map_id l)
  have e0 : (B []).data.toList = [] := rfl
  have hx := Tryz.strings_Join b 0 cap (l.map B) (B []) w (fun j x hx => by
    rw [List.getElem?_map, Option.map_eq_some_iff] at hx
    obtain ⟨s, hs, rfl⟩ := hx
    exact ht.2 j s hs) ht.1 (by simp; omega) (by simpa using hc) (by rw [e, e0, join_flat]; omega)
  rw [e, e0, join_flat, List.length_map] at hx
  exact hx
theorem ns_take {w : World} {g n cap j : Nat} {l : List Bs} (h : TxtAt w g 0 l) (hn : n = l.length) (hj : j ≤ n) : NS w (.slice (some ⟨g, 0, none⟩) j cap) (l.take j) ∧ (l.take j).length = j := by
  have e : (l.take j).length = j := by rw [List.length_take]; omega
  refine ⟨Or.inr ⟨g, 0, cap, by rw [e], h.1, fun i s hi => h.2 i s ?_⟩, e⟩
  rw [List.getElem?_take] at hi
  split at hi
  · exact hi
  · cases hi
theorem ns_drop {w : World} {g n cap j : Nat} {l : List Bs} (h : TxtAt w g 0 l) (hn : n = l.length) (hj : j ≤ n) : NS w (.slice (some ⟨g, j, none⟩) (n - j) cap) (l.drop j) ∧ (l.drop j).length = n - j := by
  have e : (l.drop j).length = n - j := by rw [List.length_drop]; omega
  refine ⟨Or.inr ⟨g, j, cap, by rw [e], h.1, fun i s hi => ?_⟩, e⟩
  rw [List.getElem?_drop] at hi
  have := h.2 (j + i) s hi
  rw [Nat.zero_add] at this
  exact this
theorem ns_drop_at {w : World} {g n cap j : Nat} {l : List Bs} {ad : Option Addr} (h : TxtAt w g 0 l) (hn : n = l.length) (hj : j ≤ n) (hc : n ≤ cap) (had : (if cap = j then some ⟨g, 0, none⟩ else some ⟨g, j, none⟩) = ad) : NS w (.slice ad (n - j) (cap - j)) (l.drop j) ∧ (l.drop j).length = n - j := by
  by_cases e : cap = j
  · have hnj : n = j := by omega
    refine ⟨Or.inl ⟨ad, cap - j, by rw [hnj, Nat.sub_self], List.drop_of_length_le (by omega)⟩, by rw [List.length_drop]; omega⟩
  · rw [if_neg e] at had
    subst had
    exact ns_drop h hn hj
theorem two_box (w : World) (a b : Value) (ty : TypeId) : (w.alloc (.cells #[a, b] ty)).cell? ⟨w.heap.size, 0, none⟩ = some a ∧ (w.alloc (.cells #[a, b] ty)).cell? ⟨w.heap.size, 1, none⟩ = some b :=
  ⟨cell_box w [a, b] ty 0, cell_box w [a, b] ty 1⟩
theorem TxtAt.below {w w' : World} {b off : Nat} {l : List Bs} (h : TxtAt w b off l) (hb : Below w.heap.size w w') : TxtAt w' b off l := h.keep hb.size (hb.block b h.1)
theorem TxtAt.drew {w : World} {b off : Nat} {l : List Bs} (h : TxtAt w b off l) : TxtAt w.drew b off l := h
theorem concat_two {w : World} {b n1 n2 c1 c2 : Nat} {a1 a2 : Option Addr} {l1 l2 : List Bs} (e1 : l1.length = n1) (e2 : l2.length = n2) (h1 : NS w (.slice a1 n1 c1) l1) (h2 : NS w (.slice a2 n2 c2) l2) (hb0 : w.cell? ⟨b, 0, none⟩ = some (.slice a1 n1 c1)) (hb1 : w.cell? ⟨b, 1, none⟩ = some (.slice a2 n2 c2)) (hlt : b < w.heap.size)
    (hpos : 0 < n1 + n2) (hle1 : n1 ≤ 5000) (hle2 : n2 ≤ 5000) : Calls Tryz.prog 48 #[.slice (some ⟨b, 0, none⟩) 2 2] w (TokR w (l1 ++ l2)) := by
  subst e1 e2
  exact concat_any w b a1 a2 c1 c2 l1 l2 h1 h2 hb0 hb1 hlt hpos hle1 hle2

set_option maxRecDepth 100000 in
set_option maxHeartbeats 8000000 in
theorem doubled_walk {d : Nat} {t : HT} {nv kv : Value} {B0 at0 : Nat} {w : World} (hr : RepT w B0 (d + 1) nv kv t) (hG : Ground w) (hB : B0 ≤ w.heap.size) (hat : at0 < 65536) :
    Calls Tryz.prog 19 #[.agg (tcells t nv kv).toArray, .int .u16 at0] w fun e w' => e = .returned (.bool true) ∧ Below w.heap.size w w' := by
  obtain ⟨⟨an, cn, rfl⟩, ak, ck, rfl⟩ := hr.slices
  obtain ⟨w1, hw1⟩ : ∃ w1, w1 = w.alloc (.cells (tcells t (.slice an t.names.length cn) (.slice ak t.kids.length ck)).toArray 45) := ⟨_, rfl⟩
  have hb1 : Below w.heap.size w w1 := by rw [hw1]; exact (Below.refl _ _).alloc (Nat.le_refl _) _
  have hlt1 : w.heap.size < w1.heap.size := by rw [hw1]; simp
  have BOX : Hid (∀ {wz : World}, Below w1.heap.size w1 wz → ∀ (j : Nat) u, (tcells t (.slice an t.names.length cn) (.slice ak t.kids.length ck))[j]? = some u → wz.cell? ⟨w.heap.size, j, none⟩ = some u) := by
    intro wz hb j u hu
    refine (hb.cell (p := ⟨w.heap.size, j, none⟩) hlt1).trans ?_
    rw [hw1, cell_box]
    exact hu
  have HF : Hid (∀ {wz : World}, Below w1.heap.size w1 wz → RepT wz B0 (d + 1) (.slice an t.names.length cn) (.slice ak t.kids.length ck) t ∧ Ground wz ∧ B0 ≤ wz.heap.size ∧ Below w.heap.size w wz) := by
    intro wz hb
    have hb2 : Below w.heap.size w wz := hb1.trans (hb.mono hb1.size)
    exact ⟨hr.below (hb2.mono hB), hG.below hb2, Nat.le_trans hB hb2.size, hb2⟩
  have HFIT := Lib.hid (fits11_any (HF.out (Below.refl _ _)).1 (HF.out (Below.refl _ _)).2.2.1)
  have HOBJ : Hid (∀ {wz : World}, Below w1.heap.size w1 wz → Calls Tryz.prog 36 #[.agg (tcells t (.slice an t.names.length cn) (.slice ak t.kids.length ck)).toArray, .slice none 0 0] wz fun e w' => ∃ ok, e = .returned (.bool ok) ∧ (ok = true → t.kind = 5 ∧ Right (d + 1) t ∧ TextsOk []) ∧ Below wz.heap.size wz w') :=
    fun h => object_any (HF.out h).1 (HF.out h).2.1.2 (HF.out h).2.2.1 (Or.inl ⟨none, 0, rfl, rfl⟩) (by simp)
  have HTOK : Hid (∀ {wz : World}, Below w1.heap.size w1 wz → Right (d + 1) t → Calls Tryz.prog 50 #[.agg (tcells t (.slice an t.names.length cn) (.slice ak t.kids.length ck)).toArray] wz (TokR wz (hToks (d + 1) t))) :=
    fun h hR => by
      obtain ⟨n, hs, _⟩ := hR
      exact toks_any (d + 1) (HF.out h).1 hs (by have := sized_le hs (by decide); omega) (HF.out h).2.2.1
  clear hr hG hb1
  simp only [tcells] at hw1 HFIT HOBJ HTOK BOX ⊢
  have HW1 := Lib.hid hw1
  clear hw1
  go_enter Tryz.func19, Tryz.ntmps19
  go_wp2_with (fail)
  rw [← HW1.out]
  refine HFIT.out.mono ?_
  rintro e w2 ⟨⟨bf, rfl⟩, hb2⟩
  have H2 := Lib.hid hb2
  clear hb2
  have LIVE : Hid (∀ {wz : World}, Below w1.heap.size w1 wz → Calls Tryz.prog 34 #[] wz fun e w' => e = .returned (.bool true) ∧ Below w.heap.size w w') := fun {wz} h =>
    (live_any wz (HF.out h).2.1.1).mono fun e w' he => ⟨he.1, (HF.out h).2.2.2.trans (he.2.mono (HF.out h).2.2.2.size)⟩
  cases bf
  · go_wp2
    go_ret
    exact ⟨rfl, (HF.out H2.out).2.2.2⟩
  have q0 := BOX.out H2.out 0 _ rfl
  have q1 := BOX.out H2.out 1 _ rfl
  have q2 := BOX.out H2.out 2 _ rfl
  have q3 := BOX.out H2.out 3 _ rfl
  have q4 := BOX.out H2.out 4 _ rfl
  have q5 := BOX.out H2.out 5 _ rfl
  have q6 := BOX.out H2.out 6 _ rfl
  go_wp2_with (fail)
  refine (HOBJ.out H2.out).mono ?_
  rintro e w3 ⟨ok, rfl, hy, hb3⟩
  have HY := Lib.hid hy
  have H3 := Lib.hid (H2.out.trans (hb3.mono H2.out.size))
  clear hy hb3 q0 q1 q2 q3 q4 q5 q6
  cases ok
  · go_wp2_with (fail)
    refine (LIVE.out H3.out).mono ?_
    rintro e w4 ⟨rfl, hb4⟩
    have H4 := Lib.hid hb4
    clear hb4
    go_wp2
    go_ret
    exact ⟨rfl, H4.out⟩
  have HRT : Hid (t.kind = 5 ∧ Right (d + 1) t) := ⟨(HY.out rfl).1, (HY.out rfl).2.1⟩
  clear HY
  have q0 := BOX.out H3.out 0 _ rfl
  have q1 := BOX.out H3.out 1 _ rfl
  have q2 := BOX.out H3.out 2 _ rfl
  have q3 := BOX.out H3.out 3 _ rfl
  have q4 := BOX.out H3.out 4 _ rfl
  have q5 := BOX.out H3.out 5 _ rfl
  have q6 := BOX.out H3.out 6 _ rfl
  go_wp2_with (fail)
  refine (HTOK.out H3.out HRT.out.2).mono ?_
  rintro e w4 ⟨g, cap, rfl, hown, hb4⟩
  have H4 := Lib.hid (H3.out.trans (hb4.mono H3.out.size))
  have HOWN := Lib.hid hown
  clear hb4 hown q0 q1 q2 q3 q4 q5 q6
  obtain ⟨l, hl⟩ : ∃ l, l = hToks (d + 1) t := ⟨_, rfl⟩
  rw [← hl] at HOWN ⊢
  have hl2 : 2 ≤ l.length := by rw [hl]; exact toks_two HRT.out.1
  have hl5 : l.length ≤ 5000 := by
    obtain ⟨n, hs, _⟩ := HRT.out.2
    have := hToks_length _ _ _ _ hs
    have := sized_le hs (by decide)
    rw [hl]; omega
  have HFL : Hid (l.flatten.length ≤ 80000000) := by
    obtain ⟨n, hs, _⟩ := HRT.out.2
    have := print_length hs (sized_le hs (by decide)) 0
    rw [print_toks, ← hl] at this
    exact this
  have HL := Lib.hid hl
  clear hl
  obtain ⟨n, hn⟩ : ∃ n, n = l.length := ⟨_, rfl⟩
  rw [← hn] at hl2 hl5 ⊢
  obtain ⟨k, hk⟩ : ∃ k, k = at0 % n := ⟨_, rfl⟩
  have hkl : k < n := by rw [hk]; exact Nat.mod_lt _ (by omega)
  have e0 : IntKind.i64.wrap (at0 : Int) = (at0 : Int) := by rw [IntKind.wrap_i64]; omega
  have e1 : ((at0 : Int).tmod (n : Int)) = (k : Int) := by rw [hk]; exact Int.ofNat_tmod at0 _
  have e2 : ¬ (n = 0) := by omega
  have hcap : n ≤ cap := by obtain ⟨_, _, _, h, _⟩ := HOWN.out.row; omega
  obtain ⟨s, hs⟩ : ∃ s, l[k]? = some s := ⟨_, List.getElem?_eq_getElem (by omega)⟩
  have HT4 := Lib.hid HOWN.out.txt
  have qs := HT4.out.2 k s hs
  rw [Nat.zero_add] at qs
  have HN := Lib.hid hn
  have HK := Lib.hid hk
  have HS := Lib.hid hs
  clear hn hk hs
  go_wp2_with (fail)
  refine (mark_any s w4).mono ?_
  rintro e w5 ⟨rfl, rfl⟩
  cases hm : markB s
  · clear hm
    go_wp2_with (fail)
    refine (LIVE.out H4.out).mono ?_
    rintro e w5 ⟨rfl, hb5⟩
    have H5 := Lib.hid hb5
    clear hb5
    go_wp2
    go_ret
    exact ⟨rfl, H5.out⟩
  have HM : Hid (∃ c, l[k]? = some [c] ∧ isSign c = true) := by
    obtain ⟨c, e, h⟩ := markB_some hm
    exact ⟨c, by rw [HS.out, e], h⟩
  clear hm
  have g1 : IntKind.i64.wrap ((k : Int) + 1) = (k : Int) + 1 := by rw [IntKind.wrap_i64]; omega
  have g2 : (0 : Int) ≤ (k : Int) + 1 := by omega
  have g3 : ((k : Int) + 1).toNat = k + 1 := by omega
  have g4 : ((k : Int) + 1) ≤ (cap : Int) := by omega
  have g5 : (0 : Int) ≤ (k : Int) := by omega
  have g6 : (k : Int) ≤ (n : Int) := by omega
  have g7 : (n : Int) ≤ (cap : Int) := by omega
  obtain ⟨ad, had⟩ : ∃ ad, (if cap = k then some (⟨g, 0, none⟩ : Addr) else some ⟨g, k, none⟩) = ad := ⟨_, rfl⟩
  have HAD := Lib.hid had
  have HPC : Hid (∀ {wz : World}, TxtAt wz g 0 l → (NS wz (.slice (some ⟨g, 0, none⟩) (k + 1) cap) (l.take (k + 1)) ∧ (l.take (k + 1)).length = k + 1) ∧ NS wz (.slice ad (n - (k)) (cap - (k))) (l.drop (k)) ∧ (l.drop (k)).length = n - (k)) := fun h => ⟨ns_take h HN.out (by omega), ns_drop_at h HN.out (by omega) hcap HAD.out⟩
  go_wp2_with (fail)
  have hs0 : Below w1.heap.size w1 w4.drew := H4.out.drew
  have ht0 : TxtAt w4.drew g 0 l := HT4.out.drew
  have CAT : Hid (Calls Tryz.prog 48 #[.slice (some ⟨w4.heap.size, 0, none⟩) 2 2] (w4.alloc (.cells #[.slice (some ⟨g, 0, none⟩) (k + 1) cap, .slice ad (n - (k)) (cap - (k))] 29)).drew (TokR (w4.alloc (.cells #[.slice (some ⟨g, 0, none⟩) (k + 1) cap, .slice ad (n - (k)) (cap - (k))] 29)).drew (l.take (k + 1) ++ l.drop (k)))) := by
    have h' : TxtAt (w4.alloc (.cells #[.slice (some ⟨g, 0, none⟩) (k + 1) cap, .slice ad (n - (k)) (cap - (k))] 29)).drew g 0 l := HT4.out.below ((Below.refl _ _).alloc (Nat.le_refl _) _).drew
    have pp := HPC.out h'
    have bx := two_box w4 (.slice (some ⟨g, 0, none⟩) (k + 1) cap) (.slice ad (n - (k)) (cap - (k))) 29
    exact concat_two pp.1.2 pp.2.2 pp.1.1 pp.2.1 bx.1 bx.2 (by show w4.heap.size < (World.alloc _ _).heap.size; simp) (by omega) (by omega) (by omega)
  have HLT : Hid ((l.take (k + 1) ++ l.drop (k)).length ≤ 6000 ∧ (l.take (k + 1) ++ l.drop (k)).flatten.length ≤ 1000000000) := by
    refine Lib.hid ⟨?_, ?_⟩
    · rw [List.length_append, List.length_take, List.length_drop]; have := HN.out; omega
    · rw [List.flatten_append, List.length_append]
      have := flat_take l (k + 1)
      have := flat_drop l (k)
      have := HFL.out
      omega
  have HNONE : Hid (jParse (l.take (k + 1) ++ l.drop (k)).flatten = none) := by
    obtain ⟨n', hs, _⟩ := HRT.out.2
    obtain ⟨ks, hks, hpt⟩ := toks_pt _ _ _ _ hs
    refine Lib.hid ?_
    have hl := HL.out
    rw [← hl] at hks
    obtain ⟨c, h1, h2⟩ := HM.out
    exact doubled_none hks hpt k c h1 h2
  obtain ⟨L, hL⟩ : ∃ L, L = l.take (k + 1) ++ l.drop (k) := ⟨_, rfl⟩
  rw [← hL] at CAT HLT HNONE
  have hLF : L.flatten.length ≤ 1000000000 := HLT.out.2
  have JOIN : Hid (∀ {wz : World} {b c : Nat}, TxtAt wz b 0 L → L.length ≤ c → Calls Tryz.prog 52 #[.slice (some ⟨b, 0, none⟩) L.length c, .string (B [])] wz fun e w' => e = .returned (.string (B L.flatten)) ∧ Below wz.heap.size wz w') := fun h hc =>
    join_any rfl h hc (by have := HLT.out.1; omega) HLT.out.2
  clear hL
  go_region_held_law (fun w' => TxtAt w' g 0 l ∧ Below w1.heap.size w1 w')
    (first
      | (go_split_ands
         refine ⟨?_, ?_⟩
         all_goals first
           | assumption
           | exact TxtAt.below (by assumption) ((Below.refl _ _).alloc (Nat.le_refl _) _)
           | exact Below.to_alloc (by assumption) _
           | exact TxtAt.below (by assumption) (by assumption)
           | exact Below.to_next (by assumption) (by assumption)))
    (first
      | (go_at_call 48; refine CAT.out.mono ?_; rintro e w6 ⟨g6, cap6, rfl, hown6, hb6⟩)
      | (go_at_call 52; refine (JOIN.out hown6.txt (by obtain ⟨_, _, _, h, _⟩ := hown6.row; exact h)).mono ?_; rintro e w7 ⟨rfl, hb7⟩))
  all_goals
    go_split_ands
    have H7 : Hid (Below w1.heap.size w1 w7) := by assumption
    obtain ⟨cv, w8, hcv, hba, hb8⟩ := conv_bytes w7 L.flatten
    have H8 := Lib.hid (Below.to_next H7.out hb8)
    have hx := HF.out H8.out
    have HSIL : Hid (Calls Tryz.prog 42 #[cv, .slice an t.names.length cn] w8 fun e w' => e = .returned (.bool true) ∧ Below w8.heap.size w8 w') := by
      obtain ⟨n', hs, hnd⟩ := HRT.out.2
      refine silent_any w8 cv _ _ t.names hba ((names_nsb hx.1).ns hx.2.2.1) (by omega) hx.2.1.1 (fun j hj => by rw [HNONE.out] at hj; cases hj) (fun s _ j hj => by rw [HNONE.out] at hj; cases hj) (fun s hs' => ?_) ?_
      · have := names_short hs HRT.out.1 s hs'; omega
      · have := names_lt hs HRT.out.1; omega
    have q5 := BOX.out H8.out 5 _ rfl
    clear hba hb8 hx
    go_wp2_with (fail)
    refine HSIL.out.mono ?_
    rintro e w9 ⟨rfl, hb9⟩
    have H9 := Lib.hid (Below.to_next H8.out hb9)
    clear hb9 hcv q5
    go_wp2_with (fail)
    refine (LIVE.out H9.out).mono ?_
    rintro e w10 ⟨rfl, hb10⟩
    have H10 := Lib.hid hb10
    clear hb10
    go_wp2
    go_ret
    exact ⟨rfl, H10.out⟩
theorem doubled_walk0 {d : Nat} {t : HT} {nv kv : Value} {B0 at0 : Nat} {w : World} (hr : RepT w B0 d nv kv t) (hG : Ground w) (hB : B0 ≤ w.heap.size) (hat : at0 < 65536) :
    Calls Tryz.prog 19 #[.agg (tcells t nv kv).toArray, .int .u16 at0] w fun e w' => e = .returned (.bool true) ∧ Below w.heap.size w w' := by
  cases d with
  | zero => exact hr.elim
  | succ d => exact doubled_walk hr hG hB hat
end Go.Proofs.YtppkpcijmfdfmaaGreatDoor
