/- A text that reads as an object, and HeadRun of it. -/
import Derived.Test.YtppkpcijmfdfmaaGreatDoorF9
import Derived.Test.YtppkpcijmfdfmaaGreatDoorA28
set_option linter.unusedVariables false
set_option linter.unusedSimpArgs false
set_option linter.unusedVariables false
set_option linter.unusedSimpArgs false
namespace Go.Proofs.YtppkpcijmfdfmaaGreatDoor
open Go.RowKit

theorem KidAt.fn {t : HT} {s : Bs} {k : Option HT} (h : KidAt t s k) : kidIn t.names t.kids s = k := by
  cases k with
  | none => exact kidIn_none h
  | some c =>
    obtain ⟨i, h1, h2, h3⟩ := h
    exact kidIn_at h1 h2 h3
/-- A text that reads as an object. -/
structure RdT (P : Bs) (t : HT) : Prop where
  ex : ∃ d ms, jParse P = some (.obj ms) ∧ Mems (Mt d) ms t.names t.kids ∧ (∀ D, JLe 450000000 D (.obj ms)) ∧ Good UnR (.obj ms)
  len : P.length ≤ 450000000
  kids : ∀ c ∈ t.kids, c.num < 18446744073709551616 ∧ c.kids.length ≤ 1000000
  lens : t.names.length = t.kids.length
  few : t.names.length ≤ 1000000
theorem obj_read2 {N M d : Nat} {t : HT} {n : Nat} (h : Sized N M d t 1 n) (hn : n ≤ 1000) (hM : M ≤ 300) (h5 : t.kind = 5) (x : Nat) :
    ∃ d' ms, jParse (hPrint d t x) = some (.obj ms) ∧ Mems (Mt d') ms t.names t.kids ∧ ∀ D, JLe 450000000 D (.obj ms) := by
  obtain ⟨j, e1, e2⟩ := print_back h hM x
  have hl := print_length2 h hn x
  cases d with
  | zero => exact e2.elim
  | succ d =>
    rcases e2 with ⟨k, _⟩ | ⟨k, _⟩ | ⟨k, _⟩ | ⟨k, _⟩ | ⟨k, _⟩ | ⟨_, ms, rfl, hm⟩
    · omega
    · omega
    · omega
    · omega
    · omega
    · exact ⟨d, ms, e1, hm, fun D => (parse_le e1 D).mono hl⟩
theorem sized_kids {N M d n : Nat} {t : HT} (h : Sized N M d t 1 n) (h5 : t.kind = 5) (hN : N ≤ 1000) : (∀ c ∈ t.kids, c.num < 18446744073709551616 ∧ c.kids.length ≤ 1000000) ∧ t.names.length = t.kids.length ∧ t.names.length ≤ 1000000 := by
  obtain ⟨e, ms, rfl, h1, h2, h3, h4, h6, h7, h8⟩ := sized_obj h h5
  refine ⟨fun c hc => ?_, h3, by omega⟩
  obtain ⟨i, hi⟩ := List.mem_iff_getElem?.1 hc
  obtain ⟨m, _, hm⟩ := (All2.get h6).2 i _ hi
  cases e with
  | zero => exact hm.elim
  | succ e => exact ⟨hm.2.1.2, by have := hm.2.2.1; omega⟩
theorem rd_print {N M d : Nat} {t : HT} {n : Nat} (h : Sized N M d t 1 n) (hN : N ≤ 1000) (hM : M ≤ 300) (h5 : t.kind = 5) (hnd : t.names.Nodup) (x : Nat) : RdT (hPrint d t x) t := by
  obtain ⟨e, ms', _, _, _, _, _, _, _, hn⟩ := sized_obj h h5
  obtain ⟨d', ms, h1, h2, h3⟩ := obj_read2 h (by omega) hM h5 x
  obtain ⟨k1, k2, k3⟩ := sized_kids h h5 hN
  exact ⟨⟨d', ms, h1, h2, h3, obj_good h2 h3 hnd⟩, print_length2 h (by omega) x, k1, k2, k3⟩
/-- At style 0 a name may stand twice. -/
theorem rd_zero {N M d : Nat} {t : HT} {n : Nat} (h : Sized N M d t 1 n) (hN : N ≤ 1000) (hM : M ≤ 300) (h5 : t.kind = 5) : RdT (hPrint d t 0) t := by
  obtain ⟨e, ms', _, _, _, _, _, _, _, hn⟩ := sized_obj h h5
  obtain ⟨d', ms, h1, h2, h3⟩ := obj_read2 h (by omega) hM h5 0
  obtain ⟨k1, k2, k3⟩ := sized_kids h h5 hN
  refine ⟨⟨d', ms, h1, h2, h3, ⟨fun ms' e m h => ?_, fun ms' e m h => ?_, fun ms' e m hm m' hm' c u1 u2 => ?_, fun ms' e => ?_⟩⟩, print_length2 h (by omega) 0, k1, k2, k3⟩
  · cases e
    obtain ⟨i, hi⟩ := List.mem_iff_getElem?.1 h
    obtain ⟨n, k, _, _, hu, _⟩ := mem_at h2 h3 hi
    exact ⟨n, hu⟩
  · cases e
    obtain ⟨i, hi⟩ := List.mem_iff_getElem?.1 h
    obtain ⟨n, k, _, _, _, hk⟩ := mem_at h2 h3 hi
    exact mt_goodT hk
  · cases e
    exact raw_alike (obj_zero h hM h5 h1) m hm m' hm' c u1.1 u2.1
  · cases e
    have := ((h3 3).2.2 ms rfl).1
    omega

/-- What an answer is. -/
noncomputable def tell (t : HT) (q : Nat × Bs) : Told := toldT (kidIn t.names t.kids q.2) q.1
theorem toldT_list (k : Option HT) (q : Nat) (hk : ∀ c, k = some c → c.kids.length ≤ 1000000) : (toldT k q).list.length ≤ 1000000 := by
  cases k with
  | none => exact Nat.zero_le _
  | some t =>
    have := hk t rfl
    unfold toldT
    simp only
    repeat' split
    all_goals first | exact Nat.zero_le _ | (show (t.kids.map _).length ≤ _; rw [List.length_map]; exact this)
set_option maxHeartbeats 1000000 in
theorem runRd_any {P : Bs} {t : HT} (h : RdT P t) {v av : Value} {asks : Asks} {w : World} (hv : BA w v P) (ha : AskRow w av asks) (hG : Gw w) (hlen : asks.length < 4294967296) (hq : ∀ q ∈ asks, q.1 < 10 ∧ q.2.length < 4294967290) :
    Calls Tryz.prog 32 #[v, av] w fun e w' => ∃ ov l, e = .returned ov ∧ l.length = asks.length ∧ TRow w' ov l ∧ (∀ (i : Nat) q p, asks[i]? = some q → l[i]? = some p → p.1 = tell t q) ∧ (∀ p ∈ l, SL w' p.2 p.1.list ∧ p.1.list.length ≤ 1000000) ∧ Below w.heap.size w w' := by
  obtain ⟨⟨d', ms, hp, hm, hl, hgood⟩, hpl, hkn0, hln0, _⟩ := h
  have hR := ready_any (G := env1) v P w hv (by omega) hG (fun j hj => by rw [hp] at hj; cases hj; exact hgood)
  rw [hp] at hR
  have hkn : ∀ (s : Bs) c, KidAt t s (some c) → c.num < 18446744073709551616 := fun s c hk => by
    obtain ⟨i, _, hc, _⟩ := hk
    exact (hkn0 c (List.mem_of_getElem? hc)).1
  refine (headRun_any env1_ok v av asks (some (.obj ms)) w hR ha hlen (fun q _ j hj hno => by cases hj; exact absurd rfl (hno _)) (fun q hq' => (hq q hq').2) (fun q hq' => (hq q hq').1) (fun q hq' j s hf hj => ?_)).mono ?_
  · obtain ⟨k, hk, hmt⟩ := finds_kid hm hl (s := q.2) (r := some j) hf
    cases k with
    | none => exact hmt.elim
    | some c =>
      have hnum : IsNum s := by
        rcases mt_num hmt.1 with ⟨_, e⟩ | ⟨_, e⟩
        · rw [hj] at e
          cases e
          exact ⟨_, _, hkn _ _ hk, rfl⟩
        · exact absurd hj (e s)
      unfold Env.NK
      split <;> first | exact hnum | trivial
  · rintro e w3 ⟨ov, l3, hb, B1, rfl, hln, hrs⟩
    have hans : ∀ (i : Nat) q p, asks[i]? = some q → l3[i]? = some p → p.1 = tell t q := fun i q p hi hi' => by
      obtain ⟨r, hf, hans⟩ := hrs.ans i q p hi hi'
      obtain ⟨k, hk, hmt⟩ := finds_kid hm hl (s := q.2) (r := r) hf
      have e := ans_told hans hmt (fun c hc => hkn _ _ (by rw [← hc]; exact hk)) (hq q (List.mem_of_getElem? hi)).1
      unfold tell
      rw [hk.fn]
      exact e
    refine ⟨ov, l3, rfl, hln, hrs.trow, hans, fun p hp' => ⟨(hrs.lists p hp').1, ?_⟩, hrs.below⟩
    obtain ⟨i, hi⟩ := List.mem_iff_getElem?.1 hp'
    have hil := (List.getElem?_eq_some_iff.1 hi).1
    have hq' : asks[i]? = some asks[i] := List.getElem?_eq_getElem (by omega)
    rw [hans i _ p hq' hi]
    unfold tell
    exact toldT_list _ _ fun c hc => (hkn0 c (kidIn_mem hc).2).2
theorem tell_self (t : HT) (hk : ∀ c ∈ t.kids, c.num < 18446744073709551616) (q : Nat × Bs) : (FloatKind.f64.format.order (tell t q).fl (tell t q).fl == some .eq) = true := by
  have z : (FloatKind.f64.format.order 0 0 == some .eq) = true := by decide +kernel
  unfold tell
  cases hc : kidIn t.names t.kids q.2 with
  | none => exact z
  | some c =>
    have hn := hk c (kidIn_mem hc).2
    by_cases h6 : c.kind = 2 ∧ q.1 = 6
    · obtain ⟨f, hf, h1, h2, _⟩ := numF_at (s := hNum c.minus c.num) ⟨_, _, hn, rfl⟩
      have e : (toldT (some c) q.1).fl = f := by
        unfold toldT
        simp only
        rw [if_neg (by omega), if_neg (by omega), if_neg (by omega), if_neg (by omega), if_neg (by omega), if_pos h6, hf]
        rfl
      rw [e]
      exact h2
    · have e : (toldT (some c) q.1).fl = 0 := by
        unfold toldT
        simp only
        repeat' split
        all_goals first | rfl | (exfalso; exact h6 (by assumption))
      rw [e]
      exact z
end Go.Proofs.YtppkpcijmfdfmaaGreatDoor

/- The walks of slices.Equal of texts and sameTold. -/
set_option linter.unusedVariables false
set_option linter.unusedSimpArgs false
namespace Go.Proofs.YtppkpcijmfdfmaaGreatDoor
open Go.RowKit
attribute [local go_sem] B_size B_get B_lit B_ext_to B_ext B_toList B_app

theorem SL.ns {w : World} {v : Value} {l : List Bs} (h : SL w v l) : NS w v l := by
  rcases h with ⟨rfl, rfl⟩ | ⟨b, c, rfl, hlt, hc⟩
  · exact Or.inl ⟨none, 0, rfl, rfl⟩
  · exact Or.inr ⟨b, 0, c, rfl, hlt, fun i s hi => by rw [Nat.zero_add]; exact hc i s hi⟩
theorem equal_any (w : World) {va vb : Value} {l : List Bs} (h1 : NS w va l) (h2 : NS w vb l) (hl : l.length ≤ 1000000) : Calls Tryz.prog 74 #[va, vb] w fun e w' => e = .returned (.bool true) ∧ Below w.heap.size w w' := by
  by_cases h0 : l = []
  · subst h0
    obtain ⟨a1, c1, rfl⟩ : ∃ a c, va = .slice a 0 c := by
      rcases h1 with ⟨a, c, e, _⟩ | ⟨b, off, c, e, _⟩
      · exact ⟨a, c, e⟩
      · exact ⟨_, c, e⟩
    obtain ⟨a2, c2, rfl⟩ : ∃ a c, vb = .slice a 0 c := by
      rcases h2 with ⟨a, c, e, _⟩ | ⟨b, off, c, e, _⟩
      · exact ⟨a, c, e⟩
      · exact ⟨_, c, e⟩
    refine (Tryz.slices_Equal_string_empty a1 a2 c1 0 c2 w (by omega)).mono ?_
    rintro e w' ⟨rfl, rfl⟩
    exact ⟨by simp, Below.refl _ _⟩
  · rcases h1 with ⟨_, _, _, e⟩ | ⟨b1, o1, c1, rfl, _, k1⟩
    · exact absurd e h0
    rcases h2 with ⟨_, _, _, e⟩ | ⟨b2, o2, c2, rfl, _, k2⟩
    · exact absurd e h0
    have hg : ∀ j, j < (l.map B).length → ∃ s, l[j]? = some s ∧ (l.map B).getD j ByteArray.empty = B s := fun j hj => by
      rw [List.length_map] at hj
      refine ⟨l[j], List.getElem?_eq_getElem hj, ?_⟩
      rw [List.getD_eq_getElem?_getD, List.getElem?_map, List.getElem?_eq_getElem hj]
      rfl
    refine (Tryz.slices_Equal_string b1 o1 l.length c1 b2 o2 l.length c2 (l.map B) (l.map B) w (by simp) (by simp) (by omega) (by omega) (fun j hj => ?_) (fun j hj => ?_)).mono ?_
    · obtain ⟨s, e1, e2⟩ := hg j hj
      rw [e2]; exact k1 j s e1
    · obtain ⟨s, e1, e2⟩ := hg j hj
      rw [e2]; exact k2 j s e1
    · rintro e w' ⟨rfl, q, rfl⟩
      exact ⟨by simp, drewN_below _ _⟩
theorem NS.slice {w : World} {v : Value} {l : List Bs} (h : NS w v l) : ∃ a c, v = .slice a l.length c := by
  rcases h with ⟨a, c, rfl, rfl⟩ | ⟨b, off, c, rfl, _⟩
  · exact ⟨a, c, rfl⟩
  · exact ⟨_, c, rfl⟩
set_option maxRecDepth 100000 in
set_option maxHeartbeats 2000000 in
theorem sameTold_in (w : World) (ok is x : Bool) (text : Bs) (int uint : Int) (f g : Nat) {la lb : Value} {l : List Bs} (h1 : NS w la l) (h2 : NS w lb l) (hl : l.length ≤ 1000000) (hf : x = true → (FloatKind.f64.format.order f g == some .eq) = true) :
    Calls Tryz.prog 37 #[.agg #[.bool ok, .string (B text), .bool is, .int .i64 int, .int .u64 uint, .float .f64 f, la], .agg #[.bool ok, .string (B text), .bool is, .int .i64 int, .int .u64 uint, .float .f64 g, lb], .bool x] w fun e w' => e = .returned (.bool true) ∧ Below w.heap.size w w' := by
  have HEQ : Hid (∀ {wz : World}, Below w.heap.size w wz → Calls Tryz.prog 74 #[la, lb] wz fun e w' => e = .returned (.bool true) ∧ Below wz.heap.size wz w') := fun hb => equal_any _ (h1.below hb) (h2.below hb) hl
  have HB : Hid (∀ o o' : Obj, Below w.heap.size w ((w.alloc o).alloc o')) := fun o o' => ((Below.refl _ _).alloc (Nat.le_refl _) _).alloc (by simp) _
  obtain ⟨a1, c1, rfl⟩ := h1.slice
  obtain ⟨a2, c2, rfl⟩ := h2.slice
  clear h1 h2
  cases x
  · clear hf
    go_enter Tryz.func37, Tryz.ntmps37
    go_wp2_with (go_at_call 74; refine (HEQ.out (HB.out _ _)).mono ?_; rintro e w2 ⟨rfl, hb2⟩; have HB2 := Lib.hid ((HB.out _ _).trans (hb2.mono (HB.out _ _).size)); clear hb2)
    go_ret
    exact ⟨rfl, HB2.out⟩
  · have hf := hf rfl
    go_enter Tryz.func37, Tryz.ntmps37
    go_wp2_with (go_at_call 74; refine (HEQ.out (HB.out _ _)).mono ?_; rintro e w2 ⟨rfl, hb2⟩; have HB2 := Lib.hid ((HB.out _ _).trans (hb2.mono (HB.out _ _).size)); clear hb2)
    go_ret
    exact ⟨rfl, HB2.out⟩
/-- Two answers that are the same, but for where their lists lie, and for the number of floating point. -/
theorem sameTold_any (w : World) (a b : Told) (x : Bool) {la lb : Value} (h1 : NS w la a.list) (h2 : NS w lb b.list) (hl : a.list.length ≤ 1000000) (h : a = { b with fl := a.fl }) (hf : x = true → (FloatKind.f64.format.order a.fl b.fl == some .eq) = true) :
    Calls Tryz.prog 37 #[.agg (a.cells la).toArray, .agg (b.cells lb).toArray, .bool x] w fun e w' => e = .returned (.bool true) ∧ Below w.heap.size w w' := by
  obtain ⟨ok, text, is, int, uint, f, list⟩ := a
  obtain ⟨ok', text', is', int', uint', g, list'⟩ := b
  cases h
  exact sameTold_in w _ _ x _ _ _ _ _ h1 h2 hl hf
end Go.Proofs.YtppkpcijmfdfmaaGreatDoor
