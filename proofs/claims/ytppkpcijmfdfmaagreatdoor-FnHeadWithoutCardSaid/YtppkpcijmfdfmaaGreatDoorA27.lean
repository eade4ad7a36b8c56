/- The plain side: the field with a name, as a function, and what is done to fields; at style 0 a name is always written alike. No program in sight. -/
import Derived.Test.YtppkpcijmfdfmaaGreatDoorC1
import Derived.Test.YtppkpcijmfdfmaaGreatDoorC1
set_option linter.unusedVariables false
set_option linter.unusedSimpArgs false
namespace Go.Proofs.YtppkpcijmfdfmaaGreatDoor
variable {N M : Nat}

/-- The kid with a name: the first. -/
def kidIn : List Bs → List HT → Bs → Option HT
  | [], _, _ => none
  | _ :: _, [], _ => none
  | n :: ns, k :: ks, s => if n = s then some k else kidIn ns ks s
theorem kidIn_cons (n : Bs) (ns : List Bs) (k : HT) (ks : List HT) (s : Bs) : kidIn (n :: ns) (k :: ks) s = if n = s then some k else kidIn ns ks s := rfl
theorem kidIn_none : ∀ {ns : List Bs} {ks : List HT} {s : Bs}, s ∉ ns → kidIn ns ks s = none
  | [], _, _, _ => rfl
  | _ :: _, [], _, _ => rfl
  | n :: ns, k :: ks, s, h => by
    rw [kidIn_cons, if_neg (fun e => h (by rw [e]; simp)), kidIn_none (fun hs => h (by simp [hs]))]
theorem kidIn_at : ∀ {ns : List Bs} {ks : List HT} {s : Bs} {i : Nat} {c : HT}, ns[i]? = some s → ks[i]? = some c → (∀ i' : Nat, i' < i → ns[i']? ≠ some s) → kidIn ns ks s = some c
  | [], _, _, _, _, h, _, _ => by simp at h
  | _ :: _, [], _, _, _, _, h, _ => by simp at h
  | n :: ns, k :: ks, s, 0, c, h1, h2, _ => by
    simp at h1 h2
    rw [kidIn_cons, if_pos h1, h2]
  | n :: ns, k :: ks, s, i + 1, c, h1, h2, h3 => by
    have hn : n ≠ s := fun e => h3 0 (by omega) (by simp [e])
    rw [kidIn_cons, if_neg hn]
    exact kidIn_at (i := i) (by simpa using h1) (by simpa using h2) fun i' hi' e => h3 (i' + 1) (by omega) (by simpa using e)
theorem kidIn_cat : ∀ {ns : List Bs} {ks : List HT} (ns' : List Bs) (ks' : List HT) (s : Bs), ns.length = ks.length → kidIn (ns ++ ns') (ks ++ ks') s = (kidIn ns ks s).or (kidIn ns' ks' s)
  | [], [], _, _, _, _ => by simp [kidIn]
  | [], _ :: _, _, _, _, h => by simp at h
  | _ :: _, [], _, _, _, h => by simp at h
  | n :: ns, k :: ks, ns', ks', s, h => by
    rw [List.cons_append, List.cons_append, kidIn_cons, kidIn_cons]
    by_cases e : n = s
    · rw [if_pos e, if_pos e]; rfl
    · rw [if_neg e, if_neg e]; exact kidIn_cat ns' ks' s (by simpa using h)
theorem kidIn_some : ∀ {ns : List Bs} {ks : List HT} {s : Bs}, ns.length = ks.length → s ∈ ns → ∃ c, kidIn ns ks s = some c
  | [], _, _, _, h => by simp at h
  | _ :: _, [], _, h, _ => by simp at h
  | n :: ns, k :: ks, s, hl, h => by
    rw [kidIn_cons]
    by_cases e : n = s
    · exact ⟨k, if_pos e⟩
    · rw [if_neg e]
      rcases List.mem_cons.1 h with h | h
      · exact absurd h.symm e
      · exact kidIn_some (by simpa using hl) h
theorem kidIn_mem : ∀ {ns : List Bs} {ks : List HT} {s : Bs} {c : HT}, kidIn ns ks s = some c → s ∈ ns ∧ c ∈ ks
  | [], _, _, _, h => by simp [kidIn] at h
  | _ :: _, [], _, _, h => by simp [kidIn] at h
  | n :: ns, k :: ks, s, c, h => by
    rw [kidIn_cons] at h
    by_cases e : n = s
    · rw [if_pos e] at h; cases h; exact ⟨by simp [e], by simp⟩
    · rw [if_neg e] at h
      obtain ⟨h1, h2⟩ := kidIn_mem h
      exact ⟨by simp [h1], by simp [h2]⟩

/-! ### What is done to fields -/
/-- A field more, behind all. -/
theorem kid_added {ns : List Bs} {ks : List HT} (n : Bs) (v : HT) {s : Bs} (hl : ns.length = ks.length) (hs : s ∈ ns) : kidIn (ns ++ [n]) (ks ++ [v]) s = kidIn ns ks s := by
  obtain ⟨c, hc⟩ := kidIn_some hl hs
  rw [kidIn_cat _ _ _ hl, hc]
  rfl
theorem kid_last {ns : List Bs} {ks : List HT} {n : Bs} (v : HT) (hl : ns.length = ks.length) (hn : n ∉ ns) : kidIn (ns ++ [n]) (ks ++ [v]) n = some v := by
  rw [kidIn_cat _ _ _ hl, kidIn_none hn, kidIn_cons, if_pos rfl]
  rfl
/-- The fields turned. -/
theorem kid_turned {ns : List Bs} {ks : List HT} (k : Nat) (s : Bs) (hl : ns.length = ks.length) (hn : ns.Nodup) : kidIn (ns.drop k ++ ns.take k) (ks.drop k ++ ks.take k) s = kidIn ns ks s := by
  have h1 : kidIn ns ks s = (kidIn (ns.take k) (ks.take k) s).or (kidIn (ns.drop k) (ks.drop k) s) := by
    have := kidIn_cat (ns := ns.take k) (ks := ks.take k) (ns.drop k) (ks.drop k) s (by rw [List.length_take, List.length_take, hl])
    rwa [List.take_append_drop, List.take_append_drop] at this
  rw [kidIn_cat _ _ _ (by rw [List.length_drop, List.length_drop, hl]), h1]
  have hd : ∀ a ∈ ns.take k, ∀ b ∈ ns.drop k, a ≠ b := by
    rw [← List.take_append_drop k ns] at hn
    exact (List.nodup_append.1 hn).2.2
  by_cases ha : s ∈ ns.take k
  · have hb : s ∉ ns.drop k := fun hb => hd s ha s hb rfl
    rw [kidIn_none hb]
    cases kidIn (ns.take k) (ks.take k) s <;> rfl
  · rw [kidIn_none ha]
    cases kidIn (ns.drop k) (ks.drop k) s <;> rfl
/-- Another value of one field. -/
theorem kid_set : ∀ {ns : List Bs} {ks : List HT} {k : Nat} (v : HT) {s : Bs}, ns[k]? ≠ some s → kidIn ns (ks.set k v) s = kidIn ns ks s
  | [], _, _, _, _, _ => rfl
  | _ :: _, [], _, _, _, _ => by simp
  | n :: ns, k :: ks, 0, v, s, h => by
    have hn : n ≠ s := fun e => h (by simp [e])
    rw [List.set_cons_zero, kidIn_cons, kidIn_cons, if_neg hn, if_neg hn]
  | n :: ns, k :: ks, i + 1, v, s, h => by
    rw [List.set_cons_succ, kidIn_cons, kidIn_cons, kid_set (k := i) v (fun e => h (by simpa using e))]
/-- A field less. -/
theorem kid_without : ∀ {ns : List Bs} {ks : List HT} {k : Nat} {s : Bs}, ns.length = ks.length → ns[k]? ≠ some s → kidIn (ns.take k ++ ns.drop (k + 1)) (ks.take k ++ ks.drop (k + 1)) s = kidIn ns ks s
  | [], [], _, _, _, _ => by simp [kidIn]
  | [], _ :: _, _, _, h, _ => by simp at h
  | _ :: _, [], _, _, h, _ => by simp at h
  | n :: ns, c :: ks, 0, s, _, h => by
    have hn : n ≠ s := fun e => h (by simp [e])
    simp only [List.take_zero, List.nil_append, List.drop_succ_cons, List.drop_zero]
    rw [kidIn_cons, if_neg hn]
  | n :: ns, c :: ks, i + 1, s, hl, h => by
    simp only [List.take_succ_cons, List.drop_succ_cons, List.cons_append]
    rw [kidIn_cons, kidIn_cons, kid_without (k := i) (by simpa using hl) (fun e => h (by simpa using e))]
theorem nodup_out : ∀ {ns : List Bs} {k : Nat} {n : Bs}, ns.Nodup → ns[k]? = some n → n ∉ ns.take k ++ ns.drop (k + 1)
  | [], _, _, _, h => by simp at h
  | a :: ns, 0, n, hn, h => by
    simp at h
    subst h
    simpa using (List.nodup_cons.1 hn).1
  | a :: ns, k + 1, n, hn, h => by
    have h' : ns[k]? = some n := by simpa using h
    have ih := nodup_out (List.nodup_cons.1 hn).2 h'
    have hne : n ≠ a := fun e => (List.nodup_cons.1 hn).1 (e ▸ List.mem_of_getElem? h')
    simp only [List.take_succ_cons, List.drop_succ_cons, List.cons_append, List.mem_cons]
    rintro (e | e)
    · exact hne e
    · exact ih e
theorem out_ne {ns : List Bs} {k : Nat} {s : Bs} (hn : ns.Nodup) (hs : s ∈ ns.take k ++ ns.drop (k + 1)) : ns[k]? ≠ some s := fun h => nodup_out hn h hs
theorem nodup_without {ns : List Bs} (k : Nat) (hn : ns.Nodup) : (ns.take k ++ ns.drop (k + 1)).Nodup := by
  have h := hn
  rw [← List.take_append_drop k ns] at h
  obtain ⟨h1, h2, h3⟩ := List.nodup_append.1 h
  have e : ns.drop (k + 1) = (ns.drop k).drop 1 := by rw [List.drop_drop]
  refine List.nodup_append.2 ⟨h1, ?_, fun a ha b hb => ?_⟩
  · rw [e]; exact h2.sublist (List.drop_sublist _ _)
  · rw [e] at hb
    exact h3 a ha b (List.mem_of_mem_drop hb)
theorem nodup_turned {ns : List Bs} (k : Nat) (hn : ns.Nodup) : (ns.drop k ++ ns.take k).Nodup := by
  have h := hn
  rw [← List.take_append_drop k ns] at h
  obtain ⟨h1, h2, h3⟩ := List.nodup_append.1 h
  exact List.nodup_append.2 ⟨h2, h1, fun a ha b hb e => h3 b hb a ha e.symm⟩
theorem nodup_added {ns : List Bs} {n : Bs} (hn : ns.Nodup) (h : n ∉ ns) : (ns ++ [n]).Nodup :=
  List.nodup_append.2 ⟨hn, by simp, fun a ha b hb e => by rw [List.mem_singleton.1 hb] at e; exact h (e ▸ ha)⟩

/-! ### At style 0 a name is always written alike -/
theorem raw_is {s raw r : Bs} {x : Nat} (h : (hText s x).1 ++ r = 34 :: (raw ++ 34 :: r)) : raw = (hChars (cps s) x).1 := by
  have h' : (hChars (cps s) x).1 ++ 34 :: r = raw ++ 34 :: r := by simpa [hText] using h
  exact (List.append_cancel_right h').symm
/-- A member's raw name, as style 0 writes it. -/
def RawZ (m : Bs × J) : Prop := ∃ s, m.1 = (hChars (cps s) 0).1 ∧ jUn m.1 = some s
theorem members_zero {f : Bs → Option (J × Bs)} {g : HT → Nat → Bs × Nat} {R : J → HT → Prop} (h0 : ∀ k, (g k 0).2 = 0) : ∀ (ks : List HT) (k : HT) (ns : List Bs) (n : Nat) (r : Bs), (∀ k' ∈ k :: ks, Back f g R k') →
    ns.length = (k :: ks).length → (∀ s ∈ ns, Lib.validD s = true) →
    ((hKids g true ns (k :: ks) 0).1 ++ 125 :: r).length ≤ n → ∃ ms, jMembers f n ((hKids g true ns (k :: ks) 0).1 ++ 125 :: r) = some (ms, r) ∧ ∀ m ∈ ms, RawZ m := by
  intro ks
  induction ks with
  | nil =>
    intro k ns n r hb hnl hnv hn
    obtain ⟨m, rfl⟩ : ∃ m, n = m + 1 := ⟨n - 1, by simp at hn; omega⟩
    obtain ⟨s, rfl⟩ : ∃ s, ns = [s] := by
      match ns, hnl with
      | [s], _ => exact ⟨s, rfl⟩
    have hsv := hnv s (by simp)
    have e : (hKids g true [s] [k] 0).1 = (hText s 0).1 ++ 58 :: (g k 0).1 := by
      unfold hKids hKid hMore hName
      simp only [if_true, List.headD_cons, List.append_nil, List.append_assoc, List.cons_append, hText_zero, blank_zero, h0, List.nil_append]
    obtain ⟨j, h1, h2, h3⟩ := hb k (by simp) 0 (125 :: r) (numEnd_cons r (by decide))
    obtain ⟨raw, t1, t2, t3⟩ := text_back hsv 0 (58 :: ((g k 0).1 ++ 125 :: r))
    refine ⟨[(raw, j)], ?_, fun m hm => ?_⟩
    · rw [jMembers, e]
      simp only [List.append_assoc, List.cons_append]
      rw [t1, jSkip_stop (by decide)]
      simp only [if_true, t2]
      rw [jSkip_stop (by decide)]
      simp only [if_true]
      rw [(h3.app _).skip, h1]
      simp only
      rw [jSkip_stop (by decide)]
      rfl
    · rw [List.mem_singleton.1 hm]
      exact ⟨s, raw_is t1, t3⟩
  | cons k2 ks ih =>
    intro k ns n r hb hnl hnv hn
    obtain ⟨m, rfl⟩ : ∃ m, n = m + 1 := ⟨n - 1, by simp at hn; omega⟩
    obtain ⟨s, ns', rfl⟩ : ∃ s ns', ns = s :: ns' := by
      match ns, hnl with
      | s :: ns', _ => exact ⟨s, ns', rfl⟩
    have hsv := hnv s (by simp)
    have e : (hKids g true (s :: ns') (k :: k2 :: ks) 0).1 = (hText s 0).1 ++ 58 :: ((g k 0).1 ++ 44 :: (hKids g true ns' (k2 :: ks) 0).1) := by
      rw [hKids_cons, hMore_cons, hKids_cons]
      simp only [hKid, hName, if_true, List.headD_cons, List.tail_cons, List.append_assoc, List.cons_append, hText_zero, blank_zero, h0, List.nil_append]
    obtain ⟨j, h1, h2, h3⟩ := hb k (by simp) 0 (44 :: ((hKids g true ns' (k2 :: ks) 0).1 ++ 125 :: r)) (numEnd_cons _ (by decide))
    rw [e] at hn
    obtain ⟨ms, h4, h5⟩ := ih k2 ns' m r (fun k' hk' => hb k' (by simp [List.mem_cons.1 hk'])) (by simpa using hnl) (fun s' hs' => hnv s' (by simp [hs'])) (by simp only [List.length_append, List.length_cons] at hn ⊢; omega)
    obtain ⟨raw, t1, t2, t3⟩ := text_back hsv 0 (58 :: ((g k 0).1 ++ (44 :: ((hKids g true ns' (k2 :: ks) 0).1 ++ 125 :: r))))
    have hst : jSkip ((hKids g true ns' (k2 :: ks) 0).1 ++ 125 :: r) = (hKids g true ns' (k2 :: ks) 0).1 ++ 125 :: r := by
      obtain ⟨c, u, hc1, hc2, _⟩ := hKids_starts (ns := ns') (k := k2) (ks := ks) (x := 0) (g := g) (fun y => by obtain ⟨_, _, _, h⟩ := hb k2 (by simp) y [] (fun c t e => by cases e); exact h) true
      rw [hc1, List.cons_append, jSkip_stop hc2]
    refine ⟨(raw, j) :: ms, ?_, fun m' hm => ?_⟩
    · rw [jMembers, e]
      simp only [List.append_assoc, List.cons_append]
      rw [t1, jSkip_stop (by decide)]
      simp only [if_true, t2]
      rw [jSkip_stop (by decide)]
      simp only [if_true]
      rw [(h3.app _).skip, h1]
      simp only
      rw [jSkip_stop (by decide)]
      simp only [if_true, h4]
      rfl
    · rcases List.mem_cons.1 hm with rfl | hm
      · exact ⟨s, raw_is t1, t3⟩
      · exact h5 m' hm
theorem obj_zero {d n : Nat} {t : HT} (h : Sized N M d t 1 n) (hM : M ≤ 300) (h5 : t.kind = 5) {ms : List (Bs × J)} (hp : jParse (hPrint d t 0) = some (.obj ms)) : ∀ m ∈ ms, RawZ m := by
  cases d with
  | zero => exact h.elim
  | succ d =>
    obtain ⟨_, hdeep, _, h4, h5', h6⟩ := h
    obtain ⟨ml, ha, hn⟩ : ∃ ms : List Nat, All2 (fun k m => Sized N M d k (1 + 1) m) t.kids ms ∧ n = 1 + ms.sum := by
      rcases h6 with h6 | h6
      · omega
      · exact h6.2.2
    have hback : ∀ k ∈ t.kids, Back (jVal 299) (hTree d) (Mt d) k := by
      intro k hkm y r' hr'
      obtain ⟨m, _, hs⟩ := ha.of_mem k hkm
      obtain ⟨j, e1, e2⟩ := tree_back d k (1 + 1) m 299 y r' hs (by omega) hr'
      exact ⟨j, e1, e2, tree_starts d k y _ _ hs⟩
    have hnl := h4 h5
    have hnv : ∀ s ∈ t.names, Lib.validD s = true := by
      intro s hs
      refine (h5' s ?_).2
      unfold HT.texts
      rw [if_neg (by omega), if_pos h5]
      exact hs
    have e5 : (t.kind == 5) = true := by rw [h5]; rfl
    have ep : hPrint (d + 1) t 0 = 123 :: ((hKids (hTree d) true t.names t.kids 0).1 ++ [125]) := by
      rw [hPrint_zero, hTree, if_neg (by omega)]
      simp only [if_pos h5, e5, blank_zero, List.nil_append]
    rw [ep] at hp
    have e0 : jParse (123 :: ((hKids (hTree d) true t.names t.kids 0).1 ++ [125])) = match pobj 299 ((hKids (hTree d) true t.names t.kids 0).1 ++ [125]) with | none => none | some (v, s) => if jSkip s = [] then some v else none := by
      unfold jParse
      rw [jSkip_stop (by decide), jVal_obj]
      rfl
    rw [e0] at hp
    rcases hkids : t.kids with _ | ⟨k, ks⟩
    · rw [hkids] at hp
      have hz : (hKids (hTree d) true t.names [] 0).1 = [] := rfl
      rw [hz] at hp
      have : ms = [] := by
        have hq : (match pobj 299 ([] ++ [125]) with | none => none | some (v, s) => if jSkip s = [] then some v else none) = some (J.obj []) := rfl
        rw [hq] at hp
        cases hp
        rfl
      intro m hm
      rw [this] at hm
      cases hm
    · rw [hkids] at hback hnl hp
      obtain ⟨mm, hm1, hm2⟩ := members_zero (hTree_zero d) ks k t.names _ [] hback hnl hnv (Nat.le_refl _)
      have hst : ∀ y, Starts k (hTree d k y).1 := by
        intro y
        obtain ⟨m, _, hs⟩ := ha.of_mem k (by rw [hkids]; simp)
        exact tree_starts d k y _ _ hs
      obtain ⟨c, u, hc1, hc2, hc3, hc4⟩ := hKids_starts (ns := t.names) (ks := ks) (x := 0) hst true
      have hob : pobj 299 ((hKids (hTree d) true t.names (k :: ks) 0).1 ++ [125]) = some (.obj mm, []) := by
        unfold pobj
        have hsk : jSkip ((hKids (hTree d) true t.names (k :: ks) 0).1 ++ [125]) = (hKids (hTree d) true t.names (k :: ks) 0).1 ++ [125] := by
          rw [hc1, List.cons_append, jSkip_stop hc2]
        rw [hsk]
        generalize hs : (hKids (hTree d) true t.names (k :: ks) 0).1 ++ [125] = S at *
        cases S with
        | nil => simp at hs
        | cons c' u' =>
          have : c' = c := by rw [hc1, List.cons_append] at hs; exact (List.cons.inj hs).1.symm
          subst this
          simp only [if_neg hc4, hm1]
          rfl
      rw [hob] at hp
      have : ms = mm := by
        have hq : (match (some (J.obj mm, ([] : Bs)) : Option (J × Bs)) with | none => none | some (v, s) => if jSkip s = [] then some v else none) = some (J.obj mm) := rfl
        rw [hq] at hp
        cases hp
        rfl
      rw [this]
      exact hm2
theorem raw_alike {ms : List (Bs × J)} (h : ∀ m ∈ ms, RawZ m) : ∀ m ∈ ms, ∀ m' ∈ ms, ∀ c, jUn m.1 = some c → jUn m'.1 = some c → m.1 = m'.1 := by
  intro m hm m' hm' c h1 h2
  obtain ⟨s, e1, e2⟩ := h m hm
  obtain ⟨s', e1', e2'⟩ := h m' hm'
  rw [h1] at e2
  rw [h2] at e2'
  cases e2
  cases e2'
  rw [e1, e1']
/-- How long a text is, with up to a thousand nodes. -/
theorem print_length2 {d : Nat} {t : HT} {n : Nat} (h : Sized N M d t 1 n) (hn : n ≤ 1000) (x : Nat) : (hPrint d t x).length ≤ 450000000 := by
  have h1 := tree_length d t 1 n h (blank x).2
  have h2 := blank_length x
  have h3 := blank_length (hTree d t (blank x).2).2
  unfold hPrint
  simp only [List.length_append]
  omega
/-- A tree made of rights ones is right, within larger bounds. -/
theorem Sized.mono {N' M' : Nat} (hN : N ≤ N') (hM : M ≤ M') : ∀ {d : Nat} {t : HT} {deep n : Nat}, Sized N M d t deep n → Sized N' M' d t deep n
  | 0, _, _, _, h => h.elim
  | d + 1, t, deep, n, h => by
    obtain ⟨h1, h2, h3, h4, h5, h6⟩ := h
    refine ⟨h1, ⟨by omega, h2.2⟩, by omega, h4, h5, ?_⟩
    rcases h6 with h6 | ⟨h6, h7, ms, h8, h9⟩
    · exact Or.inl h6
    · exact Or.inr ⟨h6, by omega, ms, h8.imp fun k m hs => Sized.mono hN hM hs, h9⟩
end Go.Proofs.YtppkpcijmfdfmaaGreatDoor
