/- The plain side: sizes of trees that are made of others. No program in sight. -/
import Derived.Test.YtppkpcijmfdfmaaGreatDoorA27
import Derived.Test.YtppkpcijmfdfmaaGreatDoorC2
set_option linter.unusedVariables false
set_option linter.unusedSimpArgs false
namespace Go.Proofs.YtppkpcijmfdfmaaGreatDoor
variable {N M : Nat}

theorem All2.app {α β : Type} {R : α → β → Prop} : ∀ {l : List α} {m : List β} {l' : List α} {m' : List β}, All2 R l m → All2 R l' m' → All2 R (l ++ l') (m ++ m')
  | [], [], _, _, _, h => h
  | _ :: _, _ :: _, _, _, h, h' => ⟨h.1, All2.app h.2 h'⟩
  | [], _ :: _, _, _, h, _ => h.elim
  | _ :: _, [], _, _, h, _ => h.elim
theorem All2.put {α β : Type} {R : α → β → Prop} : ∀ {l : List α} {m : List β} (k : Nat) {a : α} {b : β}, All2 R l m → R a b → All2 R (l.set k a) (m.set k b)
  | [], [], _, _, _, _, _ => trivial
  | _ :: _, _ :: _, 0, _, _, h, r => ⟨r, h.2⟩
  | _ :: _, _ :: _, k + 1, _, _, h, r => ⟨h.1, All2.put k h.2 r⟩
  | [], _ :: _, _, _, _, h, _ => h.elim
  | _ :: _, [], _, _, _, h, _ => h.elim
theorem sum_set : ∀ (ms : List Nat) (k b : Nat), (ms.set k b).sum ≤ ms.sum + b
  | [], _, _ => by simp
  | m :: ms, 0, b => by simp; omega
  | m :: ms, k + 1, b => by
    have := sum_set ms k b
    simp
    omega
theorem sum_out : ∀ (ms : List Nat) (k : Nat), (ms.take k ++ ms.drop (k + 1)).sum ≤ ms.sum
  | [], _ => by simp
  | m :: ms, 0 => by simp
  | m :: ms, k + 1 => by
    have := sum_out ms k
    simp at this ⊢
    omega
theorem Sized.deeper : ∀ {d : Nat} {t : HT} {deep n : Nat}, Sized N M d t deep n → Sized N (M + 1) d t (deep + 1) n
  | 0, _, _, _, h => h.elim
  | d + 1, t, deep, n, h => by
    obtain ⟨h1, h2, h3, h4, h5, h6⟩ := h
    refine ⟨h1, ⟨by omega, h2.2⟩, h3, h4, h5, ?_⟩
    rcases h6 with h6 | ⟨h6, h7, ms, h8, h9⟩
    · exact Or.inl h6
    · exact Or.inr ⟨h6, h7, ms, h8.imp fun k m hs => Sized.deeper hs, h9⟩
theorem Sized.fuel : ∀ {d d' : Nat} {t : HT} {deep n : Nat}, Sized N M d t deep n → d ≤ d' → Sized N M d' t deep n
  | 0, _, _, _, _, h, _ => h.elim
  | d + 1, 0, _, _, _, _, hd => by omega
  | d + 1, e + 1, t, deep, n, h, hd => by
    obtain ⟨h1, h2, h3, h4, h5, h6⟩ := h
    refine ⟨h1, h2, h3, h4, h5, ?_⟩
    rcases h6 with h6 | ⟨h6, h7, ms, h8, h9⟩
    · exact Or.inl h6
    · exact Or.inr ⟨h6, h7, ms, h8.imp fun k m hs => Sized.fuel hs (by omega), h9⟩

/-- A tree with other fields. -/
def HT.re (t : HT) (ns : List Bs) (ks : List HT) : HT := .mk t.kind t.is t.minus t.num t.text ns ks
theorem re_kind (t : HT) (ns : List Bs) (ks : List HT) : (t.re ns ks).kind = t.kind := rfl
theorem re_names (t : HT) (ns : List Bs) (ks : List HT) : (t.re ns ks).names = ns := rfl
theorem re_kids (t : HT) (ns : List Bs) (ks : List HT) : (t.re ns ks).kids = ks := rfl

/-- What is known of a right object. -/
theorem sized_obj {d n : Nat} {t : HT} (h : Sized N M d t 1 n) (h5 : t.kind = 5) : ∃ e ms, d = e + 1 ∧ t.num < 18446744073709551616 ∧ t.kids.length ≤ N ∧ t.names.length = t.kids.length ∧ TextsOk t.names ∧ All2 (fun k m => Sized N M e k 2 m) t.kids ms ∧ n = 1 + ms.sum ∧ n ≤ N := by
  cases d with
  | zero => exact h.elim
  | succ d =>
    obtain ⟨_, h2, h3, h4, h5', h6⟩ := h
    unfold HT.texts at h5'
    rw [if_neg (by omega), if_pos h5] at h5'
    rcases h6 with h6 | ⟨_, h7, ms, h8, h9⟩
    · omega
    · exact ⟨d, ms, rfl, h2.2, h3, h4 h5, h5', h8, h9, h7⟩
theorem sized_make {d : Nat} {t : HT} (h5 : t.kind = 5) (hn : t.num < 18446744073709551616) {ns : List Bs} {ks : List HT} {ms : List Nat} (hl : ns.length = ks.length) (ht : TextsOk ns) (ha : All2 (fun k m => Sized N M d k 2 m) ks ms) (hs : 1 + ms.sum ≤ N) (hk : ks.length ≤ N) (hM : 1 ≤ M) :
    Sized N M (d + 1) (t.re ns ks) 1 (1 + ms.sum) := by
  refine ⟨by rw [re_kind]; omega, ⟨hM, hn⟩, hk, fun _ => hl, ?_, Or.inr ⟨by rw [re_kind]; omega, hs, ms, ha, rfl⟩⟩
  unfold HT.texts
  rw [re_kind, if_neg (by omega), if_pos h5]
  exact ht
theorem TextsOk.app {a b : List Bs} (h : TextsOk a) (g : TextsOk b) : TextsOk (a ++ b) := fun s hs => (List.mem_append.1 hs).elim (h s) (g s)
theorem TextsOk.sub {a b : List Bs} (h : TextsOk a) (g : ∀ s ∈ b, s ∈ a) : TextsOk b := fun s hs => h s (g s hs)

theorem sized_turned {d n : Nat} {t : HT} (h : Sized 200 60 d t 1 n) (h5 : t.kind = 5) (k : Nat) : ∃ n', Sized 401 61 d (t.re (t.names.drop k ++ t.names.take k) (t.kids.drop k ++ t.kids.take k)) 1 n' := by
  obtain ⟨e, ms, rfl, h1, h2, h3, h4, h6, h7, h8⟩ := sized_obj h h5
  refine ⟨_, sized_make h5 h1 (by simp only [List.length_append, List.length_drop, List.length_take, h3]) (h4.sub fun s hs => ?_) (((h6.imp fun k m hs => Sized.mono (by decide) (by decide) hs).drop k).app ((h6.imp fun k m hs => Sized.mono (by decide) (by decide) hs).take k)) ?_ ?_ (by decide)⟩
  · rcases List.mem_append.1 hs with hs | hs
    · exact List.mem_of_mem_drop hs
    · exact List.mem_of_mem_take hs
  · have : (ms.drop k ++ ms.take k).sum = ms.sum := by
      have e : ms.sum = (ms.take k ++ ms.drop k).sum := by rw [List.take_append_drop]
      rw [e, List.sum_append, List.sum_append]
      omega
    omega
  · simp only [List.length_append, List.length_drop, List.length_take]; omega
theorem sized_without {d n : Nat} {t : HT} (h : Sized 200 60 d t 1 n) (h5 : t.kind = 5) (k : Nat) : ∃ n', Sized 401 61 d (t.re (t.names.take k ++ t.names.drop (k + 1)) (t.kids.take k ++ t.kids.drop (k + 1))) 1 n' := by
  obtain ⟨e, ms, rfl, h1, h2, h3, h4, h6, h7, h8⟩ := sized_obj h h5
  refine ⟨_, sized_make h5 h1 (by simp only [List.length_append, List.length_drop, List.length_take, h3]) (h4.sub fun s hs => ?_) (((h6.imp fun k m hs => Sized.mono (by decide) (by decide) hs).take k).app ((h6.imp fun k m hs => Sized.mono (by decide) (by decide) hs).drop (k + 1))) ?_ ?_ (by decide)⟩
  · rcases List.mem_append.1 hs with hs | hs
    · exact List.mem_of_mem_take hs
    · exact List.mem_of_mem_drop hs
  · have := sum_out ms k
    omega
  · simp only [List.length_append, List.length_drop, List.length_take]; omega
theorem sized_kidV {d d' m : Nat} {v : HT} (hv : Sized 200 60 d' v 1 m) : Sized 401 61 (d + d') v 2 m := (hv.deeper.mono (N' := 401) (M' := 61) (by decide) (by decide)).fuel (by omega)
theorem sized_added {d d' n m : Nat} {t v : HT} {s : Bs} (h : Sized 200 60 d t 1 n) (hv : Sized 200 60 d' v 1 m) (h5 : t.kind = 5) (hs : TextsOk [s]) : ∃ n', Sized 401 61 (d + d') (t.re (t.names ++ [s]) (t.kids ++ [v])) 1 n' := by
  obtain ⟨e, ms, rfl, h1, h2, h3, h4, h6, h7, h8⟩ := sized_obj h h5
  have hm := sized_le hv (by decide)
  rw [show e + 1 + d' = (e + d') + 1 by omega]
  refine ⟨_, sized_make h5 h1 (by simp only [List.length_append, h3, List.length_cons, List.length_nil]) (h4.app hs) ((h6.imp fun k m hs => (Sized.mono (by decide) (by decide) hs).fuel (by omega)).app (m' := [m]) ⟨sized_kidV hv, trivial⟩) ?_ ?_ (by decide)⟩
  · simp only [List.sum_append, List.sum_cons, List.sum_nil]; omega
  · simp only [List.length_append, List.length_cons, List.length_nil]; omega
theorem sized_changed {d d' n m : Nat} {t v : HT} (h : Sized 200 60 d t 1 n) (hv : Sized 200 60 d' v 1 m) (h5 : t.kind = 5) (k : Nat) : ∃ n', Sized 401 61 (d + d') (t.re t.names (t.kids.set k v)) 1 n' := by
  obtain ⟨e, ms, rfl, h1, h2, h3, h4, h6, h7, h8⟩ := sized_obj h h5
  have hm := sized_le hv (by decide)
  have hsum := sum_set ms k m
  rw [show e + 1 + d' = (e + d') + 1 by omega]
  refine ⟨_, sized_make h5 h1 (by rw [List.length_set, h3]) h4 ((h6.imp fun k m hs => (Sized.mono (by decide) (by decide) hs).fuel (by omega)).put k (sized_kidV hv)) ?_ ?_ (by decide)⟩
  · omega
  · rw [List.length_set]; omega
end Go.Proofs.YtppkpcijmfdfmaaGreatDoor
