/- The tokens of a tree, part by part; how many they are. No program in sight. -/
import Derived.Test.YtppkpcijmfdfmaaGreatDoorA19
namespace Go.Proofs.YtppkpcijmfdfmaaGreatDoor
/-- What is left of the kids' tokens. -/
def tFrom (f : HT → List Bs) (ob : Bool) (ns : List Bs) (ks : List HT) (m : Nat) : List Bs := if m = 0 then tKids f ob ns ks else tMore f ob (ns.drop m) (ks.drop m)
/-- A comma ahead of all but the first. -/
def tComma (m : Nat) : List Bs := if m = 0 then [] else [[44]]
theorem tFrom_step (f : HT → List Bs) (ob : Bool) (ns : List Bs) (ks : List HT) (m : Nat) (k : HT) (h : ks[m]? = some k) :
    tFrom f ob ns ks m = tComma m ++ (tName ob (ns.drop m) ++ (f k ++ tFrom f ob ns ks (m + 1))) := by
  have hd : ks.drop m = k :: ks.drop (m + 1) := by
    obtain ⟨hlt, he⟩ := List.getElem?_eq_some_iff.1 h
    rw [List.drop_eq_getElem_cons hlt, he]
  have hf : tFrom f ob ns ks (m + 1) = tMore f ob (ns.drop (m + 1)) (ks.drop (m + 1)) := by unfold tFrom; rw [if_neg (by omega)]
  unfold tComma
  by_cases hm : m = 0
  · subst hm
    rw [List.drop_zero] at hd
    unfold tFrom
    rw [if_pos rfl, if_pos rfl, if_neg (by omega), hd, tKids]
    simp
  · rw [if_neg hm, hf]
    unfold tFrom
    rw [if_neg hm, hd, tMore]
    simp
theorem tFrom_end (f : HT → List Bs) (ob : Bool) (ns : List Bs) (ks : List HT) (m : Nat) (h : ks.length ≤ m) : tFrom f ob ns ks m = [] := by
  unfold tFrom
  by_cases hm : m = 0
  · rw [if_pos hm]
    have : ks = [] := List.eq_nil_of_length_eq_zero (by omega)
    rw [this]; rfl
  · rw [if_neg hm, List.drop_of_length_le h]; rfl
theorem hToks_scalar {d : Nat} {t : HT} (h : t.kind < 4) : hToks (d + 1) t = [(hScalar t 0).1] := by rw [hToks, if_pos h]
theorem hToks_list {d : Nat} {t : HT} (h : ¬ t.kind < 4) (h5 : t.kind ≠ 5) : hToks (d + 1) t = [91] :: (tKids (hToks d) false t.names t.kids ++ [[93]]) := by
  have e : (t.kind == 5) = false := by rw [beq_eq_false_iff_ne]; exact h5
  rw [hToks, if_neg h, e, if_neg h5, if_neg h5]
theorem hToks_obj {d : Nat} {t : HT} (h5 : t.kind = 5) : hToks (d + 1) t = [123] :: (tKids (hToks d) true t.names t.kids ++ [[125]]) := by
  have e : (t.kind == 5) = true := by rw [h5]; rfl
  rw [hToks, if_neg (by omega), e, if_pos h5, if_pos h5]
theorem tName_length (ob : Bool) (ns : List Bs) : (tName ob ns).length ≤ 2 := by unfold tName; split <;> simp
theorem tMore_length {f : HT → List Bs} (ob : Bool) : ∀ (ks : List HT) (ns : List Bs) (ms : List Nat), All2 (fun k m => (f k).length + 3 ≤ 5 * m) ks ms → (tMore f ob ns ks).length ≤ 5 * ms.sum
  | [], _, [], _ => by simp [tMore]
  | k :: ks, ns, m :: ms, h => by
    have h2 := tMore_length ob ks ns.tail ms h.2
    have h3 := tName_length ob ns
    have h1 := h.1
    simp only [tMore, List.length_cons, List.length_append, List.sum_cons]
    omega
theorem tKids_length {f : HT → List Bs} (ob : Bool) (ks : List HT) (ns : List Bs) (ms : List Nat) (h : All2 (fun k m => (f k).length + 3 ≤ 5 * m) ks ms) : (tKids f ob ns ks).length ≤ 5 * ms.sum := by
  cases ks with
  | nil => simp [tKids]
  | cons k ks =>
    cases ms with
    | nil => exact h.elim
    | cons m ms =>
      have h2 := tMore_length ob ks ns.tail ms h.2
      have h3 := tName_length ob ns
      have h1 := h.1
      simp only [tKids, List.length_append, List.sum_cons]
      omega
theorem hToks_length {N M : Nat} (d : Nat) : ∀ (t : HT) (deep n : Nat), Sized N M d t deep n → (hToks d t).length + 3 ≤ 5 * n := by
  induction d with
  | zero => intro _ _ _ h; exact h.elim
  | succ d ih =>
    intro t deep n h
    obtain ⟨_, _, _, _, _, h6⟩ := h
    rcases h6 with ⟨h6, rfl⟩ | ⟨h6, _, ms, h8, rfl⟩
    · rw [hToks_scalar h6]; simp
    · have h9 := All2.imp (fun k m hk => ih k (deep + 1) m hk) h8
      by_cases h5 : t.kind = 5
      · rw [hToks_obj h5]
        have := tKids_length true t.kids t.names ms h9
        simp only [List.length_cons, List.length_append, List.length_nil]
        omega
      · rw [hToks_list (by omega) h5]
        have := tKids_length false t.kids t.names ms h9
        simp only [List.length_cons, List.length_append, List.length_nil]
        omega
end Go.Proofs.YtppkpcijmfdfmaaGreatDoor
