/- The tokens of a tree, part by part; how many they are. No program in sight. -/
import Derived.Test.YtppkpcijmfdfmaaGreatDoorA19
namespace Go.Proofs.YtppkpcijmfdfmaaGreatDoor
/-- What is left of the kids' tokens. -/
def tFrom (f : HT → List Bs) (ob : Bool) (ns : List Bs) (ks : List HT) (m : Nat) : List Bs := if m = 0 then tKids f ob ns ks else tMore f ob (ns.drop m) (ks.drop m)
/-- A comma ahead of all but the first. -/
def tComma (m : Nat) : List Bs := if m = 0 then [] else [[44]]
theorem tFrom_step (f : HT → List Bs) (ob : Bool) (ns : List Bs) (ks : List HT) (m : Nat) (k : HT) (h : ks[m]? = some k) :
    tFrom f ob ns ks m = tComma m ++ (tName ob (ns.drop m) ++ (f k ++ tFrom f ob ns ks (m + 1))) := by
  have hd : ks.drop m = k :: ks.drop (m + 1) := by
    obtain ⟨hlt, he⟩ := List.getElem?_eq_some_iff.1 h
    rw [List.drop_eq_getElem_cons hlt, he]
  have hf : tFrom f ob ns ks (m + 1) = tMore f ob (ns.drop (m + 1)) (ks.drop (m + 1)) := by unfold tFrom; rw [if_neg (by omega)]
  unfold tComma
  by_cases hm : m = 0
  · subst hm
    rw [List.drop_zero] at hd
    unfold tFrom
    rw [if_pos rfl, if_pos rfl, if_neg (by omega), hd, tKids]
    simp
  · rw [if_neg hm, hf]
    unfold tFrom
    rw [if_neg hm, hd, tMore]
    simp
end Go.Proofs.YtppkpcijmfdfmaaGreatDoor
