/- What FnHeadHalves asks: numerals with a fraction, as numbers of floating point and as whole numbers. -/
import Derived.Test.YtppkpcijmfdfmaaGreatDoorW91
import Derived.Test.YtppkpcijmfdfmaaGreatDoorW87
import Derived.Test.YtppkpcijmfdfmaaGreatDoorA24
set_option linter.unusedVariables false
set_option linter.unusedSimpArgs false
namespace Go.Proofs.YtppkpcijmfdfmaaGreatDoor
open Go.RowKit

def sg (neg : Bool) : Bs := if neg then [45] else []
theorem dig_numCh {c : UInt8} (h : isDig c = true) : jNumCh c = true := digit_numCh (isDig_nat.1 h)
theorem dig_not {c : UInt8} (h : isDig c = true) : c ≠ 45 ∧ c ≠ 46 := ⟨fun e => by subst e; revert h; decide, fun e => by subst e; revert h; decide⟩
theorem digVal_zeros (i : Nat) (d : Bs) : digVal (List.replicate i 48 ++ d) = digVal d := by
  induction i with
  | zero => rfl
  | succ i ih =>
    rw [List.replicate_succ, List.cons_append]
    unfold digVal at ih ⊢
    rw [digAcc_cons]
    exact ih
/-- A number's text with a point ahead of its last digits. -/
def pointText (neg : Bool) (P : Bs) (j : Nat) : Bs := sg neg ++ (P.take j ++ 46 :: P.drop j)
section
variable {P : Bs} (hP : ∀ c ∈ P, isDig c = true)
include hP
theorem point_read (neg : Bool) (j : Nat) (h0 : 0 < j) (hj : j < P.length) (hl : P.length ≤ 15) (tv q : Nat) (ht : tenTo16[P.length - j]? = some tv) (hq : Ieee.double.div (floatOfInt .f64 ((digVal P : Nat) : Int)) tv = some q) :
    NumP 110 (pointText neg P j) (.float .f64 0) (some (.float .f64 (if neg then Op.negFloat .f64 q else q))) := by
  have hd1 : ∀ c ∈ P.take j, isDig c = true := fun c hc => hP c (List.mem_of_mem_take hc)
  have key : ∀ (pre : Bs) (O : Nat), O = pre.length →
      digsTo (pre ++ (P.take j ++ 46 :: P.drop j)) O (O + j) ∧ (pre ++ (P.take j ++ 46 :: P.drop j))[O + j]? = some 46 ∧ (∀ i u, O + j < i → (pre ++ (P.take j ++ 46 :: P.drop j))[i]? = some u → (pre ++ P)[i - 1]? = some u) ∧
      dv (pre ++ (P.take j ++ 46 :: P.drop j)) O (O + j) = dv (pre ++ P) O (O + j) ∧ digsTo (pre ++ P) O (O + P.length) ∧ dv (pre ++ P) O (O + P.length) = digVal P ∧ (pre ++ (P.take j ++ 46 :: P.drop j)).length = O + P.length + 1 := by
    rintro pre O rfl
    have lt : (P.take j).length = j := by rw [List.length_take]; omega
    have a1 := digs_in (a := pre) (d := P.take j) (b := 46 :: P.drop j) (s := pre ++ (P.take j ++ 46 :: P.drop j)) (o := pre.length) (m := pre.length + j) (by simp) hd1 rfl (by rw [lt])
    have a2 := digs_in (a := pre) (d := P.take j) (b := P.drop j) (s := pre ++ P) (o := pre.length) (m := pre.length + j) (by rw [List.append_assoc, List.take_append_drop]) hd1 rfl (by rw [lt])
    have a3 := digs_in (a := pre) (d := P) (b := []) (s := pre ++ P) (o := pre.length) (m := pre.length + P.length) (by simp) hP rfl rfl
    refine ⟨a1.1, ?_, fun i u hi hu => ?_, by rw [a1.2, a2.2], a3.1, a3.2, by simp; omega⟩
    · rw [List.getElem?_append_right (by omega), List.getElem?_append_right (by omega), lt, show pre.length + j - pre.length - j = 0 by omega]
      rfl
    · rw [List.getElem?_append_right (by omega), List.getElem?_append_right (by omega), lt, show i - pre.length - j = (i - pre.length - j - 1) + 1 by omega, List.getElem?_cons_succ, List.getElem?_drop] at hu
      rw [List.getElem?_append_right (by omega), show i - 1 - pre.length = j + (i - pre.length - j - 1) by omega]
      exact hu
  cases neg
  · obtain ⟨b1, b2, b3, b4, b5, b6, b7⟩ := key [] 0 rfl
    simp only [Nat.zero_add, List.nil_append] at b1 b2 b3 b4 b5 b6 b7
    unfold pointText sg
    simp only [Bool.false_eq_true, if_false, List.nil_append]
    refine float_point0 _ (by omega) (by omega) ?_ j h0 b1 b2 P b3 b4 (by rw [b7]; exact b5) (by omega) (by omega) tv q (by rw [b7, show P.length + 1 - (j + 1) = P.length - j by omega]; exact ht) (by rw [b7, show P.length + 1 - 1 = P.length by omega, b6]; exact hq)
    intro e
    exact (dig_not (b1.2.2 0 45 (Nat.le_refl _) h0 e)).1 rfl
  · obtain ⟨b1, b2, b3, b4, b5, b6, b7⟩ := key [45] 1 rfl
    unfold pointText sg
    simp only [if_true]
    exact float_point1 _ (by omega) (by omega) rfl (1 + j) (by omega) b1 b2 ([45] ++ P) b3 b4 (by rw [b7, show 1 + P.length + 1 - 1 = 1 + P.length by omega]; exact b5) (by omega) (by omega) tv q (by rw [b7, show 1 + P.length + 1 - (1 + j + 1) = P.length - j by omega]; exact ht) (by rw [b7, show 1 + P.length + 1 - 1 = 1 + P.length by omega, b6]; exact hq)
theorem whole_read (neg : Bool) (h0 : 0 < P.length) (hl : P.length ≤ 17) :
    NumP 110 (sg neg ++ P) (.float .f64 0) (some (.float .f64 (if neg then Op.negFloat .f64 (floatOfInt .f64 ((digVal P : Nat) : Int)) else floatOfInt .f64 ((digVal P : Nat) : Int)))) := by
  cases neg
  · have a3 := digs_in (a := []) (d := P) (b := []) (s := P) (o := 0) (m := P.length) (by simp) hP rfl (by simp)
    unfold sg
    simp only [Bool.false_eq_true, if_false, List.nil_append]
    refine float_whole0 P (by omega) h0 ?_ a3.1 (by omega) (digVal P) (by simp)
    intro e
    exact (dig_not (a3.1.2.2 0 45 (Nat.le_refl _) h0 e)).1 rfl
  · have a3 := digs_in (a := [45]) (d := P) (b := []) (s := [45] ++ P) (o := 1) (m := ([45] ++ P).length) (by simp) hP rfl (by simp; omega)
    unfold sg
    simp only [if_true]
    exact float_whole1 ([45] ++ P) (by simp; omega) (by simp; omega) rfl a3.1 (by simp; omega) (digVal P) (by simp)
theorem whole_int (neg : Bool) (h0 : 0 < P.length) (hl : P.length ≤ 17) : ∃ r, NumP 113 (sg neg ++ P) (.int .i64 0) (some (.int .i64 r)) := by
  cases neg
  · have a3 := digs_in (a := []) (d := P) (b := []) (s := P) (o := 0) (m := P.length) (by simp) hP rfl (by simp)
    refine ⟨_, int64_plain P (by omega) h0 ?_ (fun m hm => by have := hm.2.1; omega) _ (fun _ _ => rfl) fun h => ?_⟩
    · intro e
      exact (dig_not (a3.1.2.2 0 45 (Nat.le_refl _) h0 e)).1 rfl
    · rcases h with h | h
      · omega
      · exact absurd a3.1 h
  · have a3 := digs_in (a := [45]) (d := P) (b := []) (s := [45] ++ P) (o := 1) (m := ([45] ++ P).length) (by simp) hP rfl (by simp; omega)
    refine ⟨_, int64_minus ([45] ++ P) (by simp; omega) (by simp; omega) rfl (fun m hm => by have := hm.2.1; simp at this; omega) _ (fun _ _ => rfl) fun h => ?_⟩
    rcases h with h | h
    · rw [List.length_append] at h; simp only [List.length_cons, List.length_nil] at h; omega
    · exact absurd a3.1 h
theorem whole_uint (neg : Bool) (h0 : 0 < P.length) (hl : P.length ≤ 17) : ∃ r, NumP 114 (sg neg ++ P) (.int .u64 0) r ∧ ∀ v, r = some v → ∃ n : Int, v = .int .u64 n := by
  cases neg
  · have a3 := digs_in (a := []) (d := P) (b := []) (s := P) (o := 0) (m := P.length) (by simp) hP rfl (by simp)
    refine ⟨_, uint64_plain P (by omega) h0 (fun m hm => by have := hm.2.1; omega) _ (fun _ _ => rfl) fun h => ?_, fun v hv => by cases hv; exact ⟨_, rfl⟩⟩
    rcases h with h | h
    · omega
    · exact absurd a3.1 h
  · refine ⟨none, uint64_plain ([45] ++ P) (by simp; omega) (by simp) (fun m hm => by have := hm.2.1; simp at this; omega) _ (fun _ hd => ?_) fun _ => rfl, fun v hv => by cases hv⟩
    have := hd.2.2 0 45 (Nat.le_refl _) (by simp) rfl
    exact absurd this (by decide)
theorem point_no (neg : Bool) (j : Nat) (h0 : 0 < j) (hj : j < P.length) (hl : P.length ≤ 15) :
    NumP 113 (pointText neg P j) (.int .i64 0) none ∧ NumP 114 (pointText neg P j) (.int .u64 0) none := by
  have lt : (P.take j).length = j := by rw [List.length_take]; omega
  have hlen : (pointText neg P j).length = (sg neg).length + P.length + 1 := by unfold pointText; simp; omega
  have hs1 : (sg neg).length ≤ 1 := by cases neg <;> simp [sg]
  have h46 : (pointText neg P j)[(sg neg).length + j]? = some 46 := by
    unfold pointText
    rw [List.getElem?_append_right (by omega), List.getElem?_append_right (by omega), lt, show (sg neg).length + j - (sg neg).length - j = 0 by omega]
    rfl
  have hno : ∀ o, o ≤ (sg neg).length + j → ¬ digsTo (pointText neg P j) o (pointText neg P j).length := fun o ho h => (dig_not (h.2.2 _ 46 ho (by omega) h46)).2 rfl
  have h18 : ∀ o m, digsTo (pointText neg P j) o m → m ≤ 18 := fun o m h => by have := h.2.1; omega
  constructor
  · cases neg
    · refine int64_plain _ (by omega) (by omega) ?_ (h18 0) _ (fun _ h => absurd h (hno 0 (by omega))) fun _ => rfl
      intro e
      unfold pointText sg at e
      simp only [Bool.false_eq_true, if_false, List.nil_append] at e
      rw [List.getElem?_append_left (by omega)] at e
      exact (dig_not (hP 45 (List.mem_of_mem_take (List.mem_of_getElem? e)))).1 rfl
    · exact int64_minus _ (by omega) (by omega) rfl (h18 1) _ (fun _ h => absurd h (hno 1 (by simp [sg]))) fun _ => rfl
  · exact uint64_plain _ (by omega) (by omega) (h18 0) _ (fun _ h => absurd h (hno 0 (by omega))) fun _ => rfl
end
end Go.Proofs.YtppkpcijmfdfmaaGreatDoor
