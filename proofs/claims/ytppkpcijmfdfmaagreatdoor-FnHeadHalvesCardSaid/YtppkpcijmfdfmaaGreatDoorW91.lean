/- What FnHeadTens asks: numerals with an exponent, and HeadPrint of a number. -/
import Derived.Test.YtppkpcijmfdfmaaGreatDoorW90
import Derived.Test.YtppkpcijmfdfmaaGreatDoorE1
import Derived.Test.YtppkpcijmfdfmaaGreatDoorA23
import Derived.Lib.Zigzag
set_option linter.unusedVariables false
set_option linter.unusedSimpArgs false
namespace Go.Proofs.YtppkpcijmfdfmaaGreatDoor
open Go.RowKit
attribute [local go_sem] B_size B_get B_lit B_ext_to B_ext B_toList B_app

def sgnOf (capital plus : Bool) : Bs := (if capital then [69] else [101]) ++ (if plus then [43] else [])
theorem sgn_ch (capital plus : Bool) : ∀ c ∈ sgnOf capital plus, jNumCh c = true := by cases capital <;> cases plus <;> decide
theorem exp_read (n k : Nat) (hn : n < 10000000000000000) (capital plus : Bool) (tv q : Nat) (ht : tenTo22[k]? = some tv) (hq : Ieee.double.mul (floatOfInt .f64 (n : Int)) tv = some q) :
    NumP 110 (expText n (sgnOf capital plus) k) (.float .f64 0) (some (.float .f64 q)) := by
  have hk := tenTo22_lt ht
  have l1 := hDig_length 15 n (by omega)
  have l2 := hDig_length 1 k (by omega)
  have p1 := hDig_pos n
  have p2 := hDig_pos k
  obtain ⟨c, t, hc, hc1, hc2⟩ := hDig_head n
  have h45 : ∀ r : Bs, (hDig n ++ r)[0]? ≠ some 45 := by
    intro r e
    rw [hc] at e
    simp at e
    subst e
    revert hc1; decide
  have e1 : ∀ r : Bs, digsTo (hDig n ++ r) 0 (hDig n).length ∧ dv (hDig n ++ r) 0 (hDig n).length = n := fun r => by
    have := digs_in (a := []) (b := r) (s := hDig n ++ r) (o := 0) (m := (hDig n).length) (by simp) (hDig_dig n) rfl (by simp)
    rw [digVal_hDig] at this
    simpa using this
  have e2 : ∀ g : Bs, digsTo (hDig n ++ g ++ hDig k) ((hDig n).length + g.length) (hDig n ++ g ++ hDig k).length ∧ dv (hDig n ++ g ++ hDig k) ((hDig n).length + g.length) (hDig n ++ g ++ hDig k).length = k := fun g => by
    have := digs_in (a := hDig n ++ g) (b := []) (s := hDig n ++ g ++ hDig k) (o := (hDig n).length + g.length) (m := (hDig n ++ g ++ hDig k).length) (by simp) (hDig_dig k) (by simp only [List.length_append]) (by simp only [List.length_append])
    rw [digVal_hDig] at this
    exact this
  cases capital <;> cases plus
  · have a1 := e1 ([101] ++ hDig k)
    have a2 := e2 [101]
    rw [← List.append_assoc] at a1
    refine float_exp10 (hDig n ++ [101] ++ hDig k) (by simp; omega) (by simp; omega) (by rw [List.append_assoc]; exact h45 _) (hDig n).length p1 (by omega) a1.1 (by simp) a2.1 (by simp; omega) (by simp; omega) k tv q a2.2 ht ?_
    rw [a1.2]; exact hq
  · have a1 := e1 ([101, 43] ++ hDig k)
    have a2 := e2 [101, 43]
    rw [← List.append_assoc] at a1
    refine float_exp11 (hDig n ++ [101, 43] ++ hDig k) (by simp; omega) (by simp; omega) (by rw [List.append_assoc]; exact h45 _) (hDig n).length p1 (by omega) a1.1 (by simp) (by simp) a2.1 (by simp; omega) (by simp; omega) k tv q a2.2 ht ?_
    rw [a1.2]; exact hq
  · have a1 := e1 ([69] ++ hDig k)
    have a2 := e2 [69]
    rw [← List.append_assoc] at a1
    refine float_exp00 (hDig n ++ [69] ++ hDig k) (by simp; omega) (by simp; omega) (by rw [List.append_assoc]; exact h45 _) (hDig n).length p1 (by omega) a1.1 (by simp) a2.1 (by simp; omega) (by simp; omega) k tv q a2.2 ht ?_
    rw [a1.2]; exact hq
  · have a1 := e1 ([69, 43] ++ hDig k)
    have a2 := e2 [69, 43]
    rw [← List.append_assoc] at a1
    refine float_exp01 (hDig n ++ [69, 43] ++ hDig k) (by simp; omega) (by simp; omega) (by rw [List.append_assoc]; exact h45 _) (hDig n).length p1 (by omega) a1.1 (by simp) (by simp) a2.1 (by simp; omega) (by simp; omega) k tv q a2.2 ht ?_
    rw [a1.2]; exact hq

/-- A number as a tree. -/
abbrev numT (n : Nat) : HT := .mk 2 false false n [] [] []
theorem print_num (n : Nat) (hn : n < 18446744073709551616) (w : World) :
    Calls Tryz.prog 31 #[.agg #[.int .u8 2, .bool false, .bool false, .int .u64 (n : Int), .string (B []), .slice none 0 0, .slice none 0 0], .int .u64 0] w fun e w' => e = .returned (.string (B (hDig n))) ∧ Below w.heap.size w w' := by
  have hr : RepT w w.heap.size 1 (.slice none 0 0) (.slice none 0 0) (numT n) := by
    refine ⟨⟨by show 2 < 256; omega, hn, by show 0 ≤ 9223372036854775807; omega, by show 0 ≤ 9223372036854775807; omega⟩, ?_, ?_⟩
    · exact Or.inl ⟨_, _, rfl, rfl⟩
    · exact Or.inl ⟨_, _, rfl, rfl⟩
  have hz : Sized 200 60 1 (numT n) 1 1 := by
    refine ⟨by show 2 ≤ 5; omega, ⟨by omega, hn⟩, by show 0 ≤ 200; omega, fun h => by have : (2 : Nat) = 5 := h; omega, fun s hs => ?_, Or.inl ⟨by show 2 < 4; omega, rfl⟩⟩
    have e : (numT n).texts = [] := rfl
    rw [e] at hs
    cases hs
  have := print_any (x := 0) hr hz (by omega) (Nat.le_refl _) (by omega)
  refine this.mono ?_
  rintro e w' ⟨rfl, hb⟩
  refine ⟨?_, hb⟩
  rw [hPrint_zero]
  rfl
end Go.Proofs.YtppkpcijmfdfmaaGreatDoor
