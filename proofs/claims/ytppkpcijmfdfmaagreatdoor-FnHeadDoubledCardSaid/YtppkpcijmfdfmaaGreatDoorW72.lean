/- The walks of headMark and headSign. -/
import Derived.Test.YtppkpcijmfdfmaaGreatDoorW71
import Derived.BigQuiet
import Derived.Deep.QuietTactic
namespace Go.Proofs.YtppkpcijmfdfmaaGreatDoor
open Go.RowKit
attribute [local go_sem] B_size B_get B_lit B_ext_to B_ext B_toList B_app

/-- A token that is a sign. -/
def markB (s : Bs) : Bool := s == [123] || s == [125] || s == [91] || s == [93] || s == [58] || s == [44]
theorem markB_some {s : Bs} (h : markB s = true) : ∃ c, s = [c] ∧ isSign c = true := by
  unfold markB at h
  simp only [Bool.or_eq_true, beq_iff_eq] at h
  rcases h with ((((h | h) | h) | h) | h) | h
  all_goals exact ⟨_, h, by decide⟩
set_option maxRecDepth 100000 in
theorem mark_any (s : Bs) (w : World) : Calls Tryz.prog 51 #[.string (B s)] w fun e w' => e = .returned (.bool (markB s)) ∧ w = w' := by
  go_enter Tryz.func51, Tryz.ntmps51
  go_wp2
  all_goals
    go_ret
    refine ⟨?_, rfl⟩
    unfold markB
    simp_all
theorem isNumB_nat (c : UInt8) (r : Bs) : isNumB (c :: r) = (((c.toNat : Int) == 45) || (decide ((48 : Int) ≤ c.toNat) && decide ((c.toNat : Int) ≤ 57))) := by
  have h1 : (c == 45) = ((c.toNat : Int) == 45) := by
    rw [Bool.eq_iff_iff, beq_iff_eq, beq_iff_eq, ← UInt8.toNat_inj]
    show c.toNat = 45 ↔ _
    omega
  have h2 : decide ((48 : UInt8) ≤ c) = decide ((48 : Int) ≤ c.toNat) := by
    rw [Bool.eq_iff_iff, decide_eq_true_iff, decide_eq_true_iff, UInt8.le_iff_toNat_le]
    show 48 ≤ c.toNat ↔ _
    omega
  have h3 : decide (c ≤ (57 : UInt8)) = decide ((c.toNat : Int) ≤ 57) := by
    rw [Bool.eq_iff_iff, decide_eq_true_iff, decide_eq_true_iff, UInt8.le_iff_toNat_le]
    show c.toNat ≤ 57 ↔ _
    omega
  unfold isNumB
  rw [← h1, ← h2, ← h3]
set_option maxRecDepth 100000 in
theorem signFn_any (c : UInt8) (r : Bs) (w : World) : Calls Tryz.prog 89 #[.string (B (c :: r))] w fun e w' => e = .returned (.bool (isNumB (c :: r))) ∧ w = w' := by
  have hl : (0 : Int) < ((c :: r).length : Int) := by simp
  have e0 : (c :: r)[0]? = some c := rfl
  rw [isNumB_nat]
  go_enter Tryz.func89, Tryz.ntmps89
  go_wp2
  all_goals
    go_ret
    refine ⟨?_, rfl⟩
    simp_all <;> omega
/-- What headSign says of a place. -/
def SignR (l : List Bs) (k : Nat) (w : World) (e : Ending) (w' : World) : Prop :=
  ∃ ok, e = .returned (.bool ok) ∧ (ok = true → ∃ s, l[k]? = some s ∧ markB s = true ∧ (s = [44] → ∀ x y, 0 < k → l[k - 1]? = some x → l[k + 1]? = some y → ¬ (isNumB x = true ∧ isNumB y = true))) ∧ w = w'
set_option maxRecDepth 100000 in
set_option maxHeartbeats 2000000 in
theorem headSign_any (w : World) (b cap : Nat) (l : List Bs) (k : Nat) (ht : TxtAt w b 0 l) (hk : k < l.length) (hl : l.length ≤ 5000) (hne : ∀ s ∈ l, s ≠ []) (hedge : l[k]? = some [44] → 0 < k ∧ k + 1 < l.length) :
    Calls Tryz.prog 53 #[.slice (some ⟨b, 0, none⟩) l.length cap, .int .i64 k] w (SignR l k w) := by
  obtain ⟨s, hs⟩ : ∃ s, l[k]? = some s := ⟨_, List.getElem?_eq_getElem hk⟩
  have q := ht.2 k s hs
  rw [Nat.zero_add] at q
  have HM := Lib.hid (fun w => mark_any s w)
  cases hm : markB s
  · rw [hm] at HM
    clear hm hedge hne
    have HS := Lib.hid hs
    clear hs
    go_enter Tryz.func53, Tryz.ntmps53
    go_wp2_with (go_at_call 51; with_reducible refine (HM.out _).mono ?_; rintro e w2 ⟨rfl, rfl⟩)
    go_ret
    exact ⟨false, rfl, fun h => (by cases h), rfl⟩
  · rw [hm] at HM
    by_cases h44 : s = [44]
    · subst h44
      obtain ⟨h0, h1⟩ := hedge hs
      obtain ⟨x, hx⟩ : ∃ x, l[k - 1]? = some x := ⟨_, List.getElem?_eq_getElem (by omega)⟩
      obtain ⟨y, hy⟩ : ∃ y, l[k + 1]? = some y := ⟨_, List.getElem?_eq_getElem h1⟩
      have qx := ht.2 _ x hx
      have qy := ht.2 _ y hy
      rw [Nat.zero_add] at qx qy
      have nx := hne x (List.mem_of_getElem? hx)
      have ny := hne y (List.mem_of_getElem? hy)
      obtain ⟨cx, rx, rfl⟩ := List.exists_cons_of_ne_nil nx
      obtain ⟨cy, ry, rfl⟩ := List.exists_cons_of_ne_nil ny
      have HX := Lib.hid (fun w => signFn_any cx rx w)
      have HY := Lib.hid (fun w => signFn_any cy ry w)
      have HS := Lib.hid (And.intro hs (And.intro hx hy))
      obtain ⟨p, rfl⟩ : ∃ p, k = p + 1 := ⟨k - 1, by omega⟩
      rw [Nat.add_sub_cancel] at qx
      have HR : Hid (∀ ok : Bool, (ok = true → ¬ (isNumB (cx :: rx) = true ∧ isNumB (cy :: ry) = true)) → SignR l (p + 1) w (.returned (.bool ok)) w) := fun ok h =>
        ⟨ok, rfl, fun ho => ⟨_, HS.out.1, hm, fun _ x y _ e1 e2 => by
          rw [HS.out.2.1] at e1
          rw [HS.out.2.2] at e2
          cases e1
          cases e2
          exact h ho⟩, rfl⟩
      clear hs hx hy nx ny hne hedge hm HS
      cases hbx : isNumB (cx :: rx)
      · rw [hbx] at HX HR
        clear hbx
        go_enter Tryz.func53, Tryz.ntmps53
        go_wp2_with (first
          | (go_at_call 51; with_reducible refine (HM.out _).mono ?_; rintro e w2 ⟨rfl, rfl⟩)
          | (go_at_call 89; with_reducible refine (HX.out _).mono ?_; rintro e w2 ⟨rfl, rfl⟩))
        go_ret
        exact HR.out true (by simp)
      · rw [hbx] at HX HR
        clear hbx
        cases hby : isNumB (cy :: ry)
        · rw [hby] at HY HR
          clear hby
          go_enter Tryz.func53, Tryz.ntmps53
          go_wp2_with (first
            | (go_at_call 51; with_reducible refine (HM.out _).mono ?_; rintro e w2 ⟨rfl, rfl⟩)
            | (go_at_call 89; with_reducible refine (HX.out _).mono ?_; rintro e w2 ⟨rfl, rfl⟩)
            | (go_at_call 89; with_reducible refine (HY.out _).mono ?_; rintro e w2 ⟨rfl, rfl⟩))
          go_ret
          exact HR.out true (by simp)
        · rw [hby] at HY HR
          clear hby
          go_enter Tryz.func53, Tryz.ntmps53
          go_wp2_with (first
            | (go_at_call 51; with_reducible refine (HM.out _).mono ?_; rintro e w2 ⟨rfl, rfl⟩)
            | (go_at_call 89; with_reducible refine (HX.out _).mono ?_; rintro e w2 ⟨rfl, rfl⟩)
            | (go_at_call 89; with_reducible refine (HY.out _).mono ?_; rintro e w2 ⟨rfl, rfl⟩))
          go_ret
          exact HR.out false (by simp)
    · have f : (s == [44]) = false := by rw [beq_eq_false_iff_ne]; exact h44
      have HR : Hid (SignR l k w (.returned (.bool true)) w) := ⟨true, rfl, fun _ => ⟨s, hs, hm, fun e => absurd e h44⟩, rfl⟩
      clear hs hne hedge hm h44
      go_enter Tryz.func53, Tryz.ntmps53
      go_wp2_with (go_at_call 51; with_reducible refine (HM.out _).mono ?_; rintro e w2 ⟨rfl, rfl⟩)
      go_ret
      exact HR.out
end Go.Proofs.YtppkpcijmfdfmaaGreatDoor
