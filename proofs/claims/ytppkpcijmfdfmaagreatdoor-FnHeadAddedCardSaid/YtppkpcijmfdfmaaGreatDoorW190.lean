/- Whether HeadKid finds, whatever the tree (its first part stands in W174 too). -/
import Derived.Test.YtppkpcijmfdfmaaGreatDoorG2
import Derived.Test.YtppkpcijmfdfmaaGreatDoorG1
import Derived.Handy
set_option linter.unusedVariables false
set_option linter.unusedSimpArgs false
namespace Go.Proofs.YtppkpcijmfdfmaaGreatDoor
open Go.RowKit
attribute [local go_sem] B_size B_get B_lit B_ext_to B_ext B_toList B_app

/-! ### HeadKid -/
theorem idx_at {l : List Bs} {s : Bs} {k : Nat} (hk : l[k]? = some s) (hn : ∀ i : Nat, i < k → l[i]? ≠ some s) : Lib.idxOfS ((l.map B).take l.length) (B s) = (k : Int) := by
  have hlt := (List.getElem?_eq_some_iff.1 hk).1
  refine Lib.idxOfS_hit (l.map B) l.length k (B s) hlt (by simp) ?_ (fun j hj => ?_)
  · rw [List.getD_eq_getElem?_getD, List.getElem?_map, hk]; rfl
  · have hj' : j < l.length := by omega
    rw [List.getD_eq_getElem?_getD, List.getElem?_map, List.getElem?_eq_getElem hj']
    intro e
    exact hn j hj (by rw [List.getElem?_eq_getElem hj']; exact congrArg some (B_inj.1 e))
/-- Where the first of a name stands. -/
theorem kid_place : ∀ {ns : List Bs} {ks : List HT} {s : Bs} {c : HT}, kidIn ns ks s = some c → ∃ i : Nat, ns[i]? = some s ∧ ks[i]? = some c ∧ ∀ j : Nat, j < i → ns[j]? ≠ some s
  | [], _, _, _, h => by simp [kidIn] at h
  | _ :: _, [], _, _, h => by simp [kidIn] at h
  | n :: ns, k :: ks, s, c, h => by
    rw [kidIn_cons] at h
    by_cases e : n = s
    · rw [if_pos e] at h
      cases h
      exact ⟨0, by simp [e], rfl, fun j hj => by omega⟩
    · rw [if_neg e] at h
      obtain ⟨i, h1, h2, h3⟩ := kid_place h
      refine ⟨i + 1, by simpa using h1, by simpa using h2, fun j hj hc => ?_⟩
      cases j with
      | zero => simp at hc; exact e hc
      | succ j => exact h3 j (by omega) (by simpa using hc)

/-- Whether HeadKid finds, whatever the tree. -/
def FoundR (t : HT) (s : Bs) (e : Ending) : Prop :=
  ∃ (x0 : Nat) (x1 x2 : Bool) (x3 : Nat) (x4 : Bs) (x5 x6 : Option Addr × Nat × Nat) (b : Bool), e = .returned (.tuple #[.agg #[.int .u8 x0, .bool x1, .bool x2, .int .u64 x3, .string (B x4), .slice x5.1 x5.2.1 x5.2.2, .slice x6.1 x6.2.1 x6.2.2], .bool b]) ∧ (b = false → t.kind = 5 → t.names.length = t.kids.length → s ∉ t.names)
theorem FoundR.zero {t : HT} {s : Bs} (h : t.kind = 5 → t.names.length = t.kids.length → s ∉ t.names) : FoundR t s (.returned (.tuple #[.agg #[.int .u8 0, .bool false, .bool false, .int .u64 0, .string (B []), .slice none 0 0, .slice none 0 0], .bool false])) :=
  ⟨0, false, false, 0, [], (none, 0, 0), (none, 0, 0), false, rfl, fun _ => h⟩
theorem kidIn_not {ns : List Bs} {ks : List HT} {s : Bs} (hl : ns.length = ks.length) (h : kidIn ns ks s = none) : s ∉ ns := fun hs => by
  obtain ⟨c, hc⟩ := kidIn_some hl hs
  rw [hc] at h
  cases h
set_option maxRecDepth 100000 in
set_option maxHeartbeats 2000000 in
theorem headFound_any {d B0 : Nat} {t : HT} {nv kv : Value} {s : Bs} {w : World} (hr : RepT w B0 (d + 1) nv kv t) (hB : B0 ≤ w.heap.size) :
    Calls Tryz.prog 46 #[.agg (tcells t nv kv).toArray, .string (B s)] w fun e w' => FoundR t s e ∧ Below w.heap.size w w' := by
  obtain ⟨⟨an, cn, rfl⟩, ak, ck, rfl⟩ := hr.slices
  obtain ⟨ps, hrp, hkr⟩ := KidsB.krow hr.2.2 hB
  have hns := hr.2.1
  have hlen : t.names.length ≤ 9223372036854775807 := hr.1.2.2.1
  have HB : Hid (∀ o o' : Obj, Below w.heap.size w ((w.alloc o).alloc o')) := fun o o' => ((Below.refl _ _).alloc (Nat.le_refl _) _).alloc (by simp) _
  have HIDX : Hid (∀ {wz : World} (z : Int), Below w.heap.size w wz → Lib.idxOfS ((t.names.map B).take t.names.length) (B s) = z → Calls Tryz.prog 83 #[.slice an t.names.length cn, .string (B s)] wz fun e w' => e = .returned (.int .i64 z) ∧ w' = wz) := by
    intro wz z hb hz
    subst hz
    rcases hns with ⟨a, c, e, e2⟩ | ⟨b, off, c, e, hlt, hc⟩
    · rw [e, e2]; exact Tryz.slices_Index_string_empty a c (B s) wz
    · rw [e]
      refine Tryz.slices_Index_string b off t.names.length c (t.names.map B) (B s) wz (by simp) (by omega) (fun j hj => ?_)
      rw [List.length_map] at hj
      have := (hb.cell (p := ⟨b, off + j, none⟩) (Nat.lt_of_lt_of_le hlt.1 hB)).trans (hc j _ (List.getElem?_eq_getElem hj))
      rw [List.getD_eq_getElem?_getD, List.getElem?_map, List.getElem?_eq_getElem hj]
      exact this
  obtain ⟨z, hz⟩ : ∃ z, Lib.idxOfS ((t.names.map B).take t.names.length) (B s) = z := ⟨_, rfl⟩
  have HM := Lib.hid (fun (o o' : Obj) => HIDX.out z (HB.out o o') hz)
  have HPL : Hid (t.kind = 5 → t.names.length = t.kids.length → s ∈ t.names → ∃ i : Nat, z = i ∧ i < t.kids.length) := Lib.hid (fun _ hl hs => by
    obtain ⟨c, hc⟩ := kidIn_some hl hs
    obtain ⟨i, h1, h2, h3⟩ := kid_place hc
    exact ⟨i, hz.symm.trans (idx_at h1 h3), (List.getElem?_eq_some_iff.1 h2).1⟩)
  have HT : Hid (∀ (x0 : Nat) (x1 x2 : Bool) (x3 : Nat) (x4 : Bs) (x5 x6 : Option Addr × Nat × Nat), FoundR t s (.returned (.tuple #[.agg #[.int .u8 x0, .bool x1, .bool x2, .int .u64 x3, .string (B x4), .slice x5.1 x5.2.1 x5.2.2, .slice x6.1 x6.2.1 x6.2.2], .bool true]))) := Lib.hid (fun x0 x1 x2 x3 x4 x5 x6 => ⟨x0, x1, x2, x3, x4, x5, x6, true, rfl, fun h => by cases h⟩)
  by_cases hk : t.kind = 5
  · have f5 : ((t.kind : Int) == 5) = true := by rw [hk]; rfl
    have f5n : ((t.kind : Int) != 5) = false := by rw [hk]; rfl
    by_cases z0 : z < 0
    · have f6 : decide (z < 0) = true := by simp; exact z0
      have HZ : Hid (FoundR t s (.returned (.tuple #[.agg #[.int .u8 0, .bool false, .bool false, .int .u64 0, .string (B []), .slice none 0 0, .slice none 0 0], .bool false]))) := Lib.hid (FoundR.zero fun h1 h2 hs => by obtain ⟨i, h3, _⟩ := HPL.out h1 h2 hs; omega)
      clear hr hns hrp hkr HIDX hz HPL hk
      simp only [tcells] at HM ⊢
      go_enter Tryz.func46, Tryz.ntmps46
      go_wp2_with (go_at_call 83; refine (HM.out _ _).mono ?_; rintro e w2 ⟨rfl, rfl⟩)
      go_returns
      exact ⟨HZ.out, by go_grown⟩
    · have f6 : decide (z < 0) = false := by simp; omega
      obtain ⟨i, rfl⟩ : ∃ i : Nat, z = i := ⟨z.toNat, by omega⟩
      by_cases hi : i < t.kids.length
      · have f7 : decide ((t.kids.length : Int) ≤ i) = false := by simp; omega
        have hi2 : t.kids[i]? = some (t.kids[i]'hi) := List.getElem?_eq_getElem hi
        obtain ⟨c, hc0⟩ : ∃ c, t.kids[i]? = some c := ⟨_, hi2⟩
        have hil2 : i < ps.length := by rw [← hrp.1]; exact hi
        have hip : ps[i]? = some ps[i] := List.getElem?_eq_getElem hil2
        have hrc := hrp.2 i c _ hc0 hip
        obtain ⟨⟨a1, c1, e1⟩, a2, c2, e2⟩ := hrc.slices
        rcases hkr.2 with ⟨_, _, _, e⟩ | ⟨b, off, cc, e, hlt, hc⟩
        · rw [e] at hi; simp at hi
        cases e
        have HCELL : Hid (∀ (j : Nat) u, (tcells c (.slice a1 c.names.length c1) (.slice a2 c.kids.length c2))[j]? = some u → w.cell? ⟨b, off + i * 7 + j, none⟩ = some u) := by
          intro j u hu
          have hj : j < 7 := (List.getElem?_eq_some_iff.1 hu).1
          rw [Nat.add_assoc]
          refine hc _ u ((flatK_get hc0 hip j hj).trans ?_)
          rw [e1, e2]
          exact hu
        have il : (i : Int) < t.kids.length := by omega
        have i0 : (0 : Int) ≤ i := by omega
        clear hr hns hrp hkr HIDX hz HPL hk hi2 hc0 hip hrc e1 e2 hc
        simp only [tcells] at HM HCELL ⊢
        go_enter Tryz.func46, Tryz.ntmps46
        have k0 : w.cell? ⟨b, off + i * 7, none⟩ = some (.int .u8 c.kind) := HCELL.out 0 _ rfl
        have k1 := HCELL.out 1 _ rfl
        have k2 := HCELL.out 2 _ rfl
        have k3 := HCELL.out 3 _ rfl
        have k4 := HCELL.out 4 _ rfl
        have k5 := HCELL.out 5 _ rfl
        have k6 := HCELL.out 6 _ rfl
        go_wp2_with (go_at_call 83; refine (HM.out _ _).mono ?_; rintro e w2 ⟨rfl, rfl⟩)
        go_returns
        exact ⟨HT.out c.kind c.is c.minus c.num c.text (a1, c.names.length, c1) (a2, c.kids.length, c2), by go_grown⟩
      · have f7 : decide ((t.kids.length : Int) ≤ i) = true := by simp; omega
        have HZ : Hid (FoundR t s (.returned (.tuple #[.agg #[.int .u8 0, .bool false, .bool false, .int .u64 0, .string (B []), .slice none 0 0, .slice none 0 0], .bool false]))) := Lib.hid (FoundR.zero fun h1 h2 hs => by obtain ⟨i', h3, h4⟩ := HPL.out h1 h2 hs; omega)
        have i0 : (0 : Int) ≤ i := by omega
        clear hr hns hrp hkr HIDX hz HPL hk
        simp only [tcells] at HM ⊢
        go_enter Tryz.func46, Tryz.ntmps46
        go_wp2_with (go_at_call 83; refine (HM.out _ _).mono ?_; rintro e w2 ⟨rfl, rfl⟩)
        go_returns
        exact ⟨HZ.out, by go_grown⟩
  · have HZ : Hid (FoundR t s (.returned (.tuple #[.agg #[.int .u8 0, .bool false, .bool false, .int .u64 0, .string (B []), .slice none 0 0, .slice none 0 0], .bool false]))) := Lib.hid (FoundR.zero fun h1 h2 hs => by exact hk h1)
    have f5 : ((t.kind : Int) == 5) = false := by rw [beq_eq_false_iff_ne]; omega
    have f5n : ((t.kind : Int) != 5) = true := by simp; omega
    clear hr hns hrp hkr HIDX hz HPL hk
    simp only [tcells] at HM ⊢
    go_enter Tryz.func46, Tryz.ntmps46
    go_wp2_with (go_at_call 83; refine (HM.out _ _).mono ?_; rintro e w2 ⟨rfl, rfl⟩)
    go_returns
    exact ⟨HZ.out, by go_grown⟩
end Go.Proofs.YtppkpcijmfdfmaaGreatDoor
