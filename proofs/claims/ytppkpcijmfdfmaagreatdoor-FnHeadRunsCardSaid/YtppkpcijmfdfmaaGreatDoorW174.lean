/- The walks of HeadNumber, HeadInt, HeadUint, HeadKid. -/
import Derived.Test.YtppkpcijmfdfmaaGreatDoorG2
import Derived.Test.YtppkpcijmfdfmaaGreatDoorG1
import Derived.Handy
set_option linter.unusedVariables false
set_option linter.unusedSimpArgs false
namespace Go.Proofs.YtppkpcijmfdfmaaGreatDoor
open Go.RowKit
attribute [local go_sem] B_size B_get B_lit B_ext_to B_ext B_toList B_app

/-- The field of a tree's number. -/
def numCells (t : HT) : Array Value := #[.string (B []), .int .u8 t.kind, .bool false, .bool t.minus, .int .u64 t.num, .string (B []), .slice none 0 0]
theorem number_any (w : World) (t : HT) (a1 a2 : Option Addr) (n1 n2 c1 c2 : Nat) : Calls Tryz.prog 75 #[.agg (tcells t (.slice a1 n1 c1) (.slice a2 n2 c2)).toArray] w fun e w' => e = .returned (.agg (numCells t)) ∧ Below w.heap.size w w' := by
  have HB : Hid (∀ o : Obj, Below w.heap.size w (w.alloc o)) := fun o => (Below.refl _ _).alloc (Nat.le_refl _) _
  simp only [tcells, numCells]
  go_enter Tryz.func75, Tryz.ntmps75
  go_wp2
  go_returns
  exact ⟨rfl, by go_grown⟩
/-- A field's whole number with a sign, and without one. -/
def goldI (k : Nat) (m : Bool) (n : Nat) : Option Int := if k = 2 then hInt m n else none
def goldU (k : Nat) (m : Bool) (n : Nat) : Option Int := if k = 2 then hUint m n else none
set_option maxRecDepth 100000 in
set_option maxHeartbeats 2000000 in
theorem headInt_any (w : World) (t : HT) (hn : t.num < 18446744073709551616) : Calls Tryz.prog 30 #[.agg (numCells t)] w fun e w' => e = .returned (.tuple #[.int .i64 ((goldI t.kind t.minus t.num).getD 0), .bool (goldI t.kind t.minus t.num).isSome]) ∧ Below w.heap.size w w' := by
  have HB : Hid (∀ o : Obj, Below w.heap.size w (w.alloc o)) := fun o => (Below.refl _ _).alloc (Nat.le_refl _) _
  simp only [numCells]
  generalize t.kind = k
  generalize t.minus = m
  generalize t.num = n at *
  by_cases hk : k = 2
  · subst hk
    have e0 : goldI 2 m n = hInt m n := if_pos rfl
    rw [e0]
    by_cases h1 : 9223372036854775808 < n
    · have e1 : hInt m n = none := by
        unfold hInt
        by_cases hm : m = true ∧ 0 < n
        · rw [if_pos hm, if_pos h1]
        · rw [if_neg hm, if_pos (by omega)]
      rw [e1]
      have f1 : decide ((9223372036854775808 : Int) < n) = true := by simp; omega
      go_enter Tryz.func30, Tryz.ntmps30
      go_wp2
      go_ret2
      exact ⟨rfl, by go_grown⟩
    · have f1 : decide ((9223372036854775808 : Int) < n) = false := by simp; omega
      by_cases h2 : n = 9223372036854775808
      · have f2 : ((n : Int) == 9223372036854775808) = true := by simp [h2]
        cases m
        · have e1 : hInt false n = none := by unfold hInt; rw [if_neg (by simp), if_pos (by omega)]
          rw [e1]
          go_enter Tryz.func30, Tryz.ntmps30
          go_wp2
          go_ret2
          exact ⟨rfl, by go_grown⟩
        · have e1 : hInt true n = some (-(n : Int)) := by unfold hInt; rw [if_pos ⟨rfl, by omega⟩, if_neg (by omega)]
          rw [e1]
          have f3 : IntKind.i64.wrap (n : Int) = -(n : Int) := by rw [IntKind.wrap_i64]; omega
          have f4 : IntKind.i64.wrap (-(-(n : Int))) = -(n : Int) := by rw [IntKind.wrap_i64]; omega
          have f5 : IntKind.i64.wrap (- IntKind.i64.wrap (n : Int)) = -(n : Int) := by rw [f3, f4]
          clear h2
          go_enter Tryz.func30, Tryz.ntmps30
          go_wp2
          go_ret2
          exact ⟨by first | rfl | simp_all, by go_grown⟩
      · have f2 : ((n : Int) == 9223372036854775808) = false := by simp; omega
        have f3 : IntKind.i64.wrap (n : Int) = (n : Int) := by rw [IntKind.wrap_i64]; omega
        have f4 : IntKind.i64.wrap (-(n : Int)) = -(n : Int) := by rw [IntKind.wrap_i64]; omega
        cases m
        · have e1 : hInt false n = some (n : Int) := by unfold hInt; rw [if_neg (by simp), if_neg (by omega)]
          rw [e1]
          go_enter Tryz.func30, Tryz.ntmps30
          go_wp2
          go_ret2
          exact ⟨by first | rfl | simp_all, by go_grown⟩
        · have e1 : hInt true n = some (-(n : Int)) := by
            unfold hInt
            by_cases h0 : 0 < n
            · rw [if_pos ⟨rfl, h0⟩, if_neg h1]
            · rw [if_neg (by simp [h0]), if_neg (by omega)]
              have : n = 0 := by omega
              subst this; rfl
          rw [e1]
          go_enter Tryz.func30, Tryz.ntmps30
          go_wp2
          go_ret2
          exact ⟨by first | rfl | simp_all, by go_grown⟩
  · have e0 : goldI k m n = none := if_neg hk
    rw [e0]
    have f0 : ((k : Int) == 2) = false := by rw [beq_eq_false_iff_ne]; omega
    go_enter Tryz.func30, Tryz.ntmps30
    go_wp2
    go_ret2
    exact ⟨rfl, by go_grown⟩
set_option maxRecDepth 100000 in
set_option maxHeartbeats 2000000 in
theorem headUint_any (w : World) (t : HT) (hn : t.num < 18446744073709551616) : Calls Tryz.prog 76 #[.agg (numCells t)] w fun e w' => e = .returned (.tuple #[.int .u64 ((goldU t.kind t.minus t.num).getD 0), .bool (goldU t.kind t.minus t.num).isSome]) ∧ Below w.heap.size w w' := by
  have HB : Hid (∀ o : Obj, Below w.heap.size w (w.alloc o)) := fun o => (Below.refl _ _).alloc (Nat.le_refl _) _
  simp only [numCells]
  generalize t.kind = k
  generalize t.minus = m
  generalize t.num = n at *
  by_cases hk : k = 2
  · subst hk
    have e0 : goldU 2 m n = hUint m n := if_pos rfl
    rw [e0]
    cases m
    · have e1 : hUint false n = some (n : Int) := by unfold hUint; rw [if_neg (by simp)]
      rw [e1]
      go_enter Tryz.func76, Tryz.ntmps76
      go_wp2
      go_ret2
      exact ⟨rfl, by go_grown⟩
    · by_cases h0 : 0 < n
      · have e1 : hUint true n = none := by unfold hUint; rw [if_pos ⟨rfl, h0⟩]
        rw [e1]
        have f1 : decide ((0 : Int) < n) = true := by simp; omega
        go_enter Tryz.func76, Tryz.ntmps76
        go_wp2
        go_ret2
        exact ⟨rfl, by go_grown⟩
      · have e1 : hUint true n = some (n : Int) := by unfold hUint; rw [if_neg (by simp [h0])]
        rw [e1]
        have f1 : decide ((0 : Int) < n) = false := by simp; omega
        go_enter Tryz.func76, Tryz.ntmps76
        go_wp2
        go_ret2
        exact ⟨rfl, by go_grown⟩
  · have e0 : goldU k m n = none := if_neg hk
    rw [e0]
    have f0 : ((k : Int) == 2) = false := by rw [beq_eq_false_iff_ne]; omega
    go_enter Tryz.func76, Tryz.ntmps76
    go_wp2
    go_ret2
    exact ⟨rfl, by go_grown⟩

/-! ### HeadKid -/
def zeroT : HT := .mk 0 false false 0 [] [] []
theorem idx_none {l : List Bs} {s : Bs} (h : s ∉ l) : Lib.idxOfS ((l.map B).take l.length) (B s) = -1 := by
  refine Lib.idxOfS_miss (l.map B) l.length (B s) (fun j hj => ?_)
  rw [List.getD_eq_getElem?_getD, List.getElem?_map, List.getElem?_eq_getElem hj]
  intro e
  have : l[j] = s := B_inj.1 e
  exact h (this ▸ List.getElem_mem hj)
theorem idx_at {l : List Bs} {s : Bs} {k : Nat} (hk : l[k]? = some s) (hn : ∀ i : Nat, i < k → l[i]? ≠ some s) : Lib.idxOfS ((l.map B).take l.length) (B s) = (k : Int) := by
  have hlt := (List.getElem?_eq_some_iff.1 hk).1
  refine Lib.idxOfS_hit (l.map B) l.length k (B s) hlt (by simp) ?_ (fun j hj => ?_)
  · rw [List.getD_eq_getElem?_getD, List.getElem?_map, hk]; rfl
  · have hj' : j < l.length := by omega
    rw [List.getD_eq_getElem?_getD, List.getElem?_map, List.getElem?_eq_getElem hj']
    intro e
    exact hn j hj (by rw [List.getElem?_eq_getElem hj']; exact congrArg some (B_inj.1 e))
/-- Where the first of a name stands. -/
theorem kid_place : ∀ {ns : List Bs} {ks : List HT} {s : Bs} {c : HT}, kidIn ns ks s = some c → ∃ i : Nat, ns[i]? = some s ∧ ks[i]? = some c ∧ ∀ j : Nat, j < i → ns[j]? ≠ some s
  | [], _, _, _, h => by simp [kidIn] at h
  | _ :: _, [], _, _, h => by simp [kidIn] at h
  | n :: ns, k :: ks, s, c, h => by
    rw [kidIn_cons] at h
    by_cases e : n = s
    · rw [if_pos e] at h
      cases h
      exact ⟨0, by simp [e], rfl, fun j hj => by omega⟩
    · rw [if_neg e] at h
      obtain ⟨i, h1, h2, h3⟩ := kid_place h
      refine ⟨i + 1, by simpa using h1, by simpa using h2, fun j hj hc => ?_⟩
      cases j with
      | zero => simp at hc; exact e hc
      | succ j => exact h3 j (by omega) (by simpa using hc)
theorem kidIn_none_mem {ns : List Bs} {ks : List HT} {s : Bs} (hl : ns.length = ks.length) (h : kidIn ns ks s = none) : s ∉ ns := fun hs => by
  obtain ⟨c, hc⟩ := kidIn_some hl hs
  rw [hc] at h
  cases h
/-- What HeadKid gives. -/
def KidR (w : World) (B0 d : Nat) (k : Option HT) (e : Ending) : Prop :=
  match k with
  | none => e = .returned (.tuple #[.agg (tcells zeroT (.slice none 0 0) (.slice none 0 0)).toArray, .bool false])
  | some c => ∃ a1 c1 a2 c2, RepT w B0 d (.slice a1 c.names.length c1) (.slice a2 c.kids.length c2) c ∧ e = .returned (.tuple #[.agg (tcells c (.slice a1 c.names.length c1) (.slice a2 c.kids.length c2)).toArray, .bool true])
set_option maxRecDepth 100000 in
set_option maxHeartbeats 4000000 in
theorem headKid_any {d B0 : Nat} {t : HT} {nv kv : Value} {s : Bs} {w : World} (hr : RepT w B0 (d + 1) nv kv t) (hB : B0 ≤ w.heap.size) (h5 : t.kind = 5) (hl : t.names.length = t.kids.length) (hlen : t.names.length ≤ 1000000) :
    Calls Tryz.prog 46 #[.agg (tcells t nv kv).toArray, .string (B s)] w fun e w' => KidR w B0 d (kidIn t.names t.kids s) e ∧ Below w.heap.size w w' := by
  obtain ⟨⟨an, cn, rfl⟩, ak, ck, rfl⟩ := hr.slices
  obtain ⟨ps, hrp, hkr⟩ := KidsB.krow hr.2.2 hB
  have hns := hr.2.1
  have HB : Hid (∀ o o' : Obj, Below w.heap.size w ((w.alloc o).alloc o')) := fun o o' => ((Below.refl _ _).alloc (Nat.le_refl _) _).alloc (by simp) _
  have f5 : ((t.kind : Int) == 5) = true := by rw [h5]; rfl
  have HIDX : Hid (∀ {wz : World} (z : Int), Below w.heap.size w wz → Lib.idxOfS ((t.names.map B).take t.names.length) (B s) = z → Calls Tryz.prog 83 #[.slice an t.names.length cn, .string (B s)] wz fun e w' => e = .returned (.int .i64 z) ∧ w' = wz) := by
    intro wz z hb hz
    subst hz
    rcases hns with ⟨a, c, e, e2⟩ | ⟨b, off, c, e, hlt, hc⟩
    · rw [e, e2]; exact Tryz.slices_Index_string_empty a c (B s) wz
    · rw [e]
      refine Tryz.slices_Index_string b off t.names.length c (t.names.map B) (B s) wz (by simp) (by omega) (fun j hj => ?_)
      rw [List.length_map] at hj
      have := (hb.cell (p := ⟨b, off + j, none⟩) (Nat.lt_of_lt_of_le hlt.1 hB)).trans (hc j _ (List.getElem?_eq_getElem hj))
      rw [List.getD_eq_getElem?_getD, List.getElem?_map, List.getElem?_eq_getElem hj]
      exact this
  have HL := Lib.hid hl
  cases hk : kidIn t.names t.kids s with
  | none =>
    have HM := Lib.hid (fun (o o' : Obj) => HIDX.out (-1) (HB.out o o') (idx_none (kidIn_none_mem hl hk)))
    clear hk hl hr hns hrp hkr
    simp only [tcells] at HM HIDX ⊢
    go_enter Tryz.func46, Tryz.ntmps46
    go_wp2_with (go_at_call 83; refine (HM.out _ _).mono ?_; rintro e w2 ⟨rfl, rfl⟩)
    go_returns
    exact ⟨rfl, by go_grown⟩
  | some c =>
    obtain ⟨i, hi1, hi2, hi3⟩ := kid_place hk
    have hil : i < t.kids.length := (List.getElem?_eq_some_iff.1 hi2).1
    have HM := Lib.hid (fun (o o' : Obj) => HIDX.out (i : Int) (HB.out o o') (idx_at hi1 hi3))
    have hil2 : i < ps.length := by rw [← hrp.1]; exact hil
    have hip : ps[i]? = some ps[i] := List.getElem?_eq_getElem hil2
    have hrc := hrp.2 i c _ hi2 hip
    obtain ⟨⟨a1, c1, e1⟩, a2, c2, e2⟩ := hrc.slices
    rcases hkr.2 with ⟨_, _, _, e⟩ | ⟨b, off, cc, e, hlt, hc⟩
    · rw [e] at hil; simp at hil
    cases e
    have HCELL : Hid (∀ (j : Nat) u, (tcells c (.slice a1 c.names.length c1) (.slice a2 c.kids.length c2))[j]? = some u → w.cell? ⟨b, off + i * 7 + j, none⟩ = some u) := by
      intro j u hu
      have hj : j < 7 := (List.getElem?_eq_some_iff.1 hu).1
      rw [Nat.add_assoc]
      refine hc _ u ((flatK_get hi2 hip j hj).trans ?_)
      rw [e1, e2]
      exact hu
    rw [e1, e2] at hrc
    have HRC := Lib.hid hrc
    have il : (i : Int) < t.kids.length := by omega
    have i0 : (0 : Int) ≤ i := by omega
    have f6 : decide ((i : Int) < 0) = false := by simp
    have f7 : decide ((t.kids.length : Int) ≤ i) = false := by simp; omega
    clear hk hl hr hns hrp hkr hi1 hi2 hi3 hip hrc e1 e2 hc
    simp only [tcells] at HM HIDX HCELL ⊢
    go_enter Tryz.func46, Tryz.ntmps46
    have k0 : w.cell? ⟨b, off + i * 7, none⟩ = some (.int .u8 c.kind) := HCELL.out 0 _ rfl
    have k1 := HCELL.out 1 _ rfl
    have k2 := HCELL.out 2 _ rfl
    have k3 := HCELL.out 3 _ rfl
    have k4 := HCELL.out 4 _ rfl
    have k5 := HCELL.out 5 _ rfl
    have k6 := HCELL.out 6 _ rfl
    go_wp2_with (go_at_call 83; refine (HM.out _ _).mono ?_; rintro e w2 ⟨rfl, rfl⟩)
    go_returns
    exact ⟨⟨a1, c1, a2, c2, HRC.out, rfl⟩, by go_grown⟩
end Go.Proofs.YtppkpcijmfdfmaaGreatDoor
