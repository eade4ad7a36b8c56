/- Decimals in memory: their digits, their point; the walk of trim. -/
import Derived.Test.YtppkpcijmfdfmaaGreatDoorF5
import Derived.Test.YtppkpcijmfdfmaaGreatDoorF1
import Derived.Deep.DeepCutAuto
import Derived.Deep.CutBlock
import Derived.Lib.EndianBits
set_option linter.unusedVariables false
set_option linter.unusedSimpArgs false
set_option linter.unusedVariables false
set_option linter.unusedSimpArgs false
namespace Go.Proofs.YtppkpcijmfdfmaaGreatDoor
open Go.RowKit

/-- A decimal in memory. -/
structure DB (w : World) (b nd : Nat) (dp : Int) (ng tr : Bool) : Prop where
  any : ∀ i : Nat, i < 800 → ∃ x : Int, w.cell? ⟨b, i, none⟩ = some (.int .u8 x)
  free : ∀ i : Nat, i < 804 → w.frozen? ⟨b, i, none⟩ = false
  nd : w.cell? ⟨b, 800, none⟩ = some (.int .i64 nd)
  dp : w.cell? ⟨b, 801, none⟩ = some (.int .i64 dp)
  ng : w.cell? ⟨b, 802, none⟩ = some (.bool ng)
  tr : w.cell? ⟨b, 803, none⟩ = some (.bool tr)
/-- Digits from a place on. -/
def DRow (w : World) (b o : Nat) (l : List Nat) : Prop := ∀ (i d : Nat), l[i]? = some d → w.cell? ⟨b, o + i, none⟩ = some (.int .u8 ((d : Int) + 48))
section
variable {w : World} {b nd : Nat} {dp : Int} {ng tr : Bool}
theorem DB.dig (h : DB w b nd dp ng tr) {i : Nat} (hi : i < 800) (x : Int) : DB (w.setCell ⟨b, i, none⟩ (.int .u8 x)) b nd dp ng tr where
  any j hj := by
    by_cases e : i = j
    · subst e
      obtain ⟨y, hy⟩ := h.any i hi
      exact ⟨x, same_cell _ hy⟩
    · rw [cell_other _ _ (by omega)]; exact h.any j hj
  free j hj := by simpa using h.free j hj
  nd := by rw [cell_other _ _ (by omega)]; exact h.nd
  dp := by rw [cell_other _ _ (by omega)]; exact h.dp
  ng := by rw [cell_other _ _ (by omega)]; exact h.ng
  tr := by rw [cell_other _ _ (by omega)]; exact h.tr
theorem DB.setNd (h : DB w b nd dp ng tr) (n : Nat) : DB (w.setCell ⟨b, 800, none⟩ (.int .i64 n)) b n dp ng tr where
  any j hj := by rw [cell_other _ _ (by omega)]; exact h.any j hj
  free j hj := by simpa using h.free j hj
  nd := same_cell _ h.nd
  dp := by rw [cell_other _ _ (by omega)]; exact h.dp
  ng := by rw [cell_other _ _ (by omega)]; exact h.ng
  tr := by rw [cell_other _ _ (by omega)]; exact h.tr
theorem DB.setDp (h : DB w b nd dp ng tr) (n : Int) : DB (w.setCell ⟨b, 801, none⟩ (.int .i64 n)) b nd n ng tr where
  any j hj := by rw [cell_other _ _ (by omega)]; exact h.any j hj
  free j hj := by simpa using h.free j hj
  nd := by rw [cell_other _ _ (by omega)]; exact h.nd
  dp := same_cell _ h.dp
  ng := by rw [cell_other _ _ (by omega)]; exact h.ng
  tr := by rw [cell_other _ _ (by omega)]; exact h.tr
theorem DB.setNg (h : DB w b nd dp ng tr) (x : Bool) : DB (w.setCell ⟨b, 802, none⟩ (.bool x)) b nd dp x tr where
  any j hj := by rw [cell_other _ _ (by omega)]; exact h.any j hj
  free j hj := by simpa using h.free j hj
  nd := by rw [cell_other _ _ (by omega)]; exact h.nd
  dp := by rw [cell_other _ _ (by omega)]; exact h.dp
  ng := same_cell _ h.ng
  tr := by rw [cell_other _ _ (by omega)]; exact h.tr
theorem DB.setTr (h : DB w b nd dp ng tr) (x : Bool) : DB (w.setCell ⟨b, 803, none⟩ (.bool x)) b nd dp ng x where
  any j hj := by rw [cell_other _ _ (by omega)]; exact h.any j hj
  free j hj := by simpa using h.free j hj
  nd := by rw [cell_other _ _ (by omega)]; exact h.nd
  dp := by rw [cell_other _ _ (by omega)]; exact h.dp
  ng := by rw [cell_other _ _ (by omega)]; exact h.ng
  tr := same_cell _ h.tr
theorem DB.below {B : Nat} {w' : World} (h : DB w b nd dp ng tr) (hb : Below B w w') (hlt : b < B) : DB w' b nd dp ng tr where
  any j hj := by
    obtain ⟨x, hx⟩ := h.any j hj
    exact ⟨x, (hb.cell (p := ⟨b, j, none⟩) hlt).trans hx⟩
  free j hj := (hb.frozen (p := ⟨b, j, none⟩) hlt).trans (h.free j hj)
  nd := (hb.cell (p := ⟨b, 800, none⟩) hlt).trans h.nd
  dp := (hb.cell (p := ⟨b, 801, none⟩) hlt).trans h.dp
  ng := (hb.cell (p := ⟨b, 802, none⟩) hlt).trans h.ng
  tr := (hb.cell (p := ⟨b, 803, none⟩) hlt).trans h.tr
theorem DRow.below {B o : Nat} {l : List Nat} {w' : World} (h : DRow w b o l) (hb : Below B w w') (hlt : b < B) : DRow w' b o l := fun i d hd => (hb.cell (p := ⟨b, o + i, none⟩) hlt).trans (h i d hd)
theorem DB.drewN (h : DB w b nd dp ng tr) (n : Nat) : DB (w.drewN n) b nd dp ng tr := ⟨h.any, h.free, h.nd, h.dp, h.ng, h.tr⟩
theorem DRow.drewN {o : Nat} {l : List Nat} (h : DRow w b o l) (n : Nat) : DRow (w.drewN n) b o l := h
theorem DRow.nil (o : Nat) : DRow w b o [] := fun i d h => by simp at h
/-- What lies apart is kept. -/
theorem DRow.keep {o j : Nat} {l : List Nat} (h : DRow w b o l) (v : Value) (hj : j < o ∨ o + l.length ≤ j) : DRow (w.setCell ⟨b, j, none⟩ v) b o l := fun i d hd => by
  have := (List.getElem?_eq_some_iff.1 hd).1
  rw [cell_other _ _ (by omega)]
  exact h i d hd
theorem DRow.push {o d : Nat} {l : List Nat} (h : DRow w b o l) {u : Value} (hc : w.cell? ⟨b, o + l.length, none⟩ = some u) : DRow (w.setCell ⟨b, o + l.length, none⟩ (.int .u8 ((d : Int) + 48))) b o (l ++ [d]) := fun i x hx => by
  by_cases e : i = l.length
  · subst e
    have : x = d := by simpa using hx.symm
    subst this
    exact same_cell _ hc
  · have hlt : i < l.length := by
      have := (List.getElem?_eq_some_iff.1 hx).1
      simp at this; omega
    rw [List.getElem?_append_left hlt] at hx
    rw [cell_other _ _ (by omega)]
    exact h i x hx
/-- A digit ahead of the others. -/
theorem DRow.cons {o d : Nat} {l : List Nat} (h : DRow w b (o + 1) l) {u : Value} (hc : w.cell? ⟨b, o, none⟩ = some u) : DRow (w.setCell ⟨b, o, none⟩ (.int .u8 ((d : Int) + 48))) b o (d :: l) := fun i x hx => by
  cases i with
  | zero =>
    have : x = d := by simpa using hx.symm
    subst this
    exact same_cell _ hc
  | succ i =>
    rw [cell_other _ _ (by omega)]
    have := h i x (by simpa using hx)
    rw [show o + (i + 1) = o + 1 + i by omega]
    exact this
theorem DRow.take {o : Nat} {l : List Nat} (h : DRow w b o l) (k : Nat) : DRow w b o (l.take k) := fun i d hd => by
  rw [List.getElem?_take] at hd
  split at hd
  · exact h i d hd
  · cases hd
end
theorem take_snoc {l : List Nat} {j d : Nat} (h : l[j]? = some d) : l.take (j + 1) = l.take j ++ [d] := by rw [List.take_add_one, h]; rfl
def ndOf (w : World) (b : Nat) : Nat := match w.cell? ⟨b, 800, none⟩ with | some (.int _ n) => n.toNat | _ => 0
theorem ndOf_eq {w : World} {b : Nat} {n : Int} (h : w.cell? ⟨b, 800, none⟩ = some (.int .i64 n)) : ndOf w b = n.toNat := by unfold ndOf; rw [h]

set_option maxRecDepth 100000 in
set_option maxHeartbeats 1000000 in
theorem trim_any {b : Nat} {dp : Int} {ng tr : Bool} {l : List Nat} {w : World} (hl : Lead l) (hn : l.length ≤ 800) (hd : DB w b l.length dp ng tr) (hr : DRow w b 0 l) :
    Calls Tryz.prog 217 #[.pointer (some ⟨b, 0, none⟩)] w fun e w' => e = .returned (.tuple #[]) ∧ DB w' b (trimZ l).length dp ng tr ∧ DRow w' b 0 (trimZ l) ∧ Below b w w' := by
  have HL := Lib.hid hl
  have HD := Lib.hid hd
  have HR := Lib.hid hr
  clear hl hd hr
  go_enter Tryz.func217, Tryz.ntmps217
  go_wp2
  go_loopw [] (fun wr => ∃ j : Nat, j + 1 ≤ l.length ∧ Hid (trimZ (l.take (j + 1)) = trimZ l) ∧ Hid (DB wr b (j + 1) dp ng tr ∧ DRow wr b 0 l ∧ Below b w wr)) (fun wr => ndOf wr b)
  case atStart =>
    obtain ⟨d, t, rfl, _⟩ := HL.out
    exact ⟨t.length, by simp, Lib.hid (by rw [List.take_of_length_le (by simp)]), HD.out, HR.out, Below.refl _ _⟩
  case round =>
    obtain ⟨j, hj, HT, HS⟩ := hrel
    obtain ⟨d, hdj⟩ : ∃ d, l[j]? = some d := ⟨_, List.getElem?_eq_getElem (by omega)⟩
    have c8 : wr.cell? ⟨b, 800, none⟩ = some (.int .i64 ((j : Int) + 1)) := by have := HS.out.1.nd; simpa using this
    have cd : wr.cell? ⟨b, j, none⟩ = some (.int .u8 ((d : Int) + 48)) := by have := HS.out.2.1 j d hdj; simpa using this
    have f8 : wr.frozen? ⟨b, 800, none⟩ = false := HS.out.1.free 800 (by omega)
    have g0 : decide ((j : Int) + 1 > 0) = true := by rw [decide_eq_true_iff]; omega
    have g0' : decide (0 < (j : Int) + 1) = true := by rw [decide_eq_true_iff]; omega
    have wj : IntKind.i64.wrap (j : Int) = (j : Int) := IntWalk.i64_in _ (by omega)
    have b1 : (0 : Int) ≤ (j : Int) := by omega
    have b2 : (j : Int) < 800 := by omega
    have HDJ := Lib.hid hdj
    by_cases h0 : d = 0
    · subst h0
      have g1 : ((((0 : Nat) : Int) + 48) == 48) = true := by decide
      have hj1 : 0 < j := by
        rcases Nat.eq_zero_or_pos j with rfl | h
        · obtain ⟨d, t, rfl, hd⟩ := HL.out
          simp at hdj; omega
        · exact h
      clear hdj
      go_wp2
      go_quiet (fail)
      go_wp2
      go_roundw
      case rel =>
        obtain ⟨i, rfl⟩ : ∃ i, j = i + 1 := ⟨j - 1, by omega⟩
        have hbq : Below b wr (wr.drewN nq) := ⟨rfl, rfl, rfl, Nat.le_refl _, fun _ _ => rfl⟩
        refine ⟨i, by omega, Lib.hid ?_, Lib.hid ⟨DB.setNd (HS.out.1.drewN nq) (i + 1), DRow.keep (HS.out.2.1.drewN nq) _ (Or.inr (by omega)), below_store (HS.out.2.2.trans hbq) _ (Nat.le_refl _)⟩⟩
        rw [← HT.out, take_snoc HDJ.out, trimZ_push, if_pos rfl]
      case measure =>
        rw [ndOf_eq c8, ndOf_eq (n := (j : Int)) (same_cell _ (by simpa using c8))]
        omega
    · have g1 : (((d : Int) + 48) == 48) = false := by rw [beq_eq_false_iff_ne]; omega
      have g2 : ((j : Int) + 1 == 0) = false := by rw [beq_eq_false_iff_ne]; omega
      clear hdj
      go_wp2
      go_quiet (fail)
      go_wp2
      go_end0
      have e1 : trimZ l = l.take (j + 1) := by rw [← HT.out, take_snoc HDJ.out, trimZ_push, if_neg h0]
      have e2 : (l.take (j + 1)).length = j + 1 := by rw [List.length_take]; omega
      rw [e1, e2]
      exact ⟨rfl, HS.out.1.drewN nq, (HS.out.2.1.drewN nq).take _, HS.out.2.2.trans ⟨rfl, rfl, rfl, Nat.le_refl _, fun _ _ => rfl⟩⟩
end Go.Proofs.YtppkpcijmfdfmaaGreatDoor

/- The walk of rightShift. -/
set_option linter.unusedVariables false
set_option linter.unusedSimpArgs false
namespace Go.Proofs.YtppkpcijmfdfmaaGreatDoor
open Go.RowKit

theorem two_pow_small {k : Nat} (hk : k ≤ 27) : 1 ≤ 2 ^ k ∧ 2 ^ k ≤ 134217728 := ⟨Nat.two_pow_pos k, Nat.le_trans (Nat.pow_le_pow_right (by omega) hk) (by decide)⟩
theorem mask_mod {n k : Nat} (hk : k ≤ 63) (hn : n < 18446744073709551616) : bits .and .u64 (n : Int) (((2 ^ k : Nat) : Int) - 1) = ((n % 2 ^ k : Nat) : Int) := by
  have h := bits_mask .u64 64 (by decide) wraps_u64 k (by omega) (n : Int) (by omega) (by omega)
  have e : ((2 : Int) ^ k) = ((2 ^ k : Nat) : Int) := by simp
  rw [e] at h
  rw [h]
  simp

set_option maxRecDepth 100000 in
set_option maxHeartbeats 2000000 in
theorem shr_any {b k : Nat} {dp : Int} {ng tr : Bool} {l : List Nat} {w : World} (hk : k ≤ 27) (hdg : Digs l) (hl : Lead l) (hn : l.length + k + 1 ≤ 800) (hd : DB w b l.length dp ng tr) (hr : DRow w b 0 l) (hdp : -100000 ≤ dp ∧ dp ≤ 100000) :
    Calls Tryz.prog 211 #[.pointer (some ⟨b, 0, none⟩), .int .u64 k] w fun e w' => e = .returned (.tuple #[]) ∧ DB w' b (rDigs k l).length (dp - rMove k l) ng tr ∧ DRow w' b 0 (rDigs k l) ∧ Below b w w' := by
  obtain ⟨P, hP⟩ : ∃ P, P = 2 ^ k := ⟨_, rfl⟩
  obtain ⟨p1, p2⟩ := two_pow_small hk
  rw [← hP] at p1 p2
  have e2 : ((2 : Int) ^ k) = (P : Int) := by rw [hP]; simp
  have HP := Lib.hid hP
  have HDG := Lib.hid hdg
  have HL := Lib.hid hl
  have HD := Lib.hid hd
  have HR := Lib.hid hr
  have h0 : 0 < dN l := Nat.lt_of_lt_of_le (Nat.pow_pos (by decide)) (dN_ge hl)
  have c8 := hd.nd
  have l1 : (l.length : Int) ≤ 800 := by omega
  clear hdg hl hd hr hP
  go_enter Tryz.func211, Tryz.ntmps211
  go_upto_block 0 with (fail)
  go_cut [4, 6] (fun s4 s6 wx => wx = w ∧ ∃ (n r : Nat), s4 = .int .i64 (r : Int) ∧ s6 = .int .u64 (n : Int) ∧ r ≤ l.length + 27 ∧ (rLead k 0 0 l).1 = n ∧ (rLead k 0 0 l).2.1 = r ∧ (rLead k 0 0 l).2.2 = l.drop r)
  case first =>
    go_wp2_with (fail)
    go_loop [4, 6] (fun s4 s6 => ∃ (n r : Nat), s4 = .int .i64 (r : Int) ∧ s6 = .int .u64 (n : Int) ∧ r ≤ l.length ∧ n < 10 * P ∧ Hid (n = dN (l.take r)) ∧ Hid (rLead k n r (l.drop r) = rLead k 0 0 l)) (fun s4 _ => l.length - (intOf s4).toNat)
    case atStart => exact ⟨0, 0, rfl, rfl, by omega, by omega, Lib.hid rfl, Lib.hid rfl⟩
    case round =>
      obtain ⟨n, r, rfl, rfl, hr, hn10, HN, HE⟩ := hrel
      obtain ⟨q, hq⟩ : ∃ q, q = n / P := ⟨_, rfl⟩
      have dq : (n : Int) / (P : Int) = (q : Int) := by rw [hq]; exact (Int.natCast_ediv n P).symm
      by_cases hst : P ≤ n
      · have hq1 : 1 ≤ q := by rw [hq]; exact (Nat.le_div_iff_mul_le (by omega)).2 (by omega)
        have z : ((q : Int) == 0) = false := by rw [beq_eq_false_iff_ne]; omega
        clear hq
        go_wp2
        go_meet
        case rel =>
          have := HE.out
          rw [rLead_stop (by rw [← HP.out]; exact hst)] at this
          exact ⟨rfl, n, r, rfl, rfl, by omega, by rw [← this], by rw [← this], by rw [← this]⟩
      · have hq0 : q = 0 := by rw [hq]; exact Nat.div_eq_of_lt (by omega)
        have z : ((q : Int) == 0) = true := by rw [beq_iff_eq]; omega
        clear hq
        by_cases hlt : r < l.length
        · obtain ⟨d, hdr⟩ : ∃ d, l[r]? = some d := ⟨_, List.getElem?_eq_getElem hlt⟩
          have cd : w.cell? ⟨b, r, none⟩ = some (.int .u8 ((d : Int) + 48)) := by have := HR.out r d hdr; simpa using this
          have hd9 : d ≤ 9 := HDG.out d (List.mem_of_getElem? hdr)
          have hnlt : n < P := by omega
          have HDR := Lib.hid hdr
          have b1 : (0 : Int) ≤ (r : Int) := by omega
          have b2 : (r : Int) < 800 := by omega
          have g1 : ¬ ((r : Int) ≥ (l.length : Int)) := by omega
          have g2 : (n : Int) * 10 + ((d : Int) + 48) - 48 = ((n * 10 + d : Nat) : Int) := by omega
          clear hst hdr
          go_wp2
          go_round
          case rel => exact ⟨n * 10 + d, r + 1, by go_num, by go_num, by omega, by omega, Lib.hid (by rw [take_snoc HDR.out, dN_push, ← HN.out]), Lib.hid (by
            have h2 : l.drop r = d :: l.drop (r + 1) := by
              obtain ⟨h3, h4⟩ := List.getElem?_eq_some_iff.1 HDR.out
              rw [List.drop_eq_getElem_cons h3, h4]
            rw [← HE.out, h2, rLead_go (by rw [← HP.out]; omega)])⟩
          case measure => simp [intOf] <;> omega
        · obtain rfl : r = l.length := by omega
          have g1 : ((l.length : Int) ≥ (l.length : Int)) := by omega
          have hn0 : 0 < n := by have h := HN.out; rw [List.take_of_length_le (Nat.le_refl _)] at h; omega
          have z1 : ((n : Int) == 0) = false := by rw [beq_eq_false_iff_ne]; omega
          have HPAD : Hid (rLead k 0 0 l = ((rPad k k n l.length).1, (rPad k k n l.length).2, [])) := Lib.hid (by
            have h := HE.out
            rw [List.drop_of_length_le (Nat.le_refl _), rLead_end (by rw [← HP.out]; omega)] at h
            exact h.symm)
          clear hst hlt
          go_wp2
          go_loop [4, 6] (fun s4 s6 => ∃ (f m t : Nat), s4 = .int .i64 (t : Int) ∧ s6 = .int .u64 (m : Int) ∧ l.length ≤ t ∧ t + f ≤ l.length + 27 ∧ m < 10 * P ∧ Hid (2 ^ k ≤ m * 2 ^ f) ∧ Hid (rPad k f m t = rPad k k n l.length)) (fun s4 _ => l.length + 27 - (intOf s4).toNat)
          case atStart => exact ⟨k, n, l.length, rfl, rfl, by omega, by omega, by omega, Lib.hid (Nat.le_mul_of_pos_left _ hn0), Lib.hid rfl⟩
          case round =>
            obtain ⟨f, m, t, rfl, rfl, ht1, ht2, hm10, HF, HQ⟩ := hrel
            obtain ⟨x, hx⟩ : ∃ x, x = m / P := ⟨_, rfl⟩
            have dx : (m : Int) / (P : Int) = (x : Int) := by rw [hx]; exact (Int.natCast_ediv m P).symm
            by_cases hst2 : P ≤ m
            · have hx1 : 1 ≤ x := by rw [hx]; exact (Nat.le_div_iff_mul_le (by omega)).2 (by omega)
              have z2 : ((x : Int) == 0) = false := by rw [beq_eq_false_iff_ne]; omega
              clear hx
              go_wp2
              go_meet
              case rel =>
                have h1 : rPad k f m t = (m, t) := by
                  cases f with
                  | zero => rfl
                  | succ f => rw [rPad, if_pos (by rw [← HP.out]; exact hst2)]
                have h2 := HPAD.out
                rw [← HQ.out, h1] at h2
                exact ⟨rfl, m, t, rfl, rfl, by omega, by rw [h2], by rw [h2], by rw [h2, List.drop_of_length_le ht1]⟩
            · have hx0 : x = 0 := by rw [hx]; exact Nat.div_eq_of_lt (by omega)
              have z2 : ((x : Int) == 0) = true := by rw [beq_iff_eq]; omega
              obtain ⟨f, rfl⟩ : ∃ g, f = g + 1 := by
                cases f with
                | zero => have h := HF.out; rw [← HP.out, Nat.pow_zero, Nat.mul_one] at h; exact absurd h hst2
                | succ f => exact ⟨f, rfl⟩
              have hmlt : m < P := by omega
              clear hx hst2
              go_wp2
              go_round
              case rel => exact ⟨f, m * 10, t + 1, by go_num, by go_num, by omega, by omega, by omega, Lib.hid (by
                have h := HF.out
                rw [Nat.pow_succ] at h
                have h2 : m * (2 ^ f * 2) ≤ m * 10 * 2 ^ f := by rw [Nat.mul_assoc m 10, Nat.mul_comm (2 ^ f) 2]; exact Nat.mul_le_mul_left _ (Nat.mul_le_mul_right _ (by omega))
                omega), Lib.hid (by rw [← HQ.out, rPad, if_neg (by rw [← HP.out]; omega)])⟩
              case measure => simp [intOf] <;> omega
  case rest =>
    obtain ⟨rfl, n0, r0, rfl, rfl, hrb, hL1, hL2, hL3⟩ := hcut
    obtain ⟨j0, _, _, _, hlo, hhi, _⟩ := rLead_spec k l 0 0 HDG.out (by rw [← HP.out]; omega) (by exact h0)
    have hr1 := rLead_pos (k := k) (l := l) (n := 0) (r := 0) (by rw [← HP.out]; omega) hlo
    rw [hL1, ← HP.out] at hlo hhi
    rw [hL2] at hr1
    have HRD : Hid (rDigs k l = trimZ (rOut k n0 (l.drop r0)) ∧ rMove k l = r0 - 1) := Lib.hid ⟨by unfold rDigs; rw [hL1, hL3], by unfold rMove; rw [hL2]⟩
    have HLO := Lib.hid hlo
    clear hL1 hL2 hL3 hlo
    have c81 := HD.out.dp
    have f81 : wc.frozen? ⟨b, 801, none⟩ = false := HD.out.free 801 (by omega)
    have hdpI := hdp.1
    have hdpJ := hdp.2
    have HW1 : Hid (∀ v : Int, DB (wc.setCell ⟨b, 801, none⟩ (.int .i64 v)) b l.length v ng tr ∧ DRow (wc.setCell ⟨b, 801, none⟩ (.int .i64 v)) b 0 l ∧ Below b wc (wc.setCell ⟨b, 801, none⟩ (.int .i64 v))) :=
      Lib.hid fun v => ⟨HD.out.setDp v, HR.out.keep _ (Or.inr (by omega)), below_store (Below.refl _ _) _ (Nat.le_refl _)⟩
    obtain ⟨D, hD⟩ : ∃ D : Int, dp - ((r0 : Int) - 1) = D := ⟨_, rfl⟩
    have HDD : Hid (D = dp - (rMove k l : Nat)) := Lib.hid (by rw [HRD.out.2]; omega)
    go_upto_block 4 with (fail)
    obtain ⟨w1, hw1⟩ : ∃ w1, w1 = wc.setCell ⟨b, 801, none⟩ (.int .i64 D) := ⟨_, rfl⟩
    rw [← hw1]
    have HB1 := HW1.out D
    rw [← hw1] at HB1
    have HB1' := Lib.hid HB1
    clear HB1 hw1 hD c81 f81 c8
    go_wp2
    go_loopw [4, 5, 6] (fun s4 s5 s6 wr => ∃ (r n : Nat) (o : List Nat), s4 = .int .i64 (r : Int) ∧ s5 = .int .i64 (o.length : Int) ∧ s6 = .int .u64 (n : Int) ∧ r ≤ l.length + 27 ∧ o.length + 1 ≤ r ∧ o.length ≤ l.length ∧ n < 10 * P ∧ Hid (rOut k n0 (l.drop r0) = o ++ rOut k n (l.drop r)) ∧ Hid (DB wr b l.length D ng tr ∧ DRow wr b 0 o ∧ DRow wr b r (l.drop r) ∧ Below b wc wr)) (fun s4 _ _ _ => l.length + 27 - (intOf s4).toNat)
    case atStart =>
      refine ⟨r0, n0, [], rfl, rfl, rfl, hrb, by simp; omega, by simp, hhi, Lib.hid rfl, Lib.hid ⟨HB1'.out.1, DRow.nil 0, ?_, HB1'.out.2.2⟩⟩
      intro i d hid
      have := HB1'.out.2.1 (r0 + i) d (by rw [List.getElem?_drop] at hid; exact hid)
      simpa using this
    case round =>
      obtain ⟨r, n, o, rfl, rfl, rfl, hrb2, hor, hol, hn10, HQ, HS⟩ := hrel
      have c8 := HS.out.1.nd
      by_cases hlt : r < l.length
      · obtain ⟨d, hdr⟩ : ∃ d, l[r]? = some d := ⟨_, List.getElem?_eq_getElem hlt⟩
        have cd : wr.cell? ⟨b, r, none⟩ = some (.int .u8 ((d : Int) + 48)) := by
          have := HS.out.2.2.1 0 d (by rw [List.getElem?_drop, Nat.add_zero]; exact hdr)
          simpa using this
        have hd9 : d ≤ 9 := HDG.out d (List.mem_of_getElem? hdr)
        have HDR := Lib.hid hdr
        obtain ⟨q, hq⟩ : ∃ q, q = n / P := ⟨_, rfl⟩
        have dq : (n : Int) / (P : Int) = (q : Int) := by rw [hq]; exact (Int.natCast_ediv n P).symm
        have hq9 : q ≤ 9 := by rw [hq]; have := (Nat.div_lt_iff_lt_mul (by omega : 0 < P)).2 (show n < 10 * P by omega); omega
        obtain ⟨m, hm⟩ : ∃ m, m = n % P := ⟨_, rfl⟩
        have am : bits .and .u64 (n : Int) ((P : Int) - 1) = (m : Int) := by
          have := mask_mod (n := n) (k := k) (by omega) (by omega)
          rw [← HP.out] at this
          rw [hm]; exact this
        have hmP : m < P := by rw [hm]; exact Nat.mod_lt _ (by omega)
        obtain ⟨u, hu⟩ := HS.out.1.any o.length (by omega)
        have fu : wr.frozen? ⟨b, o.length, none⟩ = false := HS.out.1.free o.length (by omega)
        have HQD := Lib.hid (And.intro hq hm)
        have b1 : (0 : Int) ≤ (r : Int) := by omega
        have b2 : (r : Int) < 800 := by omega
        have b3 : (0 : Int) ≤ (o.length : Int) := by omega
        have b4 : (o.length : Int) < 800 := by omega
        clear hdr hq hm
        go_wp2
        go_roundw
        case rel =>
          have hdrop : l.drop r = d :: l.drop (r + 1) := by
            obtain ⟨h3, h4⟩ := List.getElem?_eq_some_iff.1 HDR.out
            rw [List.drop_eq_getElem_cons h3, h4]
          refine ⟨r + 1, m * 10 + d, o ++ [q], by go_num, by simp, by go_num, by omega, by simp; omega, by simp; omega, by omega, Lib.hid ?_, Lib.hid ⟨HS.out.1.dig (by omega) _, ?_, ?_, below_store HS.out.2.2.2 _ (Nat.le_refl _)⟩⟩
          · rw [HQ.out, hdrop, rOut, HQD.out.1, HQD.out.2, HP.out]
            simp
          · have := DRow.push (d := q) HS.out.2.1 (u := .int .u8 u) (by rw [Nat.zero_add]; exact hu)
            rw [Nat.zero_add] at this
            exact this
          · intro i x hx
            have h1 := HS.out.2.2.1 (i + 1) x (by rw [hdrop]; simpa using hx)
            rw [cell_other _ _ (by omega), show r + 1 + i = r + (i + 1) by omega]
            exact h1
        case measure => simp [intOf] <;> omega
      · have hex : l.drop r = [] := List.drop_of_length_le (by omega)
        have HQ2 : Hid (rOut k n0 (l.drop r0) = o ++ rTail k (k + 1) n) := Lib.hid (by rw [HQ.out, hex]; rfl)
        have g1 : ¬ ((r : Int) < (l.length : Int)) := by omega
        clear hlt
        go_wp2
        go_loopw [5, 6] (fun s5 s6 wr2 => ∃ (n f : Nat) (o : List Nat), s5 = .int .i64 (o.length : Int) ∧ s6 = .int .u64 (n : Int) ∧ f ≤ k + 1 ∧ o.length + f ≤ 800 ∧ n < 10 * P ∧ Hid (rOut k n0 (l.drop r0) = o ++ rTail k f n) ∧ Hid (rOk k f n) ∧ Hid (DB wr2 b l.length D ng tr ∧ DRow wr2 b 0 o ∧ Below b wc wr2)) (fun s5 _ _ => 801 - (intOf s5).toNat)
        case atStart => exact ⟨n, k + 1, o, rfl, rfl, by omega, by omega, hn10, HQ2, Lib.hid (rOk_start k n), Lib.hid ⟨HS.out.1, HS.out.2.1, HS.out.2.2.2⟩⟩
        case round =>
          obtain ⟨n, f, o, rfl, rfl, hf, hof, hn10, HQ3, HOK, HS2⟩ := hrel
          have b3 : (0 : Int) ≤ (o.length : Int) := by omega
          by_cases h0n : n = 0
          · have z : ¬ ((n : Int) > 0) := by omega
            have z2 : decide (0 < (n : Int)) = false := by rw [decide_eq_false_iff_not]; omega
            have c80 := HS2.out.1.nd
            have f80 : wr.frozen? ⟨b, 800, none⟩ = false := HS2.out.1.free 800 (by omega)
            have HO : Hid (o = rOut k n0 (l.drop r0)) := Lib.hid (by
              rw [HQ3.out, h0n]
              cases f with
              | zero => simp [rTail]
              | succ f => simp [rTail])
            have HTR : Hid (Calls Tryz.prog 217 #[.pointer (some ⟨b, 0, none⟩)] (wr.setCell ⟨b, 800, none⟩ (.int .i64 (o.length : Int))) fun e w' => e = .returned (.tuple #[]) ∧ DB w' b (trimZ o).length D ng tr ∧ DRow w' b 0 (trimZ o) ∧ Below b (wr.setCell ⟨b, 800, none⟩ (.int .i64 (o.length : Int))) w') :=
              Lib.hid (trim_any (by rw [HO.out]; exact rOut_lead _ (by rw [← HP.out]; exact HLO.out)) (by omega) (HS2.out.1.setNd o.length) (HS2.out.2.1.keep _ (Or.inr (by omega))))
            have HBW : Hid (Below b wc (wr.setCell ⟨b, 800, none⟩ (.int .i64 (o.length : Int)))) := Lib.hid (below_store HS2.out.2.2 _ (Nat.le_refl _))
            clear h0n
            go_wp2_with (fail)
            refine HTR.out.mono ?_
            rintro e w' ⟨rfl, h1, h2, h3⟩
            have HH := Lib.hid (And.intro h1 (And.intro h2 h3))
            clear h1 h2 h3
            go_wp2
            go_end0
            have e1 : trimZ o = rDigs k l := by rw [HRD.out.1, ← HO.out]
            rw [← e1, ← HDD.out]
            exact ⟨rfl, HH.out.1, HH.out.2.1, HBW.out.trans HH.out.2.2⟩
          · obtain ⟨g, rfl, hok⟩ := rOk_step HOK.out (by omega) h0n
            have z : (n : Int) > 0 := by omega
            have z2 : decide (0 < (n : Int)) = true := by rw [decide_eq_true_iff]; omega
            obtain ⟨q, hq⟩ : ∃ q, q = n / P := ⟨_, rfl⟩
            have dq : (n : Int) / (P : Int) = (q : Int) := by rw [hq]; exact (Int.natCast_ediv n P).symm
            have hq9 : q ≤ 9 := by rw [hq]; have := (Nat.div_lt_iff_lt_mul (by omega : 0 < P)).2 (show n < 10 * P by omega); omega
            obtain ⟨m, hm⟩ : ∃ m, m = n % P := ⟨_, rfl⟩
            have am : bits .and .u64 (n : Int) ((P : Int) - 1) = (m : Int) := by
              have := mask_mod (n := n) (k := k) (by omega) (by omega)
              rw [← HP.out] at this
              rw [hm]; exact this
            have hmP : m < P := by rw [hm]; exact Nat.mod_lt _ (by omega)
            have HOK2 : Hid (rOk k g (m * 10)) := Lib.hid (by rw [hm, HP.out]; exact hok)
            have HQ4 : Hid (rOut k n0 (l.drop r0) = (o ++ [q]) ++ rTail k g (m * 10)) := Lib.hid (by
              rw [HQ3.out, rTail, if_neg h0n, hq, hm, HP.out]; simp)
            obtain ⟨u, hu⟩ := HS2.out.1.any o.length (by omega)
            have fu : wr.frozen? ⟨b, o.length, none⟩ = false := HS2.out.1.free o.length (by omega)
            have b4 : (o.length : Int) < 800 := by omega
            clear hq hm hok h0n
            go_wp2
            go_roundw
            case rel =>
              refine ⟨m * 10, g, o ++ [q], by simp, by go_num, by omega, by simp; omega, by omega, HQ4.out, HOK2.out, Lib.hid ⟨HS2.out.1.dig (by omega) _, ?_, below_store HS2.out.2.2 _ (Nat.le_refl _)⟩⟩
              have := DRow.push (d := q) HS2.out.2.1 (u := .int .u8 u) (by rw [Nat.zero_add]; exact hu)
              rw [Nat.zero_add] at this
              exact this
            case measure => simp [intOf] <;> omega
end Go.Proofs.YtppkpcijmfdfmaaGreatDoor

/- The walks of prefixIsLessThan and leftShift. -/
set_option linter.unusedVariables false
set_option linter.unusedSimpArgs false
namespace Go.Proofs.YtppkpcijmfdfmaaGreatDoor
open Go.RowKit
attribute [local go_sem] B_size B_get B_lit B_ext_to B_ext B_toList B_app

theorem toD_mod : ∀ (m X Y : Nat), X % 10 ^ m = Y % 10 ^ m → toD m X = toD m Y
  | 0, _, _, _ => rfl
  | m + 1, X, Y, h => by
    rw [Nat.pow_succ, Nat.mul_comm, Nat.mod_mul, Nat.mod_mul] at h
    have h2 : X / 10 % 10 ^ m = Y / 10 % 10 ^ m ∧ X % 10 = Y % 10 := by
      have a := Nat.mod_lt X (show 0 < 10 by omega)
      have b := Nat.mod_lt Y (show 0 < 10 by omega)
      omega
    rw [toD, toD, toD_mod m _ _ h2.1, h2.2]
theorem toD_front : ∀ (m X : Nat), toD (m + 1) X = X / 10 ^ m % 10 :: toD m X
  | 0, X => by simp [toD]
  | m + 1, X => by
    have ih := toD_front m (X / 10)
    rw [toD, ih, toD]
    rw [Nat.div_div_eq_div_mul, ← Nat.pow_succ']
    simp
/-- One digit more, from the right: what is put down, and what is carried on. -/
theorem left_step {d K m y : Nat} : toD (m + 1) ((d * 10 ^ m + y) * K) = (d * K + y * K / 10 ^ m) % 10 :: toD m (y * K) ∧ (d * K + y * K / 10 ^ m) / 10 = (d * 10 ^ m + y) * K / 10 ^ (m + 1) := by
  have hp : 0 < 10 ^ m := Nat.pow_pos (by decide)
  have e : (d * 10 ^ m + y) * K = y * K + 10 ^ m * (d * K) := by
    rw [Nat.add_mul, Nat.add_comm, Nat.mul_right_comm, Nat.mul_comm (d * K)]
  have e2 : (d * 10 ^ m + y) * K / 10 ^ m = d * K + y * K / 10 ^ m := by rw [e, Nat.add_mul_div_left _ _ hp, Nat.add_comm]
  refine ⟨?_, ?_⟩
  · rw [toD_front, e2, toD_mod m _ (y * K) (by rw [e, Nat.add_mul_mod_self_left])]
  · rw [Nat.pow_succ, ← Nat.div_div_eq_div_mul, e2]
set_option maxRecDepth 100000 in
theorem prefix_any {b nd cap : Nat} {c : UInt8} {t : Bs} {x : Nat} {w : World} (hnd : 0 < nd) (h1 : x ≠ c.toNat) (c0 : w.cell? ⟨b, 0, none⟩ = some (.int .u8 (x : Int))) :
    Calls Tryz.prog 216 #[.slice (some ⟨b, 0, none⟩) nd cap, .string (B (c :: t))] w fun e w' => e = .returned (.bool (decide (x < c.toNat))) ∧ ∃ n, w' = w.drewN n := by
  have z1 : ((x : Int) != (c.toNat : Int)) = true := by rw [bne_iff_ne]; omega
  have z2 : ¬ ((0 : Int) ≥ (nd : Int)) := by omega
  have z3 : ¬ ((nd : Int) ≤ 0) := by omega
  go_enter Tryz.func216, Tryz.ntmps216
  go_wp2
  go_loop [5] (fun i => i = .int .i64 0) (fun _ => 0)
  case atStart => exact rfl
  case round =>
    subst hrel
    go_wp2
    go_quiet (fail)
    go_wp2
    go_quiet (fail)
    go_wp2
    go_ret
    exact ⟨rfl, _, World.drewN_drewN _ _ _⟩

set_option maxRecDepth 100000 in
set_option maxHeartbeats 2000000 in
theorem left_one {b : Nat} {dp : Int} {ng tr : Bool} {l : List Nat} {w : World} (hdg : Digs l) (hl : Lead l) (hh : ∀ d t, l = d :: t → d < 5) (hn : l.length + 16 < 800) (hd : DB w b l.length dp ng tr) (hr : DRow w b 0 l) (hg : Gd b w) (hdp : -100000 ≤ dp ∧ dp ≤ 100000) :
    Calls Tryz.prog 210 #[.pointer (some ⟨b, 0, none⟩), .int .u64 1] w fun e w' => e = .returned (.tuple #[]) ∧ DB w' b (trimZ (toD (l.length + 0) (dN l * 2))).length (dp + 0) ng tr ∧ DRow w' b 0 (trimZ (toD (l.length + 0) (dN l * 2))) ∧ Below b w w' := by
  obtain ⟨cb, co, cc, hcb, hct, ⟨hd1, hs1⟩, hd53, ss, hs53⟩ := hg.cheats
  obtain ⟨d0, t0, hl0, hp0⟩ := hl
  have hb18 := hg.lt
  have HX : Hid (10 ^ (l.length + 0 - 1) ≤ dN l * 2 ∧ dN l * 2 < 10 ^ (l.length + 0)) := Lib.hid (by
    have h5 := hh d0 t0 hl0
    have h1 := head_small (hl0 ▸ hdg) h5
    rw [← hl0] at h1
    have h2 := dN_ge (l := l) ⟨d0, t0, hl0, hp0⟩
    rw [Nat.add_zero]
    exact ⟨by omega, h1⟩)
  have HHD : Hid (d0 < 5) := Lib.hid (hh d0 t0 hl0)
  have hd0 : d0 ≤ 9 := hdg d0 (by rw [hl0]; simp)
  have c00 : w.cell? ⟨b, 0, none⟩ = some (.int .u8 ((d0 + 48 : Nat) : Int)) := by have := hr 0 d0 (by rw [hl0]; rfl); simpa using this
  have HPRE : Hid (∀ nq, Calls Tryz.prog 216 #[.slice (some ⟨b, 0, none⟩) l.length 800, .string (B [53])] (w.drewN nq) fun e w' => e = .returned (.bool true) ∧ ∃ n, w' = (w.drewN nq).drewN n) := Lib.hid fun nq => (prefix_any (by rw [hl0]; simp) (by show d0 + 48 ≠ 53; have := hh d0 t0 hl0; omega) (by simpa using c00)).mono fun e w' h => ⟨by rw [h.1]; congr 2; exact decide_eq_true (by show d0 + 48 < 53; have := hh d0 t0 hl0; omega), h.2⟩
  have HDG := Lib.hid hdg
  have HD := Lib.hid hd
  have HR := Lib.hid hr
  have c8 := hd.nd
  have l1 : (l.length : Int) ≤ 784 := by omega
  have l800 : (l.length : Int) ≤ 800 := by omega
  have l0 : (0 : Int) ≤ (l.length : Int) := by omega
  have hdpI := hdp.1
  have hdpJ := hdp.2
  have HG := Lib.hid hg
  have HL0 := Lib.hid hl0
  have ll : 0 < l.length := by rw [hl0]; simp
  clear hdg hd hr hg hl0 c00 hd53 hs53 hp0 hd0
  go_enter Tryz.func210, Tryz.ntmps210
  go_wp2_with (fail)
  go_quiet ((go_at_call 216; exact Calls.quiet_of (HPRE.out _)))
  go_wp2_with (fail)
  clear c8
  go_loopw [5, 6, 7] (fun s5 s6 s7 wr => ∃ (j n v : Nat) (r : Int), j ≤ l.length ∧ r + 1 = (j : Int) ∧ s5 = .int .i64 r ∧ s6 = .int .i64 (v : Int) ∧ s7 = .int .u64 (n : Int) ∧ n < 2 ∧ v = j + 0 ∧ Hid (n = dN (l.drop j) * 2 / 10 ^ (l.length - j)) ∧ Hid (DB wr b l.length dp ng tr ∧ DRow wr b 0 (l.take j) ∧ DRow wr b v (toD (l.length - j) (dN (l.drop j) * 2)) ∧ Below b w wr)) (fun s5 _ _ _ => (intOf s5 + 1).toNat)
  case atStart =>
    have hbq : ∀ n, Below b w (w.drewN n) := fun n => ⟨rfl, rfl, rfl, Nat.le_refl _, fun _ _ => rfl⟩
    refine ⟨l.length, 0, l.length + 0, (l.length : Int) - 1, Nat.le_refl _, by omega, rfl, by rfl, rfl, by omega, rfl, Lib.hid ?_, Lib.hid ⟨HD.out.drewN _, ?_, ?_, hbq _⟩⟩
    · rw [List.drop_of_length_le (Nat.le_refl _)]; simp [dN, dA]
    · rw [List.take_of_length_le (Nat.le_refl _)]; exact HR.out.drewN _
    · rw [Nat.sub_self]; exact DRow.nil _
  case round =>
    obtain ⟨j, n, v, r, hj, hrj, rfl, rfl, rfl, hnK, hv, HN, HS⟩ := hrel
    by_cases hj0 : j = 0
    · have g1 : ¬ (r ≥ 0) := by omega
      have g2 : ¬ (0 ≤ r) := by omega
      obtain ⟨X, hX⟩ : ∃ X, X = dN l * 2 := ⟨_, rfl⟩
      have HXB : Hid (10 ^ (l.length + 0 - 1) ≤ X ∧ X < 10 ^ (l.length + 0)) := Lib.hid (by rw [hX]; exact HX.out)
      have HN2 : Hid (n = X / 10 ^ (l.length + 0)) := Lib.hid (by have h := HN.out; rw [hj0] at h; rw [hX]; simpa using h)
      have HS2 : Hid (DB wr b l.length dp ng tr ∧ DRow wr b v (toD (l.length + 0) X) ∧ Below b w wr) := Lib.hid (by
        have h := HS.out
        rw [hj0] at h
        rw [hX]
        exact ⟨h.1, by simpa using h.2.2.1, h.2.2.2⟩)
      have hv0 : v + 0 = 0 := by omega
      have HXX := Lib.hid hX
      clear hX hv
      go_wp2_with (fail)
      go_loopw [6, 7] (fun s6 s7 wr => ∃ (i n v : Nat), s6 = .int .i64 (v : Int) ∧ s7 = .int .u64 (n : Int) ∧ n < 2 ∧ v + i = 0 ∧ Hid (n = X / 10 ^ (l.length + i)) ∧ Hid (DB wr b l.length dp ng tr ∧ DRow wr b v (toD (l.length + i) X) ∧ Below b w wr)) (fun s6 _ _ => (intOf s6).toNat)
      case atStart => exact ⟨0, n, v, rfl, rfl, hnK, hv0, HN2.out, HS2.out⟩
      case round =>
        clear HN2 HS2 hv0 HN HS
        obtain ⟨i, n, v, rfl, rfl, hnK, hvi, HN, HS⟩ := hrel
        by_cases hn0 : n = 0
        · have hi : i = 0 := by
            rcases Nat.lt_or_ge i 0 with h | h
            · exfalso
              have h1 := HN.out
              have h2 : 10 ^ (l.length + i) ≤ X := Nat.le_trans (Nat.pow_le_pow_right (by omega) (by omega)) HXB.out.1
              have h3 := Nat.div_pos h2 (Nat.pow_pos (by decide))
              omega
            · omega
          have z : ¬ ((n : Int) > 0) := by omega
          have z2 : decide (0 < (n : Int)) = false := by rw [decide_eq_false_iff_not]; omega
          have c8 := HS.out.1.nd
          have c81 := HS.out.1.dp
          have f8 : wr.frozen? ⟨b, 800, none⟩ = false := HS.out.1.free 800 (by omega)
          have f81 : wr.frozen? ⟨b, 801, none⟩ = false := HS.out.1.free 801 (by omega)
          have hv2 : v = 0 := by omega
          have HTR : Hid (Calls Tryz.prog 217 #[.pointer (some ⟨b, 0, none⟩)] ((wr.setCell ⟨b, 800, none⟩ (.int .i64 (l.length : Int))).setCell ⟨b, 801, none⟩ (.int .i64 dp)) fun e w' => e = .returned (.tuple #[]) ∧ DB w' b (trimZ (toD (l.length + 0) X)).length (dp + 0) ng tr ∧ DRow w' b 0 (trimZ (toD (l.length + 0) X)) ∧ Below b ((wr.setCell ⟨b, 800, none⟩ (.int .i64 (l.length : Int))).setCell ⟨b, 801, none⟩ (.int .i64 dp)) w') := by
            have hs := HS.out
            rw [hi, hv2] at hs
            have h1 := (hs.1.setNd (l.length + 0)).setDp (dp + 0)
            have h2 := (hs.2.1.keep (.int .i64 ((l.length + 0 : Nat) : Int)) (j := 800) (Or.inr (by rw [toD_length]; omega))).keep (.int .i64 (dp + 0)) (j := 801) (Or.inr (by rw [toD_length]; omega))
            have e1 : ((l.length + 0 : Nat) : Int) = (l.length : Int) := by omega
            have e2 : dp + 0 = dp := by omega
            rw [e1, e2] at h1 h2
            rw [e2]
            exact trim_any (toD_lead HXB.out.2 HXB.out.1 (by omega)) (by rw [toD_length]; omega) (by rw [toD_length]; exact h1) h2
          have HBW : Hid (Below b w ((wr.setCell ⟨b, 800, none⟩ (.int .i64 (l.length : Int))).setCell ⟨b, 801, none⟩ (.int .i64 dp))) := Lib.hid (below_store (below_store HS.out.2.2 _ (Nat.le_refl _)) _ (Nat.le_refl _))
          have g8 : ¬ ((l.length : Int) ≥ 800) := by omega
          clear hn0 hi hv2 hvi
          go_wp2_with (fail)
          refine HTR.out.mono ?_
          rintro e w' ⟨rfl, h1, h2, h3⟩
          have HH := Lib.hid (And.intro h1 (And.intro h2 h3))
          clear h1 h2 h3
          go_wp2
          go_end0
          rw [← HXX.out]
          exact ⟨rfl, HH.out.1, HH.out.2.1, HBW.out.trans HH.out.2.2⟩
        · have hi : i < 0 := by
            rcases Nat.lt_or_ge i 0 with h | h
            · exact h
            · exfalso
              have h1 := HN.out
              have h2 : X < 10 ^ (l.length + i) := Nat.lt_of_lt_of_le HXB.out.2 (Nat.pow_le_pow_right (by omega) (by omega))
              rw [Nat.div_eq_of_lt h2] at h1
              exact hn0 h1
          exact absurd hi (Nat.not_lt_zero _)
    · obtain ⟨i, rfl⟩ : ∃ i, j = i + 1 := ⟨j - 1, by omega⟩
      obtain rfl : r = (i : Int) := by omega
      obtain ⟨u, rfl⟩ : ∃ u, v = u + 1 := ⟨v - 1, by omega⟩
      obtain ⟨d, hdi⟩ : ∃ d, l[i]? = some d := ⟨_, List.getElem?_eq_getElem (by omega)⟩
      have hd9 : d ≤ 9 := HDG.out d (List.mem_of_getElem? hdi)
      have cd : wr.cell? ⟨b, i, none⟩ = some (.int .u8 ((d : Int) + 48)) := by
        have := HS.out.2.1 i d (by rw [List.getElem?_take, if_pos (by omega)]; exact hdi)
        simpa using this
      obtain ⟨M, hM⟩ : ∃ M, M = d * 2 + n := ⟨_, rfl⟩
      obtain ⟨q, hq⟩ : ∃ q, q = M / 10 := ⟨_, rfl⟩
      obtain ⟨x, hx⟩ : ∃ x, x = M % 10 := ⟨_, rfl⟩
      have sM : (n : Int) + (d : Int) * 2 = (M : Int) := by omega
      have dq : (M : Int) / 10 = (q : Int) := by omega
      have rq : (M : Int) - 10 * (q : Int) = (x : Int) := by omega
      have hx9 : x ≤ 9 := by omega
      have hqK : q < 2 := by omega
      have qb : 10 * (q : Int) ≤ (M : Int) := by omega
      have dK : (d : Int) * 2 ≤ 9 * 2 := by omega
      have MB : (M : Int) ≤ 10 * 2 := by omega
      obtain ⟨y, hy⟩ := HS.out.1.any u (by omega)
      have fu : wr.frozen? ⟨b, u, none⟩ = false := HS.out.1.free u (by omega)
      have b1 : (0 : Int) ≤ (i : Int) := by omega
      have b2 : (i : Int) < 800 := by omega
      have b3 : (0 : Int) ≤ (u : Int) := by omega
      have b4 : (u : Int) < 800 := by omega
      have hdrop : l.drop i = d :: l.drop (i + 1) := by
        obtain ⟨h3, h4⟩ := List.getElem?_eq_some_iff.1 hdi
        rw [List.drop_eq_getElem_cons h3, h4]
      have hlen : (l.drop (i + 1)).length = l.length - (i + 1) := List.length_drop
      have HST : Hid (toD (l.length - i) (dN (l.drop i) * 2) = x :: toD (l.length - (i + 1)) (dN (l.drop (i + 1)) * 2) ∧ q = dN (l.drop i) * 2 / 10 ^ (l.length - i)) := Lib.hid (by
        have h := left_step (d := d) (K := 2) (m := l.length - (i + 1)) (y := dN (l.drop (i + 1)))
        rw [← HN.out, ← hM, ← hx, ← hq] at h
        rw [hdrop, dN_cons, hlen, show l.length - i = l.length - (i + 1) + 1 by omega]
        exact h)
      have HUI := Lib.hid (show u = i + 0 by omega)
      clear hM hq hx hdi hdrop hlen hv hj0
      go_wp2
      go_roundw
      case rel =>
        refine ⟨i, q, u, (i : Int) - 1, by omega, by omega, by go_num, by go_num, by go_num, hqK, HUI.out, HST.out.2, Lib.hid ⟨HS.out.1.dig (by have := HUI.out; omega) _, ?_, ?_, below_store HS.out.2.2.2 _ (Nat.le_refl _)⟩⟩
        · have h1 := HS.out.2.1.take i
          rw [List.take_take, Nat.min_eq_left (by omega)] at h1
          exact h1.keep _ (Or.inr (by rw [List.length_take]; have := HUI.out; omega))
        · rw [HST.out.1]
          exact DRow.cons HS.out.2.2.1 hy
      case measure => simp [intOf] <;> omega

set_option maxRecDepth 100000 in
set_option maxHeartbeats 2000000 in
theorem left_big {b : Nat} {dp : Int} {ng tr : Bool} {l : List Nat} {w : World} (hdg : Digs l) (hl : Lead l) (hh : ∀ d t, l = d :: t → 5 ≤ d) (hn : l.length + 16 < 800) (hd : DB w b l.length dp ng tr) (hr : DRow w b 0 l) (hg : Gd b w) (hdp : -100000 ≤ dp ∧ dp ≤ 100000) :
    Calls Tryz.prog 210 #[.pointer (some ⟨b, 0, none⟩), .int .u64 53] w fun e w' => e = .returned (.tuple #[]) ∧ DB w' b (trimZ (toD (l.length + 16) (dN l * 9007199254740992))).length (dp + 16) ng tr ∧ DRow w' b 0 (trimZ (toD (l.length + 16) (dN l * 9007199254740992))) ∧ Below b w w' := by
  obtain ⟨cb, co, cc, hcb, hct, ⟨hd1, hs1⟩, hd53, ss, hs53⟩ := hg.cheats
  obtain ⟨d0, t0, hl0, hp0⟩ := hl
  have hb18 := hg.lt
  have HX : Hid (10 ^ (l.length + 16 - 1) ≤ dN l * 9007199254740992 ∧ dN l * 9007199254740992 < 10 ^ (l.length + 16)) := Lib.hid (by
    have h5 := hh d0 t0 hl0
    have h1 := big_lt (l := l) hdg
    refine ⟨?_, h1⟩
    have h2 : dN l = d0 * 10 ^ t0.length + dN t0 := by rw [hl0, dN_cons]
    have h3 : l.length = t0.length + 1 := by rw [hl0]; rfl
    rw [h3, show t0.length + 1 + 16 - 1 = t0.length + 16 by omega, Nat.pow_add, show (10 : Nat) ^ 16 = 10000000000000000 by decide]
    have h4 : 5 * 10 ^ t0.length ≤ d0 * 10 ^ t0.length := Nat.mul_le_mul_right _ h5
    generalize 10 ^ t0.length = q at *
    omega)
  have HHD : Hid (5 ≤ d0) := Lib.hid (hh d0 t0 hl0)
  have hd0 : d0 ≤ 9 := hdg d0 (by rw [hl0]; simp)
  have c00 : w.cell? ⟨b, 0, none⟩ = some (.int .u8 ((d0 + 48 : Nat) : Int)) := by have := hr 0 d0 (by rw [hl0]; rfl); simpa using this
  have HPRE : Hid (∀ nq, Calls Tryz.prog 216 #[.slice (some ⟨b, 0, none⟩) l.length 800, .string (B (49 :: ss))] (w.drewN nq) fun e w' => e = .returned (.bool false) ∧ ∃ n, w' = (w.drewN nq).drewN n) := Lib.hid fun nq => (prefix_any (by rw [hl0]; simp) (by show d0 + 48 ≠ 49; have := hh d0 t0 hl0; omega) (by simpa using c00)).mono fun e w' h => ⟨by rw [h.1]; congr 2; exact decide_eq_false (by show ¬ (d0 + 48 < 49); omega), h.2⟩
  have HDG := Lib.hid hdg
  have HD := Lib.hid hd
  have HR := Lib.hid hr
  have c8 := hd.nd
  have l1 : (l.length : Int) ≤ 784 := by omega
  have l800 : (l.length : Int) ≤ 800 := by omega
  have l0 : (0 : Int) ≤ (l.length : Int) := by omega
  have hdpI := hdp.1
  have hdpJ := hdp.2
  have HG := Lib.hid hg
  have HL0 := Lib.hid hl0
  have ll : 0 < l.length := by rw [hl0]; simp
  clear hdg hd hr hg hl0 c00 hd1 hs1 hp0 hd0
  go_enter Tryz.func210, Tryz.ntmps210
  go_wp2_with (fail)
  go_quiet ((go_at_call 216; exact Calls.quiet_of (HPRE.out _)))
  go_wp2_with (fail)
  clear c8
  go_loopw [5, 6, 7] (fun s5 s6 s7 wr => ∃ (j n v : Nat) (r : Int), j ≤ l.length ∧ r + 1 = (j : Int) ∧ s5 = .int .i64 r ∧ s6 = .int .i64 (v : Int) ∧ s7 = .int .u64 (n : Int) ∧ n < 9007199254740992 ∧ v = j + 16 ∧ Hid (n = dN (l.drop j) * 9007199254740992 / 10 ^ (l.length - j)) ∧ Hid (DB wr b l.length dp ng tr ∧ DRow wr b 0 (l.take j) ∧ DRow wr b v (toD (l.length - j) (dN (l.drop j) * 9007199254740992)) ∧ Below b w wr)) (fun s5 _ _ _ => (intOf s5 + 1).toNat)
  case atStart =>
    have hbq : ∀ n, Below b w (w.drewN n) := fun n => ⟨rfl, rfl, rfl, Nat.le_refl _, fun _ _ => rfl⟩
    refine ⟨l.length, 0, l.length + 16, (l.length : Int) - 1, Nat.le_refl _, by omega, rfl, by rfl, rfl, by omega, rfl, Lib.hid ?_, Lib.hid ⟨HD.out.drewN _, ?_, ?_, hbq _⟩⟩
    · rw [List.drop_of_length_le (Nat.le_refl _)]; simp [dN, dA]
    · rw [List.take_of_length_le (Nat.le_refl _)]; exact HR.out.drewN _
    · rw [Nat.sub_self]; exact DRow.nil _
  case round =>
    obtain ⟨j, n, v, r, hj, hrj, rfl, rfl, rfl, hnK, hv, HN, HS⟩ := hrel
    by_cases hj0 : j = 0
    · have g1 : ¬ (r ≥ 0) := by omega
      have g2 : ¬ (0 ≤ r) := by omega
      obtain ⟨X, hX⟩ : ∃ X, X = dN l * 9007199254740992 := ⟨_, rfl⟩
      have HXB : Hid (10 ^ (l.length + 16 - 1) ≤ X ∧ X < 10 ^ (l.length + 16)) := Lib.hid (by rw [hX]; exact HX.out)
      have HN2 : Hid (n = X / 10 ^ (l.length + 0)) := Lib.hid (by have h := HN.out; rw [hj0] at h; rw [hX]; simpa using h)
      have HS2 : Hid (DB wr b l.length dp ng tr ∧ DRow wr b v (toD (l.length + 0) X) ∧ Below b w wr) := Lib.hid (by
        have h := HS.out
        rw [hj0] at h
        rw [hX]
        exact ⟨h.1, by simpa using h.2.2.1, h.2.2.2⟩)
      have hv0 : v + 0 = 16 := by omega
      have HXX := Lib.hid hX
      clear hX hv
      go_wp2_with (fail)
      go_loopw [6, 7] (fun s6 s7 wr => ∃ (i n v : Nat), s6 = .int .i64 (v : Int) ∧ s7 = .int .u64 (n : Int) ∧ n < 9007199254740992 ∧ v + i = 16 ∧ Hid (n = X / 10 ^ (l.length + i)) ∧ Hid (DB wr b l.length dp ng tr ∧ DRow wr b v (toD (l.length + i) X) ∧ Below b w wr)) (fun s6 _ _ => (intOf s6).toNat)
      case atStart => exact ⟨0, n, v, rfl, rfl, hnK, hv0, HN2.out, HS2.out⟩
      case round =>
        clear HN2 HS2 hv0 HN HS
        obtain ⟨i, n, v, rfl, rfl, hnK, hvi, HN, HS⟩ := hrel
        by_cases hn0 : n = 0
        · have hi : i = 16 := by
            rcases Nat.lt_or_ge i 16 with h | h
            · exfalso
              have h1 := HN.out
              have h2 : 10 ^ (l.length + i) ≤ X := Nat.le_trans (Nat.pow_le_pow_right (by omega) (by omega)) HXB.out.1
              have h3 := Nat.div_pos h2 (Nat.pow_pos (by decide))
              omega
            · omega
          have z : ¬ ((n : Int) > 0) := by omega
          have z2 : decide (0 < (n : Int)) = false := by rw [decide_eq_false_iff_not]; omega
          have c8 := HS.out.1.nd
          have c81 := HS.out.1.dp
          have f8 : wr.frozen? ⟨b, 800, none⟩ = false := HS.out.1.free 800 (by omega)
          have f81 : wr.frozen? ⟨b, 801, none⟩ = false := HS.out.1.free 801 (by omega)
          have hv2 : v = 0 := by omega
          have HTR : Hid (Calls Tryz.prog 217 #[.pointer (some ⟨b, 0, none⟩)] ((wr.setCell ⟨b, 800, none⟩ (.int .i64 ((l.length : Int) + 16))).setCell ⟨b, 801, none⟩ (.int .i64 (dp + 16))) fun e w' => e = .returned (.tuple #[]) ∧ DB w' b (trimZ (toD (l.length + 16) X)).length (dp + 16) ng tr ∧ DRow w' b 0 (trimZ (toD (l.length + 16) X)) ∧ Below b ((wr.setCell ⟨b, 800, none⟩ (.int .i64 ((l.length : Int) + 16))).setCell ⟨b, 801, none⟩ (.int .i64 (dp + 16))) w') := by
            have hs := HS.out
            rw [hi, hv2] at hs
            have h1 := (hs.1.setNd (l.length + 16)).setDp (dp + 16)
            have h2 := (hs.2.1.keep (.int .i64 ((l.length + 16 : Nat) : Int)) (j := 800) (Or.inr (by rw [toD_length]; omega))).keep (.int .i64 (dp + 16)) (j := 801) (Or.inr (by rw [toD_length]; omega))
            have e1 : ((l.length + 16 : Nat) : Int) = ((l.length : Int) + 16) := by omega
            have e2 : dp + 16 = (dp + 16) := by omega
            rw [e1, e2] at h1 h2
            rw [e2]
            exact trim_any (toD_lead HXB.out.2 HXB.out.1 (by omega)) (by rw [toD_length]; omega) (by rw [toD_length]; exact h1) h2
          have HBW : Hid (Below b w ((wr.setCell ⟨b, 800, none⟩ (.int .i64 ((l.length : Int) + 16))).setCell ⟨b, 801, none⟩ (.int .i64 (dp + 16)))) := Lib.hid (below_store (below_store HS.out.2.2 _ (Nat.le_refl _)) _ (Nat.le_refl _))
          have g8 : ¬ (((l.length : Int) + 16) ≥ 800) := by omega
          clear hn0 hi hv2 hvi
          go_wp2_with (fail)
          refine HTR.out.mono ?_
          rintro e w' ⟨rfl, h1, h2, h3⟩
          have HH := Lib.hid (And.intro h1 (And.intro h2 h3))
          clear h1 h2 h3
          go_wp2
          go_end0
          rw [← HXX.out]
          exact ⟨rfl, HH.out.1, HH.out.2.1, HBW.out.trans HH.out.2.2⟩
        · have hi : i < 16 := by
            rcases Nat.lt_or_ge i 16 with h | h
            · exact h
            · exfalso
              have h1 := HN.out
              have h2 : X < 10 ^ (l.length + i) := Nat.lt_of_lt_of_le HXB.out.2 (Nat.pow_le_pow_right (by omega) (by omega))
              rw [Nat.div_eq_of_lt h2] at h1
              exact hn0 h1
          obtain ⟨u, rfl⟩ : ∃ u, v = u + 1 := ⟨v - 1, by omega⟩
          obtain ⟨q, hq⟩ : ∃ q, q = n / 10 := ⟨_, rfl⟩
          obtain ⟨x, hx⟩ : ∃ x, x = n % 10 := ⟨_, rfl⟩
          have dq : (n : Int) / 10 = (q : Int) := by omega
          have rq : (n : Int) - 10 * (q : Int) = (x : Int) := by omega
          have hx9 : x ≤ 9 := by omega
          have hqK : q < 9007199254740992 := by omega
          have qb : 10 * (q : Int) ≤ (n : Int) := by omega
          have z : (n : Int) > 0 := by omega
          have z2 : decide (0 < (n : Int)) = true := by rw [decide_eq_true_iff]; omega
          obtain ⟨y, hy⟩ := HS.out.1.any u (by omega)
          have fu : wr.frozen? ⟨b, u, none⟩ = false := HS.out.1.free u (by omega)
          have b3 : (0 : Int) ≤ (u : Int) := by omega
          have b4 : (u : Int) < 800 := by omega
          have HQ : Hid (q = X / 10 ^ (l.length + (i + 1))) := Lib.hid (by rw [hq, HN.out, ← Nat.add_assoc, Nat.pow_succ, Nat.div_div_eq_div_mul])
          have HXV : Hid (toD (l.length + (i + 1)) X = x :: toD (l.length + i) X) := Lib.hid (by rw [← Nat.add_assoc, toD_front, hx, HN.out])
          clear hq hx hn0
          go_wp2
          go_roundw
          case rel =>
            refine ⟨i + 1, q, u, by go_num, by go_num, hqK, by omega, HQ.out, Lib.hid ⟨HS.out.1.dig (by omega) _, ?_, below_store HS.out.2.2 _ (Nat.le_refl _)⟩⟩
            rw [HXV.out]
            exact DRow.cons HS.out.2.1 hy
          case measure => simp [intOf] <;> omega
    · obtain ⟨i, rfl⟩ : ∃ i, j = i + 1 := ⟨j - 1, by omega⟩
      obtain rfl : r = (i : Int) := by omega
      obtain ⟨u, rfl⟩ : ∃ u, v = u + 1 := ⟨v - 1, by omega⟩
      obtain ⟨d, hdi⟩ : ∃ d, l[i]? = some d := ⟨_, List.getElem?_eq_getElem (by omega)⟩
      have hd9 : d ≤ 9 := HDG.out d (List.mem_of_getElem? hdi)
      have cd : wr.cell? ⟨b, i, none⟩ = some (.int .u8 ((d : Int) + 48)) := by
        have := HS.out.2.1 i d (by rw [List.getElem?_take, if_pos (by omega)]; exact hdi)
        simpa using this
      obtain ⟨M, hM⟩ : ∃ M, M = d * 9007199254740992 + n := ⟨_, rfl⟩
      obtain ⟨q, hq⟩ : ∃ q, q = M / 10 := ⟨_, rfl⟩
      obtain ⟨x, hx⟩ : ∃ x, x = M % 10 := ⟨_, rfl⟩
      have sM : (n : Int) + (d : Int) * 9007199254740992 = (M : Int) := by omega
      have dq : (M : Int) / 10 = (q : Int) := by omega
      have rq : (M : Int) - 10 * (q : Int) = (x : Int) := by omega
      have hx9 : x ≤ 9 := by omega
      have hqK : q < 9007199254740992 := by omega
      have qb : 10 * (q : Int) ≤ (M : Int) := by omega
      have dK : (d : Int) * 9007199254740992 ≤ 9 * 9007199254740992 := by omega
      have MB : (M : Int) ≤ 10 * 9007199254740992 := by omega
      obtain ⟨y, hy⟩ := HS.out.1.any u (by omega)
      have fu : wr.frozen? ⟨b, u, none⟩ = false := HS.out.1.free u (by omega)
      have b1 : (0 : Int) ≤ (i : Int) := by omega
      have b2 : (i : Int) < 800 := by omega
      have b3 : (0 : Int) ≤ (u : Int) := by omega
      have b4 : (u : Int) < 800 := by omega
      have hdrop : l.drop i = d :: l.drop (i + 1) := by
        obtain ⟨h3, h4⟩ := List.getElem?_eq_some_iff.1 hdi
        rw [List.drop_eq_getElem_cons h3, h4]
      have hlen : (l.drop (i + 1)).length = l.length - (i + 1) := List.length_drop
      have HST : Hid (toD (l.length - i) (dN (l.drop i) * 9007199254740992) = x :: toD (l.length - (i + 1)) (dN (l.drop (i + 1)) * 9007199254740992) ∧ q = dN (l.drop i) * 9007199254740992 / 10 ^ (l.length - i)) := Lib.hid (by
        have h := left_step (d := d) (K := 9007199254740992) (m := l.length - (i + 1)) (y := dN (l.drop (i + 1)))
        rw [← HN.out, ← hM, ← hx, ← hq] at h
        rw [hdrop, dN_cons, hlen, show l.length - i = l.length - (i + 1) + 1 by omega]
        exact h)
      have HUI := Lib.hid (show u = i + 16 by omega)
      clear hM hq hx hdi hdrop hlen hv hj0
      go_wp2
      go_roundw
      case rel =>
        refine ⟨i, q, u, (i : Int) - 1, by omega, by omega, by go_num, by go_num, by go_num, hqK, HUI.out, HST.out.2, Lib.hid ⟨HS.out.1.dig (by have := HUI.out; omega) _, ?_, ?_, below_store HS.out.2.2.2 _ (Nat.le_refl _)⟩⟩
        · have h1 := HS.out.2.1.take i
          rw [List.take_take, Nat.min_eq_left (by omega)] at h1
          exact h1.keep _ (Or.inr (by rw [List.length_take]; have := HUI.out; omega))
        · rw [HST.out.1]
          exact DRow.cons HS.out.2.2.1 hy
      case measure => simp [intOf] <;> omega
end Go.Proofs.YtppkpcijmfdfmaaGreatDoor
