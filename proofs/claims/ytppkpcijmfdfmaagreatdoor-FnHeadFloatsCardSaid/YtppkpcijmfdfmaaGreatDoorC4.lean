/- The walks of the reader's functions on texts: small letters, raw numbers. -/
import Derived.Test.YtppkpcijmfdfmaaGreatDoorC3
import Derived.Test.YtppkpcijmfdfmaaGreatDoorC0
import Derived.Lib.AppendZeros
import Derived.StillTailTactics
import Derived.Deep.Draws
set_option linter.unusedVariables false
set_option linter.unusedSimpArgs false
namespace Go.Proofs.YtppkpcijmfdfmaaGreatDoor
open Go.RowKit
attribute [local go_sem] B_size B_get B_lit B_ext_to B_ext B_toList B_app

theorem jLow_nat (c : UInt8) : (jLow c).toNat = if 65 ≤ c.toNat ∧ c.toNat ≤ 90 then c.toNat + 32 else c.toNat := by
  unfold jLow
  have h1 : (65 ≤ c && c ≤ 90) = decide (65 ≤ c.toNat ∧ c.toNat ≤ 90) := by
    rw [Bool.eq_iff_iff]; simp [UInt8.le_iff_toNat_le]
  rw [h1]
  by_cases h : 65 ≤ c.toNat ∧ c.toNat ≤ 90
  · rw [if_pos h, if_pos (by simpa using h), UInt8.toNat_add]
    simp; omega
  · rw [if_neg h, if_neg (by simpa using h)]

/-- How far two texts are one, but for capital letters. -/
def foldUpto (s m : Bs) (k : Nat) : Prop := (s.take k).map jLow = m.take k
theorem foldUpto_step {s m : Bs} {k : Nat} (h : foldUpto s m k) (hs : k < s.length) (hm : k < m.length) (he : jLow s[k] = m[k]) : foldUpto s m (k + 1) := by
  unfold foldUpto at *
  rw [List.take_succ_eq_append_getElem hs, List.take_succ_eq_append_getElem hm, List.map_append, h]; simp [he]
theorem foldUpto_no {s m : Bs} {k : Nat} (hs : k < s.length) (hm : k < m.length) (he : jLow s[k] ≠ m[k]) : jFold s m = false := by
  unfold jFold
  rw [beq_eq_false_iff_ne]
  intro e
  apply he
  have := congrArg (fun l => l[k]?) e
  simp only [List.getElem?_map, List.getElem?_eq_getElem hs, List.getElem?_eq_getElem hm, Option.map_some, Option.some.injEq] at this
  exact this

set_option maxHeartbeats 1000000 in
theorem fold_any (s m : Bs) (w : World) (hl : s.length < 4294967296) (he : s.length = m.length) :
    Calls Tryz.prog 163 #[.string (B s), .string (B m)] w fun e w' => e = .returned (.bool (jFold s m)) ∧ w = w' := by
  have HE := Lib.hid he
  have hne : ((s.length : Int) != (m.length : Int)) = false := by rw [he]; simp
  clear he
  go_enter Tryz.func163, Tryz.ntmps163
  go_wp2
  go_loop [5] (fun i => ∃ k : Nat, k ≤ s.length ∧ Hid (foldUpto s m k) ∧ i = .int .i64 k) (fun i => s.length - (intOf i).toNat)
  case atStart => exact ⟨0, by omega, by show foldUpto s m 0; simp [foldUpto], rfl⟩
  case round =>
    obtain ⟨k, hk, Hr, rfl⟩ := hrel
    by_cases hlt : k < s.length
    · have hlm : k < m.length := by have := HE.out; omega
      obtain ⟨c, hc, hc0, hc1, hix⟩ := byte_at hlt
      obtain ⟨d, hd, hd0, hd1, hiy⟩ := byte_at hlm
      have hj := jLow_nat s[k]
      have hn : (s[k].toNat : Int) = c := hc.symm
      by_cases hm : jLow s[k] = m[k]
      · have H2 := Lib.hid (foldUpto_step Hr.out hlt hlm hm)
        rw [hm] at hj
        by_cases hcap : 65 ≤ c ∧ c ≤ 90
        · have h3 : (c + 32 != d) = false := by
            rw [if_pos (by omega)] at hj; simp; omega
          clear hj hc hd hn hm
          obtain ⟨hc1, hc2⟩ := hcap
          go_wp2
          go_round
          case rel => exact ⟨k + 1, by omega, H2, by go_num⟩
          case measure => simp [intOf]; omega
        · have h3 : (c != d) = false := by
            rw [if_neg (by omega)] at hj; simp; omega
          clear hj hc hd hn hm
          go_wp2
          all_goals
            go_round
            case rel => exact ⟨k + 1, by omega, H2, by go_num⟩
            case measure => simp [intOf]; omega
      · have HF := Lib.hid (foldUpto_no hlt hlm hm)
        have hx : (m[k].toNat : Int) ≠ (jLow s[k]).toNat := fun e => hm (UInt8.toNat_inj.1 (by omega))
        by_cases hcap : 65 ≤ c ∧ c ≤ 90
        · have h3 : (c + 32 != d) = true := by
            rw [if_pos (by omega)] at hj; simp; omega
          clear hj hc hd hn hm hx
          obtain ⟨hc1, hc2⟩ := hcap
          go_wp2
          go_ret
          rw [HF.out]; exact ⟨rfl, rfl⟩
        · have h3 : (c != d) = true := by
            rw [if_neg (by omega)] at hj; simp; omega
          clear hj hc hd hn hm hx
          go_wp2
          all_goals
            go_ret
            rw [HF.out]; exact ⟨rfl, rfl⟩
    · have HF : Hid (jFold s m = true) := by
        show jFold s m = true
        have h1 := Hr.out
        unfold foldUpto at h1
        rw [List.take_of_length_le (by omega), List.take_of_length_le (by have := HE.out; omega)] at h1
        unfold jFold; simp [h1]
      go_wp2
      go_ret
      rw [HF.out]; exact ⟨rfl, rfl⟩
end Go.Proofs.YtppkpcijmfdfmaaGreatDoor

/- The walks of the reader's functions on texts: raw numbers. -/
namespace Go.Proofs.YtppkpcijmfdfmaaGreatDoor
open Go.RowKit
attribute [local go_sem] B_size B_get B_lit B_ext_to B_ext B_toList B_app

theorem numCh_iff (c : UInt8) : jNumCh c = true ↔ (48 ≤ c.toNat ∧ c.toNat ≤ 57) ∨ c.toNat = 46 ∨ c.toNat = 45 ∨ c.toNat = 101 ∨ c.toNat = 69 ∨ c.toNat = 43 := by
  have e (k : UInt8) : (c = k) ↔ c.toNat = k.toNat := UInt8.toNat_inj.symm
  unfold jNumCh
  simp only [Bool.or_eq_true, Bool.and_eq_true, decide_eq_true_eq, beq_iff_eq, UInt8.le_iff_toNat_le, e, or_assoc]
  exact Iff.rfl
theorem numUpto_step {s : Bs} {k : Nat} (h : numUpto s k) (hk : k < s.length) (hc : jNumCh s[k] = true) : numUpto s (k + 1) := by
  intro j hj c hjc
  by_cases e : j = k
  · subst e; rw [List.getElem?_eq_getElem hk] at hjc; rw [← Option.some.inj hjc]; exact hc
  · exact h j (by omega) c hjc

set_option maxHeartbeats 4000000 in
set_option maxRecDepth 100000 in
theorem rawNum_any (s : Bs) (w : World) (hl : s.length < 4294967296) :
    Calls Tryz.prog 165 #[.string (B s)] w (StrRes (jNum s) w) := by
  go_enter Tryz.func165, Tryz.ntmps165
  go_wp2
  go_loop [0, 11] (fun q i => ∃ k : Nat, k ≤ s.length ∧ Hid (numUpto s k) ∧ q = .string (B s) ∧ i = .int .i64 k) (fun _ i => s.length - (intOf i).toNat)
  case atStart => exact ⟨0, by omega, fun j hj => by omega, rfl, rfl⟩
  case round =>
    obtain ⟨k, hk, Hr, rfl, rfl⟩ := hrel
    by_cases hlt : k < s.length
    · obtain ⟨c, hc, hc0, hc1, hix⟩ := byte_at hlt
      by_cases hn : jNumCh s[k] = true
      · have H2 := Lib.hid (numUpto_step Hr.out hlt hn)
        rw [numCh_iff] at hn
        have hn' : (48 ≤ c ∧ c ≤ 57) ∨ c = 46 ∨ c = 45 ∨ c = 101 ∨ c = 69 ∨ c = 43 := by omega
        clear hn hc
        rcases hn' with ⟨h1, h2⟩ | rfl | rfl | rfl | rfl | rfl
        all_goals
          go_wp2
          go_round
          case rel => exact ⟨k + 1, by omega, H2, rfl, by go_num⟩
          case measure => simp [intOf]; omega
      · have hn2 : jNumCh s[k] = false := by simpa using hn
        obtain ⟨HA, HB, HC⟩ := jNum_at s k Hr.out hlt hn2
        replace HA := Lib.hid HA
        replace HB := Lib.hid HB
        replace HC := Lib.hid HC
        rw [numCh_iff] at hn
        have h6 : ¬ (48 ≤ c ∧ c ≤ 57) ∧ (c == 46) = false ∧ (c == 45) = false ∧ (c == 101) = false ∧ (c == 69) = false ∧ (c == 43) = false := by
          simp only [beq_eq_false_iff_ne]; omega
        clear hn hn2 hc
        obtain ⟨h1, h2, h3, h4, h5, h6⟩ := h6
        by_cases hst : numStop s k
        · have hkk : k = 0 ∨ (k = 1 ∧ (s[0] = 45 ∨ s[0] = 43)) := by
            by_cases h0 : k = 0
            · exact Or.inl h0
            · by_cases h1 : k = 1
              · subst h1; exact Or.inr ⟨rfl, (numStop_one (by omega)).1 hst⟩
              · exact absurd hst (numStop_more (by omega) hk)
          have hcases : ((k : Int) == 0) = true ∨ (((k : Int) == 0) = false ∧ ((k : Int) == 1) = true ∧ ∃ d : Int, (d = 45 ∨ d = 43) ∧ ∀ w : World, (Instr.index 9 (.string (B s)) (.int .i64 0)).run Tryz.prog w = .ok (.int .u8 d) w) := by
            rcases hkk with rfl | ⟨rfl, hs⟩
            · exact Or.inl rfl
            · refine Or.inr ⟨rfl, rfl, ?_⟩
              obtain ⟨d, hd, hd0, hd1, hiy⟩ := byte_at (l := s) (k := 0) (by omega)
              refine ⟨d, ?_, hiy⟩
              rcases hs with h | h <;> (rw [h] at hd; rw [hd]; decide)
          clear hkk
          by_cases h3 : 3 ≤ s.length - k
          · have hfl : ((s.take (k + 3)).drop k).length = 3 := by simp; omega
            have H3 := Lib.hid hfl
            clear hfl
            have h3' : (k : Int) + 3 ≤ s.length := by omega
            cases hI : jFold ((s.take (k + 3)).drop k) jInf with
            | true =>
              have HF := Lib.hid (HB.out hst h3 (Or.inl hI))
              have hI' : jFold (List.drop k (List.take (k + 3) s)) [105, 110, 102] = true := hI
              clear HA HB HC hst hI
              rcases hcases with z0 | ⟨z0, z1, d, rfl | rfl, hiy⟩
              all_goals
                by_cases hlo : (48 : Int) ≤ c
                all_goals
                  go_wp2_with (first | (go_at_call 163; refine (fold_any _ _ _ (by simp; omega) (by simpa using H3.out)).mono ?_; rintro e w' ⟨rfl, rfl⟩) | (go_at_call 109; refine (errorsNew_any _ _).mono ?_; rintro e w' ⟨rfl, rfl⟩))
                  go_quiet (fail)
                  go_wp2
                  go_ret3
                  exact StrRes.ok _ _ _ (by simpa using HF.out)
            | false =>
              have hI' : jFold (List.drop k (List.take (k + 3) s)) [105, 110, 102] = false := hI
              cases hN : jFold ((s.take (k + 3)).drop k) jNan with
              | true =>
                have HF := Lib.hid (HB.out hst h3 (Or.inr hN))
                have hN' : jFold (List.drop k (List.take (k + 3) s)) [110, 97, 110] = true := hN
                clear HA HB HC hst hI hN
                rcases hcases with z0 | ⟨z0, z1, d, rfl | rfl, hiy⟩
                all_goals
                  by_cases hlo : (48 : Int) ≤ c
                  all_goals
                    go_wp2_with (first | (go_at_call 163; refine (fold_any _ _ _ (by simp; omega) (by simpa using H3.out)).mono ?_; rintro e w' ⟨rfl, rfl⟩) | (go_at_call 109; refine (errorsNew_any _ _).mono ?_; rintro e w' ⟨rfl, rfl⟩))
                    go_quiet (fail)
                    go_wp2
                    go_ret3
                    exact StrRes.ok _ _ _ (by simpa using HF.out)
              | false =>
                have HF := Lib.hid (HC.out hst (Or.inr ⟨hI, hN⟩))
                have hN' : jFold (List.drop k (List.take (k + 3) s)) [110, 97, 110] = false := hN
                clear HA HB HC hst hI hN
                rcases hcases with z0 | ⟨z0, z1, d, rfl | rfl, hiy⟩
                all_goals
                  by_cases hlo : (48 : Int) ≤ c
                  all_goals
                    go_wp2_with (first | (go_at_call 163; refine (fold_any _ _ _ (by simp; omega) (by simpa using H3.out)).mono ?_; rintro e w' ⟨rfl, rfl⟩) | (go_at_call 109; refine (errorsNew_any _ _).mono ?_; rintro e w' ⟨rfl, rfl⟩))
                    go_ret3
                    exact StrRes.err [] s _ _ _ HF.out
          · have HF := Lib.hid (HC.out hst (Or.inl h3))
            have h3' : (s.length : Int) < k + 3 := by omega
            clear HA HB HC hst h3
            rcases hcases with z0 | ⟨z0, z1, d, rfl | rfl, hiy⟩
            all_goals
              by_cases hlo : (48 : Int) ≤ c
              all_goals
                go_wp2_with (go_at_call 109; refine (errorsNew_any _ _).mono ?_; rintro e w' ⟨rfl, rfl⟩)
                go_ret3
                exact StrRes.err [] s _ _ _ HF.out
        · have HF : Hid (jNum s = some (s.take k, s.drop k)) := HA.out hst
          have hk0 : k ≠ 0 := fun e => hst (by rw [e]; exact numStop_zero s)
          have hk1 : k = 1 → s[0] ≠ 45 ∧ s[0] ≠ 43 := fun e => by
            subst e
            exact ⟨fun h => hst ((numStop_one (by omega)).2 (Or.inl h)), fun h => hst ((numStop_one (by omega)).2 (Or.inr h))⟩
          clear hst HA HB HC
          have z0 : ((k : Int) == 0) = false := by rw [beq_eq_false_iff_ne]; omega
          by_cases h1' : k = 1
          · subst h1'
            obtain ⟨d, hd, hd0, hd1, hiy⟩ := byte_at (l := s) (k := 0) (by omega)
            obtain ⟨hne1, hne2⟩ := hk1 rfl
            have g1 : (d == 45) = false := by rw [hd]; exact (u8_facts 45 hne1).1
            have g2 : (d == 43) = false := by rw [hd]; exact (u8_facts 43 hne2).1
            clear hd hne1 hne2 hk1
            replace hiy : ∀ w : World, (Instr.index 9 (.string (B s)) (.int .i64 0)).run Tryz.prog w = .ok (.int .u8 d) w := hiy
            replace hix : ∀ w : World, (Instr.index 9 (.string (B s)) (.int .i64 1)).run Tryz.prog w = .ok (.int .u8 c) w := hix
            by_cases hlo : (48 : Int) ≤ c
            all_goals
              go_wp2
              go_ret3
              exact StrRes.ok0 _ _ (by simpa using HF.out)
          · have z1 : ((k : Int) == 1) = false := by rw [beq_eq_false_iff_ne]; omega
            clear hk1
            by_cases hlo : (48 : Int) ≤ c
            all_goals
              go_wp2
              go_ret3
              exact StrRes.ok0 _ _ (by simpa using HF.out)
    · have HF : Hid (jNum s = some (s, [])) := by
        obtain rfl : k = s.length := by omega
        exact jNum_all s Hr.out
      go_wp2
      go_ret3
      exact StrRes.ok0 _ _ HF.out
end Go.Proofs.YtppkpcijmfdfmaaGreatDoor

/- The walks of the reader's memory: a row of elements that grows by one (getValue, getKV). -/
namespace Go.Proofs.YtppkpcijmfdfmaaGreatDoor
open Go.RowKit

/-- A slice `sv` of `n` elements of type `e` (`z`: an element's zero cells) that owns its row: its cells are `xs`, and behind them zeros up to its capacity. -/
def RowZ (w : World) (e : TypeId) (z : Array Value) (sv : Value) (n : Nat) (xs : List Value) : Prop :=
  (sv = .slice none 0 0 ∧ n = 0 ∧ xs = []) ∨
  ∃ g cap cur, sv = .slice (some ⟨g, 0, none⟩) n cap ∧ w.heap[g]? = some (.cells cur e (0, 0)) ∧ n ≤ cap ∧ cap ≤ maxLen ∧ cur.size = cap * z.size ∧
    cur.toList.take (n * z.size) = xs ∧ ∀ j, n * z.size ≤ j → j < cap * z.size → cur[j]? = some (z[j % z.size]!)

theorem getElem_zeroCells (z : Array Value) (k j : Nat) (h : j < k * z.size) : (Builtin.zeroCells z k)[j]? = some (z[j % z.size]!) := by
  simp [Builtin.zeroCells, h]

/-- Where a row has no room left, one more element is laid in a new row. -/
theorem append_one_run {P : Program} (W : World) (t ty e : TypeId) (i : TypeInfo) (z : Value) (ht : P.underlying t = some (.slice e)) (hi : P.info? e = some i) (hz : i.zero = some z)
    (hsz : i.size = z.cells.size) (sv : Value) (n : Nat) (xs : List Value) (hrow : RowZ W e z.cells sv n xs) (hfull : ∀ g cap, sv = .slice (some ⟨g, 0, none⟩) n cap → cap ≤ n)
    (a : Addr) (news : List Value) (hnl : news.length = z.cells.size) (hnews : ∀ j u, news[j]? = some u → W.cell? (a.add j) = some u) (hb : (n + 1) * i.bytes ≤ 140737488355328) (hm : n + 1 ≤ maxLen) :
    ∃ cap' cur', (Builtin.append_ #[t, t] ty #[sv, .slice (some a) 1 1]).run P W = .ok (.slice (some ⟨W.heap.size, 0, none⟩) (n + 1) cap') (W.drew.alloc (.cells cur' e)) ∧
      n + 1 ≤ cap' ∧ cap' ≤ maxLen ∧ cur'.size = cap' * z.cells.size ∧ cur'.toList.take ((n + 1) * z.cells.size) = xs ++ news ∧
      ∀ j, (n + 1) * z.cells.size ≤ j → j < cap' * z.cells.size → cur'[j]? = some (z.cells[j % z.cells.size]!) := by
  have hm' : ((n + 1 : Nat) : Int) ≤ 9223372036854775807 := by simp only [maxLen] at hm; omega
  -- what the new row holds
  have key : ∀ (old : Nat), xs.length = n * z.cells.size →
      n + 1 ≤ grownCap W (n + 1) old e ∧ grownCap W (n + 1) old e ≤ maxLen ∧
      (xs.toArray ++ news.toArray ++ Builtin.zeroCells z.cells (grownCap W (n + 1) old e - (n + 1))).size = grownCap W (n + 1) old e * z.cells.size ∧
      (xs.toArray ++ news.toArray ++ Builtin.zeroCells z.cells (grownCap W (n + 1) old e - (n + 1))).toList.take ((n + 1) * z.cells.size) = xs ++ news ∧
      ∀ j, (n + 1) * z.cells.size ≤ j → j < grownCap W (n + 1) old e * z.cells.size →
        (xs.toArray ++ news.toArray ++ Builtin.zeroCells z.cells (grownCap W (n + 1) old e - (n + 1)))[j]? = some (z.cells[j % z.cells.size]!) := by
    intro old hx
    have hge := grownCap_ge W (n + 1) old e
    have hle := grownCap_le_maxLen W (n + 1) old e hm
    have hlen : (xs ++ news).length = (n + 1) * z.cells.size := by rw [List.length_append, hx, Nat.add_mul, hnl, Nat.one_mul]
    refine ⟨hge, hle, ?_, ?_, ?_⟩
    · simp only [Array.size_append, List.size_toArray, size_zeroCells, hx, hnl]
      rw [Nat.sub_mul, Nat.add_mul, Nat.one_mul]
      have := Nat.mul_le_mul_right z.cells.size hge
      rw [Nat.add_mul, Nat.one_mul] at this
      omega
    · rw [Array.toList_append, ← hlen]
      have e : (xs.toArray ++ news.toArray).toList = xs ++ news := by simp
      rw [e]
      exact List.take_left
    · intro j h1 h2
      have hs : (xs.toArray ++ news.toArray).size = (n + 1) * z.cells.size := by simp [hx, hnl, Nat.add_mul]
      rw [Array.getElem?_append_right (by rw [hs]; exact h1), hs, getElem_zeroCells]
      · congr 2
        have e : j = (j - (n + 1) * z.cells.size) + (n + 1) * z.cells.size := by omega
        conv => rhs; rw [e]
        rw [Nat.add_mul_mod_self_right]
      · rw [Nat.sub_mul]; omega
  rcases hrow with ⟨rfl, rfl, rfl⟩ | ⟨g, cap, cur, rfl, hg, hnc, hcm, hcs, htake, hsp⟩
  · have hr := run_append_nil (P := P) W t ty e i z ht hi hz a 1 1 news (by rw [hnl, hsz, Nat.one_mul]) hnews (by omega) (by omega) (by omega)
    obtain ⟨k1, k2, k3, k4, k5⟩ := key 0 (by simp)
    refine ⟨_, _, by simpa using hr, k1, k2, ?_, ?_, ?_⟩
    · simp at k3 ⊢; exact k3
    · simpa using k4
    · simpa using k5
  · have hfl := hfull g cap rfl
    obtain rfl : cap = n := by omega
    have hxl : xs.length = cap * z.cells.size := by rw [← htake, List.length_take, Array.length_toList, hcs]; omega
    have hcells : ∀ j u, xs[j]? = some u → W.cell? ((⟨g, 0, none⟩ : Addr).add j) = some u := by
      intro j u hu
      rw [← htake] at hu
      have hj : j < xs.length := by
        rcases Nat.lt_or_ge j xs.length with h | h
        · exact h
        · rw [← htake] at h; rw [List.getElem?_eq_none h] at hu; cases hu
      have hu2 : cur[j]? = some u := by
        rw [List.getElem?_take] at hu
        split at hu
        · simpa using hu
        · cases hu
      unfold World.cell?
      simp [Addr.add_lit, hg, hu2]
    have hr := run_append_grow (P := P) W t ty e i z ht hi hz ⟨g, 0, none⟩ cap cap xs (by rw [hsz]; exact hxl) hcells a 1 1 news (by rw [hnl, hsz, Nat.one_mul]) hnews (by omega) hm' (growslice_fits (by omega) hb)
    obtain ⟨k1, k2, k3, k4, k5⟩ := key cap hxl
    exact ⟨_, _, hr, k1, k2, k3, k4, k5⟩

theorem RowZ.keep {w w' : World} {e : TypeId} {z : Array Value} {sv : Value} {n : Nat} {xs : List Value} (h : RowZ w e z sv n xs)
    (hk : ∀ g, sv.ownBlock = some g → w'.heap[g]? = w.heap[g]?) : RowZ w' e z sv n xs := by
  rcases h with h | ⟨g, cap, cur, rfl, hg, h⟩
  · exact Or.inl h
  · exact Or.inr ⟨g, cap, cur, rfl, (hk g rfl).trans hg, h⟩
theorem RowZ.lt {w : World} {e : TypeId} {z : Array Value} {sv : Value} {n : Nat} {xs : List Value} (h : RowZ w e z sv n xs) (g : Nat) (hg : sv.ownBlock = some g) : g < w.heap.size := by
  rcases h with ⟨rfl, _⟩ | ⟨g', cap, cur, rfl, hg', _⟩
  · cases hg
  · cases hg
    rcases Nat.lt_or_ge g' w.heap.size with h | h
    · exact h
    · rw [Array.getElem?_eq_none h] at hg'; cases hg'
theorem RowZ.below {w w' : World} {e : TypeId} {z : Array Value} {sv : Value} {n : Nat} {xs : List Value} (h : RowZ w e z sv n xs) (hb : Below w.heap.size w w') : RowZ w' e z sv n xs :=
  h.keep fun g hg => hb.block g (h.lt g hg)

theorem wpList_append_one {P : Program} (W : World) {ops : Array Oper} {rest : List Oper} {o : Oper} {a : Act} {Q : Exit → Act → World → Prop} (hgd : o.guard = none) (s x : Operand) (t : TypeId)
    (ho : o.op = .call { callee := .builtin .append, args := #[s, x], argTypes := #[t, t] }) (e : TypeId) (i : TypeInfo) (z : Value) (ht : P.underlying t = some (.slice e)) (hi : P.info? e = some i) (hz : i.zero = some z)
    (hsz : i.size = z.cells.size) (sv : Value) (n : Nat) (xs : List Value) (hs : a.eval s = sv) (hrow : RowZ W e z.cells sv n xs) (hfull : ∀ g cap, sv = .slice (some ⟨g, 0, none⟩) n cap → cap ≤ n)
    (ad : Addr) (hx : a.eval x = .slice (some ad) 1 1) (news : List Value) (hnl : news.length = z.cells.size) (hnews : ∀ j u, news[j]? = some u → W.cell? (ad.add j) = some u) (hb : (n + 1) * i.bytes ≤ 140737488355328) (hm : n + 1 ≤ maxLen)
    (h : ∀ g cap' w', W.heap.size ≤ g → Below W.heap.size W w' → RowZ w' e z.cells (.slice (some ⟨g, 0, none⟩) (n + 1) cap') (n + 1) (xs ++ news) →
      wpList P ops Q rest (a.put o.dst (.slice (some ⟨g, 0, none⟩) (n + 1) cap')) w') : wpList P ops Q (o :: rest) a W := by
  obtain ⟨cap', cur', hr, h1, h2, h3, h4, h5⟩ := append_one_run (P := P) W t o.type e i z ht hi hz hsz sv n xs hrow hfull ad news hnl hnews hb hm
  exact Lib.wpList_append_run W hgd s x t t ho _ _ hs hx _ _ hr (h _ cap' _ (Nat.le_refl _) ((Below.refl _ _).drew.alloc (Nat.le_refl _) _) (Or.inr ⟨_, _, cur', rfl, heap_alloc_new W.drew _, h1, h2, h3, h4, h5⟩))

/-- One more element, whether there is room or not. -/
theorem wpList_append_push {P : Program} (W : World) {ops : Array Oper} {rest : List Oper} {o : Oper} {a : Act} {Q : Exit → Act → World → Prop} (hgd : o.guard = none) (s x : Operand) (t : TypeId)
    (ho : o.op = .call { callee := .builtin .append, args := #[s, x], argTypes := #[t, t] }) (e : TypeId) (i : TypeInfo) (z : Value) (ht : P.underlying t = some (.slice e)) (hi : P.info? e = some i) (hz : i.zero = some z)
    (hsz : i.size = z.cells.size) (sv : Value) (n : Nat) (xs : List Value) (hs : a.eval s = sv) (hrow : RowZ W e z.cells sv n xs)
    (ad : Addr) (hx : a.eval x = .slice (some ad) 1 1) (news : List Value) (hnl : news.length = z.cells.size) (hnews : ∀ j u, news[j]? = some u → W.cell? (ad.add j) = some u) (h1 : ∀ u ∈ news, u.oneCell' = true)
    (hb : (n + 1) * i.bytes ≤ 140737488355328) (hm : n + 1 ≤ maxLen)
    (h : ∀ g cap' w', (sv.ownBlock = some g ∨ W.heap.size ≤ g) → W.grownBy w' sv.ownBlock → RowZ w' e z.cells (.slice (some ⟨g, 0, none⟩) (n + 1) cap') (n + 1) (xs ++ news) →
      wpList P ops Q rest (a.put o.dst (.slice (some ⟨g, 0, none⟩) (n + 1) cap')) w') : wpList P ops Q (o :: rest) a W := by
  by_cases hroom : ∃ g cap, sv = .slice (some ⟨g, 0, none⟩) n cap ∧ n < cap
  · obtain ⟨g, cap, rfl, hlt⟩ := hroom
    rcases hrow with ⟨h0, _⟩ | ⟨g', cap', cur, h0, hg, hnc, hcm, hcs, htake, hsp⟩
    · cases h0
    · cases h0
      have hle : (n + 1) * z.cells.size ≤ cap * z.cells.size := Nat.mul_le_mul_right _ hlt
      have hle' : n * z.cells.size + z.cells.size ≤ cap * z.cells.size := by rw [Nat.add_mul, Nat.one_mul] at hle; exact hle
      have hxl : xs.length = n * z.cells.size := by rw [← htake, List.length_take, Array.length_toList, hcs]; omega
      have hr := run_append_room (P := P) W t o.type e i ht hi g n cap cur hg ad 1 1 news (by rw [hnl, hsz, Nat.one_mul]) hnews h1 hlt (by rw [hsz, hnl, hcs]; exact hle')
      refine Lib.wpList_append_run W hgd s x t t ho _ _ hs hx _ _ hr (h g cap _ (Or.inl rfl) ⟨rfl, rfl, rfl, by simp, fun k _ hk => setRow_other W g k _ (fun e => hk (by simp [Value.ownBlock, e]))⟩ ?_)
      refine Or.inr ⟨g, cap, _, rfl, setRow_heap W g cur _ e _ hg, hlt, hcm, ?_, ?_, fun j hj1 hj2 => ?_⟩
      · simp only [List.size_toArray, List.length_append, List.length_take, List.length_drop, Array.length_toList, hsz, hnl]
        omega
      · simp only [hsz, htake]
        have e1 : (n + 1) * z.cells.size = (xs ++ news).length := by rw [List.length_append, hxl, hnl, Nat.add_mul, Nat.one_mul]
        rw [e1]
        exact List.take_left
      · have e1 : (n + 1) * z.cells.size = (xs ++ news).length := by rw [List.length_append, hxl, hnl, Nat.add_mul, Nat.one_mul]
        rw [← hsp j (by rw [Nat.add_mul] at hj1; omega) hj2]
        simp only [hsz, htake, List.getElem?_toArray]
        rw [List.getElem?_append_right (by omega), List.getElem?_drop, Array.getElem?_toList]
        congr 1
        rw [List.length_append, hxl] at *
        omega
  · refine wpList_append_one W hgd s x t ho e i z ht hi hz hsz sv n xs hs hrow (fun g cap hsv => ?_) ad hx news hnl hnews hb hm fun g cap' w' hg hbel hrow' => h g cap' w' (Or.inr hg) ⟨hbel.os, hbel.tape, hbel.output, hbel.size, fun k hk _ => hbel.block k hk⟩ hrow'
    rcases Nat.lt_or_ge n cap with h2 | h2
    · exact absurd ⟨g, cap, hsv, h2⟩ hroom
    · exact h2

theorem cell_new (W : World) (zs : Array Value) (e : TypeId) (j : Nat) : (W.alloc (.cells zs e)).cell? ((⟨W.heap.size, 0, none⟩ : Addr).add j) = zs[j]? := by
  have e0 : ((⟨W.heap.size, 0, none⟩ : Addr).add j) = ⟨W.heap.size, j, none⟩ := by rw [Addr.add_lit]; simp
  rw [e0]
  unfold World.cell?
  rw [show (W.alloc (.cells zs e)).heap[(⟨W.heap.size, j, none⟩ : Addr).block]? = some (.cells zs e) from heap_alloc_new W _]
  rfl
theorem below_draws {B : Nat} {a w : World} (h : Below B a w) (n : Nat) : Below B a (w.drewN n) := ⟨h.os, h.tape, h.output, h.size, h.block⟩
end Go.Proofs.YtppkpcijmfdfmaaGreatDoor

/- The walks of the reader's memory: getValue and getKV. -/
namespace Go.Proofs.YtppkpcijmfdfmaaGreatDoor
open Go.RowKit
theorem Nat.mul_add_mod_of_lt' {n s j : Nat} (h : j < s) : (n * s + j) % s = j := by rw [Nat.mul_comm, Nat.mul_add_mod]; exact Nat.mod_eq_of_lt h
theorem getElem!_some {z : Array Value} {j : Nat} (h : j < z.size) : z[j]? = some (z[j]!) := by rw [getElem!_pos z j h]; exact Array.getElem?_eq_getElem h

theorem info218 : (Tryz.prog.info? 218).map (fun i => (i.zero, i.size, i.bytes)) = some (some (.agg #[.string ⟨#[]⟩, .pointer none]), 2, 24) := by kernel_rfl
def zero218 : Array Value := #[.string ⟨#[]⟩, .pointer none]

/-- What one more element is: its place in the row, which is a row with one element more; nothing else has turned but the slice. -/
def Grew218 (w : World) (cb co : Nat) (sv : Value) (n : Nat) (xs : List Value) (e : Ending) (w' : World) : Prop :=
  ∃ g cap w1, e = .returned (.pointer (some ⟨g, n * 2, none⟩)) ∧ (sv.ownBlock = some g ∨ w.heap.size ≤ g) ∧ Below w.heap.size w w1 ∧
    RowZ w1 218 zero218 (.slice (some ⟨g, 0, none⟩) (n + 1) cap) (n + 1) (xs ++ zero218.toList) ∧ w1.setCell ⟨cb, co, none⟩ (.slice (some ⟨g, 0, none⟩) (n + 1) cap) = w'

set_option maxRecDepth 100000 in
set_option maxHeartbeats 1000000 in
/-- Room is left: the next element of the row. -/
theorem getKV_room (cb co g n cap : Nat) (w : World) (hc : w.cell? ⟨cb, co, none⟩ = some (.slice (some ⟨g, 0, none⟩) n cap)) (hf : w.frozen? ⟨cb, co, none⟩ = false)
    (hn : n < cap) (hcap : cap ≤ maxLen) :
    Calls Tryz.prog 174 #[.pointer (some ⟨cb, co, none⟩)] w fun e w' => e = .returned (.pointer (some ⟨g, n * 2, none⟩)) ∧
      ∃ k, (w.drewN k).setCell ⟨cb, co, none⟩ (.slice (some ⟨g, 0, none⟩) (n + 1) cap) = w' := by
  unfold maxLen at hcap
  go_enter Tryz.func174, Tryz.ntmps174
  go_wp2
  go_quiet (fail)
  go_wp2
  go_region
  go_wp2
  go_quiet (fail)
  go_wp2
  go_ret
  rename_i b
  exact ⟨by simp, b + 1 + nq, by simp only [World.drewN, World.setCell, World.drew, Nat.add_assoc]⟩

set_option maxRecDepth 100000 in
set_option maxHeartbeats 1000000 in
/-- No room is left: a new row. -/
theorem getKV_full (cb co n : Nat) (ao : Option Addr) (w : World) (hc : w.cell? ⟨cb, co, none⟩ = some (.slice ao n n)) (hf : w.frozen? ⟨cb, co, none⟩ = false) (hcb : cb < w.heap.size)
    (xs : List Value) (hrow : RowZ w 218 zero218 (.slice ao n n) n xs) (hn : n < 1000000000000) :
    Calls Tryz.prog 174 #[.pointer (some ⟨cb, co, none⟩)] w (Grew218 w cb co (.slice ao n n) n xs) := by
  obtain ⟨i, hi, hz0, hz1, hz2⟩ := info_parts info218
  have HR := Lib.hid hrow
  clear hrow
  go_enter Tryz.func174, Tryz.ntmps174
  go_wp2
  go_quiet (fail)
  go_wp2_with (at_builtin; refine wpList_append_one _ rfl (.tmp 32) (.tmp 34) 181 rfl 218 i (.agg #[.string ⟨#[]⟩, .pointer none]) Tryz.underlying181 hi hz0 hz1 _ n xs rfl ?hrow (by intro g cap h; cases h; exact Nat.le_refl _) _ rfl zero218.toList rfl ?hnews (by rw [hz2]; omega) (by unfold maxLen; omega) ?_)
  case hrow => exact HR.out.keep fun g hg => Below.heap_alloc _ _ _ (HR.out.lt g hg)
  case hnews => intro j u hu; rw [Array.getElem?_toList] at hu; rw [← hu]; exact cell_new _ _ _ j
  intro g cap w' hg hbel hrow
  have HR2 := Lib.hid hrow
  have hg' : w.heap.size + 1 ≤ g := by simpa using hg
  have hb2 : Below w.heap.size w w' := (((below_draws (Below.refl _ _) nq).alloc (Nat.le_refl _) _).trans (hbel.mono (by simp)))
  have HB := Lib.hid hb2
  have k0 := (hb2.cell (p := ⟨cb, co, none⟩) hcb).trans hc
  have f0 := (hb2.frozen (p := ⟨cb, co, none⟩) hcb).trans hf
  clear hrow hbel hb2 hg
  go_wp2
  go_quiet (fail)
  go_wp2
  go_ret
  refine ⟨g, cap, w'.drewN nq, ?_, Or.inr (by omega), below_draws HB.out _, HR2.out.keep fun _ _ => rfl, rfl⟩
  simp

theorem getKV_any (cb co n : Nat) (sv : Value) (w : World) (hc : w.cell? ⟨cb, co, none⟩ = some sv) (hf : w.frozen? ⟨cb, co, none⟩ = false) (hcb : cb < w.heap.size)
    (xs : List Value) (hrow : RowZ w 218 zero218 sv n xs) (hn : n < 1000000000000) :
    Calls Tryz.prog 174 #[.pointer (some ⟨cb, co, none⟩)] w (Grew218 w cb co sv n xs) := by
  have hrow0 := hrow
  rcases hrow with ⟨rfl, rfl, _⟩ | ⟨g, cap, cur, rfl, hg, hnc, hcm, hcs, htake, hsp⟩
  · exact getKV_full cb co 0 none w hc hf hcb xs hrow0 hn
  · by_cases hlt : n < cap
    · refine (getKV_room cb co g n cap w hc hf hlt hcm).mono ?_
      rintro e w' ⟨rfl, k, rfl⟩
      refine ⟨g, cap, w.drewN k, rfl, Or.inl rfl, below_draws (Below.refl _ _) _, ?_, rfl⟩
      have hm : (n + 1) * zero218.size ≤ cap * zero218.size := Nat.mul_le_mul_right _ hlt
      refine Or.inr ⟨g, cap, cur, rfl, hg, hlt, hcm, hcs, ?_, fun j h1 h2 => hsp j (by rw [Nat.add_mul] at h1; omega) h2⟩
      rw [Nat.add_mul, Nat.one_mul, List.take_add, htake]
      congr 1
      refine List.ext_getElem? fun j => ?_
      rw [List.getElem?_take]
      by_cases hj : j < zero218.size
      · rw [if_pos hj, List.getElem?_drop, Array.getElem?_toList, hsp (n * zero218.size + j) (by omega) (by rw [Nat.add_mul] at hm; omega), Array.getElem?_toList, Nat.mul_add_mod_of_lt' hj]
        exact (getElem!_some hj).symm
      · rw [if_neg hj, Array.getElem?_toList, Array.getElem?_eq_none (by omega)]
    · obtain rfl : cap = n := by omega
      exact getKV_full cb co cap _ w hc hf hcb xs hrow0 hn

theorem info185 : (Tryz.prog.info? 185).map (fun i => (i.zero, i.size, i.bytes)) = some (some (.agg #[.slice none 0 0, .bool false, .slice none 0 0, .string ⟨#[]⟩, .int .i64 0]), 5, 80) := by kernel_rfl
def zero185 : Array Value := #[.slice none 0 0, .bool false, .slice none 0 0, .string ⟨#[]⟩, .int .i64 0]

/-- What one more element is: its place in the row, which is a row with one element more; nothing else has turned but the slice. -/
def Grew185 (w : World) (cb co : Nat) (sv : Value) (n : Nat) (xs : List Value) (e : Ending) (w' : World) : Prop :=
  ∃ g cap w1, e = .returned (.pointer (some ⟨g, n * 5, none⟩)) ∧ (sv.ownBlock = some g ∨ w.heap.size ≤ g) ∧ Below w.heap.size w w1 ∧
    RowZ w1 185 zero185 (.slice (some ⟨g, 0, none⟩) (n + 1) cap) (n + 1) (xs ++ zero185.toList) ∧ w1.setCell ⟨cb, co, none⟩ (.slice (some ⟨g, 0, none⟩) (n + 1) cap) = w'

set_option maxRecDepth 100000 in
set_option maxHeartbeats 1000000 in
/-- Room is left: the next element of the row. -/
theorem getValue_room (cb co g n cap : Nat) (w : World) (hc : w.cell? ⟨cb, co, none⟩ = some (.slice (some ⟨g, 0, none⟩) n cap)) (hf : w.frozen? ⟨cb, co, none⟩ = false)
    (hn : n < cap) (hcap : cap ≤ maxLen) :
    Calls Tryz.prog 160 #[.pointer (some ⟨cb, co, none⟩)] w fun e w' => e = .returned (.pointer (some ⟨g, n * 5, none⟩)) ∧
      ∃ k, (w.drewN k).setCell ⟨cb, co, none⟩ (.slice (some ⟨g, 0, none⟩) (n + 1) cap) = w' := by
  unfold maxLen at hcap
  go_enter Tryz.func160, Tryz.ntmps160
  go_wp2
  go_quiet (fail)
  go_wp2
  go_region
  go_wp2
  go_quiet (fail)
  go_wp2
  go_ret
  rename_i b
  exact ⟨by simp, b + 1 + nq, by simp only [World.drewN, World.setCell, World.drew, Nat.add_assoc]⟩

set_option maxRecDepth 100000 in
set_option maxHeartbeats 1000000 in
/-- No room is left: a new row. -/
theorem getValue_full (cb co n : Nat) (ao : Option Addr) (w : World) (hc : w.cell? ⟨cb, co, none⟩ = some (.slice ao n n)) (hf : w.frozen? ⟨cb, co, none⟩ = false) (hcb : cb < w.heap.size)
    (xs : List Value) (hrow : RowZ w 185 zero185 (.slice ao n n) n xs) (hn : n < 1000000000000) :
    Calls Tryz.prog 160 #[.pointer (some ⟨cb, co, none⟩)] w (Grew185 w cb co (.slice ao n n) n xs) := by
  obtain ⟨i, hi, hz0, hz1, hz2⟩ := info_parts info185
  have HR := Lib.hid hrow
  clear hrow
  go_enter Tryz.func160, Tryz.ntmps160
  go_wp2
  go_quiet (fail)
  go_wp2_with (at_builtin; refine wpList_append_one _ rfl (.tmp 32) (.tmp 34) 186 rfl 185 i (.agg #[.slice none 0 0, .bool false, .slice none 0 0, .string ⟨#[]⟩, .int .i64 0]) Tryz.underlying186 hi hz0 hz1 _ n xs rfl ?hrow (by intro g cap h; cases h; exact Nat.le_refl _) _ rfl zero185.toList rfl ?hnews (by rw [hz2]; omega) (by unfold maxLen; omega) ?_)
  case hrow => exact HR.out.keep fun g hg => Below.heap_alloc _ _ _ (HR.out.lt g hg)
  case hnews => intro j u hu; rw [Array.getElem?_toList] at hu; rw [← hu]; exact cell_new _ _ _ j
  intro g cap w' hg hbel hrow
  have HR2 := Lib.hid hrow
  have hg' : w.heap.size + 1 ≤ g := by simpa using hg
  have hb2 : Below w.heap.size w w' := (((below_draws (Below.refl _ _) nq).alloc (Nat.le_refl _) _).trans (hbel.mono (by simp)))
  have HB := Lib.hid hb2
  have k0 := (hb2.cell (p := ⟨cb, co, none⟩) hcb).trans hc
  have f0 := (hb2.frozen (p := ⟨cb, co, none⟩) hcb).trans hf
  clear hrow hbel hb2 hg
  go_wp2
  go_quiet (fail)
  go_wp2
  go_ret
  refine ⟨g, cap, w'.drewN nq, ?_, Or.inr (by omega), below_draws HB.out _, HR2.out.keep fun _ _ => rfl, rfl⟩
  simp

theorem getValue_any (cb co n : Nat) (sv : Value) (w : World) (hc : w.cell? ⟨cb, co, none⟩ = some sv) (hf : w.frozen? ⟨cb, co, none⟩ = false) (hcb : cb < w.heap.size)
    (xs : List Value) (hrow : RowZ w 185 zero185 sv n xs) (hn : n < 1000000000000) :
    Calls Tryz.prog 160 #[.pointer (some ⟨cb, co, none⟩)] w (Grew185 w cb co sv n xs) := by
  have hrow0 := hrow
  rcases hrow with ⟨rfl, rfl, _⟩ | ⟨g, cap, cur, rfl, hg, hnc, hcm, hcs, htake, hsp⟩
  · exact getValue_full cb co 0 none w hc hf hcb xs hrow0 hn
  · by_cases hlt : n < cap
    · refine (getValue_room cb co g n cap w hc hf hlt hcm).mono ?_
      rintro e w' ⟨rfl, k, rfl⟩
      refine ⟨g, cap, w.drewN k, rfl, Or.inl rfl, below_draws (Below.refl _ _) _, ?_, rfl⟩
      have hm : (n + 1) * zero185.size ≤ cap * zero185.size := Nat.mul_le_mul_right _ hlt
      refine Or.inr ⟨g, cap, cur, rfl, hg, hlt, hcm, hcs, ?_, fun j h1 h2 => hsp j (by rw [Nat.add_mul] at h1; omega) h2⟩
      rw [Nat.add_mul, Nat.one_mul, List.take_add, htake]
      congr 1
      refine List.ext_getElem? fun j => ?_
      rw [List.getElem?_take]
      by_cases hj : j < zero185.size
      · rw [if_pos hj, List.getElem?_drop, Array.getElem?_toList, hsp (n * zero185.size + j) (by omega) (by rw [Nat.add_mul] at hm; omega), Array.getElem?_toList, Nat.mul_add_mod_of_lt' hj]
        exact (getElem!_some hj).symm
      · rw [if_neg hj, Array.getElem?_toList, Array.getElem?_eq_none (by omega)]
    · obtain rfl : cap = n := by omega
      exact getValue_full cb co cap _ w hc hf hcb xs hrow0 hn
end Go.Proofs.YtppkpcijmfdfmaaGreatDoor
