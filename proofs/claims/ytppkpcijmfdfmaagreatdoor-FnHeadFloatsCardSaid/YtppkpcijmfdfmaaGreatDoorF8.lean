/- The walk of decimal.set at digits. -/
import Derived.Test.YtppkpcijmfdfmaaGreatDoorF7
import Derived.Test.YtppkpcijmfdfmaaGreatDoorF5
import Derived.Test.YtppkpcijmfdfmaaGreatDoorF3
import Derived.Test.YtppkpcijmfdfmaaGreatDoorF4
import Derived.Test.YtppkpcijmfdfmaaGreatDoorF1
set_option linter.unusedVariables false
set_option linter.unusedSimpArgs false
set_option linter.unusedVariables false
set_option linter.unusedSimpArgs false
namespace Go.Proofs.YtppkpcijmfdfmaaGreatDoor
open Go.RowKit
attribute [local go_sem] B_size B_get B_lit B_ext_to B_ext B_toList B_app

/-- The digits of a text as numbers. -/
def digL (t : Bs) : List Nat := t.map fun c => c.toNat - 48
theorem digL_length (t : Bs) : (digL t).length = t.length := by simp [digL]
theorem digL_get {t : Bs} {k : Nat} {c : UInt8} (h : t[k]? = some c) : (digL t)[k]? = some (c.toNat - 48) := by simp [digL, h]
theorem digL_val (t : Bs) : dN (digL t) = digVal t := by
  unfold dN dA digVal digAcc digL
  rw [List.foldl_map]
theorem digL_digs {t : Bs} (h : ∀ c ∈ t, isDig c = true) : Digs (digL t) := fun d hd => by
  unfold digL at hd
  obtain ⟨c, hc, rfl⟩ := List.mem_map.1 hd
  have := isDig_nat.1 (h c hc)
  omega

set_option maxRecDepth 100000 in
set_option maxHeartbeats 2000000 in
theorem set0 (t : Bs) (h20 : t.length ≤ 20) (h18 : 18 ≤ t.length) (h48 : t[0]? ≠ some 48) (hd : digsTo t 0 t.length) {b : Nat} {dp : Int} {ng tr : Bool} {w : World} (hz : DB w b 0 dp ng tr) :
    Calls Tryz.prog 184 #[.pointer (some ⟨b, 0, none⟩), .string (B t)] w fun e w' => e = .returned (.bool true) ∧ DB w' b t.length t.length false false ∧ DRow w' b 0 (digL t) ∧ Below b w w' := by
  have h0 : 0 < t.length := by omega
  have hn0 : isDig t[0] = true := hd.2.2 0 _ (Nat.le_refl _) h0 (List.getElem?_eq_getElem h0)
  obtain ⟨f1, f2, f3, f4, f5, f6⟩ := digit_facts hn0
  have f7 : ((t[0].toNat : Int) == 48) = false := by
    rw [beq_eq_false_iff_ne]; intro e
    refine h48 ?_
    rw [List.getElem?_eq_getElem h0]
    congr 1
    exact UInt8.toNat_inj.1 (by show t[0].toNat = 48; omega)
  have hne : ¬ (t = []) := by rintro rfl; simp at h0
  have HDD := Lib.hid hd
  have HZ := Lib.hid hz
  have c2 := hz.ng
  have c3 := hz.tr
  have e2 := hz.free 802 (by omega)
  have e3 := hz.free 803 (by omega)
  clear hd h48 hn0 hz
  go_enter Tryz.func184, Tryz.ntmps184
  go_wp2_with (fail)
  clear c2 c3 e2 e3
  go_loopw [5, 6, 7] (fun s5 s6 s7 wr => s6 = .bool false ∧ ∃ (k : Nat) (S : Bool), k ≤ t.length ∧ s5 = .int .i64 (k : Int) ∧ s7 = .bool S ∧ Hid (S = decide (0 < k)) ∧ Hid (DB wr b k dp false false ∧ DRow wr b 0 ((digL t).take k) ∧ Below b w wr)) (fun s5 _ _ _ => t.length + 1 - (intOf s5).toNat)
  case atStart => exact ⟨rfl, 0, false, by omega, rfl, rfl, Lib.hid (by simp), Lib.hid ⟨(HZ.out.setNg false).setTr false, DRow.nil 0, below_store (below_store (Below.refl _ _) _ (Nat.le_refl _)) _ (Nat.le_refl _)⟩⟩
  case round =>
    obtain ⟨rfl, k, S, hk, rfl, rfl, HS0, HS⟩ := hrel
    have c8 := HS.out.1.nd
    by_cases hlt : k < t.length
    · have hu : t[k]? = some t[k] := List.getElem?_eq_getElem hlt
      have hdk : isDig t[k] = true := HDD.out.2.2 k _ (Nat.zero_le _) hlt hu
      obtain ⟨e1, e2, e3, e4, e5, e6⟩ := digit_facts hdk
      have HPD : Hid ((digL t).take (k + 1) = (digL t).take k ++ [t[k].toNat - 48] ∧ ((t[k].toNat : Int) = ((t[k].toNat - 48 : Nat) : Int) + 48)) := Lib.hid ⟨take_snoc (digL_get hu), by omega⟩
      obtain ⟨y, hy⟩ := HS.out.1.any k (by omega)
      have fu : wr.frozen? ⟨b, k, none⟩ = false := HS.out.1.free k (by omega)
      have f8 : wr.frozen? ⟨b, 800, none⟩ = false := HS.out.1.free 800 (by omega)
      have b1 : (0 : Int) ≤ (k : Int) := by omega
      have b2 : (k : Int) < 800 := by omega
      clear hu hdk
      have HNEXT : Hid (DB ((wr.setCell ⟨b, k, none⟩ (.int .u8 (t[k].toNat : Int))).setCell ⟨b, 800, none⟩ (.int .i64 ((k + 1 : Nat) : Int))) b (k + 1) dp false false ∧ DRow ((wr.setCell ⟨b, k, none⟩ (.int .u8 (t[k].toNat : Int))).setCell ⟨b, 800, none⟩ (.int .i64 ((k + 1 : Nat) : Int))) b 0 ((digL t).take (k + 1)) ∧ Below b w ((wr.setCell ⟨b, k, none⟩ (.int .u8 (t[k].toNat : Int))).setCell ⟨b, 800, none⟩ (.int .i64 ((k + 1 : Nat) : Int)))) := Lib.hid (by
        have hlk : ((digL t).take k).length = k := by rw [List.length_take, digL_length]; omega
        have hp := DRow.push (d := t[k].toNat - 48) HS.out.2.1 (u := .int .u8 y) (by rw [Nat.zero_add, hlk]; exact hy)
        rw [Nat.zero_add, hlk, ← HPD.out.2, ← HPD.out.1] at hp
        exact ⟨(HS.out.1.dig (i := k) (by omega) _).setNd (k + 1), hp.keep _ (Or.inr (by rw [List.length_take, digL_length]; omega)), below_store (below_store HS.out.2.2 _ (Nat.le_refl _)) _ (Nat.le_refl _)⟩)
      by_cases hk0 : k = 0
      · subst hk0
        go_wp2_with (fail)
        go_region
        go_wp2_with (fail)
        go_roundw
        case rel => exact ⟨rfl, 1, true, by omega, rfl, rfl, Lib.hid rfl, Lib.hid ⟨HNEXT.out.1.drewN 1, HNEXT.out.2.1.drewN 1, HNEXT.out.2.2.trans ⟨rfl, rfl, rfl, Nat.le_refl _, fun _ _ => rfl⟩⟩⟩
        case measure => simp [intOf] <;> omega
      · have n0 : ((k : Int) == 0) = false := by rw [beq_eq_false_iff_ne]; omega
        by_cases hc48 : (t[k].toNat : Int) = 48
        · have g48 : ((t[k].toNat : Int) == 48) = true := by rw [beq_iff_eq]; exact hc48
          clear hc48
          go_wp2_with (fail)
          go_region
          go_wp2_with (fail)
          go_roundw
          case rel => exact ⟨rfl, k + 1, true, by omega, by go_num, rfl, Lib.hid (by simp), Lib.hid ⟨HNEXT.out.1.drewN 1, HNEXT.out.2.1.drewN 1, HNEXT.out.2.2.trans ⟨rfl, rfl, rfl, Nat.le_refl _, fun _ _ => rfl⟩⟩⟩
          case measure => simp [intOf] <;> omega
        · have g48 : ((t[k].toNat : Int) == 48) = false := by rw [beq_eq_false_iff_ne]; exact hc48
          clear hc48
          go_wp2_with (fail)
          go_region
          go_wp2_with (fail)
          go_roundw
          case rel => exact ⟨rfl, k + 1, true, by omega, by go_num, rfl, Lib.hid (by simp), Lib.hid ⟨HNEXT.out.1.drewN 1, HNEXT.out.2.1.drewN 1, HNEXT.out.2.2.trans ⟨rfl, rfl, rfl, Nat.le_refl _, fun _ _ => rfl⟩⟩⟩
          case measure => simp [intOf] <;> omega
    · obtain rfl : k = t.length := by omega
      have hS : S = true := by rw [HS0.out]; simpa using h0
      subst hS
      have f81 : wr.frozen? ⟨b, 801, none⟩ = false := HS.out.1.free 801 (by omega)
      have c81 := HS.out.1.dp
      have HEND : Hid (DB (wr.setCell ⟨b, 801, none⟩ (.int .i64 (t.length : Int))) b t.length t.length false false ∧ DRow (wr.setCell ⟨b, 801, none⟩ (.int .i64 (t.length : Int))) b 0 (digL t) ∧ Below b w (wr.setCell ⟨b, 801, none⟩ (.int .i64 (t.length : Int)))) := Lib.hid (by
        have h := HS.out.2.1
        rw [List.take_of_length_le (by rw [digL_length]; omega)] at h
        exact ⟨HS.out.1.setDp _, h.keep _ (Or.inr (by rw [digL_length]; omega)), below_store HS.out.2.2 _ (Nat.le_refl _)⟩)
      clear hlt
      go_wp2_with (fail)
      go_ret
      exact ⟨rfl, HEND.out⟩

set_option maxRecDepth 100000 in
set_option maxHeartbeats 2000000 in
theorem set1 (t : Bs) (h20 : t.length ≤ 20) (h18 : 18 ≤ t.length) (h48 : t[0]? ≠ some 48) (hd : digsTo t 0 t.length) {b : Nat} {dp : Int} {ng tr : Bool} {w : World} (hz : DB w b 0 dp ng tr) :
    Calls Tryz.prog 184 #[.pointer (some ⟨b, 0, none⟩), .string (B (45 :: t))] w fun e w' => e = .returned (.bool true) ∧ DB w' b t.length t.length true false ∧ DRow w' b 0 (digL t) ∧ Below b w w' := by
  have h0 : 0 < t.length := by omega
  have hn0 : isDig t[0] = true := hd.2.2 0 _ (Nat.le_refl _) h0 (List.getElem?_eq_getElem h0)
  obtain ⟨f1, f2, f3, f4, f5, f6⟩ := digit_facts hn0
  have f7 : ((t[0].toNat : Int) == 48) = false := by
    rw [beq_eq_false_iff_ne]; intro e
    refine h48 ?_
    rw [List.getElem?_eq_getElem h0]
    congr 1
    exact UInt8.toNat_inj.1 (by show t[0].toNat = 48; omega)
  have hne : ¬ (t = []) := by rintro rfl; simp at h0
  have HDD := Lib.hid hd
  have HZ := Lib.hid hz
  have c2 := hz.ng
  have c3 := hz.tr
  have e2 := hz.free 802 (by omega)
  have e3 := hz.free 803 (by omega)
  clear hd h48 hn0 hz
  go_enter Tryz.func184, Tryz.ntmps184
  go_wp2_with (fail)
  clear c2 c3 e2 e3
  go_loopw [5, 6, 7] (fun s5 s6 s7 wr => s6 = .bool false ∧ ∃ (k : Nat) (S : Bool), k ≤ t.length ∧ s5 = .int .i64 ((k : Int) + 1) ∧ s7 = .bool S ∧ Hid (S = decide (0 < k)) ∧ Hid (DB wr b k dp true false ∧ DRow wr b 0 ((digL t).take k) ∧ Below b w wr)) (fun s5 _ _ _ => t.length + 1 - (intOf s5).toNat)
  case atStart => exact ⟨rfl, 0, false, by omega, rfl, rfl, Lib.hid (by simp), Lib.hid ⟨((HZ.out.setNg false).setTr false).setNg true, DRow.nil 0, below_store (below_store (below_store (Below.refl _ _) _ (Nat.le_refl _)) _ (Nat.le_refl _)) _ (Nat.le_refl _)⟩⟩
  case round =>
    obtain ⟨rfl, k, S, hk, rfl, rfl, HS0, HS⟩ := hrel
    have c8 := HS.out.1.nd
    by_cases hlt : k < t.length
    · have hu : t[k]? = some t[k] := List.getElem?_eq_getElem hlt
      have hdk : isDig t[k] = true := HDD.out.2.2 k _ (Nat.zero_le _) hlt hu
      obtain ⟨e1, e2, e3, e4, e5, e6⟩ := digit_facts hdk
      have HPD : Hid ((digL t).take (k + 1) = (digL t).take k ++ [t[k].toNat - 48] ∧ ((t[k].toNat : Int) = ((t[k].toNat - 48 : Nat) : Int) + 48)) := Lib.hid ⟨take_snoc (digL_get hu), by omega⟩
      obtain ⟨y, hy⟩ := HS.out.1.any k (by omega)
      have fu : wr.frozen? ⟨b, k, none⟩ = false := HS.out.1.free k (by omega)
      have f8 : wr.frozen? ⟨b, 800, none⟩ = false := HS.out.1.free 800 (by omega)
      have b1 : (0 : Int) ≤ (k : Int) := by omega
      have b2 : (k : Int) < 800 := by omega
      clear hu hdk
      have HNEXT : Hid (DB ((wr.setCell ⟨b, k, none⟩ (.int .u8 (t[k].toNat : Int))).setCell ⟨b, 800, none⟩ (.int .i64 ((k + 1 : Nat) : Int))) b (k + 1) dp true false ∧ DRow ((wr.setCell ⟨b, k, none⟩ (.int .u8 (t[k].toNat : Int))).setCell ⟨b, 800, none⟩ (.int .i64 ((k + 1 : Nat) : Int))) b 0 ((digL t).take (k + 1)) ∧ Below b w ((wr.setCell ⟨b, k, none⟩ (.int .u8 (t[k].toNat : Int))).setCell ⟨b, 800, none⟩ (.int .i64 ((k + 1 : Nat) : Int)))) := Lib.hid (by
        have hlk : ((digL t).take k).length = k := by rw [List.length_take, digL_length]; omega
        have hp := DRow.push (d := t[k].toNat - 48) HS.out.2.1 (u := .int .u8 y) (by rw [Nat.zero_add, hlk]; exact hy)
        rw [Nat.zero_add, hlk, ← HPD.out.2, ← HPD.out.1] at hp
        exact ⟨(HS.out.1.dig (i := k) (by omega) _).setNd (k + 1), hp.keep _ (Or.inr (by rw [List.length_take, digL_length]; omega)), below_store (below_store HS.out.2.2 _ (Nat.le_refl _)) _ (Nat.le_refl _)⟩)
      by_cases hk0 : k = 0
      · subst hk0
        go_wp2_with (fail)
        go_region
        go_wp2_with (fail)
        go_roundw
        case rel => exact ⟨rfl, 1, true, by omega, rfl, rfl, Lib.hid rfl, Lib.hid ⟨HNEXT.out.1.drewN 1, HNEXT.out.2.1.drewN 1, HNEXT.out.2.2.trans ⟨rfl, rfl, rfl, Nat.le_refl _, fun _ _ => rfl⟩⟩⟩
        case measure => simp [intOf] <;> omega
      · have n0 : ((k : Int) == 0) = false := by rw [beq_eq_false_iff_ne]; omega
        by_cases hc48 : (t[k].toNat : Int) = 48
        · have g48 : ((t[k].toNat : Int) == 48) = true := by rw [beq_iff_eq]; exact hc48
          clear hc48
          go_wp2_with (fail)
          go_region
          go_wp2_with (fail)
          go_roundw
          case rel => exact ⟨rfl, k + 1, true, by omega, by go_num, rfl, Lib.hid (by simp), Lib.hid ⟨HNEXT.out.1.drewN 1, HNEXT.out.2.1.drewN 1, HNEXT.out.2.2.trans ⟨rfl, rfl, rfl, Nat.le_refl _, fun _ _ => rfl⟩⟩⟩
          case measure => simp [intOf] <;> omega
        · have g48 : ((t[k].toNat : Int) == 48) = false := by rw [beq_eq_false_iff_ne]; exact hc48
          clear hc48
          go_wp2_with (fail)
          go_region
          go_wp2_with (fail)
          go_roundw
          case rel => exact ⟨rfl, k + 1, true, by omega, by go_num, rfl, Lib.hid (by simp), Lib.hid ⟨HNEXT.out.1.drewN 1, HNEXT.out.2.1.drewN 1, HNEXT.out.2.2.trans ⟨rfl, rfl, rfl, Nat.le_refl _, fun _ _ => rfl⟩⟩⟩
          case measure => simp [intOf] <;> omega
    · obtain rfl : k = t.length := by omega
      have hS : S = true := by rw [HS0.out]; simpa using h0
      subst hS
      have f81 : wr.frozen? ⟨b, 801, none⟩ = false := HS.out.1.free 801 (by omega)
      have c81 := HS.out.1.dp
      have HEND : Hid (DB (wr.setCell ⟨b, 801, none⟩ (.int .i64 (t.length : Int))) b t.length t.length true false ∧ DRow (wr.setCell ⟨b, 801, none⟩ (.int .i64 (t.length : Int))) b 0 (digL t) ∧ Below b w (wr.setCell ⟨b, 801, none⟩ (.int .i64 (t.length : Int)))) := Lib.hid (by
        have h := HS.out.2.1
        rw [List.take_of_length_le (by rw [digL_length]; omega)] at h
        exact ⟨HS.out.1.setDp _, h.keep _ (Or.inr (by rw [digL_length]; omega)), below_store HS.out.2.2 _ (Nat.le_refl _)⟩)
      clear hlt
      go_wp2_with (fail)
      go_ret
      exact ⟨rfl, HEND.out⟩
end Go.Proofs.YtppkpcijmfdfmaaGreatDoor

/- The walk of strconv's atof64 at 18 to 20 digits. -/
set_option linter.unusedVariables false
set_option linter.unusedSimpArgs false
namespace Go.Proofs.YtppkpcijmfdfmaaGreatDoor
open Go.RowKit
attribute [local go_sem] B_size B_get B_lit B_ext_to B_ext B_toList B_app

theorem rep_at (n : Nat) (v : Value) (l : List Value) : (∀ i : Nat, i < n → (List.replicate n v ++ l).toArray[i]? = some v) ∧ ∀ i x, l[i]? = some x → (List.replicate n v ++ l).toArray[n + i]? = some x := by
  refine ⟨fun i hi => ?_, fun i x hx => ?_⟩
  · rw [List.getElem?_toArray, List.getElem?_append_left (by rw [List.length_replicate]; exact hi), List.getElem?_replicate, if_pos hi]
  · rw [List.getElem?_toArray, List.getElem?_append_right (by rw [List.length_replicate]; omega), List.length_replicate, Nat.add_sub_cancel_left]
    exact hx
theorem dec_cells : (∀ i : Nat, i < 800 → Tryz.zeroCells266[i]? = some (.int .u8 0)) ∧ Tryz.zeroCells266[800]? = some (.int .i64 0) ∧ Tryz.zeroCells266[801]? = some (.int .i64 0) ∧ Tryz.zeroCells266[802]? = some (.bool false) ∧ Tryz.zeroCells266[803]? = some (.bool false) := by
  have h : Tryz.zeroCells266 = (List.replicate 800 (Value.int .u8 0) ++ [Value.int .i64 0, Value.int .i64 0, Value.bool false, Value.bool false]).toArray := by kernel_rfl
  rw [h]
  obtain ⟨h1, h2⟩ := rep_at 800 (Value.int .u8 0) [Value.int .i64 0, Value.int .i64 0, Value.bool false, Value.bool false]
  exact ⟨h1, h2 0 _ rfl, h2 1 _ rfl, h2 2 _ rfl, h2 3 _ rfl⟩

theorem zero_dec (w : World) : DB (w.alloc (.cells Tryz.zeroCells266 266)) w.heap.size 0 0 false false ∧ Below w.heap.size w (w.alloc (.cells Tryz.zeroCells266 266)) := by
  obtain ⟨h1, h2, h3, h4, h5⟩ := dec_cells
  refine ⟨⟨fun i hi => ⟨0, ?_⟩, fun i hi => World.frozen?_alloc_new _ _ _ _, ?_, ?_, ?_, ?_⟩, (Below.refl _ _).alloc (Nat.le_refl _) _⟩
  · rw [World.cell?_alloc_new]; exact h1 i hi
  all_goals rw [World.cell?_alloc_new]
  · exact h2
  · exact h3
  · exact h4
  · exact h5

/-- The bits where a digit is cut off: by scaling, when both neighbours agree; else the slow way. -/
def longBits (neg : Bool) (M n p : Nat) : Nat :=
  if (FloatKind.f64.format.order ((if neg then 1 else 0) * 9223372036854775808 + pfBits (Lib.bitLen M) M p) ((if neg then 1 else 0) * 9223372036854775808 + pfBits (Lib.bitLen (M + 1)) (M + 1) p) == some .eq) = true
  then (if neg then 1 else 0) * 9223372036854775808 + pfBits (Lib.bitLen M) M p else (if neg then 9223372036854775808 else 0) + slowBits n

set_option maxRecDepth 100000 in
set_option maxHeartbeats 2000000 in
theorem atof0_short (t : Bs) (h20 : t.length ≤ 20) (h18 : 18 ≤ t.length) (h48 : t[0]? ≠ some 48) (hd : digsTo t 0 t.length) {M p : Nat} (hM : rfM t 0 t.length = M) (hp : (t.length : Int) - min (t.length : Int) 19 = (p : Int)) (hT : rfT t 0 t.length = false)
    (hM1 : 100000000000000000 ≤ M) (hM2 : M < 10000000000000000000) {w : World} (hg : Gw w) :
    Calls Tryz.prog 172 #[.string (B t)] w fun e w' => e = .returned (.tuple #[.float .f64 (0 * 9223372036854775808 + pfBits (Lib.bitLen M) M p), .int .i64 (t.length : Int), .nilIface]) ∧ Below w.heap.size w w' := by
  have h0 : 0 < t.length := by omega
  have hn0 : isDig t[0] = true := hd.2.2 0 _ (Nat.le_refl _) h0 (List.getElem?_eq_getElem h0)
  have hp1 : p ≤ 1 := by omega
  have HS := Lib.hid (special0 t (by omega) h0 hn0)
  have HR : Hid (Calls Tryz.prog 178 #[.string (B t)] w fun e w' => e = .returned (.tuple #[.int .u64 (M : Int), .int .i64 (p : Int), .bool false, .bool false, .bool false, .int .i64 (t.length : Int), .bool true]) ∧ w = w') := by
    have h := read0 t h20 h18 h0 h48 hd (by rw [hM]; omega) w
    rw [hM, hT, hp] at h
    exact Lib.hid h
  have HX := Lib.hid (exact0 M p false (by omega) hg)
  have HF : Hid (Calls Tryz.prog 189 #[.int .u64 M, .int .i64 p, .int .u64 0] w fun e w' => e = .returned (.tuple #[.float .f64 (0 * 9223372036854775808 + pfBits (Lib.bitLen M) M p), .nilIface]) ∧ Below w.heap.size w w') := Lib.hid (parse64_any (s := 0) rfl (by omega) (by omega) hp1 (by omega) hg)
  obtain ⟨q, hq⟩ : ∃ q, q = 0 * 9223372036854775808 + pfBits (Lib.bitLen M) M p := ⟨_, rfl⟩
  rw [← hq] at HF ⊢
  have c11 := hg.opt
  have f1 : ((M : Int) == 0) = false := by rw [beq_eq_false_iff_ne]; omega
  have f2 : ¬ (310 < (p : Int)) := by omega
  have f3 : ¬ ((p : Int) < -345) := by omega
  have HB := Lib.hid bool64_any
  clear hM hT hp hd h48 hn0 hg hM1 hM2 hq h0 h18 h20 hp1
  go_enter Tryz.func172, Tryz.ntmps172
  go_wp2_with (first | (go_at_call 177; (with_reducible refine (HS.out _).mono ?_); rintro e w' ⟨rfl, rfl⟩) | (go_at_call 178; (with_reducible refine HR.out.mono ?_); rintro e w' ⟨rfl, rfl⟩) | (go_at_call 186; (with_reducible refine (HB.out _ _).mono ?_); rintro e w' ⟨rfl, rfl⟩) | (go_at_call 188; (with_reducible refine HX.out.mono ?_); rintro e w' ⟨rfl, rfl⟩))
  refine HF.out.mono ?_
  rintro e w3 ⟨rfl, hb⟩
  have HB3 := Lib.hid hb
  clear hb c11
  go_wp2_with (fail)
  go_ret3
  exact ⟨rfl, HB3.out⟩

set_option maxRecDepth 100000 in
set_option maxHeartbeats 2000000 in
theorem atof0_long (t : Bs) (h20 : t.length ≤ 20) (h18 : 18 ≤ t.length) (h48 : t[0]? ≠ some 48) (hd : digsTo t 0 t.length) {M p : Nat} (hM : rfM t 0 t.length = M) (hp : (t.length : Int) - min (t.length : Int) 19 = (p : Int)) (hT : rfT t 0 t.length = true)
    (hM1 : 100000000000000000 ≤ M) (hM2 : M < 10000000000000000000) {w : World} (hg : Gw w) (hN : digVal t < 18446744073709551616) (hN2 : 9223372036854775808 ≤ digVal t) (hdec : Dec (digVal t) (digL t) 20 0) (hl20 : t.length = 20) :
    Calls Tryz.prog 172 #[.string (B t)] w fun e w' => e = .returned (.tuple #[.float .f64 (longBits false M (digVal t) p), .int .i64 (t.length : Int), .nilIface]) ∧ Below w.heap.size w w' := by
  have h0 : 0 < t.length := by omega
  have hn0 : isDig t[0] = true := hd.2.2 0 _ (Nat.le_refl _) h0 (List.getElem?_eq_getElem h0)
  have hp1 : p ≤ 1 := by omega
  have HS := Lib.hid (special0 t (by omega) h0 hn0)
  have HR : Hid (Calls Tryz.prog 178 #[.string (B t)] w fun e w' => e = .returned (.tuple #[.int .u64 (M : Int), .int .i64 (p : Int), .bool false, .bool true, .bool false, .int .i64 (t.length : Int), .bool true]) ∧ w = w') := by
    have h := read0 t h20 h18 h0 h48 hd (by rw [hM]; omega) w
    rw [hM, hT, hp] at h
    exact Lib.hid h
  have HX := Lib.hid (exact0 M p false (by omega) hg)
  have HF : Hid (Calls Tryz.prog 189 #[.int .u64 M, .int .i64 p, .int .u64 0] w fun e w' => e = .returned (.tuple #[.float .f64 (0 * 9223372036854775808 + pfBits (Lib.bitLen M) M p), .nilIface]) ∧ Below w.heap.size w w') := Lib.hid (parse64_any (s := 0) rfl (by omega) (by omega) hp1 (by omega) hg)
  obtain ⟨q, hq⟩ : ∃ q, q = 0 * 9223372036854775808 + pfBits (Lib.bitLen M) M p := ⟨_, rfl⟩
  rw [← hq] at HF
  have c11 := hg.opt
  have f1 : ((M : Int) == 0) = false := by rw [beq_eq_false_iff_ne]; omega
  have f2 : ¬ (310 < (p : Int)) := by omega
  have f3 : ¬ ((p : Int) < -345) := by omega
  have HB := Lib.hid bool64_any
  have hg0 := Lib.hid hg
  have HF2 : Hid (∀ (wz : World), Gw wz → Calls Tryz.prog 189 #[.int .u64 ((M : Int) + 1), .int .i64 p, .int .u64 0] wz fun e w' => e = .returned (.tuple #[.float .f64 (0 * 9223372036854775808 + pfBits (Lib.bitLen (M + 1)) (M + 1) p), .nilIface]) ∧ Below wz.heap.size wz w') := Lib.hid (by
    intro wz hz
    have h := parse64_any (d := M + 1) (p := p) (s := 0) (w := wz) rfl (by omega) (by omega) hp1 (by omega) hz
    exact h)
  obtain ⟨q2, hq2⟩ : ∃ q2, q2 = 0 * 9223372036854775808 + pfBits (Lib.bitLen (M + 1)) (M + 1) p := ⟨_, rfl⟩
  rw [← hq2] at HF2
  have f4 : IntKind.u64.wrap ((M : Int) + 1) = (M : Int) + 1 := by rw [show (M : Int) + 1 = ((M + 1 : Nat) : Int) by simp]; exact wrap_u64 (by omega)
  have HLB : Hid (longBits false M (digVal t) p = if (FloatKind.f64.format.order q q2 == some .eq) = true then q else 0 + slowBits (digVal t)) := Lib.hid (by rw [hq, hq2]; rfl)
  have HSET : Hid (∀ (wz : World) (b : Nat), DB wz b 0 0 false false → Calls Tryz.prog 184 #[.pointer (some ⟨b, 0, none⟩), .string (B t)] wz fun e w' => e = .returned (.bool true) ∧ DB w' b t.length t.length false false ∧ DRow w' b 0 (digL t) ∧ Below b wz w') := Lib.hid (by intro wz b hz; exact set0 t h20 h18 h48 hd hz)
  have HBITS : Hid (∀ (wz : World) (b : Nat), DB wz b t.length t.length false false → DRow wz b 0 (digL t) → Gd b wz → Calls Tryz.prog 185 #[.pointer (some ⟨b, 0, none⟩), .pointer (some ⟨12, 0, none⟩)] wz fun e w' => e = .returned (.tuple #[.int .u64 (0 + slowBits (digVal t) : Nat), .bool false]) ∧ Below b wz w') := Lib.hid (by
    intro wz b h1 h2 h3
    have hl : (digL t).length = 20 := by rw [digL_length]; exact hl20
    refine bits_any (ng := false) hN hN2 ⟨hdec, ?_, h2, Below.refl _ _, by omega⟩ (by omega) h3
    rw [hl]; rw [hl20] at h1; exact h1)
  obtain ⟨L, hL⟩ : ∃ L, longBits false M (digVal t) p = L := ⟨_, rfl⟩
  rw [hL] at HLB ⊢
  clear hL hM hT hp hd h48 hn0 hg hM1 hM2 hq hq2 h0 h18 h20 hp1 hN hN2 hdec hl20
  go_enter Tryz.func172, Tryz.ntmps172
  go_wp2_with (first | (go_at_call 177; (with_reducible refine (HS.out _).mono ?_); rintro e w' ⟨rfl, rfl⟩) | (go_at_call 178; (with_reducible refine HR.out.mono ?_); rintro e w' ⟨rfl, rfl⟩) | (go_at_call 186; (with_reducible refine (HB.out _ _).mono ?_); rintro e w' ⟨rfl, rfl⟩))
  refine HF.out.mono ?_
  rintro e w3 ⟨rfl, hb⟩
  have HB3 := Lib.hid hb
  have HG3 := Lib.hid (hg0.out.below hb)
  clear hb c11
  go_wp2_with (fail)
  refine (HF2.out _ HG3.out).mono ?_
  rintro e w4 ⟨rfl, hb⟩
  have HB4 := Lib.hid hb
  have HG4 := Lib.hid (HG3.out.below hb)
  clear hb
  go_wp2_with (fail)
  · have hc : (FloatKind.f64.format.order q q2 == some Ordering.eq) = true := by assumption
    have HL2 : Hid (q = L) := Lib.hid (by rw [HLB.out, if_pos hc])
    clear hc
    go_ret3
    exact ⟨HL2.out ▸ rfl, HB3.out.trans (HB4.out.mono HB3.out.size)⟩
  · have hc : (FloatKind.f64.format.order q q2 == some Ordering.eq) = false := by assumption
    have HL1 : Hid (L = 0 + slowBits (digVal t)) := Lib.hid (by rw [HLB.out, if_neg (by rw [hc]; exact Bool.false_ne_true)])
    clear hc
    have HZ := Lib.hid (zero_dec w4)
    obtain ⟨wz, hwz⟩ : ∃ wz, wz = w4.alloc (.cells Tryz.zeroCells266 266) := ⟨_, rfl⟩
    rw [← hwz] at HZ ⊢
    have HC := Lib.hid (HSET.out wz _ HZ.out.1)
    refine HC.out.mono ?_
    rintro e w5 ⟨rfl, hdb, hrow, hb⟩
    dsimp only
    have HBI := Lib.hid (HBITS.out w5 _ hdb hrow (Gd.below (Gd.below HG4.out HZ.out.2) hb))
    have HB5 := Lib.hid hb
    obtain ⟨k, hk⟩ : ∃ k, k = 0 + slowBits (digVal t) := ⟨_, rfl⟩
    rw [← hk] at HBI HL1
    clear hdb hrow hb hk hwz
    go_wp2_with (fail)
    refine HBI.out.mono ?_
    rintro e w6 ⟨rfl, hb⟩
    dsimp only
    have HB6 := Lib.hid hb
    clear hb
    have e187 := frombits_run k w6
    go_wp2_with (fail)
    go_ret3
    exact ⟨HL1.out.symm ▸ rfl, HB3.out.trans ((HB4.out.mono HB3.out.size).trans (((HZ.out.2.trans HB5.out).trans HB6.out).mono (Nat.le_trans HB3.out.size HB4.out.size)))⟩

set_option maxRecDepth 100000 in
set_option maxHeartbeats 2000000 in
theorem atof1_short (t : Bs) (h20 : t.length ≤ 20) (h18 : 18 ≤ t.length) (h48 : t[0]? ≠ some 48) (hd : digsTo t 0 t.length) {M p : Nat} (hM : rfM t 0 t.length = M) (hp : (t.length : Int) - min (t.length : Int) 19 = (p : Int)) (hT : rfT t 0 t.length = false)
    (hM1 : 100000000000000000 ≤ M) (hM2 : M < 10000000000000000000) {w : World} (hg : Gw w) :
    Calls Tryz.prog 172 #[.string (B (45 :: t))] w fun e w' => e = .returned (.tuple #[.float .f64 (1 * 9223372036854775808 + pfBits (Lib.bitLen M) M p), .int .i64 ((t.length : Int) + 1), .nilIface]) ∧ Below w.heap.size w w' := by
  have h0 : 0 < t.length := by omega
  have hn0 : isDig t[0] = true := hd.2.2 0 _ (Nat.le_refl _) h0 (List.getElem?_eq_getElem h0)
  have hp1 : p ≤ 1 := by omega
  have HS := Lib.hid (special1 t (by omega) h0 hn0)
  have HR : Hid (Calls Tryz.prog 178 #[.string (B (45 :: t))] w fun e w' => e = .returned (.tuple #[.int .u64 (M : Int), .int .i64 (p : Int), .bool true, .bool false, .bool false, .int .i64 ((t.length : Int) + 1), .bool true]) ∧ w = w') := by
    have h := read1 t h20 h18 h0 h48 hd (by rw [hM]; omega) w
    rw [hM, hT, hp] at h
    exact Lib.hid h
  have HX := Lib.hid (exact0 M p true (by omega) hg)
  have HF : Hid (Calls Tryz.prog 189 #[.int .u64 M, .int .i64 p, .int .u64 9223372036854775808] w fun e w' => e = .returned (.tuple #[.float .f64 (1 * 9223372036854775808 + pfBits (Lib.bitLen M) M p), .nilIface]) ∧ Below w.heap.size w w') := Lib.hid (parse64_any (s := 1) rfl (by omega) (by omega) hp1 (by omega) hg)
  obtain ⟨q, hq⟩ : ∃ q, q = 1 * 9223372036854775808 + pfBits (Lib.bitLen M) M p := ⟨_, rfl⟩
  rw [← hq] at HF ⊢
  have c11 := hg.opt
  have f1 : ((M : Int) == 0) = false := by rw [beq_eq_false_iff_ne]; omega
  have f2 : ¬ (310 < (p : Int)) := by omega
  have f3 : ¬ ((p : Int) < -345) := by omega
  have HB := Lib.hid bool64_any
  clear hM hT hp hd h48 hn0 hg hM1 hM2 hq h0 h18 h20 hp1
  go_enter Tryz.func172, Tryz.ntmps172
  go_wp2_with (first | (go_at_call 177; (with_reducible refine (HS.out _).mono ?_); rintro e w' ⟨rfl, rfl⟩) | (go_at_call 178; (with_reducible refine HR.out.mono ?_); rintro e w' ⟨rfl, rfl⟩) | (go_at_call 186; (with_reducible refine (HB.out _ _).mono ?_); rintro e w' ⟨rfl, rfl⟩) | (go_at_call 188; (with_reducible refine HX.out.mono ?_); rintro e w' ⟨rfl, rfl⟩))
  refine HF.out.mono ?_
  rintro e w3 ⟨rfl, hb⟩
  have HB3 := Lib.hid hb
  clear hb c11
  go_wp2_with (fail)
  go_ret3
  exact ⟨rfl, HB3.out⟩

set_option maxRecDepth 100000 in
set_option maxHeartbeats 2000000 in
theorem atof1_long (t : Bs) (h20 : t.length ≤ 20) (h18 : 18 ≤ t.length) (h48 : t[0]? ≠ some 48) (hd : digsTo t 0 t.length) {M p : Nat} (hM : rfM t 0 t.length = M) (hp : (t.length : Int) - min (t.length : Int) 19 = (p : Int)) (hT : rfT t 0 t.length = true)
    (hM1 : 100000000000000000 ≤ M) (hM2 : M < 10000000000000000000) {w : World} (hg : Gw w) (hN : digVal t < 18446744073709551616) (hN2 : 9223372036854775808 ≤ digVal t) (hdec : Dec (digVal t) (digL t) 20 0) (hl20 : t.length = 20) :
    Calls Tryz.prog 172 #[.string (B (45 :: t))] w fun e w' => e = .returned (.tuple #[.float .f64 (longBits true M (digVal t) p), .int .i64 ((t.length : Int) + 1), .nilIface]) ∧ Below w.heap.size w w' := by
  have h0 : 0 < t.length := by omega
  have hn0 : isDig t[0] = true := hd.2.2 0 _ (Nat.le_refl _) h0 (List.getElem?_eq_getElem h0)
  have hp1 : p ≤ 1 := by omega
  have HS := Lib.hid (special1 t (by omega) h0 hn0)
  have HR : Hid (Calls Tryz.prog 178 #[.string (B (45 :: t))] w fun e w' => e = .returned (.tuple #[.int .u64 (M : Int), .int .i64 (p : Int), .bool true, .bool true, .bool false, .int .i64 ((t.length : Int) + 1), .bool true]) ∧ w = w') := by
    have h := read1 t h20 h18 h0 h48 hd (by rw [hM]; omega) w
    rw [hM, hT, hp] at h
    exact Lib.hid h
  have HX := Lib.hid (exact0 M p true (by omega) hg)
  have HF : Hid (Calls Tryz.prog 189 #[.int .u64 M, .int .i64 p, .int .u64 9223372036854775808] w fun e w' => e = .returned (.tuple #[.float .f64 (1 * 9223372036854775808 + pfBits (Lib.bitLen M) M p), .nilIface]) ∧ Below w.heap.size w w') := Lib.hid (parse64_any (s := 1) rfl (by omega) (by omega) hp1 (by omega) hg)
  obtain ⟨q, hq⟩ : ∃ q, q = 1 * 9223372036854775808 + pfBits (Lib.bitLen M) M p := ⟨_, rfl⟩
  rw [← hq] at HF
  have c11 := hg.opt
  have f1 : ((M : Int) == 0) = false := by rw [beq_eq_false_iff_ne]; omega
  have f2 : ¬ (310 < (p : Int)) := by omega
  have f3 : ¬ ((p : Int) < -345) := by omega
  have HB := Lib.hid bool64_any
  have hg0 := Lib.hid hg
  have HF2 : Hid (∀ (wz : World), Gw wz → Calls Tryz.prog 189 #[.int .u64 ((M : Int) + 1), .int .i64 p, .int .u64 9223372036854775808] wz fun e w' => e = .returned (.tuple #[.float .f64 (1 * 9223372036854775808 + pfBits (Lib.bitLen (M + 1)) (M + 1) p), .nilIface]) ∧ Below wz.heap.size wz w') := Lib.hid (by
    intro wz hz
    have h := parse64_any (d := M + 1) (p := p) (s := 1) (w := wz) rfl (by omega) (by omega) hp1 (by omega) hz
    exact h)
  obtain ⟨q2, hq2⟩ : ∃ q2, q2 = 1 * 9223372036854775808 + pfBits (Lib.bitLen (M + 1)) (M + 1) p := ⟨_, rfl⟩
  rw [← hq2] at HF2
  have f4 : IntKind.u64.wrap ((M : Int) + 1) = (M : Int) + 1 := by rw [show (M : Int) + 1 = ((M + 1 : Nat) : Int) by simp]; exact wrap_u64 (by omega)
  have HLB : Hid (longBits true M (digVal t) p = if (FloatKind.f64.format.order q q2 == some .eq) = true then q else 9223372036854775808 + slowBits (digVal t)) := Lib.hid (by rw [hq, hq2]; rfl)
  have HSET : Hid (∀ (wz : World) (b : Nat), DB wz b 0 0 false false → Calls Tryz.prog 184 #[.pointer (some ⟨b, 0, none⟩), .string (B (45 :: t))] wz fun e w' => e = .returned (.bool true) ∧ DB w' b t.length t.length true false ∧ DRow w' b 0 (digL t) ∧ Below b wz w') := Lib.hid (by intro wz b hz; exact set1 t h20 h18 h48 hd hz)
  have HBITS : Hid (∀ (wz : World) (b : Nat), DB wz b t.length t.length true false → DRow wz b 0 (digL t) → Gd b wz → Calls Tryz.prog 185 #[.pointer (some ⟨b, 0, none⟩), .pointer (some ⟨12, 0, none⟩)] wz fun e w' => e = .returned (.tuple #[.int .u64 (9223372036854775808 + slowBits (digVal t) : Nat), .bool false]) ∧ Below b wz w') := Lib.hid (by
    intro wz b h1 h2 h3
    have hl : (digL t).length = 20 := by rw [digL_length]; exact hl20
    refine bits_any (ng := true) hN hN2 ⟨hdec, ?_, h2, Below.refl _ _, by omega⟩ (by omega) h3
    rw [hl]; rw [hl20] at h1; exact h1)
  obtain ⟨L, hL⟩ : ∃ L, longBits true M (digVal t) p = L := ⟨_, rfl⟩
  rw [hL] at HLB ⊢
  clear hL hM hT hp hd h48 hn0 hg hM1 hM2 hq hq2 h0 h18 h20 hp1 hN hN2 hdec hl20
  go_enter Tryz.func172, Tryz.ntmps172
  go_wp2_with (first | (go_at_call 177; (with_reducible refine (HS.out _).mono ?_); rintro e w' ⟨rfl, rfl⟩) | (go_at_call 178; (with_reducible refine HR.out.mono ?_); rintro e w' ⟨rfl, rfl⟩) | (go_at_call 186; (with_reducible refine (HB.out _ _).mono ?_); rintro e w' ⟨rfl, rfl⟩))
  refine HF.out.mono ?_
  rintro e w3 ⟨rfl, hb⟩
  have HB3 := Lib.hid hb
  have HG3 := Lib.hid (hg0.out.below hb)
  clear hb c11
  go_wp2_with (fail)
  refine (HF2.out _ HG3.out).mono ?_
  rintro e w4 ⟨rfl, hb⟩
  have HB4 := Lib.hid hb
  have HG4 := Lib.hid (HG3.out.below hb)
  clear hb
  go_wp2_with (fail)
  · have hc : (FloatKind.f64.format.order q q2 == some Ordering.eq) = true := by assumption
    have HL2 : Hid (q = L) := Lib.hid (by rw [HLB.out, if_pos hc])
    clear hc
    go_ret3
    exact ⟨HL2.out ▸ rfl, HB3.out.trans (HB4.out.mono HB3.out.size)⟩
  · have hc : (FloatKind.f64.format.order q q2 == some Ordering.eq) = false := by assumption
    have HL1 : Hid (L = 9223372036854775808 + slowBits (digVal t)) := Lib.hid (by rw [HLB.out, if_neg (by rw [hc]; exact Bool.false_ne_true)])
    clear hc
    have HZ := Lib.hid (zero_dec w4)
    obtain ⟨wz, hwz⟩ : ∃ wz, wz = w4.alloc (.cells Tryz.zeroCells266 266) := ⟨_, rfl⟩
    rw [← hwz] at HZ ⊢
    have HC := Lib.hid (HSET.out wz _ HZ.out.1)
    refine HC.out.mono ?_
    rintro e w5 ⟨rfl, hdb, hrow, hb⟩
    dsimp only
    have HBI := Lib.hid (HBITS.out w5 _ hdb hrow (Gd.below (Gd.below HG4.out HZ.out.2) hb))
    have HB5 := Lib.hid hb
    obtain ⟨k, hk⟩ : ∃ k, k = 9223372036854775808 + slowBits (digVal t) := ⟨_, rfl⟩
    rw [← hk] at HBI HL1
    clear hdb hrow hb hk hwz
    go_wp2_with (fail)
    refine HBI.out.mono ?_
    rintro e w6 ⟨rfl, hb⟩
    dsimp only
    have HB6 := Lib.hid hb
    clear hb
    have e187 := frombits_run k w6
    go_wp2_with (fail)
    go_ret3
    exact ⟨HL1.out.symm ▸ rfl, HB3.out.trans ((HB4.out.mono HB3.out.size).trans (((HZ.out.2.trans HB5.out).trans HB6.out).mono (Nat.le_trans HB3.out.size HB4.out.size)))⟩

end Go.Proofs.YtppkpcijmfdfmaaGreatDoor

/- The walk of ParseFloat over atof64. -/
set_option linter.unusedVariables false
set_option linter.unusedSimpArgs false
namespace Go.Proofs.YtppkpcijmfdfmaaGreatDoor
open Go.RowKit
attribute [local go_sem] B_size B_get B_lit B_ext_to B_ext B_toList B_app

set_option maxRecDepth 100000 in
theorem pprefix_any {s : Bs} {q : Nat} {w : World} (hA : Calls Tryz.prog 172 #[.string (B s)] w fun e w' => e = .returned (.tuple #[.float .f64 q, .int .i64 s.length, .nilIface]) ∧ Below w.heap.size w w') :
    Calls Tryz.prog 152 #[.string (B s), .int .i64 64] w fun e w' => e = .returned (.tuple #[.float .f64 q, .int .i64 s.length, .nilIface]) ∧ Below w.heap.size w w' := by
  have HA := Lib.hid hA
  clear hA
  go_enter Tryz.func152, Tryz.ntmps152
  go_wp2_with (fail)
  refine HA.out.mono ?_
  rintro e w3 ⟨rfl, hb⟩
  have HB := Lib.hid hb
  clear hb
  go_wp2_with (fail)
  go_ret3
  exact ⟨rfl, HB.out⟩

set_option maxRecDepth 100000 in
theorem pfloat_in {s : Bs} (hlen : s.length < 4294967296) {q : Nat} {w : World} (hA : Calls Tryz.prog 172 #[.string (B s)] w fun e w' => e = .returned (.tuple #[.float .f64 q, .int .i64 s.length, .nilIface]) ∧ Below w.heap.size w w') :
    Calls Tryz.prog 137 #[.string (B s), .int .i64 64] w fun e w' => e = .returned (.tuple #[.float .f64 q, .nilIface]) ∧ Below w.heap.size w w' := by
  have HA := Lib.hid (pprefix_any hA)
  clear hA
  go_enter Tryz.func137, Tryz.ntmps137
  go_wp2_with (fail)
  refine HA.out.mono ?_
  rintro e w3 ⟨rfl, hb⟩
  have HB := Lib.hid hb
  clear hb
  go_wp2_with (fail)
  go_ret2
  exact ⟨rfl, HB.out⟩

set_option maxRecDepth 100000 in
theorem pfloat_any {s : Bs} (hlen : s.length < 4294967296) {q : Nat} {w : World} (hA : Calls Tryz.prog 172 #[.string (B s)] w fun e w' => e = .returned (.tuple #[.float .f64 q, .int .i64 s.length, .nilIface]) ∧ Below w.heap.size w w') :
    Calls Tryz.prog 120 #[.string (B s), .int .i64 64] w fun e w' => e = .returned (.tuple #[.float .f64 q, .nilIface]) ∧ Below w.heap.size w w' := by
  have HA := Lib.hid (pfloat_in hlen hA)
  clear hA
  go_enter Tryz.func120, Tryz.ntmps120
  go_wp2_with (fail)
  refine HA.out.mono ?_
  rintro e w3 ⟨rfl, hb⟩
  have HB := Lib.hid hb
  clear hb
  go_wp2_with (fail)
  go_ret2
  exact ⟨rfl, HB.out⟩
end Go.Proofs.YtppkpcijmfdfmaaGreatDoor

/- The walk of fastfloat.Parse past 18 bytes. -/
set_option linter.unusedVariables false
set_option linter.unusedSimpArgs false
namespace Go.Proofs.YtppkpcijmfdfmaaGreatDoor
open Go.RowKit
attribute [local go_sem] B_size B_get B_lit B_ext_to B_ext B_toList B_app

set_option maxHeartbeats 1000000 in
set_option maxRecDepth 100000 in
theorem float_far0 (s : Bs) (hlen : s.length < 4294967296) (hne : 0 < s.length) (h45 : s[0]? ≠ some 45) (hd : digsTo s 0 s.length) (hl : 18 < s.length) (q : Nat)
    (hx : ∀ w, Gw w → Calls Tryz.prog 120 #[.string (B s), .int .i64 64] w fun e w' => e = .returned (.tuple #[.float .f64 q, .nilIface]) ∧ Below w.heap.size w w') :
    NumP 110 s (.float .f64 0) (some (.float .f64 q)) := by
  refine NumP.of' fun w hg => ?_
  have HX := Lib.hid (hx w hg)
  have HDS := Lib.hid hd
  clear hx hg hd
  have h0 : 0 < s.length := hne
  have z0 : ((s.length : Int) == 0) = false := by rw [beq_eq_false_iff_ne]; omega
  have z45 : ((s[0].toNat : Int) == 45) = false := (u8_facts 45 fun e => h45 (by rw [List.getElem?_eq_getElem h0, e])).1
  clear hne h45
  have hs0 : ¬ (s = []) := by rintro rfl; simp at h0
  have hO : 0 < s.length := by omega
  have z46 : ((s[0].toNat : Int) == 46) = false := by
    have h := (isDig_nat (c := s[0])).1 (HDS.out.2.2 0 _ (Nat.le_refl _) (by omega) (List.getElem?_eq_getElem hO))
    rw [beq_eq_false_iff_ne]; omega
  go_enter Tryz.func110, Tryz.ntmps110
  go_wp2
  go_loop [4, 6] (fun i d => ∃ m : Nat, Hid (digsTo s 0 m) ∧ m ≤ s.length ∧ m ≤ 18 ∧ 0 ≤ m ∧ i = .int .u64 (m : Int) ∧ d = .int .u64 (dv s 0 m : Nat)) (fun i _ => s.length - (intOf i).toNat)
  case atStart => exact ⟨0, digsTo_start s 0 (by omega), by omega, by omega, by omega, rfl, by rw [dv_start]; rfl⟩
  case round =>
    obtain ⟨m, HD, hn, hn18, hom, rfl, rfl⟩ := hrel
    have hb := digsTo_lt HD.out hn18
    have hlt : m < s.length := by omega
    have hu : s[m]? = some s[m] := List.getElem?_eq_getElem hlt
    have hd : isDig s[m] = true := HDS.out.2.2 m _ hom hlt hu
    obtain ⟨h1, h2⟩ := digsTo_step HD.out hu hd
    have hcd := (isDig_nat (c := s[m])).1 hd
    have H1 := Lib.hid h1
    have hv : ((dv s 0 (m + 1) : Nat) : Int) = (dv s 0 m : Nat) * 10 + ((s[m].toNat : Int) - 48) := by omega
    generalize dv s 0 m = D at *
    have HV := Lib.hid hv
    have c48 : 48 ≤ (s[m].toNat : Int) := by omega
    have c57 : (s[m].toNat : Int) ≤ 57 := by omega
    by_cases h18 : m < 18
    · have m18 : ¬ ((m : Int) + 1 > 18) := by omega
      clear h1 h2 hu hd hv hcd HD
      go_wp2
      go_round
      case rel => exact ⟨m + 1, H1.out, by omega, by omega, by omega, by go_num, by rw [HV.out]⟩
      case measure => simp [intOf]; omega
    · obtain rfl : m = 18 := by omega
      clear h1 h2 hu hd hv hcd HD h18
      go_wp2_with (go_at_call 120; refine HX.out.mono ?_; rintro e w' ⟨rfl, hb'⟩; have HB := Lib.hid hb'; clear hb')
      go_ret2
      exact ⟨HB.out, NRes.ok _ rfl⟩

set_option maxHeartbeats 1000000 in
set_option maxRecDepth 100000 in
theorem float_far1 (s : Bs) (hlen : s.length < 4294967296) (hne : 1 < s.length) (h45 : s[0]? = some 45) (hd : digsTo s 1 s.length) (hl : 18 < s.length) (q : Nat)
    (hx : ∀ w, Gw w → Calls Tryz.prog 120 #[.string (B s), .int .i64 64] w fun e w' => e = .returned (.tuple #[.float .f64 q, .nilIface]) ∧ Below w.heap.size w w') :
    NumP 110 s (.float .f64 0) (some (.float .f64 q)) := by
  refine NumP.of' fun w hg => ?_
  have HX := Lib.hid (hx w hg)
  have HDS := Lib.hid hd
  clear hx hg hd
  have h0 : 0 < s.length := by omega
  have z0 : ((s.length : Int) == 0) = false := by rw [beq_eq_false_iff_ne]; omega
  have z45 : ((s[0].toNat : Int) == 45) = true := by
    rw [List.getElem?_eq_getElem h0] at h45
    rw [beq_iff_eq, Option.some.inj h45]
    rfl
  have zl : ¬ ((1 : Int) ≥ (s.length : Int)) := by omega
  have zl2 : ¬ ((s.length : Int) ≤ 1) := by omega
  clear h45
  have hs0 : ¬ (s = []) := by rintro rfl; simp at h0
  have hO : 1 < s.length := by omega
  have z46 : ((s[1].toNat : Int) == 46) = false := by
    have h := (isDig_nat (c := s[1])).1 (HDS.out.2.2 1 _ (Nat.le_refl _) (by omega) (List.getElem?_eq_getElem hO))
    rw [beq_eq_false_iff_ne]; omega
  go_enter Tryz.func110, Tryz.ntmps110
  go_wp2
  go_loop [4, 6] (fun i d => ∃ m : Nat, Hid (digsTo s 1 m) ∧ m ≤ s.length ∧ m ≤ 18 ∧ 1 ≤ m ∧ i = .int .u64 (m : Int) ∧ d = .int .u64 (dv s 1 m : Nat)) (fun i _ => s.length - (intOf i).toNat)
  case atStart => exact ⟨1, digsTo_start s 1 (by omega), by omega, by omega, by omega, rfl, by rw [dv_start]; rfl⟩
  case round =>
    obtain ⟨m, HD, hn, hn18, hom, rfl, rfl⟩ := hrel
    have hb := digsTo_lt HD.out hn18
    have hlt : m < s.length := by omega
    have hu : s[m]? = some s[m] := List.getElem?_eq_getElem hlt
    have hd : isDig s[m] = true := HDS.out.2.2 m _ hom hlt hu
    obtain ⟨h1, h2⟩ := digsTo_step HD.out hu hd
    have hcd := (isDig_nat (c := s[m])).1 hd
    have H1 := Lib.hid h1
    have hv : ((dv s 1 (m + 1) : Nat) : Int) = (dv s 1 m : Nat) * 10 + ((s[m].toNat : Int) - 48) := by omega
    generalize dv s 1 m = D at *
    have HV := Lib.hid hv
    have c48 : 48 ≤ (s[m].toNat : Int) := by omega
    have c57 : (s[m].toNat : Int) ≤ 57 := by omega
    by_cases h18 : m < 18
    · have m18 : ¬ ((m : Int) + 1 > 18) := by omega
      clear h1 h2 hu hd hv hcd HD
      go_wp2
      go_round
      case rel => exact ⟨m + 1, H1.out, by omega, by omega, by omega, by go_num, by rw [HV.out]⟩
      case measure => simp [intOf]; omega
    · obtain rfl : m = 18 := by omega
      clear h1 h2 hu hd hv hcd HD h18
      go_wp2_with (go_at_call 120; refine HX.out.mono ?_; rintro e w' ⟨rfl, hb'⟩; have HB := Lib.hid hb'; clear hb')
      go_ret2
      exact ⟨HB.out, NRes.ok _ rfl⟩

end Go.Proofs.YtppkpcijmfdfmaaGreatDoor

/- Whole numbers of up to 64 bits, read as numbers of floating point. -/
set_option linter.unusedVariables false
set_option linter.unusedSimpArgs false
namespace Go.Proofs.YtppkpcijmfdfmaaGreatDoor
open Go.RowKit

theorem hDig_first48 (n : Nat) (h : 0 < n) : (hDig n)[0]? ≠ some 48 := by
  induction n using Nat.strongRecOn with
  | ind n ih =>
    by_cases h10 : n < 10
    · rw [hDig_small h10]
      intro e
      have e2 : UInt8.ofNat (48 + n) = 48 := by simpa using e
      have e3 := congrArg UInt8.toNat e2
      rw [UInt8.toNat_ofNat'] at e3
      have : (48 : UInt8).toNat = 48 := rfl
      omega
    · rw [hDig_big h10]
      have hp := hDig_pos (n / 10)
      rw [List.getElem?_append_left (by omega)]
      exact ih (n / 10) (by omega) (by omega)

theorem lead_of {t : Bs} (h0 : 0 < t.length) (h48 : t[0]? ≠ some 48) (hd : ∀ c ∈ t, isDig c = true) : Lead (digL t) := by
  cases t with
  | nil => simp at h0
  | cons c r =>
    refine ⟨c.toNat - 48, digL r, rfl, ?_⟩
    have h1 := isDig_nat.1 (hd c (by simp))
    have h2 : c.toNat ≠ 48 := fun e => h48 (by
      have : c = 48 := UInt8.toNat_inj.1 e
      rw [this]; rfl)
    omega

/-- The leading digits, as a number. -/
theorem rfM_facts {t : Bs} (h18 : 18 ≤ t.length) (h20 : t.length ≤ 20) (h48 : t[0]? ≠ some 48) (hd : ∀ c ∈ t, isDig c = true) : 100000000000000000 ≤ rfM t 0 t.length ∧ rfM t 0 t.length < 10000000000000000000 := by
  have e : rfM t 0 t.length = dN (digL (t.take (min t.length 19))) := by
    unfold rfM dv
    rw [digL_val, List.drop_zero, Nat.zero_add, Nat.sub_zero]
  have hd' : ∀ c ∈ t.take (min t.length 19), isDig c = true := fun c hc => hd c (List.mem_of_mem_take hc)
  have hl : (t.take (min t.length 19)).length = min t.length 19 := by rw [List.length_take]; omega
  have hL : Lead (digL (t.take (min t.length 19))) := lead_of (by omega) (by rw [List.getElem?_take_of_lt (by omega)]; exact h48) hd'
  have h1 := dN_ge hL
  have h2 := dN_lt (digL_digs hd')
  rw [digL_length, hl] at h1 h2
  rw [e]
  have h3 : 10 ^ 17 ≤ 10 ^ (min t.length 19 - 1) := Nat.pow_le_pow_right (by decide) (by omega)
  have h4 : 10 ^ (min t.length 19) ≤ 10 ^ 19 := Nat.pow_le_pow_right (by decide) (by omega)
  omega

/-- What ParseFloat makes of digits. -/
def pfQ (neg : Bool) (t : Bs) : Nat :=
  if rfT t 0 t.length = true then longBits neg (rfM t 0 t.length) (digVal t) (t.length - 19)
  else (if neg then 1 else 0) * 9223372036854775808 + pfBits (Lib.bitLen (rfM t 0 t.length)) (rfM t 0 t.length) (t.length - 19)

theorem bitLen_lt {d : Nat} (h : d < 18446744073709551616) : d < 2 ^ Lib.bitLen d := by
  rcases Nat.lt_or_ge d (2 ^ Lib.bitLen d) with h1 | h1
  · exact h1
  · have := Lib.bitLen_shift (Lib.bitLen d) d h1 h
    have h2 : 0 < d / 2 ^ Lib.bitLen d := Nat.div_pos h1 (Nat.two_pow_pos _)
    have h3 : d / 2 ^ Lib.bitLen d < 2 ^ 64 := Nat.lt_of_le_of_lt (Nat.div_le_self _ _) h
    have h4 := Lib.bitLen_half (d / 2 ^ Lib.bitLen d) (by omega) h3
    omega

theorem order_word {neg : Bool} {r q : Nat} (hr : r ≤ 9218868437227405312) (h : q = (if neg then 9223372036854775808 else 0) + r) : (FloatKind.f64.format.order q q == some .eq) = true := by
  refine order_read ?_
  have e : q = Ieee.double.word neg r := by
    rw [h]
    unfold Ieee.Format.word
    have e2 : Ieee.double.signWeight = 9223372036854775808 := by decide
    rw [e2]
    cases neg <;> simp <;> omega
  rw [e]
  exact word_read neg (by rw [show Ieee.double.infRung = 9218868437227405312 by decide]; exact hr)

theorem ite_or {α : Type} {c : Prop} [Decidable c] (a b : α) : (if c then a else b) = a ∨ (if c then a else b) = b := by
  by_cases h : c
  · exact Or.inl (if_pos h)
  · exact Or.inr (if_neg h)
theorem sg_mul (neg : Bool) : (if neg then 1 else 0) * 9223372036854775808 = (if neg then 9223372036854775808 else 0) := by cases neg <;> rfl
theorem pfQ_or (neg : Bool) (t : Bs) : ∃ r, pfQ neg t = (if neg then 9223372036854775808 else 0) + r ∧ (r = pfBits (Lib.bitLen (rfM t 0 t.length)) (rfM t 0 t.length) (t.length - 19) ∨ r = slowBits (digVal t)) := by
  rcases ite_or (c := rfT t 0 t.length = true) (longBits neg (rfM t 0 t.length) (digVal t) (t.length - 19)) ((if neg then 1 else 0) * 9223372036854775808 + pfBits (Lib.bitLen (rfM t 0 t.length)) (rfM t 0 t.length) (t.length - 19)) with h | h
  · have e : pfQ neg t = longBits neg (rfM t 0 t.length) (digVal t) (t.length - 19) := h
    rcases ite_or (c := (FloatKind.f64.format.order ((if neg then 1 else 0) * 9223372036854775808 + pfBits (Lib.bitLen (rfM t 0 t.length)) (rfM t 0 t.length) (t.length - 19)) ((if neg then 1 else 0) * 9223372036854775808 + pfBits (Lib.bitLen (rfM t 0 t.length + 1)) (rfM t 0 t.length + 1) (t.length - 19)) == some .eq) = true) ((if neg then 1 else 0) * 9223372036854775808 + pfBits (Lib.bitLen (rfM t 0 t.length)) (rfM t 0 t.length) (t.length - 19)) ((if neg then 9223372036854775808 else 0) + slowBits (digVal t)) with h2 | h2
    · exact ⟨_, e.trans (Eq.trans h2 (by rw [sg_mul])), Or.inl rfl⟩
    · exact ⟨_, e.trans h2, Or.inr rfl⟩
  · exact ⟨_, Eq.trans h (by rw [sg_mul]), Or.inl rfl⟩

theorem pf_le {M p : Nat} (hM : M < 18446744073709551616) (hp : p ≤ 1) : pfBits (Lib.bitLen M) M p ≤ 9218868437227405312 :=
  pfBits_le (bitLen_lt hM) (Lib.bitLen_le M 64 (Nat.le_refl _) hM) hp

theorem pfQ_self (neg : Bool) {t : Bs} (h18 : 18 ≤ t.length) (h20 : t.length ≤ 20) (h48 : t[0]? ≠ some 48) (hd : ∀ c ∈ t, isDig c = true) : (FloatKind.f64.format.order (pfQ neg t) (pfQ neg t) == some .eq) = true := by
  obtain ⟨h1, h2⟩ := rfM_facts h18 h20 h48 hd
  obtain ⟨r, hr, hr2⟩ := pfQ_or neg t
  have hb : pfBits (Lib.bitLen (rfM t 0 t.length)) (rfM t 0 t.length) (t.length - 19) ≤ 9218868437227405312 := pf_le (by omega) (by omega)
  have hs := slowBits_le (digVal t)
  have hle : r ≤ 9218868437227405312 := by
    rcases hr2 with e | e
    · rw [e]; exact hb
    · rw [e]; exact hs
  clear hr2 hb hs h1 h2
  generalize pfQ neg t = q at hr ⊢
  exact order_word hle hr

theorem near_pos (W : Nat) : floatOfInt .f64 (W : Int) = Ieee.double.nearest false W 0 := by
  unfold floatOfInt FloatKind.nearest FloatKind.encode FloatKind.format Ieee.Format.write
  simp only [Int.natAbs_natCast]
  rw [show decide ((W : Int) < 0) = false by simp]
theorem near_neg {a : Nat} (h : 0 < a) : floatOfInt .f64 (-(a : Int)) = Ieee.double.nearest true a 0 := by
  unfold floatOfInt FloatKind.nearest FloatKind.encode FloatKind.format Ieee.Format.write
  simp only [Int.natAbs_neg, Int.natAbs_natCast]
  rw [show decide (-(a : Int) < 0) = true from decide_eq_true (by omega)]

/-- atof64 answers it. -/
theorem atof0_any {t : Bs} (h18 : 18 ≤ t.length) (h20 : t.length ≤ 20) (h48 : t[0]? ≠ some 48) (hdg : ∀ c ∈ t, isDig c = true) (hd : digsTo t 0 t.length) (hN : digVal t < 18446744073709551616) (w : World) (hg : Gw w) :
    Calls Tryz.prog 172 #[.string (B t)] w fun e w' => e = .returned (.tuple #[.float .f64 (pfQ false t), .int .i64 t.length, .nilIface]) ∧ Below w.heap.size w w' := by
  obtain ⟨h1, h2⟩ := rfM_facts h18 h20 h48 hdg
  have hp : (t.length : Int) - min (t.length : Int) 19 = ((t.length - 19 : Nat) : Int) := by omega
  by_cases hT : rfT t 0 t.length = true
  · have e : pfQ false t = longBits false (rfM t 0 t.length) (digVal t) (t.length - 19) := if_pos hT
    have hl : t.length = 20 := by
      rcases Nat.lt_or_ge 19 t.length with h | h
      · omega
      · rw [rfT_small h] at hT; exact absurd hT Bool.false_ne_true
    have hL : Lead (digL t) := lead_of (by omega) h48 hdg
    have hge := dN_ge hL
    rw [digL_val, digL_length, hl] at hge
    rw [e]
    refine atof0_long t h20 h18 h48 hd rfl hp hT h1 h2 hg hN (by omega) ⟨digL_digs hdg, hL, ?_⟩ hl
    rw [digL_val, digL_length, hl, Nat.pow_zero, Nat.mul_one]
  · have e : pfQ false t = (if false then 1 else 0) * 9223372036854775808 + pfBits (Lib.bitLen (rfM t 0 t.length)) (rfM t 0 t.length) (t.length - 19) := if_neg hT
    rw [e]
    exact atof0_short t h20 h18 h48 hd rfl hp (by simpa using hT) h1 h2 hg
theorem atof1_any {t : Bs} (h18 : 18 ≤ t.length) (h20 : t.length ≤ 20) (h48 : t[0]? ≠ some 48) (hdg : ∀ c ∈ t, isDig c = true) (hd : digsTo t 0 t.length) (hN : digVal t < 18446744073709551616) (w : World) (hg : Gw w) :
    Calls Tryz.prog 172 #[.string (B (45 :: t))] w fun e w' => e = .returned (.tuple #[.float .f64 (pfQ true t), .int .i64 ((45 :: t).length : Nat), .nilIface]) ∧ Below w.heap.size w w' := by
  obtain ⟨h1, h2⟩ := rfM_facts h18 h20 h48 hdg
  have hp : (t.length : Int) - min (t.length : Int) 19 = ((t.length - 19 : Nat) : Int) := by omega
  by_cases hT : rfT t 0 t.length = true
  · have e : pfQ true t = longBits true (rfM t 0 t.length) (digVal t) (t.length - 19) := if_pos hT
    have hl : t.length = 20 := by
      rcases Nat.lt_or_ge 19 t.length with h | h
      · omega
      · rw [rfT_small h] at hT; exact absurd hT Bool.false_ne_true
    have hL : Lead (digL t) := lead_of (by omega) h48 hdg
    have hge := dN_ge hL
    rw [digL_val, digL_length, hl] at hge
    rw [e]
    refine atof1_long t h20 h18 h48 hd rfl hp hT h1 h2 hg hN (by omega) ⟨digL_digs hdg, hL, ?_⟩ hl
    rw [digL_val, digL_length, hl, Nat.pow_zero, Nat.mul_one]
  · have e : pfQ true t = (if true then 1 else 0) * 9223372036854775808 + pfBits (Lib.bitLen (rfM t 0 t.length)) (rfM t 0 t.length) (t.length - 19) := if_neg hT
    rw [e]
    exact atof1_short t h20 h18 h48 hd rfl hp (by simpa using hT) h1 h2 hg

theorem num_float (m : Bool) {n : Nat} (hn : n < 18446744073709551616) : ∃ q, NumP 110 (hNum m n) (.float .f64 0) (some (.float .f64 q)) ∧ (FloatKind.f64.format.order q q == some .eq) = true ∧ (n ≤ 9007199254740992 → q = floatOfInt .f64 (if m then -(n : Int) else n)) := by
  have hl20 := hDig_len20 hn
  have hp := hDig_pos n
  have hv : digVal (hDig n) = n := digVal_hDig n
  have hbig : 18 ≤ (hDig n).length → 9007199254740992 < n ∧ 0 < n := by
    intro h
    have h0 : 0 < n := by
      rcases Nat.eq_zero_or_pos n with e | e
      · subst e; rw [hDig_small (by decide)] at h; simp at h
      · exact e
    have := dN_ge (lead_of (t := hDig n) (by omega) (hDig_first48 n h0) (hDig_dig n))
    rw [digL_val, digL_length, hv] at this
    have h3 : 10 ^ 17 ≤ 10 ^ ((hDig n).length - 1) := Nat.pow_le_pow_right (by decide) (by omega)
    omega
  unfold hNum
  by_cases hm : m = true ∧ 0 < n
  · rw [if_pos hm]
    obtain ⟨rfl, hpos⟩ := hm
    obtain ⟨hd, hdv⟩ := min_digs n
    have hlen : (45 :: hDig n).length = (hDig n).length + 1 := rfl
    by_cases hl : (45 :: hDig n).length ≤ 18
    · refine ⟨_, float_whole1 _ (by omega) (by omega) rfl hd hl n (by exact hv), ?_, fun _ => ?_⟩
      · rw [near_pos, neg_nearest (by omega)]; exact order_read (nearest_read _ _ _)
      · rw [near_pos, neg_nearest (by omega), if_pos rfl, near_neg hpos]
    · have hb := hbig (by omega)
      refine ⟨pfQ true (hDig n), float_far1 _ (by omega) (by omega) rfl hd (by omega) _ fun w hg => pfloat_any (by omega) (atof1_any (by omega) hl20 (hDig_first48 n hpos) (hDig_dig n) (hDig_digs n).1 (by rw [hv]; exact hn) w hg), pfQ_self _ (by omega) hl20 (hDig_first48 n hpos) (hDig_dig n), fun h => by omega⟩
  · rw [if_neg hm]
    obtain ⟨hd, hdv⟩ := hDig_digs n
    by_cases hl : (hDig n).length ≤ 18
    · refine ⟨_, float_whole0 _ (by omega) (by omega) (hDig_first n) hd hl n (by exact hv), ?_, fun _ => ?_⟩
      · rw [near_pos]; exact order_read (nearest_read _ _ _)
      · cases m
        · rfl
        · have : n = 0 := by
            rcases Nat.eq_zero_or_pos n with e | e
            · exact e
            · exact absurd ⟨rfl, e⟩ hm
          subst this; rfl
    · have hb := hbig (by omega)
      refine ⟨pfQ false (hDig n), float_far0 _ (by omega) (by omega) (hDig_first n) hd (by omega) _ fun w hg => pfloat_any (by omega) (atof0_any (by omega) hl20 (hDig_first48 n hb.2) (hDig_dig n) hd (by rw [hv]; exact hn) w hg), pfQ_self _ (by omega) hl20 (hDig_first48 n hb.2) (hDig_dig n), fun h => by omega⟩
end Go.Proofs.YtppkpcijmfdfmaaGreatDoor
