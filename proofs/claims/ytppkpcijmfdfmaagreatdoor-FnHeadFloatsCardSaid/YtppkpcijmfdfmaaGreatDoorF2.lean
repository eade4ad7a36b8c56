/- The walks of strconv.ParseUint at four hexadecimal digits, of utf16's functions, and of strings as bytes. -/
import Derived.Test.YtppkpcijmfdfmaaGreatDoorC9
import Derived.BigQuiet
import Derived.Deep.QuietTactic
import Derived.Deep.AppendSrc
import Derived.Deep.MidRow
import Derived.Lib.AppendZeros
import Derived.Lib.SlBuf
import Derived.Test.YtppkpcijmfdfmaaGreatDoorC1
import Derived.Deep.CutRange
import Derived.Deep.CutBlock
import Derived.Deep.DeepCutAuto
set_option linter.unusedVariables false
set_option linter.unusedSimpArgs false
namespace Go.Proofs.YtppkpcijmfdfmaaGreatDoor
open Go.RowKit
attribute [local go_sem] B_size B_get B_lit B_ext_to B_ext B_toList B_app

theorem str_bytes (w : World) (l : Bs) : ∃ v w', (convert 9 27 (.string (B l))).run Tryz.prog w = .ok v w' ∧ BA w' v l ∧ Below w.heap.size w w' := by
  refine ⟨_, _, Lib.run_convert_string_bytes (P := Tryz.prog) w 9 27 5 (B l) Tryz.underlying9 Tryz.underlying27 Tryz.underlying5, ?_, ?_⟩
  · refine Or.inr ⟨w.heap.size, 0, _, by rw [B_size], by rw [Lib.bytesWorld_size]; omega, fun i u hu => ?_⟩
    have hlt : i < (B l).size := by rw [B_size]; exact (List.getElem?_eq_some_iff.1 hu).1
    rw [Nat.zero_add, Lib.bytesWorld_cell _ _ _ _ hlt, B_data, List.getD, hu]
    rfl
  · exact ⟨rfl, rfl, rfl, by rw [Lib.bytesWorld_size]; omega, fun k hk => Lib.bytesWorld_at_old _ _ _ _ hk⟩

/-- The number of hexadecimal digits' values. -/
def hexN (ds : List Nat) : Nat := ds.foldl (fun a d => a * 16 + d) 0
theorem hexN_push (ds : List Nat) (d : Nat) : hexN (ds ++ [d]) = hexN ds * 16 + d := by simp [hexN]
theorem hexN_lt : ∀ (k : Nat) (ds : List Nat), ds.length = k → (∀ d ∈ ds, d < 16) → hexN ds < 16 ^ k := by
  intro k
  induction k with
  | zero => intro ds h _; rw [List.eq_nil_of_length_eq_zero h]; decide
  | succ k ih =>
    intro ds h hd
    have hne : ds ≠ [] := by intro e; rw [e] at h; simp at h
    rw [← List.dropLast_concat_getLast hne, hexN_push, Nat.pow_succ]
    have h1 := ih ds.dropLast (by simp; omega) (fun d hm => hd d (List.dropLast_subset _ hm))
    have h2 := hd _ (List.getLast_mem hne)
    omega
theorem lower_hex : ∀ n : Nat, n < 256 → (65 ≤ n ∧ n ≤ 70 → bits .or .u8 (n : Int) 32 = (n : Int) + 32) ∧ (97 ≤ n ∧ n ≤ 102 → bits .or .u8 (n : Int) 32 = (n : Int)) := by decide +kernel

set_option maxRecDepth 100000 in
set_option maxHeartbeats 2000000 in
theorem hex_inner (s : Bs) (ds : List Nat) (h4 : s.length = 4) (hd4 : ds.length = 4) (h : ∀ (i : Nat) (c : UInt8), s[i]? = some c → jHex1 c = ds[i]?) (w : World) :
    Calls Tryz.prog 146 #[.string (B s), .int .i64 16, .int .i64 16] w fun e w' => e = .returned (.tuple #[.int .u64 (hexN ds), .nilIface]) ∧ Below w.heap.size w w' := by
  have hds : ∀ d ∈ ds, d < 16 := by
    intro d hd
    obtain ⟨i, hi⟩ := List.mem_iff_getElem?.1 hd
    have hlt := (List.getElem?_eq_some_iff.1 hi).1
    have := h i s[i] (List.getElem?_eq_getElem (by omega))
    rw [hi] at this
    unfold jHex1 at this
    split at this
    · cases this; omega
    · split at this
      · cases this; omega
      · split at this
        · cases this; omega
        · cases this
  obtain ⟨v, w1, hcv, hba, hb1⟩ := str_bytes w s
  obtain ⟨b, off, c, rfl, hbl, hc⟩ : ∃ b off c, v = .slice (some ⟨b, off, none⟩) 4 c ∧ b < w1.heap.size ∧ ∀ (i : Nat) u, s[i]? = some u → w1.cell? ⟨b, off + i, none⟩ = some (.int .u8 u.toNat) := by
    rcases hba with ⟨_, h0⟩ | ⟨b, off, c, e, h1, h2⟩
    · rw [h0] at h4; simp at h4
    · rw [h4] at e; exact ⟨b, off, c, e, h1, h2⟩
  have HB := Lib.hid hb1
  have HC := Lib.hid hc
  have HH := Lib.hid h
  have HD := Lib.hid hds
  have HD4 := Lib.hid hd4
  have HS4 := Lib.hid h4
  have n0 : (s == []) = false := by rw [beq_eq_false_iff_ne]; rintro rfl; simp at h4
  clear hb1 hba hc h hds hd4 h4
  go_enter Tryz.func146, Tryz.ntmps146
  go_wp2
  obtain ⟨K, hK⟩ : ∃ K : Int, K = 1152921504606846976 := ⟨_, rfl⟩
  rw [← hK]
  have hK2 : (4096 : Int) ≤ K := by omega
  clear hK
  go_loop [12, 13, 101] (fun us n i => ∃ k : Nat, k ≤ 4 ∧ us = .bool false ∧ i = .int .i64 k ∧ n = .int .u64 (hexN (ds.take k))) (fun _ _ i => 4 - (intOf i).toNat)
  case atStart => exact ⟨0, by omega, rfl, rfl, rfl⟩
  case round =>
    obtain ⟨k, hk, rfl, rfl, rfl⟩ := hrel
    by_cases hlt : k < 4
    · obtain ⟨u, hu⟩ : ∃ u, s[k]? = some u := ⟨_, List.getElem?_eq_getElem (by have := HS4.out; omega)⟩
      obtain ⟨d, hd⟩ : ∃ d, ds[k]? = some d := ⟨_, List.getElem?_eq_getElem (by have := HD4.out; omega)⟩
      have hj := HH.out k u hu
      rw [hd] at hj
      have hcell := HC.out k u hu
      obtain ⟨n, hn⟩ : ∃ n, n = hexN (ds.take k) := ⟨_, rfl⟩
      have hn1 : n < 4096 := by
        have h1 := hexN_lt k (ds.take k) (by rw [List.length_take]; have := HD4.out; omega) (fun d hm => HD.out d (List.mem_of_mem_take hm))
        have h2 : 16 ^ k ≤ 16 ^ 3 := Nat.pow_le_pow_right (by decide) (by omega)
        have h3 : (16 : Nat) ^ 3 = 4096 := by decide
        omega
      have HN : Hid (hexN (ds.take (k + 1)) = n * 16 + d) := by
        refine Lib.hid ?_
        rw [List.take_succ_eq_append_getElem (by have := HD4.out; omega), hexN_push, hn, (List.getElem?_eq_some_iff.1 hd).2]
      rw [← hn]
      have hcases : (48 ≤ u.toNat ∧ u.toNat ≤ 57 ∧ d = u.toNat - 48) ∨ (97 ≤ u.toNat ∧ u.toNat ≤ 102 ∧ d = u.toNat - 87) ∨ (65 ≤ u.toNat ∧ u.toNat ≤ 70 ∧ d = u.toNat - 55) := by
        unfold jHex1 at hj
        split at hj
        · cases hj; omega
        · split at hj
          · cases hj; omega
          · split at hj
            · cases hj; omega
            · cases hj
      have hlow := lower_hex u.toNat (UInt8.toNat_lt u)
      obtain ⟨c, hc⟩ : ∃ c, c = u.toNat := ⟨_, rfl⟩
      rw [← hc] at hcases hcell hlow
      clear hc hu hd hj hn
      rcases hcases with ⟨c1, c2, hd⟩ | ⟨c1, c2, hd⟩ | ⟨c1, c2, hd⟩
      · have HDC : Hid ((c : Int) - 48 = (d : Int)) := by refine Lib.hid ?_; omega
        have hd16 : d < 16 := by omega
        have f0 : ((c : Int) == 95) = false := by rw [beq_eq_false_iff_ne]; omega
        clear hlow hd
        go_wp2
        go_round
        case rel =>
          refine ⟨k + 1, by omega, rfl, by go_num, ?_⟩
          rw [HN.out]
          congr 1
          have := HDC.out
          omega
        case measure => simp [intOf]; omega
      · have HDC : Hid ((c : Int) - 97 + 10 = (d : Int)) := by refine Lib.hid ?_; omega
        have hd16 : d < 16 := by omega
        have f0 : ((c : Int) == 95) = false := by rw [beq_eq_false_iff_ne]; omega
        have HL : Hid (∀ w, Calls Tryz.prog 166 #[.int .u8 c] w fun e w' => e = .returned (.int .u8 c) ∧ w = w') := fun w => (Tryz.internal_strconv_lower c w).mono fun e w' he => ⟨by rw [he.1, hlow.2 ⟨c1, c2⟩], he.2.symm⟩
        clear hlow hd
        go_wp2_with (go_at_call 166; with_reducible refine (HL.out _).mono ?_; rintro e w' ⟨rfl, rfl⟩)
        go_round
        case rel =>
          refine ⟨k + 1, by omega, rfl, by go_num, ?_⟩
          rw [HN.out]
          congr 1
          have := HDC.out
          omega
        case measure => simp [intOf]; omega
      · have HDC : Hid ((c : Int) + 32 - 97 + 10 = (d : Int)) := by refine Lib.hid ?_; omega
        have hd16 : d < 16 := by omega
        have f0 : ((c : Int) == 95) = false := by rw [beq_eq_false_iff_ne]; omega
        have HL : Hid (∀ w, Calls Tryz.prog 166 #[.int .u8 c] w fun e w' => e = .returned (.int .u8 ((c : Int) + 32)) ∧ w = w') := fun w => (Tryz.internal_strconv_lower c w).mono fun e w' he => ⟨by rw [he.1, hlow.1 ⟨c1, c2⟩], he.2.symm⟩
        clear hlow hd
        go_wp2_with (go_at_call 166; with_reducible refine (HL.out _).mono ?_; rintro e w' ⟨rfl, rfl⟩)
        go_round
        case rel =>
          refine ⟨k + 1, by omega, rfl, by go_num, ?_⟩
          rw [HN.out]
          congr 1
          have := HDC.out
          omega
        case measure => simp [intOf]; omega
    · obtain rfl : k = 4 := by omega
      have e : ds.take 4 = ds := List.take_of_length_le (by have := HD4.out; omega)
      rw [e]
      go_wp2
      go_ret2
      exact ⟨rfl, HB.out⟩
theorem hexN_any (s : Bs) (ds : List Nat) (h4 : s.length = 4) (hd4 : ds.length = 4) (h : ∀ (i : Nat) (c : UInt8), s[i]? = some c → jHex1 c = ds[i]?) (w : World) :
    Calls Tryz.prog 130 #[.string (B s), .int .i64 16, .int .i64 16] w fun e w' => e = .returned (.tuple #[.int .u64 (hexN ds), .nilIface]) ∧ Below w.heap.size w w' := by
  have HI := Lib.hid (hex_inner s ds h4 hd4 h w)
  clear h4 hd4 h
  go_enter Tryz.func130, Tryz.ntmps130
  go_wp2_with (go_at_call 146; with_reducible refine HI.out.mono ?_; rintro e w' ⟨rfl, hb⟩; have HB := Lib.hid hb; clear hb)
  go_ret2
  exact ⟨rfl, HB.out⟩
/-- Four digits that read as a number. -/
theorem hex4_any {a b c d : UInt8} {x : Nat} (h : jHex4 a b c d = some x) (w : World) :
    Calls Tryz.prog 130 #[.string (B [a, b, c, d]), .int .i64 16, .int .i64 16] w fun e w' => e = .returned (.tuple #[.int .u64 x, .nilIface]) ∧ Below w.heap.size w w' := by
  unfold jHex4 at h
  split at h
  · rename_i p q r s h1 h2 h3 h4
    cases h
    have e : ((p * 16 + q) * 16 + r) * 16 + s = hexN [p, q, r, s] := by simp [hexN]
    rw [e]
    refine hexN_any [a, b, c, d] [p, q, r, s] rfl rfl (fun i u hi => ?_) w
    match i, hi with
    | 0, hi => cases hi; exact h1
    | 1, hi => cases hi; exact h2
    | 2, hi => cases hi; exact h3
    | 3, hi => cases hi; exact h4
  · cases h
theorem hex4_lt {a b c d : UInt8} {x : Nat} (h : jHex4 a b c d = some x) : x < 65536 := by
  have h1 : ∀ (c : UInt8) (n : Nat), jHex1 c = some n → n < 16 := by
    intro c n h
    unfold jHex1 at h
    split at h
    · cases h; omega
    · split at h
      · cases h; omega
      · split at h
        · cases h; omega
        · cases h
  unfold jHex4 at h
  split at h
  · rename_i p q r s e1 e2 e3 e4
    cases h
    have := h1 _ _ e1; have := h1 _ _ e2; have := h1 _ _ e3; have := h1 _ _ e4
    omega
  · cases h
/-- utf16.IsSurrogate. -/
def isSurr (x : Nat) : Bool := decide (55296 ≤ x ∧ x < 57344)
set_option maxRecDepth 100000 in
theorem surr_any (x : Nat) (w : World) : Calls Tryz.prog 135 #[.int .i32 x] w fun e w' => e = .returned (.bool (isSurr x)) ∧ w = w' := by
  by_cases h1 : 55296 ≤ x
  · have f1 : decide ((55296 : Int) ≤ (x : Int)) = true := by rw [decide_eq_true_iff]; omega
    by_cases h2 : x < 57344
    · have f2 : decide ((x : Int) < 57344) = true := by rw [decide_eq_true_iff]; omega
      have e : isSurr x = true := decide_eq_true ⟨h1, h2⟩
      rw [e]
      clear e h1 h2
      go_enter Tryz.func135, Tryz.ntmps135
      go_wp2
      go_ret
      exact ⟨rfl, rfl⟩
    · have f2 : decide ((x : Int) < 57344) = false := by rw [decide_eq_false_iff_not]; omega
      have e : isSurr x = false := decide_eq_false (fun h => h2 h.2)
      rw [e]
      clear e h1 h2
      go_enter Tryz.func135, Tryz.ntmps135
      go_wp2
      go_ret
      exact ⟨rfl, rfl⟩
  · have f1 : decide ((55296 : Int) ≤ (x : Int)) = false := by rw [decide_eq_false_iff_not]; omega
    have e : isSurr x = false := decide_eq_false (fun h => h1 h.1)
    rw [e]
    clear e h1
    go_enter Tryz.func135, Tryz.ntmps135
    go_wp2
    go_ret
    exact ⟨rfl, rfl⟩
theorem or_i32 (a b : Nat) (ha : a < 2147483648) (hb : b < 2147483648) : bits .or .i32 (a : Int) (b : Int) = ((a ||| b : Nat) : Int) := by
  have hx : a ||| b < 2 ^ 31 := Nat.or_lt_two_pow (by omega) (by omega)
  have h1 : (BitVec.ofInt 32 (a : Int)).toNat = a := by
    rw [BitVec.ofInt_natCast, BitVec.toNat_ofNat]; exact Nat.mod_eq_of_lt (by omega)
  have h2 : (BitVec.ofInt 32 (b : Int)).toNat = b := by
    rw [BitVec.ofInt_natCast, BitVec.toNat_ofNat]; exact Nat.mod_eq_of_lt (by omega)
  show IntKind.i32.wrap ((BitVec.ofInt 32 (a : Int) ||| BitVec.ofInt 32 (b : Int)).toNat : Int) = _
  rw [BitVec.toNat_or, h1, h2, IntWalk.i32_left, IntWalk.wrap32_in _ (by omega)]
theorem or_pair (p q : Nat) (hp : p < 1024) (hq : q < 1024) : wrap32 (bits .or .i32 (wrap32 ((p : Int) * 1024)) q + 65536) = ((65536 + p * 1024 + q : Nat) : Int) := by
  have e1 : wrap32 ((p : Int) * 1024) = ((p * 1024 : Nat) : Int) := by rw [IntWalk.wrap32_in _ (by omega)]; omega
  have e2 : p * 1024 ||| q = p * 1024 + q := by
    rw [show p * 1024 = 2 ^ 10 * p from by omega]
    exact (Nat.two_pow_add_eq_or_of_lt (i := 10) (b := q) (by omega) p).symm
  rw [e1, or_i32 _ _ (by omega) (by omega), e2, IntWalk.wrap32_in _ (by omega)]
  omega
set_option maxRecDepth 100000 in
/-- utf16.DecodeRune of two halves. -/
theorem pair_any (x y : Nat) (h1 : 55296 ≤ x) (h2 : x < 56320) (h3 : 56320 ≤ y) (h4 : y < 57344) (w : World) :
    Calls Tryz.prog 136 #[.int .i32 x, .int .i32 y] w fun e w' => e = .returned (.int .i32 ((65536 + (x - 55296) * 1024 + (y - 56320) : Nat) : Int)) ∧ w = w' := by
  have f1 : decide ((55296 : Int) ≤ (x : Int)) = true := by rw [decide_eq_true_iff]; omega
  have f2 : decide ((x : Int) < 56320) = true := by rw [decide_eq_true_iff]; omega
  have f3 : decide ((56320 : Int) ≤ (y : Int)) = true := by rw [decide_eq_true_iff]; omega
  have f4 : decide ((y : Int) < 57344) = true := by rw [decide_eq_true_iff]; omega
  obtain ⟨p, hp⟩ : ∃ p : Nat, (x : Int) - 55296 = p ∧ p < 1024 := ⟨x - 55296, by omega, by omega⟩
  obtain ⟨q, hq⟩ : ∃ q : Nat, (y : Int) - 56320 = q ∧ q < 1024 := ⟨y - 56320, by omega, by omega⟩
  have g1 : IntKind.i32.wrap ((x : Int) - 55296) = p := by rw [hp.1]; simp [IntKind.wrap, IntKind.signed, IntKind.bits]; omega
  have g2 : IntKind.i32.wrap ((y : Int) - 56320) = q := by rw [hq.1]; simp [IntKind.wrap, IntKind.signed, IntKind.bits]; omega
  have HP := Lib.hid hp
  have HQ := Lib.hid hq
  clear h1 h2 h3 h4 hp hq
  go_enter Tryz.func136, Tryz.ntmps136
  go_wp2
  rw [or_pair p q HP.out.2 HQ.out.2]
  have e : 65536 + p * 1024 + q = 65536 + (x - 55296) * 1024 + (y - 56320) := by
    have h1 := HP.out.1
    have h2 := HQ.out.1
    omega
  rw [e]
  go_ret
  exact ⟨rfl, rfl⟩
end Go.Proofs.YtppkpcijmfdfmaaGreatDoor

/- Bytes that a call owns, in a row that a conversion laid; appends to them. -/
namespace Go.Proofs.YtppkpcijmfdfmaaGreatDoor
open Go.RowKit

def byteV (l : Bs) : List Value := l.map fun u => .int .u8 u.toNat
theorem byteV_length (l : Bs) : (byteV l).length = l.length := by simp [byteV]
theorem byteV_cell (l : Bs) : ∀ u ∈ byteV l, u.oneCell' = true := by
  intro u hu
  obtain ⟨_, _, rfl⟩ := List.mem_map.1 hu
  rfl
theorem byteV_get {l : Bs} {j : Nat} {v : Value} (h : (byteV l)[j]? = some v) : ∃ u, l[j]? = some u ∧ v = .int .u8 u.toNat := by
  unfold byteV at h
  rw [List.getElem?_map, Option.map_eq_some_iff] at h
  obtain ⟨s, h1, h2⟩ := h
  exact ⟨s, h1, h2.symm⟩
theorem byteV_at {l : Bs} {j : Nat} {u : UInt8} (h : l[j]? = some u) : (byteV l)[j]? = some (.int .u8 u.toNat) := by
  unfold byteV
  rw [List.getElem?_map, h]
  rfl
/-- Bytes of a call's own. -/
structure OwnC (base : Nat) (w : World) (g cap : Nat) (l : Bs) : Prop where
  base : base ≤ g
  lt : g < w.heap.size
  len : l.length ≤ cap
  there : ∀ j, j < cap → (w.cell? ⟨g, j, none⟩).isSome = true ∧ w.frozen? ⟨g, j, none⟩ = false
  cells : ∀ (i : Nat) u, l[i]? = some u → w.cell? ⟨g, i, none⟩ = some (.int .u8 u.toNat)
theorem OwnC.below {base : Nat} {w w' : World} {g cap : Nat} {l : Bs} (h : OwnC base w g cap l) (hb : Below w.heap.size w w') : OwnC base w' g cap l :=
  ⟨h.base, Nat.lt_of_lt_of_le h.lt hb.size, h.len, fun j hj => ⟨by rw [hb.cell (p := ⟨g, j, none⟩) h.lt]; exact (h.there j hj).1, by rw [hb.frozen (p := ⟨g, j, none⟩) h.lt]; exact (h.there j hj).2⟩,
    fun i u hu => (hb.cell (p := ⟨g, i, none⟩) h.lt).trans (h.cells i u hu)⟩
theorem OwnC.ba {base : Nat} {w : World} {g cap : Nat} {l : Bs} (h : OwnC base w g cap l) : BA w (.slice (some ⟨g, 0, none⟩) l.length cap) l :=
  Or.inr ⟨g, 0, cap, rfl, h.lt, fun i u hu => by rw [Nat.zero_add]; exact h.cells i u hu⟩
theorem OwnC.take {base : Nat} {w : World} {g cap : Nat} {l m : Bs} (h : OwnC base w g cap (l ++ m)) : OwnC base w g cap l :=
  ⟨h.base, h.lt, by have := h.len; rw [List.length_append] at this; omega, h.there, fun i u hu => h.cells i u (by rw [List.getElem?_append_left (List.getElem?_eq_some_iff.1 hu).1]; exact hu)⟩
theorem size_setCells (b : Nat) : ∀ (vs : List Value) (o : Nat) (w : World), (w.setCells b o vs).heap.size = w.heap.size
  | [], _, _ => rfl
  | v :: vs, o, w => by
    rw [World.setCells, size_setCells b vs]
    simp
theorem append_bytes {w : World} {base g cap : Nat} {l : Bs} (ty tx : TypeId) (h : OwnC base w g cap l) {x : Value} {m : Bs} (hs : Src Tryz.prog 1 tx x m.length (byteV m) w) (hl : l.length + m.length < 100000000000) (hb : base ≤ w.heap.size) :
    ∃ g' cap' w', (Builtin.append_ #[27, tx] ty #[.slice (some ⟨g, 0, none⟩) l.length cap, x]).run Tryz.prog w = .ok (.slice (some ⟨g', 0, none⟩) (l.length + m.length) cap') w' ∧ OwnC base w' g' cap' (l ++ m) ∧ Below base w w' := by
  obtain ⟨i, hi, hz, hsz, hby⟩ := info_parts info5
  by_cases hroom : l.length + m.length ≤ cap
  · have hc : ∀ j, j < (byteV m).length → (w.cell? ⟨g, 0 + l.length * i.size + j, none⟩).isSome = true := fun j hj => by
      rw [byteV_length] at hj; rw [hsz]; exact (h.there _ (by omega)).1
    have hr := run_append_room_src (P := Tryz.prog) w 27 tx ty 5 i Tryz.underlying27 hi g 0 l.length cap x m.length (byteV m) (by rw [hsz]; exact hs) hroom hc (fun j hj => by
      rw [byteV_length] at hj; rw [hsz]; exact (h.there _ (by omega)).2)
    rw [hsz] at hr hc
    refine ⟨g, cap, _, hr, ⟨h.base, by rw [size_setCells]; exact h.lt, by rw [List.length_append]; exact hroom, fun j hj => ⟨World.isSome_setCells _ _ _ _ _ (h.there j hj).1, by rw [World.frozen?_setCells]; exact (h.there j hj).2⟩, fun i u hu => ?_⟩, Lib.below_setCells g h.base _ _ (Below.refl _ _)⟩
    by_cases hil : i < l.length
    · rw [List.getElem?_append_left hil] at hu
      rw [World.cell?_setCells_out _ _ _ _ _ (fun _ _ => Or.inl (by show i < _; omega))]
      exact h.cells i u hu
    · rw [List.getElem?_append_right (by omega)] at hu
      have hlt := (List.getElem?_eq_some_iff.1 hu).1
      have hin := World.cell?_setCells_in g (byteV m) (0 + l.length * 1) w hc (i - l.length) (by rw [byteV_length]; exact hlt)
      have e : 0 + l.length * 1 + (i - l.length) = i := by omega
      rw [e] at hin
      rw [hin]
      have := byteV_at hu
      exact (List.getElem?_eq_getElem (by rw [byteV_length]; exact hlt)).symm.trans this |> fun z => z
  · have hold : (Builtin.firstCells i.size l.length (.slice (some ⟨g, 0, none⟩) l.length cap)).run Tryz.prog w.drew = .ok (byteV l).toArray w.drew :=
      run_firstCells_some w.drew i.size l.length ⟨g, 0, none⟩ l.length cap (byteV l) (by rw [hsz, byteV_length, Nat.mul_one]) (fun j v hj => by
        obtain ⟨u, hu, rfl⟩ := byteV_get hj
        rw [show (⟨g, 0, none⟩ : Addr).add j = ⟨g, 0 + j, none⟩ from Addr.add_lit _ _ _, Nat.zero_add]
        exact h.cells j u hu)
    have hr := run_append_grow_src (P := Tryz.prog) w 27 tx ty 5 i _ Tryz.underlying27 hi hz (some ⟨g, 0, none⟩) l.length cap (byteV l) hold x m.length (byteV m) (by rw [hsz]; exact hs) (by omega) (by omega)
      (growslice_fits (by omega) (by rw [hby]; omega))
    have hgc := grownCap_ge w (l.length + m.length) cap 5
    generalize grownCap w (l.length + m.length) cap 5 = cp at hr hgc
    have hw := heap_alloc_new w.drew (.cells ((byteV l ++ byteV m).toArray ++ Builtin.zeroCells (Value.int .u8 0).cells (cp - (l.length + m.length))) 5)
    have hsize : ((byteV l ++ byteV m).toArray ++ Builtin.zeroCells (Value.int .u8 0).cells (cp - (l.length + m.length))).size = cp := by
      have : (Builtin.zeroCells (Value.int .u8 0).cells (cp - (l.length + m.length))).size = cp - (l.length + m.length) := by
        simp [Builtin.zeroCells]
        show _ * 1 = _
        omega
      rw [Array.size_append, this, List.size_toArray, List.length_append, byteV_length, byteV_length]
      omega
    refine ⟨w.heap.size, cp, _, hr, ⟨hb, by simp, by rw [List.length_append]; exact hgc, fun j hj => ⟨?_, ?_⟩, fun i u hu => ?_⟩, ((Below.refl _ _).drew.alloc hb _)⟩
    · have hc := cell_of_row _ w.heap.size j _ _ _ hw
      refine Option.isSome_iff_ne_none.2 ?_
      rw [hc]
      intro e
      rw [Array.getElem?_eq_none_iff, hsize] at e
      omega
    · unfold World.frozen?
      rw [show (World.alloc w.drew (.cells ((byteV l ++ byteV m).toArray ++ Builtin.zeroCells (Value.int .u8 0).cells (cp - (l.length + m.length))) 5)).heap[(⟨w.heap.size, j, none⟩ : Addr).block]? = _ from hw]
      simp
    · have hc := cell_of_row _ w.heap.size i _ _ _ hw
      refine hc.trans ?_
      have hlt : i < (l ++ m).length := (List.getElem?_eq_some_iff.1 hu).1
      have e : byteV l ++ byteV m = byteV (l ++ m) := by simp [byteV]
      rw [e, Array.getElem?_append_left (by rw [List.size_toArray, byteV_length]; exact hlt), List.getElem?_toArray]
      exact byteV_at hu
theorem wpList_append_bytes {w : World} {ops : Array Oper} {rest : List Oper} {o : Oper} {a : Act} {Q : Exit → Act → World → Prop} (hgd : o.guard = none) (s x : Operand) (tx : TypeId)
    (ho : o.op = .call { callee := .builtin .append, args := #[s, x], argTypes := #[27, tx] }) {base g cap : Nat} {l : Bs} (h : OwnC base w g cap l) (n : Nat) (hn : l.length = n) (hs : a.eval s = .slice (some ⟨g, 0, none⟩) n cap) (v : Value) (hx : a.eval x = v) (m : Bs)
    (hsrc : Src Tryz.prog 1 tx v m.length (byteV m) w) (hl : n + m.length < 100000000000) (hb : base ≤ w.heap.size)
    (hK : ∀ g' cap' w', OwnC base w' g' cap' (l ++ m) → Below base w w' → wpList Tryz.prog ops Q rest (a.put o.dst (.slice (some ⟨g', 0, none⟩) (n + m.length) cap')) w') : wpList Tryz.prog ops Q (o :: rest) a w := by
  subst hn
  obtain ⟨g', cap', w', h1, h2, h3⟩ := append_bytes o.type tx h hsrc hl hb
  exact Lib.wpList_append_run w hgd s x 27 tx ho _ _ hs hx _ _ h1 (hK g' cap' w' h2 h3)
theorem src_str (w : World) (m : Bs) : Src Tryz.prog 1 9 (.string (B m)) m.length (byteV m) w := by
  have h := Src.ofString w Tryz.underlying9 (B m)
  rw [B_size] at h
  exact h
theorem src_one (w : World) (u : UInt8) (n : Int) (hn : n = u.toNat) : Src Tryz.prog 1 27 (.slice (some ⟨w.heap.size, 0, none⟩) 1 1) [u].length (byteV [u]) (w.alloc (.cells #[.int .u8 n] 5)) := by
  refine Src.ofSlice _ Tryz.underlying27 ⟨w.heap.size, 0, none⟩ 1 1 _ rfl (fun j v hj => ?_) (byteV_cell _)
  match j, hj with
  | 0, hj =>
    cases hj
    rw [Addr.add_lit]
    have hw := heap_alloc_new w (.cells #[Value.int .u8 n] 5)
    rw [cell_of_row _ w.heap.size 0 _ _ _ hw, hn]
    rfl
end Go.Proofs.YtppkpcijmfdfmaaGreatDoor

/- The walk of unescapeStringBestEffort: a raw text whose escapes are well formed is what it reads as. -/
namespace Go.Proofs.YtppkpcijmfdfmaaGreatDoor
open Go.RowKit
attribute [local go_sem] B_size B_get B_lit B_ext_to B_ext B_toList B_app

theorem jUn_app : ∀ (a s : Bs), (92 : UInt8) ∉ a → jUn (a ++ s) = (jUn s).map (a ++ ·)
  | [], s, _ => by simp
  | c :: a, s, h => by
    have h1 : c ≠ 92 := fun e => h (by simp [e])
    have h2 := jUn_app a s (fun hm => h (by simp [hm]))
    rw [List.cons_append, jUn_cons _ h1, h2, Option.map_map]
    rfl
theorem uHex_out {s o t : Bs} (h : uHex s = some (o, t)) : o.length ≤ 4 := by
  unfold uHex at h
  split at h
  · split at h
    · cases h
    · split at h
      · simp only [Option.some.injEq, Prod.mk.injEq] at h; obtain ⟨rfl, _⟩ := h; exact jEnc_length _
      · split at h
        · split at h
          · split at h
            · cases h
            · split at h
              · simp only [Option.some.injEq, Prod.mk.injEq] at h; obtain ⟨rfl, _⟩ := h; exact jEnc_length _
              · cases h
          · cases h
        · cases h
  · cases h
theorem uStep_out {s o t : Bs} (h : uStep s = some (o, t)) : o.length ≤ 4 := by
  unfold uStep at h
  split at h
  · cases h
  · split at h
    · cases h; simp
    · split at h
      · exact uHex_out h
      · cases h
theorem jUn_out (n : Nat) : ∀ s o : Bs, s.length ≤ n → jUn s = some o → o.length ≤ 4 * s.length := by
  induction n with
  | zero =>
    intro s o hs h
    obtain rfl : s = [] := List.eq_nil_of_length_eq_zero (by omega)
    rw [jUn_nil] at h
    cases h
    simp
  | succ n ih =>
    intro s o hs h
    cases s with
    | nil => rw [jUn_nil] at h; cases h; simp
    | cons c r =>
      simp only [List.length_cons] at hs ⊢
      by_cases hc : c = 92
      · subst hc
        cases hu : uStep r with
        | none => rw [jUn_bad hu] at h; cases h
        | some p =>
          obtain ⟨x, t⟩ := p
          rw [jUn_esc hu, Option.map_eq_some_iff] at h
          obtain ⟨y, hy, rfl⟩ := h
          have h1 := uStep_len hu
          have h2 := uStep_out hu
          have h3 := ih t y (by omega) hy
          rw [List.length_append]
          omega
      · rw [jUn_cons _ hc, Option.map_eq_some_iff] at h
        obtain ⟨y, hy, rfl⟩ := h
        have h3 := ih r y (by omega) hy
        simp only [List.length_cons]
        omega

/-- A text as bytes of one's own. -/
def S2R (w : World) (q : Bs) (e : Ending) (w' : World) : Prop := ∃ g cap, e = .returned (.slice (some ⟨g, 0, none⟩) q.length cap) ∧ OwnC w.heap.size w' g cap q ∧ Below w.heap.size w w'
theorem s2b_own (w : World) (q : Bs) : S2R w q (.returned (.slice (some ⟨w.heap.size, 0, none⟩) q.length (grownCap w q.length 0 5))) (Lib.bytesWorld w 5 (B q)) := by
  have hsz : (Lib.bytesCells w 5 (B q)).size = grownCap w q.length 0 5 := by
    have := grownCap_ge w q.length 0 5
    unfold Lib.bytesCells
    rw [Array.size_append, Array.size_map, Array.size_replicate, B_size]
    have e : (B q).data.size = q.length := B_size q
    omega
  have hat := Lib.bytesWorld_at_new w 5 (B q)
  refine ⟨w.heap.size, _, rfl, ⟨Nat.le_refl _, by rw [Lib.bytesWorld_size]; omega, grownCap_ge w q.length 0 5, fun j hj => ⟨?_, ?_⟩, fun i u hu => ?_⟩, ⟨rfl, rfl, rfl, by rw [Lib.bytesWorld_size]; omega, fun k hk => Lib.bytesWorld_at_old _ _ _ _ hk⟩⟩
  · have hc := cell_of_row _ w.heap.size j _ _ _ hat
    rw [hc]
    refine Option.isSome_iff_ne_none.2 fun e => ?_
    rw [Array.getElem?_eq_none_iff, hsz] at e
    omega
  · unfold World.frozen?
    rw [show (Lib.bytesWorld w 5 (B q)).heap[(⟨w.heap.size, j, none⟩ : Addr).block]? = _ from hat, hsz]
    simp
    omega
  · have hlt : i < (B q).size := by rw [B_size]; exact (List.getElem?_eq_some_iff.1 hu).1
    rw [Lib.bytesWorld_cell _ _ _ _ hlt, B_data, List.getD, hu]
    rfl
theorem s2b_row (q : Bs) (w : World) : Calls Tryz.prog 112 #[.string (B q)] w (S2R w q) := by
  have hcv := Lib.run_convert_string_bytes (P := Tryz.prog) w 9 27 5 (B q) Tryz.underlying9 Tryz.underlying27 Tryz.underlying5
  have HR := Lib.hid (s2b_own w q)
  rw [B_size] at hcv
  generalize grownCap w q.length 0 5 = c at hcv HR
  generalize Lib.bytesWorld w 5 (B q) = w1 at hcv HR
  go_enter Tryz.func112, Tryz.ntmps112
  go_wp2
  go_ret
  exact HR.out

/-- What a step may be. -/
theorem step_cases {ch : UInt8} {r o t : Bs} (h : uStep (ch :: r) = some (o, t)) :
    (ch = 34 ∧ o = [34] ∧ t = r) ∨ (ch = 92 ∧ o = [92] ∧ t = r) ∨ (ch = 47 ∧ o = [47] ∧ t = r) ∨ (ch = 98 ∧ o = [8] ∧ t = r) ∨ (ch = 102 ∧ o = [12] ∧ t = r) ∨ (ch = 110 ∧ o = [10] ∧ t = r) ∨ (ch = 114 ∧ o = [13] ∧ t = r) ∨ (ch = 116 ∧ o = [9] ∧ t = r) ∨
    (ch = 117 ∧ ∃ a b c d x, r = a :: b :: c :: d :: t ∧ jHex4 a b c d = some x ∧ (x < 55296 ∨ 57344 ≤ x) ∧ o = jEnc x) ∨
    (ch = 117 ∧ ∃ a b c d a2 b2 c2 d2 x y, r = a :: b :: c :: d :: 92 :: 117 :: a2 :: b2 :: c2 :: d2 :: t ∧ jHex4 a b c d = some x ∧ jHex4 a2 b2 c2 d2 = some y ∧ 55296 ≤ x ∧ x < 56320 ∧ 56320 ≤ y ∧ y < 57344 ∧ o = jEnc (65536 + (x - 55296) * 1024 + (y - 56320))) := by
  unfold uStep at h
  simp only at h
  split at h
  · rename_i u hu
    simp only [Option.some.injEq, Prod.mk.injEq] at h
    obtain ⟨rfl, rfl⟩ := h
    unfold uShort at hu
    repeat' split at hu
    all_goals first
      | (cases hu; subst_vars; simp)
      | cases hu
  · split at h
    · rename_i he
      subst he
      unfold uHex at h
      split at h
      · rename_i a b c d r2
        split at h
        · cases h
        · rename_i x hx
          split at h
          · rename_i hns
            simp only [Option.some.injEq, Prod.mk.injEq] at h
            obtain ⟨rfl, rfl⟩ := h
            refine Or.inr (Or.inr (Or.inr (Or.inr (Or.inr (Or.inr (Or.inr (Or.inr (Or.inl ⟨rfl, a, b, c, d, x, rfl, hx, hns, rfl⟩))))))))
          · rename_i hns
            split at h
            · rename_i p q a2 b2 c2 d2 t2
              split at h
              · rename_i hpq
                obtain ⟨rfl, rfl⟩ := hpq
                split at h
                · cases h
                · rename_i y hy
                  split at h
                  · rename_i hs
                    simp only [Option.some.injEq, Prod.mk.injEq] at h
                    obtain ⟨rfl, rfl⟩ := h
                    refine Or.inr (Or.inr (Or.inr (Or.inr (Or.inr (Or.inr (Or.inr (Or.inr (Or.inr ⟨rfl, a, b, c, d, a2, b2, c2, d2, x, y, rfl, hx, hy, by omega, hs.1, hs.2.1, hs.2.2, rfl⟩))))))))
                  · cases h
              · cases h
            · cases h
      · cases h
    · cases h
/-- What is written, and what is left behind a reverse solidus. -/
structure UnSt (out : Bs) (base : Nat) (w : World) (r l : Bs) (g cap : Nat) (wr : World) : Prop where
  own : OwnC base wr g cap l
  below : Below base w wr
  eq : (jUn (92 :: r)).map (l ++ ·) = some out

set_option maxRecDepth 100000 in
set_option maxHeartbeats 8000000 in
theorem un_esc (q out : Bs) (h : jUn q = some out) (hl : q.length < 4294967296) (he : (92 : UInt8) ∈ q) (w : World) :
    Calls Tryz.prog 119 #[.string (B q)] w fun e w' => e = .returned (.string (B out)) ∧ Below w.heap.size w w' := by
  have HI := Lib.hid (index_esc_some q he w)
  have HO : Hid (out.length ≤ 17179869184) := by
    have := jUn_out _ q out (Nat.le_refl _) h
    refine Lib.hid ?_
    omega
  have HQ := Lib.hid h
  have HS := Lib.hid (fun w => s2b_row q w)
  clear h he
  go_enter Tryz.func119, Tryz.ntmps119
  go_wp2_with (go_at_call 131; with_reducible refine HI.out.mono ?_; rintro e w' ⟨rfl, a, r, hq, ha, rfl⟩; have hneg : decide ((a.length : Int) < 0) = false := by simp)
  have HA : Hid ((92 : UInt8) ∉ a) := ha
  clear ha
  subst hq
  have hql : (a ++ 92 :: r).length = a.length + r.length + 1 := by simp; omega
  rw [hql] at hl
  have HQL := Lib.hid hql
  clear hql
  go_wp2_with (fail)
  refine (HS.out w).mono ?_
  rintro e w2 ⟨g, cap, rfl, hown, hb⟩
  have hcap : a.length + r.length + 1 ≤ cap := by have := hown.len; rw [HQL.out] at this; exact this
  have HOWN := Lib.hid hown
  have HB := Lib.hid hb
  rw [HQL.out]
  clear hown hb
  have c1 : (a.length : Int) ≤ (cap : Int) := by omega
  have c2 : (a.length : Int) ≤ (a.length : Int) + ((r.length : Int) + 1) := by omega
  go_wp2
  have hdr : List.drop (a.length + 1) (List.take (a.length + (r.length + 1)) (a ++ 92 :: r)) = r := by
    have e : a ++ 92 :: r = (a ++ [92]) ++ r := by simp
    rw [List.take_of_length_le (by simp), e]
    exact List.drop_left' (by simp)
  rw [hdr]
  clear hdr
  have HST : Hid (UnSt out w.heap.size w r a g cap w2) := by
    refine ⟨OwnC.take HOWN.out, HB.out, ?_⟩
    rw [← jUn_app a _ HA.out]
    exact HQ.out
  have hrl : r.length < 4294967296 := by omega
  clear HS HI HQL HOWN HB hcap c1 c2 hneg HQ HA hl
  go_loopw [0, 4] (fun sv bv wr => ∃ (r l : Bs) (g cap : Nat), Hid (UnSt out w.heap.size w r l g cap wr) ∧ r.length < 4294967296 ∧ sv = .string (B r) ∧ bv = .slice (some ⟨g, 0, none⟩) l.length cap) (fun sv _ _ => match sv with | .string s => s.size | _ => 0)
  case atStart => exact ⟨r, a, g, cap, HST, hrl, rfl, rfl⟩
  case round =>
    clear HST hrl
    obtain ⟨r, l, g, cap, HS, hrl, rfl, rfl⟩ := hrel
    obtain ⟨ch, r1, rfl⟩ : ∃ ch r1, r = ch :: r1 := by
      cases r with
      | nil =>
        have := HS.out.eq
        rw [jUn_bad rfl] at this
        cases this
      | cons c r1 => exact ⟨c, r1, rfl⟩
    obtain ⟨o, t, hst⟩ : ∃ o t, uStep (ch :: r1) = some (o, t) := by
      cases hu : uStep (ch :: r1) with
      | none =>
        have := HS.out.eq
        rw [jUn_bad hu] at this
        cases this
      | some p => exact ⟨p.1, p.2, rfl⟩
    have HEQ : Hid ((jUn t).map ((l ++ o) ++ ·) = some out) := by
      have := HS.out.eq
      rw [jUn_esc hst, Option.map_map] at this
      refine Lib.hid ?_
      rw [← this]
      congr 1
      funext z
      simp
    have htl := uStep_len hst
    simp only [List.length_cons] at htl hrl
    have hlo : (l ++ o).length ≤ 17179869184 := by
      have h1 := HEQ.out
      rw [Option.map_eq_some_iff] at h1
      obtain ⟨y, _, hy⟩ := h1
      have h2 := HO.out
      rw [← hy] at h2
      simp only [List.length_append] at h2 ⊢
      omega
    have hsz := HS.out.below.size
    go_upto_block 2 with (fail)
    go_cut [0, 4] from 25 to 163 (fun sv bv wx => ∃ g cap : Nat, Hid (OwnC w.heap.size wx g cap (l ++ o) ∧ Below w.heap.size w wx) ∧ sv = .string (B t) ∧ bv = .slice (some ⟨g, 0, none⟩) (l ++ o).length cap)
    case first =>
      have hl0 : l.length ≤ 17179869184 := by rw [List.length_append] at hlo; omega
      have hsc := step_cases hst
      clear hst htl
      rcases hsc with ⟨rfl, rfl, rfl⟩ | ⟨rfl, rfl, rfl⟩ | ⟨rfl, rfl, rfl⟩ | ⟨rfl, rfl, rfl⟩ | ⟨rfl, rfl, rfl⟩ | ⟨rfl, rfl, rfl⟩ | ⟨rfl, rfl, rfl⟩ | ⟨rfl, rfl, rfl⟩ | hu | hu
      · have HOX : Hid (OwnC w.heap.size (wr.alloc (.cells #[.int .u8 34] 5)) g cap l ∧ Below w.heap.size w (wr.alloc (.cells #[.int .u8 34] 5))) := ⟨HS.out.own.below ((Below.refl _ _).alloc (Nat.le_refl _) _), HS.out.below.alloc hsz _⟩
        have hs5 : w.heap.size ≤ (wr.alloc (.cells #[.int .u8 34] 5)).heap.size := HOX.out.2.size
        go_wp2_with (at_builtin; refine wpList_append_bytes rfl (.tmp 39) (.tmp 40) 27 rfl HOX.out.1 l.length rfl rfl _ rfl [34] (src_one wr 34 34 rfl) (by simp only [List.length_cons, List.length_nil]; omega) hs5 ?_)
        intro g2 cap2 w2 hown2 hb2
        have H2 : Hid (OwnC w.heap.size w2 g2 cap2 (l ++ [34]) ∧ Below w.heap.size w w2) := ⟨hown2, HOX.out.2.trans hb2⟩
        clear hown2 hb2
        go_wp2
        go_meet
        exact ⟨g2, cap2, H2, rfl, by rw [List.length_append]; rfl⟩
      · have HOX : Hid (OwnC w.heap.size (wr.alloc (.cells #[.int .u8 92] 5)) g cap l ∧ Below w.heap.size w (wr.alloc (.cells #[.int .u8 92] 5))) := ⟨HS.out.own.below ((Below.refl _ _).alloc (Nat.le_refl _) _), HS.out.below.alloc hsz _⟩
        have hs5 : w.heap.size ≤ (wr.alloc (.cells #[.int .u8 92] 5)).heap.size := HOX.out.2.size
        go_wp2_with (at_builtin; refine wpList_append_bytes rfl (.tmp 44) (.tmp 45) 27 rfl HOX.out.1 l.length rfl rfl _ rfl [92] (src_one wr 92 92 rfl) (by simp only [List.length_cons, List.length_nil]; omega) hs5 ?_)
        intro g2 cap2 w2 hown2 hb2
        have H2 : Hid (OwnC w.heap.size w2 g2 cap2 (l ++ [92]) ∧ Below w.heap.size w w2) := ⟨hown2, HOX.out.2.trans hb2⟩
        clear hown2 hb2
        go_wp2
        go_meet
        exact ⟨g2, cap2, H2, rfl, by rw [List.length_append]; rfl⟩
      · have HOX : Hid (OwnC w.heap.size (wr.alloc (.cells #[.int .u8 47] 5)) g cap l ∧ Below w.heap.size w (wr.alloc (.cells #[.int .u8 47] 5))) := ⟨HS.out.own.below ((Below.refl _ _).alloc (Nat.le_refl _) _), HS.out.below.alloc hsz _⟩
        have hs5 : w.heap.size ≤ (wr.alloc (.cells #[.int .u8 47] 5)).heap.size := HOX.out.2.size
        go_wp2_with (at_builtin; refine wpList_append_bytes rfl (.tmp 49) (.tmp 50) 27 rfl HOX.out.1 l.length rfl rfl _ rfl [47] (src_one wr 47 47 rfl) (by simp only [List.length_cons, List.length_nil]; omega) hs5 ?_)
        intro g2 cap2 w2 hown2 hb2
        have H2 : Hid (OwnC w.heap.size w2 g2 cap2 (l ++ [47]) ∧ Below w.heap.size w w2) := ⟨hown2, HOX.out.2.trans hb2⟩
        clear hown2 hb2
        go_wp2
        go_meet
        exact ⟨g2, cap2, H2, rfl, by rw [List.length_append]; rfl⟩
      · have HOX : Hid (OwnC w.heap.size (wr.alloc (.cells #[.int .u8 8] 5)) g cap l ∧ Below w.heap.size w (wr.alloc (.cells #[.int .u8 8] 5))) := ⟨HS.out.own.below ((Below.refl _ _).alloc (Nat.le_refl _) _), HS.out.below.alloc hsz _⟩
        have hs5 : w.heap.size ≤ (wr.alloc (.cells #[.int .u8 8] 5)).heap.size := HOX.out.2.size
        go_wp2_with (at_builtin; refine wpList_append_bytes rfl (.tmp 54) (.tmp 55) 27 rfl HOX.out.1 l.length rfl rfl _ rfl [8] (src_one wr 8 8 rfl) (by simp only [List.length_cons, List.length_nil]; omega) hs5 ?_)
        intro g2 cap2 w2 hown2 hb2
        have H2 : Hid (OwnC w.heap.size w2 g2 cap2 (l ++ [8]) ∧ Below w.heap.size w w2) := ⟨hown2, HOX.out.2.trans hb2⟩
        clear hown2 hb2
        go_wp2
        go_meet
        exact ⟨g2, cap2, H2, rfl, by rw [List.length_append]; rfl⟩
      · have HOX : Hid (OwnC w.heap.size (wr.alloc (.cells #[.int .u8 12] 5)) g cap l ∧ Below w.heap.size w (wr.alloc (.cells #[.int .u8 12] 5))) := ⟨HS.out.own.below ((Below.refl _ _).alloc (Nat.le_refl _) _), HS.out.below.alloc hsz _⟩
        have hs5 : w.heap.size ≤ (wr.alloc (.cells #[.int .u8 12] 5)).heap.size := HOX.out.2.size
        go_wp2_with (at_builtin; refine wpList_append_bytes rfl (.tmp 59) (.tmp 60) 27 rfl HOX.out.1 l.length rfl rfl _ rfl [12] (src_one wr 12 12 rfl) (by simp only [List.length_cons, List.length_nil]; omega) hs5 ?_)
        intro g2 cap2 w2 hown2 hb2
        have H2 : Hid (OwnC w.heap.size w2 g2 cap2 (l ++ [12]) ∧ Below w.heap.size w w2) := ⟨hown2, HOX.out.2.trans hb2⟩
        clear hown2 hb2
        go_wp2
        go_meet
        exact ⟨g2, cap2, H2, rfl, by rw [List.length_append]; rfl⟩
      · have HOX : Hid (OwnC w.heap.size (wr.alloc (.cells #[.int .u8 10] 5)) g cap l ∧ Below w.heap.size w (wr.alloc (.cells #[.int .u8 10] 5))) := ⟨HS.out.own.below ((Below.refl _ _).alloc (Nat.le_refl _) _), HS.out.below.alloc hsz _⟩
        have hs5 : w.heap.size ≤ (wr.alloc (.cells #[.int .u8 10] 5)).heap.size := HOX.out.2.size
        go_wp2_with (at_builtin; refine wpList_append_bytes rfl (.tmp 64) (.tmp 65) 27 rfl HOX.out.1 l.length rfl rfl _ rfl [10] (src_one wr 10 10 rfl) (by simp only [List.length_cons, List.length_nil]; omega) hs5 ?_)
        intro g2 cap2 w2 hown2 hb2
        have H2 : Hid (OwnC w.heap.size w2 g2 cap2 (l ++ [10]) ∧ Below w.heap.size w w2) := ⟨hown2, HOX.out.2.trans hb2⟩
        clear hown2 hb2
        go_wp2
        go_meet
        exact ⟨g2, cap2, H2, rfl, by rw [List.length_append]; rfl⟩
      · have HOX : Hid (OwnC w.heap.size (wr.alloc (.cells #[.int .u8 13] 5)) g cap l ∧ Below w.heap.size w (wr.alloc (.cells #[.int .u8 13] 5))) := ⟨HS.out.own.below ((Below.refl _ _).alloc (Nat.le_refl _) _), HS.out.below.alloc hsz _⟩
        have hs5 : w.heap.size ≤ (wr.alloc (.cells #[.int .u8 13] 5)).heap.size := HOX.out.2.size
        go_wp2_with (at_builtin; refine wpList_append_bytes rfl (.tmp 69) (.tmp 70) 27 rfl HOX.out.1 l.length rfl rfl _ rfl [13] (src_one wr 13 13 rfl) (by simp only [List.length_cons, List.length_nil]; omega) hs5 ?_)
        intro g2 cap2 w2 hown2 hb2
        have H2 : Hid (OwnC w.heap.size w2 g2 cap2 (l ++ [13]) ∧ Below w.heap.size w w2) := ⟨hown2, HOX.out.2.trans hb2⟩
        clear hown2 hb2
        go_wp2
        go_meet
        exact ⟨g2, cap2, H2, rfl, by rw [List.length_append]; rfl⟩
      · have HOX : Hid (OwnC w.heap.size (wr.alloc (.cells #[.int .u8 9] 5)) g cap l ∧ Below w.heap.size w (wr.alloc (.cells #[.int .u8 9] 5))) := ⟨HS.out.own.below ((Below.refl _ _).alloc (Nat.le_refl _) _), HS.out.below.alloc hsz _⟩
        have hs5 : w.heap.size ≤ (wr.alloc (.cells #[.int .u8 9] 5)).heap.size := HOX.out.2.size
        go_wp2_with (at_builtin; refine wpList_append_bytes rfl (.tmp 74) (.tmp 75) 27 rfl HOX.out.1 l.length rfl rfl _ rfl [9] (src_one wr 9 9 rfl) (by simp only [List.length_cons, List.length_nil]; omega) hs5 ?_)
        intro g2 cap2 w2 hown2 hb2
        have H2 : Hid (OwnC w.heap.size w2 g2 cap2 (l ++ [9]) ∧ Below w.heap.size w w2) := ⟨hown2, HOX.out.2.trans hb2⟩
        clear hown2 hb2
        go_wp2
        go_meet
        exact ⟨g2, cap2, H2, rfl, by rw [List.length_append]; rfl⟩
      · obtain ⟨hch, a, b, c, d, x, hr, hx, hns, ho⟩ := hu
        subst hch
        have f4 : decide ((r1.length : Int) < 4) = false := by rw [hr]; simp; omega
        have f4b : (4 : Int) ≤ (r1.length : Int) := by rw [hr]; simp; omega
        have ht4 : List.take 4 r1 = [a, b, c, d] := by rw [hr]; rfl
        have hd4 : List.drop 4 r1 = t := by rw [hr]; rfl
        have HR := Lib.hid hr
        clear hr
        have hxl := hex4_lt hx
        have HX := Lib.hid (fun w => hex4_any hx w)
        have HSUR := Lib.hid (fun w => surr_any x w)
        have he : Utf8.encode (x : Int) = B o := by rw [ho]; exact B_of _
        have hlen : o.length ≤ 4 := by rw [ho]; exact jEnc_length x
        clear ho
        have e0 : isSurr x = false := decide_eq_false (by omega)
        rw [e0] at HSUR
        have g0 : IntKind.i32.wrap (x : Int) = (x : Int) := by rw [IntWalk.i32_left, IntWalk.wrap32_in _ (by omega)]
        have HXL := Lib.hid hxl
        clear hx hns e0 hxl
        go_wp2_with (fail)
        refine (HX.out wr).mono ?_
        rintro e w5 ⟨rfl, hb5⟩
        have H5 : Hid (OwnC w.heap.size w5 g cap l ∧ Below w.heap.size w w5) := ⟨HS.out.own.below hb5, HS.out.below.trans (hb5.mono hsz)⟩
        have hs5 : w.heap.size ≤ w5.heap.size := H5.out.2.size
        clear hb5
        go_wp2_with (fail)
        refine (HSUR.out w5).mono ?_
        rintro e w6 ⟨rfl, rfl⟩
        go_wp2_with (at_builtin; refine wpList_append_bytes rfl (.tmp 101) (.tmp 104) 9 rfl H5.out.1 l.length rfl rfl _ rfl o (src_str w5 o) (by omega) hs5 ?_)
        intro g2 cap2 w2 hown2 hb2
        have H2 : Hid (OwnC w.heap.size w2 g2 cap2 (l ++ o) ∧ Below w.heap.size w w2) := ⟨hown2, H5.out.2.trans hb2⟩
        clear hown2 hb2
        go_wp2
        go_meet
        exact ⟨g2, cap2, H2, rfl, by rw [List.length_append]⟩
      · obtain ⟨hch, a, b, c, d, a2, b2, c2, d2, x, y, hr, hx, hy, hs1, hs2, hs3, hs4, ho⟩ := hu
        subst hch
        obtain ⟨s2, hss⟩ : ∃ s2 : Bs, s2 = 92 :: 117 :: a2 :: b2 :: c2 :: d2 :: t := ⟨_, rfl⟩
        have f4 : decide ((r1.length : Int) < 4) = false := by rw [hr]; simp; omega
        have f4b : (4 : Int) ≤ (r1.length : Int) := by rw [hr]; simp; omega
        have ht4 : List.take 4 r1 = [a, b, c, d] := by rw [hr]; rfl
        have hd4 : List.drop 4 r1 = s2 := by rw [hr, hss]; rfl
        have f6 : decide ((s2.length : Int) < 6) = false := by rw [hss]; simp; omega
        have f6b : (6 : Int) ≤ (s2.length : Int) := by rw [hss]; simp; omega
        have hg0 : ∀ h : 0 < s2.length, s2[0]'h = 92 := by intro h; subst hss; rfl
        have hg1 : ∀ h : 1 < s2.length, s2[1]'h = 117 := by intro h; subst hss; rfl
        have hd26 : List.drop 2 (List.take 6 s2) = [a2, b2, c2, d2] := by rw [hss]; rfl
        have hd6 : List.drop 6 s2 = t := by rw [hss]; rfl
        have HR := Lib.hid hr
        have HSS := Lib.hid hss
        clear hr hss
        have HX := Lib.hid (fun w => hex4_any hx w)
        have HY := Lib.hid (fun w => hex4_any hy w)
        have HSUR := Lib.hid (fun w => surr_any x w)
        have HPAIR := Lib.hid (fun w => pair_any x y hs1 hs2 hs3 hs4 w)
        obtain ⟨z, hz⟩ : ∃ z, z = 65536 + (x - 55296) * 1024 + (y - 56320) := ⟨_, rfl⟩
        rw [← hz] at ho HPAIR
        have he : Utf8.encode (z : Int) = B o := by rw [ho]; exact B_of _
        have hlen : o.length ≤ 4 := by rw [ho]; exact jEnc_length z
        clear ho
        have e0 : isSurr x = true := decide_eq_true (by omega)
        rw [e0] at HSUR
        have g0 : IntKind.i32.wrap (x : Int) = (x : Int) := by rw [IntWalk.i32_left, IntWalk.wrap32_in _ (by omega)]
        have g1 : IntKind.i32.wrap (y : Int) = (y : Int) := by rw [IntWalk.i32_left, IntWalk.wrap32_in _ (by omega)]
        clear hx hy hs1 hs2 hs3 hs4 e0 hz
        go_wp2_with (fail)
        refine (HX.out wr).mono ?_
        rintro e w5 ⟨rfl, hb5⟩
        have H5 : Hid (OwnC w.heap.size w5 g cap l ∧ Below w.heap.size w w5) := ⟨HS.out.own.below hb5, HS.out.below.trans (hb5.mono hsz)⟩
        have hs5 : w.heap.size ≤ w5.heap.size := H5.out.2.size
        clear hb5
        go_wp2_with (fail)
        refine (HSUR.out w5).mono ?_
        rintro e w6 ⟨rfl, rfl⟩
        go_wp2_with (fail)
        refine (HY.out w5).mono ?_
        rintro e w7 ⟨rfl, hb7⟩
        have H7 : Hid (OwnC w.heap.size w7 g cap l ∧ Below w.heap.size w w7) := ⟨H5.out.1.below hb7, H5.out.2.trans (hb7.mono hs5)⟩
        have hs7 : w.heap.size ≤ w7.heap.size := H7.out.2.size
        clear hb7
        go_wp2_with (fail)
        refine (HPAIR.out w7).mono ?_
        rintro e w8 ⟨rfl, rfl⟩
        go_wp2_with (at_builtin; refine wpList_append_bytes rfl (.tmp 142) (.tmp 144) 9 rfl H7.out.1 l.length rfl rfl _ rfl o (src_str w7 o) (by omega) hs7 ?_)
        intro g2 cap2 w2 hown2 hb2
        have H2 : Hid (OwnC w.heap.size w2 g2 cap2 (l ++ o) ∧ Below w.heap.size w w2) := ⟨hown2, H7.out.2.trans hb2⟩
        clear hown2 hb2
        go_wp2
        go_meet
        exact ⟨g2, cap2, H2, rfl, by rw [List.length_append]⟩
    case rest =>
      clear HS hst
      obtain ⟨g2, cap2, HC, rfl, rfl⟩ := hcut
      obtain ⟨lo, hlo2⟩ : ∃ lo, lo = l ++ o := ⟨_, rfl⟩
      rw [← hlo2] at HC HEQ hlo ⊢
      clear hlo2
      have hsc : w.heap.size ≤ wc.heap.size := HC.out.2.size
      by_cases hm : (92 : UInt8) ∈ t
      · have HI := Lib.hid (index_esc_some t hm wc)
        clear hm
        go_wp2_with (fail)
        refine HI.out.mono ?_
        rintro e w' ⟨rfl, a2, r2, ht, ha, rfl⟩
        have hneg : decide ((a2.length : Int) < 0) = false := by simp
        have hta : List.take a2.length t = a2 := by rw [ht]; exact List.take_left' rfl
        have htd : List.drop (a2.length + 1) (List.take t.length t) = r2 := by
          have e : a2 ++ 92 :: r2 = (a2 ++ [92]) ++ r2 := by simp
          rw [List.take_length, ht, e]
          exact List.drop_left' (by simp)
        have htd2 : List.drop (a2.length + 1) t = r2 := by rw [List.take_length] at htd; exact htd
        have htl2 : t.length = a2.length + r2.length + 1 := by rw [ht]; simp; omega
        have i1 : (a2.length : Int) ≤ (t.length : Int) := by omega
        have i2 : (a2.length : Int) + 1 ≤ (t.length : Int) := by omega
        have HEQ2 : Hid ((jUn (92 :: r2)).map ((lo ++ a2) ++ ·) = some out) := by
          have := HEQ.out
          rw [ht, jUn_app a2 _ ha, Option.map_map] at this
          refine Lib.hid ?_
          rw [← this]
          congr 1
          funext z
          simp
        have hlo2 : lo.length + a2.length < 100000000000 := by omega
        have HTL := Lib.hid htl2
        clear ht ha htl2
        go_wp2_with (at_builtin; refine wpList_append_bytes rfl (.tmp 155) (.tmp 158) 9 rfl HC.out.1 lo.length rfl rfl _ rfl a2 (src_str wc a2) hlo2 hsc ?_)
        intro g3 cap3 w3 hown3 hb3
        have H3 : Hid (UnSt out w.heap.size w r2 (lo ++ a2) g3 cap3 w3) := ⟨hown3, HC.out.2.trans hb3, HEQ2.out⟩
        clear hown3 hb3
        go_wp2
        go_roundw
        case rel => exact ⟨r2, lo ++ a2, g3, cap3, H3, by have := HTL.out; omega, rfl, by rw [List.length_append]⟩
        case measure =>
          show (B r2).size < (B (ch :: r1)).size
          rw [B_size, B_size, List.length_cons]
          have := HTL.out
          omega
      · have HI := Lib.hid (index_esc_none t hm wc)
        have HEND : Hid (lo ++ t = out) := by
          have := HEQ.out
          rw [jUn_plain t hm] at this
          exact Option.some.inj this
        have hlt2 : lo.length + t.length < 100000000000 := by omega
        clear hm
        go_wp2_with (fail)
        refine HI.out.mono ?_
        rintro e w' ⟨rfl, rfl⟩
        go_wp2_with (at_builtin; refine wpList_append_bytes rfl (.tmp 152) (.tmp 153) 9 rfl HC.out.1 lo.length rfl rfl _ rfl t (src_str wc t) hlt2 hsc ?_)
        intro g3 cap3 w3 hown3 hb3
        have hba := hown3.ba
        rw [List.length_append] at hba
        have HB2 := Lib.hid (b2s_any w3 _ _ hba)
        have H3 := Lib.hid (HC.out.2.trans hb3)
        clear hown3 hb3 hba
        go_wp2_with (fail)
        refine HB2.out.mono ?_
        rintro e w' ⟨rfl, rfl⟩
        go_wp2
        go_ret
        exact ⟨by rw [← HEND.out]; rfl, H3.out⟩

/-- How a raw text is unescaped. -/
def UnR (q out : Bs) : Prop := jUn q = some out ∧ (q.length < 4294967296 ∨ (92 : UInt8) ∉ q)
theorem un_ug : UG UnR where
  run q out h w := by
    by_cases he : (92 : UInt8) ∈ q
    · rcases h.2 with h2 | h2
      · exact un_esc q out h.1 h2 he w
      · exact absurd he h2
    · have e := h.1
      rw [jUn_plain q he] at e
      cases e
      exact (un_plain q he w).mono fun e w' he => ⟨he.1, he.2 ▸ Below.refl _ _⟩
  fn q a b ha hb := by
    have e := ha.1.symm.trans hb.1
    exact Option.some.inj e
  plain q h := ⟨jUn_plain q h, Or.inr h⟩
end Go.Proofs.YtppkpcijmfdfmaaGreatDoor
