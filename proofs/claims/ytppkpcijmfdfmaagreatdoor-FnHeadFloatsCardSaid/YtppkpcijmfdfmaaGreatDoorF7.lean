/- The walks of Shift, shouldRoundUp and RoundedInteger. -/
import Derived.Test.YtppkpcijmfdfmaaGreatDoorF6
import Derived.WalkMore
import Derived.ScopeJumps
set_option linter.unusedVariables false
set_option linter.unusedSimpArgs false
set_option linter.unusedVariables false
set_option linter.unusedSimpArgs false
namespace Go.Proofs.YtppkpcijmfdfmaaGreatDoor
open Go.RowKit

/-- What a shift leaves. -/
def DecAt (w w' : World) (b : Nat) (l : List Nat) (dp : Int) (ng tr : Bool) (e : Ending) : Prop := e = .returned (.tuple #[]) ∧ DB w' b l.length dp ng tr ∧ DRow w' b 0 l ∧ Below b w w'

set_option maxRecDepth 100000 in
theorem shift_right {b k : Nat} {dp : Int} {ng tr : Bool} {l : List Nat} {w : World} (hk0 : 1 ≤ k) (hk : k ≤ 27) (hdg : Digs l) (hl : Lead l) (hn : l.length + k + 1 ≤ 800) (hd : DB w b l.length dp ng tr) (hr : DRow w b 0 l) (hdp : -100000 ≤ dp ∧ dp ≤ 100000) :
    Calls Tryz.prog 202 #[.pointer (some ⟨b, 0, none⟩), .int .i64 (-(k : Int))] w (fun e w' => DecAt w w' b (rDigs k l) (dp - rMove k l) ng tr e) := by
  have c8 := hd.nd
  have ll : 0 < l.length := by obtain ⟨d, t, rfl, _⟩ := hl; simp
  have HC := Lib.hid (shr_any hk hdg hl hn hd hr hdp)
  have z0 : ((l.length : Int) == 0) = false := by rw [beq_eq_false_iff_ne]; omega
  have z1 : ¬ (-(k : Int) > 0) := by omega
  have z2 : (-(k : Int) < 0) := by omega
  have z3 : ¬ (-(k : Int) < -60) := by omega
  clear hd hr hdg hl hdp
  go_enter Tryz.func202, Tryz.ntmps202
  go_wp2_with (fail)
  go_loop [1] (fun s => s = .int .i64 (-(k : Int))) (fun _ => 0)
  case atStart => exact rfl
  case round =>
    subst hrel
    go_wp2_with (fail)
    refine HC.out.mono ?_
    rintro e w' ⟨rfl, h1, h2, h3⟩
    have HH := Lib.hid (And.intro h1 (And.intro h2 h3))
    clear h1 h2 h3
    go_wp2
    go_end0
    exact ⟨rfl, HH.out⟩
set_option maxRecDepth 100000 in
theorem shift_left {b K : Nat} {dp dp' : Int} {ng tr : Bool} {l l' : List Nat} {w : World} (hK : K = 1 ∨ K = 53) (hl : Lead l) (hd : DB w b l.length dp ng tr)
    (hc : Calls Tryz.prog 210 #[.pointer (some ⟨b, 0, none⟩), .int .u64 K] w fun e w' => e = .returned (.tuple #[]) ∧ DB w' b l'.length dp' ng tr ∧ DRow w' b 0 l' ∧ Below b w w') :
    Calls Tryz.prog 202 #[.pointer (some ⟨b, 0, none⟩), .int .i64 K] w (fun e w' => DecAt w w' b l' dp' ng tr e) := by
  have c8 := hd.nd
  have ll : 0 < l.length := by obtain ⟨d, t, rfl, _⟩ := hl; simp
  have HC := Lib.hid hc
  have z0 : ((l.length : Int) == 0) = false := by rw [beq_eq_false_iff_ne]; omega
  have z1 : ((K : Int) > 0) := by omega
  have z3 : ¬ ((K : Int) > 60) := by omega
  have z4 : (K : Int) ≤ 53 := by omega
  clear hd hl hc hK
  go_enter Tryz.func202, Tryz.ntmps202
  go_wp2_with (fail)
  go_loop [1] (fun s => s = .int .i64 (K : Int)) (fun _ => 0)
  case atStart => exact rfl
  case round =>
    subst hrel
    go_wp2_with (fail)
    refine HC.out.mono ?_
    rintro e w' ⟨rfl, h1, h2, h3⟩
    have HH := Lib.hid (And.intro h1 (And.intro h2 h3))
    clear h1 h2 h3
    go_wp2
    go_end0
    exact ⟨rfl, HH.out⟩

/-- Whether a number in digits is rounded up behind its 16th digit. -/
def upB (l : List Nat) : Bool := decide (16 < l.length) && (if l[16]? = some 5 ∧ l.length = 17 then decide ((l[15]?).getD 0 % 2 ≠ 0) else decide (5 ≤ (l[16]?).getD 0))
set_option maxRecDepth 100000 in
theorem up_any {b : Nat} {dp : Int} {ng : Bool} {l : List Nat} {w : World} (hdg : Digs l) (hn : l.length ≤ 800) (hd : DB w b l.length dp ng false) (hr : DRow w b 0 l) :
    Calls Tryz.prog 212 #[.pointer (some ⟨b, 0, none⟩), .int .i64 16] w fun e w' => e = .returned (.bool (upB l)) ∧ w = w' := by
  have c8 := hd.nd
  have c83 := hd.tr
  by_cases h16 : 16 < l.length
  · obtain ⟨d, hd16⟩ : ∃ d, l[16]? = some d := ⟨_, List.getElem?_eq_getElem h16⟩
    obtain ⟨e, hd15⟩ : ∃ e, l[15]? = some e := ⟨_, List.getElem?_eq_getElem (by omega)⟩
    have c16 : w.cell? ⟨b, 16, none⟩ = some (.int .u8 ((d : Int) + 48)) := by have := hr 16 d hd16; simpa using this
    have c15 : w.cell? ⟨b, 15, none⟩ = some (.int .u8 ((e : Int) + 48)) := by have := hr 15 e hd15; simpa using this
    have d9 : d ≤ 9 := hdg d (List.mem_of_getElem? hd16)
    have e9 : e ≤ 9 := hdg e (List.mem_of_getElem? hd15)
    have z1 : ¬ ((16 : Int) ≥ (l.length : Int)) := by omega
    have z1' : decide ((l.length : Int) ≤ 16) = false := by rw [decide_eq_false_iff_not]; omega
    have hU : upB l = if d = 5 ∧ l.length = 17 then decide (e % 2 ≠ 0) else decide (5 ≤ d) := by
      unfold upB
      rw [hd16, hd15, decide_eq_true h16, Bool.true_and]
      simp
    have HU := Lib.hid hU
    clear hd16 hd15 hU hd hr hdg
    by_cases h5 : d = 5
    · have g5 : ((d : Int) + 48 == 53) = true := by rw [beq_iff_eq]; omega
      by_cases h17 : l.length = 17
      · have g17 : ((17 : Int) == (l.length : Int)) = true := by rw [beq_iff_eq]; omega
        obtain ⟨r, hr2⟩ : ∃ r : Bool, decide (e % 2 ≠ 0) = r := ⟨_, rfl⟩
        have HR2 : Hid (upB l = r) := Lib.hid (by rw [HU.out, if_pos ⟨h5, h17⟩, hr2])
        have hm : ((e : Int) % 2 != 0) = r := by
          rw [← hr2]
          rcases Nat.mod_two_eq_zero_or_one e with h | h
          · rw [show ((e : Int) % 2) = 0 by omega, h]; rfl
          · rw [show ((e : Int) % 2) = 1 by omega, h]; rfl
        have hm2 : ((e : Int).tmod 2 != 0) = r := by rw [Int.tmod_eq_emod_of_nonneg (by omega)]; exact hm
        clear h5 h17 hr2
        go_enter Tryz.func212, Tryz.ntmps212
        go_wp2
        go_ret
        exact ⟨by rw [HR2.out]; rfl, rfl⟩
      · have g17 : ((17 : Int) == (l.length : Int)) = false := by rw [beq_eq_false_iff_ne]; omega
        have g6 : decide ((53 : Int) ≤ (d : Int) + 48) = true := by rw [decide_eq_true_iff]; omega
        have HR2 : Hid (upB l = true) := Lib.hid (by rw [HU.out, if_neg (fun h => h17 h.2)]; exact decide_eq_true (by omega))
        clear h5 h17
        go_enter Tryz.func212, Tryz.ntmps212
        go_wp2
        go_ret
        exact ⟨by rw [HR2.out]; rfl, rfl⟩
    · have g5 : ((d : Int) + 48 == 53) = false := by rw [beq_eq_false_iff_ne]; omega
      obtain ⟨r, hr2⟩ : ∃ r : Bool, decide (5 ≤ d) = r := ⟨_, rfl⟩
      have HR2 : Hid (upB l = r) := Lib.hid (by rw [HU.out, if_neg (fun h => h5 h.1), hr2])
      have g6 : decide ((53 : Int) ≤ (d : Int) + 48) = r := by
        rw [← hr2]
        by_cases h : 5 ≤ d
        · rw [decide_eq_true h, decide_eq_true (by omega)]
        · rw [decide_eq_false h, decide_eq_false (by omega)]
      clear h5 hr2
      go_enter Tryz.func212, Tryz.ntmps212
      go_wp2
      go_ret
      exact ⟨by rw [HR2.out]; rfl, rfl⟩
  · have z1 : ((16 : Int) ≥ (l.length : Int)) := by omega
    have z1' : decide ((l.length : Int) ≤ 16) = true := by rw [decide_eq_true_iff]; omega
    have HR2 : Hid (upB l = false) := Lib.hid (by unfold upB; rw [decide_eq_false h16, Bool.false_and])
    clear hd hr hdg h16
    go_enter Tryz.func212, Tryz.ntmps212
    go_wp2
    go_ret
    exact ⟨by rw [HR2.out]; rfl, rfl⟩

/-- The number that 16 digits ahead of the point are, rounded. -/
def riN (l : List Nat) : Nat := dN (l.take 16) * 10 ^ (16 - l.length) + (if upB l then 1 else 0)
theorem take_lt {l : List Nat} (h : Digs l) {k i : Nat} (hk : k ≤ i) : dN (l.take k) < 10 ^ i := by
  have h1 : Digs (l.take k) := fun d hd => h d (List.mem_of_mem_take hd)
  have h2 := dN_lt h1
  exact Nat.lt_of_lt_of_le h2 (Nat.pow_le_pow_right (by omega) (by rw [List.length_take]; omega))
theorem riN_le {l : List Nat} (h : Digs l) : riN l ≤ 10000000000000000 := by
  have e16 : (10 : Nat) ^ 16 = 10000000000000000 := by decide
  have key : dN (l.take 16) * 10 ^ (16 - l.length) < 10 ^ 16 := by
    have h1 : Digs (l.take 16) := fun d hd => h d (List.mem_of_mem_take hd)
    have h2 := dN_lt h1
    rw [List.length_take] at h2
    have hp : 0 < 10 ^ (16 - l.length) := Nat.pow_pos (by decide)
    have h3 := Nat.mul_lt_mul_of_pos_right h2 hp
    rw [← Nat.pow_add] at h3
    rw [show min 16 l.length + (16 - l.length) = 16 by omega] at h3
    exact h3
  unfold riN
  split <;> omega
set_option maxRecDepth 100000 in
set_option maxHeartbeats 1000000 in
theorem rounded_any {b : Nat} {ng : Bool} {l : List Nat} {w : World} (hdg : Digs l) (hn : l.length ≤ 800) (hd : DB w b l.length 16 ng false) (hr : DRow w b 0 l) :
    Calls Tryz.prog 203 #[.pointer (some ⟨b, 0, none⟩)] w fun e w' => e = .returned (.int .u64 (riN l : Nat)) ∧ w = w' := by
  have c8 := hd.nd
  have c81 := hd.dp
  have HUP := Lib.hid (up_any hdg hn hd hr)
  have HDG := Lib.hid hdg
  have HR := Lib.hid hr
  clear hdg hd hr
  go_enter Tryz.func203, Tryz.ntmps203
  go_wp2_with (fail)
  go_loop [3, 4] (fun s3 s4 => ∃ i n : Nat, i ≤ 16 ∧ i ≤ l.length ∧ s3 = .int .i64 (i : Int) ∧ s4 = .int .u64 (n : Int) ∧ Hid (n = dN (l.take i))) (fun s3 _ => 16 - (intOf s3).toNat)
  case atStart => exact ⟨0, 0, by omega, by omega, rfl, rfl, Lib.hid rfl⟩
  case round =>
    obtain ⟨i, n, hi16, hil, rfl, rfl, HN⟩ := hrel
    by_cases hlt : i < 16 ∧ i < l.length
    · obtain ⟨d, hdi⟩ : ∃ d, l[i]? = some d := ⟨_, List.getElem?_eq_getElem hlt.2⟩
      have cd : w.cell? ⟨b, i, none⟩ = some (.int .u8 ((d : Int) + 48)) := by have := HR.out i d hdi; simpa using this
      have d9 : d ≤ 9 := HDG.out d (List.mem_of_getElem? hdi)
      have nb : n < 1000000000000000 := by
        have := take_lt HDG.out (k := i) (i := 15) (by omega)
        rw [← HN.out] at this
        exact this
      have HN1 : Hid (n * 10 + d = dN (l.take (i + 1))) := Lib.hid (by rw [take_snoc hdi, dN_push, ← HN.out])
      have g1 : decide ((i : Int) < 16) = true := by rw [decide_eq_true_iff]; omega
      have g2 : decide ((i : Int) < (l.length : Int)) = true := by rw [decide_eq_true_iff]; omega
      have g3 : decide (i < l.length) = true := by rw [decide_eq_true_iff]; omega
      have b1 : (0 : Int) ≤ (i : Int) := by omega
      have b2 : (i : Int) < 800 := by omega
      have h1 := hlt.1
      have h2 := hlt.2
      clear hdi hlt
      go_wp2_with (fail)
      go_round
      case rel => exact ⟨i + 1, n * 10 + d, by omega, by omega, by go_num, by go_num, HN1.out⟩
      case measure => simp [intOf] <;> omega
    · have HV : Hid (n * 10 ^ (16 - i) = dN (l.take 16) * 10 ^ (16 - l.length)) := Lib.hid (by
        rw [HN.out]
        rcases Nat.lt_or_ge 16 l.length with h2 | h2
        · rw [show i = 16 by omega, show 16 - l.length = 0 by omega]
        · rw [show i = l.length by omega, List.take_of_length_le (Nat.le_refl _), List.take_of_length_le h2])
      obtain ⟨g, hg⟩ : ∃ g : Bool, decide ((i : Int) < 16) = g ∧ (g = true → decide ((i : Int) < (l.length : Int)) = false ∧ decide (i < l.length) = false) := ⟨_, rfl, fun h => by
        have := of_decide_eq_true h
        exact ⟨decide_eq_false (by omega), decide_eq_false (by omega)⟩⟩
      obtain ⟨hg1, hg2⟩ := hg
      have HNB : Hid (n < 10 ^ i) := Lib.hid (by
        have := take_lt HDG.out (k := i) (i := i) (Nat.le_refl _)
        rw [← HN.out] at this
        exact this)
      obtain ⟨ub, hub⟩ : ∃ ub, ub = upB l := ⟨_, rfl⟩
      have HUP2 : Hid (Calls Tryz.prog 212 #[.pointer (some ⟨b, 0, none⟩), .int .i64 16] w fun e w' => e = .returned (.bool ub) ∧ w = w') := Lib.hid (by rw [hub]; exact HUP.out)
      have HUB := Lib.hid hub
      clear hlt hub
      cases g
      · clear hg2
        go_wp2_with (fail)
        go_loop [3, 4] (fun s3 s4 => ∃ j m : Nat, i ≤ j ∧ j ≤ 16 ∧ s3 = .int .i64 (j : Int) ∧ s4 = .int .u64 (m : Int) ∧ Hid (m = n * 10 ^ (j - i)) ∧ Hid (m < 10 ^ j)) (fun s3 _ => 16 - (intOf s3).toNat)
        case atStart => exact ⟨i, n, by omega, by omega, rfl, rfl, Lib.hid (by rw [Nat.sub_self, Nat.pow_zero, Nat.mul_one]), HNB.out⟩
        case round =>
          obtain ⟨j, m, hij, hj16, rfl, rfl, HM, HMB⟩ := hrel
          by_cases hlt : j < 16
          · have mb : m < 1000000000000000 := by
              have h1 := HMB.out
              have h2 : 10 ^ j ≤ 10 ^ 15 := Nat.pow_le_pow_right (by omega) (by omega)
              have h3 : (10 : Nat) ^ 15 = 1000000000000000 := by decide
              omega
            have HM1 : Hid (m * 10 = n * 10 ^ (j + 1 - i)) := Lib.hid (by rw [HM.out, show j + 1 - i = j - i + 1 by omega, Nat.pow_succ, Nat.mul_assoc])
            have HMB1 : Hid (m * 10 < 10 ^ (j + 1)) := Lib.hid (by have h1 := HMB.out; rw [Nat.pow_succ]; omega)
            go_wp2_with (fail)
            go_round
            case rel => exact ⟨j + 1, m * 10, by omega, by omega, by go_num, by go_num, HM1.out, HMB1.out⟩
            case measure => simp [intOf] <;> omega
          · have HJ : Hid (m = dN (l.take 16) * 10 ^ (16 - l.length)) := Lib.hid (by rw [HM.out, show j = 16 by omega, HV.out])
            have mb : m < 10000000000000000 := by
              have h1 := HMB.out
              rw [show j = 16 by omega] at h1
              have h3 : (10 : Nat) ^ 16 = 10000000000000000 := by decide
              omega
            have j16 : ¬ ((j : Int) < 16) := by omega
            clear hlt
            cases ub
            · have HRI : Hid (riN l = m) := Lib.hid (by unfold riN; rw [← HUB.out, ← HJ.out]; rfl)
              go_wp2_with (go_at_call 212; refine HUP2.out.mono ?_; rintro e w' ⟨rfl, rfl⟩)
              go_ret
              exact ⟨by rw [HRI.out]; rfl, rfl⟩
            · have HRI : Hid ((riN l : Int) = (m : Int) + 1) := Lib.hid (by unfold riN; rw [← HUB.out, ← HJ.out]; rfl)
              go_wp2_with (go_at_call 212; refine HUP2.out.mono ?_; rintro e w' ⟨rfl, rfl⟩)
              go_ret
              exact ⟨by rw [HRI.out]; rfl, rfl⟩
      · obtain ⟨hg3, hg4⟩ := hg2 rfl
        clear hg2
        go_wp2_with (fail)
        go_loop [3, 4] (fun s3 s4 => ∃ j m : Nat, i ≤ j ∧ j ≤ 16 ∧ s3 = .int .i64 (j : Int) ∧ s4 = .int .u64 (m : Int) ∧ Hid (m = n * 10 ^ (j - i)) ∧ Hid (m < 10 ^ j)) (fun s3 _ => 16 - (intOf s3).toNat)
        case atStart => exact ⟨i, n, by omega, by omega, rfl, rfl, Lib.hid (by rw [Nat.sub_self, Nat.pow_zero, Nat.mul_one]), HNB.out⟩
        case round =>
          obtain ⟨j, m, hij, hj16, rfl, rfl, HM, HMB⟩ := hrel
          by_cases hlt : j < 16
          · have mb : m < 1000000000000000 := by
              have h1 := HMB.out
              have h2 : 10 ^ j ≤ 10 ^ 15 := Nat.pow_le_pow_right (by omega) (by omega)
              have h3 : (10 : Nat) ^ 15 = 1000000000000000 := by decide
              omega
            have HM1 : Hid (m * 10 = n * 10 ^ (j + 1 - i)) := Lib.hid (by rw [HM.out, show j + 1 - i = j - i + 1 by omega, Nat.pow_succ, Nat.mul_assoc])
            have HMB1 : Hid (m * 10 < 10 ^ (j + 1)) := Lib.hid (by have h1 := HMB.out; rw [Nat.pow_succ]; omega)
            go_wp2_with (fail)
            go_round
            case rel => exact ⟨j + 1, m * 10, by omega, by omega, by go_num, by go_num, HM1.out, HMB1.out⟩
            case measure => simp [intOf] <;> omega
          · have HJ : Hid (m = dN (l.take 16) * 10 ^ (16 - l.length)) := Lib.hid (by rw [HM.out, show j = 16 by omega, HV.out])
            have mb : m < 10000000000000000 := by
              have h1 := HMB.out
              rw [show j = 16 by omega] at h1
              have h3 : (10 : Nat) ^ 16 = 10000000000000000 := by decide
              omega
            have j16 : ¬ ((j : Int) < 16) := by omega
            clear hlt
            cases ub
            · have HRI : Hid (riN l = m) := Lib.hid (by unfold riN; rw [← HUB.out, ← HJ.out]; rfl)
              go_wp2_with (go_at_call 212; refine HUP2.out.mono ?_; rintro e w' ⟨rfl, rfl⟩)
              go_ret
              exact ⟨by rw [HRI.out]; rfl, rfl⟩
            · have HRI : Hid ((riN l : Int) = (m : Int) + 1) := Lib.hid (by unfold riN; rw [← HUB.out, ← HJ.out]; rfl)
              go_wp2_with (go_at_call 212; refine HUP2.out.mono ?_; rintro e w' ⟨rfl, rfl⟩)
              go_ret
              exact ⟨by rw [HRI.out]; rfl, rfl⟩
end Go.Proofs.YtppkpcijmfdfmaaGreatDoor

/- The walk of floatBits, at whole numbers of 20 digits. -/
set_option linter.unusedVariables false
set_option linter.unusedSimpArgs false
namespace Go.Proofs.YtppkpcijmfdfmaaGreatDoor
open Go.RowKit

/-- The mantissa and the exponent of a number of 20 digits, by decimals; their bits. -/
def slowM (m0 : Nat) : Nat := if m0 = 9007199254740992 then 4503599627370496 else m0
def slowX (m0 : Nat) : Int := if m0 = 9007199254740992 then 64 else if m0 / 4503599627370496 % 2 = 0 then -1023 else 63
def slowE (m0 : Nat) : Nat := if m0 = 9007199254740992 then 1087 else if m0 / 4503599627370496 % 2 = 0 then 0 else 1086
def slowBits (N : Nat) : Nat := slowM (riN (lastDigs N)) % 4503599627370496 + slowE (riN (lastDigs N)) * 4503599627370496
theorem slowBits_le (N : Nat) : slowBits N ≤ 9218868437227405312 := by
  have h : slowE (riN (lastDigs N)) ≤ 1087 := by
    unfold slowE
    split
    · omega
    · split <;> omega
  unfold slowBits
  omega

/-- What is known between the shifts. -/
structure FB (w wr : World) (b N : Nat) (ng : Bool) (l : List Nat) (dp e : Nat) : Prop where
  dec : Dec N l dp e
  db : DB wr b l.length dp ng false
  row : DRow wr b 0 l
  below : Below b w wr
  small : dp ≤ 20
/-- What is known at the jump. -/
structure JF (w wr : World) (b N : Nat) (ng : Bool) (m : Nat) (ex : Int) : Prop where
  mm : m = slowM (riN (lastDigs N))
  xx : ex = slowX (riN (lastDigs N))
  mb : m ≤ 10000000000000000
  ng : wr.cell? ⟨b, 802, none⟩ = some (.bool ng)
  below : Below b w wr

theorem retU {a b : Nat} (h : b = a) : Ending.returned (.tuple #[.int .u64 (a : Int), .bool false]) = Ending.returned (.tuple #[.int .u64 (b : Int), .bool false]) := by subst h; rfl
set_option maxRecDepth 100000 in
/-- The frame at the jump. -/
def FJ (w : World) (b N : Nat) (ng : Bool) (a' : Act) (w' : World) : Prop := ∃ (m : Nat) (ex : Int) (u : Nat → Value), a' = { tmps := #[.pointer (some ⟨b, 0, none⟩), .pointer (some ⟨12, 0, none⟩), u 2, u 3, u 4, .bool false, .int .i64 ex, .int .u64 (m : Int), u 8, u 9, u 10, u 11, u 12, u 13, u 14, u 15, u 16, u 17, u 18, u 19, u 20, u 21, u 22, u 23, u 24, u 25, u 26, u 27, u 28, u 29, u 30, u 31, u 32, u 33, u 34, u 35, u 36, u 37, u 38, u 39, u 40, u 41, u 42, u 43, u 44, u 45, u 46, u 47, u 48, u 49, u 50, u 51, u 52, u 53, u 54, u 55, u 56, u 57, u 58, u 59, u 60, u 61, u 62, u 63, u 64, u 65, u 66, u 67, u 68, u 69, u 70, u 71, u 72, u 73, u 74, u 75, u 76, u 77, u 78, u 79, u 80, u 81, u 82, u 83, u 84, u 85, u 86, u 87, u 88, u 89, u 90, u 91, u 92, u 93, u 94, u 95, u 96, u 97, u 98, u 99, u 100, u 101, u 102, u 103, u 104, u 105, u 106, u 107, u 108, u 109, u 110, u 111, u 112, u 113, u 114, u 115, u 116, u 117, u 118, u 119, u 120, u 121, u 122, u 123, u 124, u 125, u 126, u 127, u 128, u 129, u 130, u 131, u 132, u 133, u 134, u 135, u 136, u 137, u 138, u 139, u 140, u 141, u 142, u 143, u 144, u 145, u 146, u 147, u 148, u 149, u 150, u 151, u 152, u 153, u 154, u 155, u 156, u 157, u 158, u 159, u 160, u 161, u 162, u 163, u 164, u 165, u 166, u 167, u 168, u 169, u 170, u 171, u 172, u 173, u 174, u 175, u 176, u 177, u 178, u 179, u 180, u 181, u 182, u 183, u 184, u 185, u 186, u 187, u 188, u 189, u 190, u 191, u 192, u 193, u 194, u 195, u 196, u 197, u 198, u 199, u 200, u 201, u 202, u 203, u 204, u 205, u 206, u 207, u 208, u 209, u 210, u 211, u 212, u 213, u 214, u 215, u 216, u 217, u 218, u 219, u 220, u 221, u 222, u 223, u 224, u 225, u 226, u 227, u 228, u 229, u 230, u 231, u 232, u 233, u 234, u 235, u 236, u 237, u 238, u 239, u 240, u 241, u 242], defers := [] } ∧ Hid (JF w w' b N ng m ex)
set_option maxRecDepth 100000 in
theorem frame_eq (t : Array Value) (h : t.size = 243) : t = #[t.getD 0 undef, t.getD 1 undef, t.getD 2 undef, t.getD 3 undef, t.getD 4 undef, t.getD 5 undef, t.getD 6 undef, t.getD 7 undef, t.getD 8 undef, t.getD 9 undef, t.getD 10 undef, t.getD 11 undef, t.getD 12 undef, t.getD 13 undef, t.getD 14 undef, t.getD 15 undef, t.getD 16 undef, t.getD 17 undef, t.getD 18 undef, t.getD 19 undef, t.getD 20 undef, t.getD 21 undef, t.getD 22 undef, t.getD 23 undef, t.getD 24 undef, t.getD 25 undef, t.getD 26 undef, t.getD 27 undef, t.getD 28 undef, t.getD 29 undef, t.getD 30 undef, t.getD 31 undef, t.getD 32 undef, t.getD 33 undef, t.getD 34 undef, t.getD 35 undef, t.getD 36 undef, t.getD 37 undef, t.getD 38 undef, t.getD 39 undef, t.getD 40 undef, t.getD 41 undef, t.getD 42 undef, t.getD 43 undef, t.getD 44 undef, t.getD 45 undef, t.getD 46 undef, t.getD 47 undef, t.getD 48 undef, t.getD 49 undef, t.getD 50 undef, t.getD 51 undef, t.getD 52 undef, t.getD 53 undef, t.getD 54 undef, t.getD 55 undef, t.getD 56 undef, t.getD 57 undef, t.getD 58 undef, t.getD 59 undef, t.getD 60 undef, t.getD 61 undef, t.getD 62 undef, t.getD 63 undef, t.getD 64 undef, t.getD 65 undef, t.getD 66 undef, t.getD 67 undef, t.getD 68 undef, t.getD 69 undef, t.getD 70 undef, t.getD 71 undef, t.getD 72 undef, t.getD 73 undef, t.getD 74 undef, t.getD 75 undef, t.getD 76 undef, t.getD 77 undef, t.getD 78 undef, t.getD 79 undef, t.getD 80 undef, t.getD 81 undef, t.getD 82 undef, t.getD 83 undef, t.getD 84 undef, t.getD 85 undef, t.getD 86 undef, t.getD 87 undef, t.getD 88 undef, t.getD 89 undef, t.getD 90 undef, t.getD 91 undef, t.getD 92 undef, t.getD 93 undef, t.getD 94 undef, t.getD 95 undef, t.getD 96 undef, t.getD 97 undef, t.getD 98 undef, t.getD 99 undef, t.getD 100 undef, t.getD 101 undef, t.getD 102 undef, t.getD 103 undef, t.getD 104 undef, t.getD 105 undef, t.getD 106 undef, t.getD 107 undef, t.getD 108 undef, t.getD 109 undef, t.getD 110 undef, t.getD 111 undef, t.getD 112 undef, t.getD 113 undef, t.getD 114 undef, t.getD 115 undef, t.getD 116 undef, t.getD 117 undef, t.getD 118 undef, t.getD 119 undef, t.getD 120 undef, t.getD 121 undef, t.getD 122 undef, t.getD 123 undef, t.getD 124 undef, t.getD 125 undef, t.getD 126 undef, t.getD 127 undef, t.getD 128 undef, t.getD 129 undef, t.getD 130 undef, t.getD 131 undef, t.getD 132 undef, t.getD 133 undef, t.getD 134 undef, t.getD 135 undef, t.getD 136 undef, t.getD 137 undef, t.getD 138 undef, t.getD 139 undef, t.getD 140 undef, t.getD 141 undef, t.getD 142 undef, t.getD 143 undef, t.getD 144 undef, t.getD 145 undef, t.getD 146 undef, t.getD 147 undef, t.getD 148 undef, t.getD 149 undef, t.getD 150 undef, t.getD 151 undef, t.getD 152 undef, t.getD 153 undef, t.getD 154 undef, t.getD 155 undef, t.getD 156 undef, t.getD 157 undef, t.getD 158 undef, t.getD 159 undef, t.getD 160 undef, t.getD 161 undef, t.getD 162 undef, t.getD 163 undef, t.getD 164 undef, t.getD 165 undef, t.getD 166 undef, t.getD 167 undef, t.getD 168 undef, t.getD 169 undef, t.getD 170 undef, t.getD 171 undef, t.getD 172 undef, t.getD 173 undef, t.getD 174 undef, t.getD 175 undef, t.getD 176 undef, t.getD 177 undef, t.getD 178 undef, t.getD 179 undef, t.getD 180 undef, t.getD 181 undef, t.getD 182 undef, t.getD 183 undef, t.getD 184 undef, t.getD 185 undef, t.getD 186 undef, t.getD 187 undef, t.getD 188 undef, t.getD 189 undef, t.getD 190 undef, t.getD 191 undef, t.getD 192 undef, t.getD 193 undef, t.getD 194 undef, t.getD 195 undef, t.getD 196 undef, t.getD 197 undef, t.getD 198 undef, t.getD 199 undef, t.getD 200 undef, t.getD 201 undef, t.getD 202 undef, t.getD 203 undef, t.getD 204 undef, t.getD 205 undef, t.getD 206 undef, t.getD 207 undef, t.getD 208 undef, t.getD 209 undef, t.getD 210 undef, t.getD 211 undef, t.getD 212 undef, t.getD 213 undef, t.getD 214 undef, t.getD 215 undef, t.getD 216 undef, t.getD 217 undef, t.getD 218 undef, t.getD 219 undef, t.getD 220 undef, t.getD 221 undef, t.getD 222 undef, t.getD 223 undef, t.getD 224 undef, t.getD 225 undef, t.getD 226 undef, t.getD 227 undef, t.getD 228 undef, t.getD 229 undef, t.getD 230 undef, t.getD 231 undef, t.getD 232 undef, t.getD 233 undef, t.getD 234 undef, t.getD 235 undef, t.getD 236 undef, t.getD 237 undef, t.getD 238 undef, t.getD 239 undef, t.getD 240 undef, t.getD 241 undef, t.getD 242 undef] := by
  have h1 : t = ((List.range 243).map fun i => t.getD i undef).toArray := by
    apply Array.ext
    · simp [h]
    · intro i h2 h3
      simp [Array.getD, h2]
  exact h1.trans rfl
set_option maxRecDepth 100000 in
theorem FJ_mk {w w' : World} {b N : Nat} {ng : Bool} {a' : Act} {m : Nat} {ex : Int} (hd : a'.defers = []) (hs : a'.tmps.size = 243) (h0 : a'.tmps.getD 0 undef = .pointer (some ⟨b, 0, none⟩)) (h1 : a'.tmps.getD 1 undef = .pointer (some ⟨12, 0, none⟩))
    (h5 : a'.tmps.getD 5 undef = .bool false) (h6 : a'.tmps.getD 6 undef = .int .i64 ex) (h7 : a'.tmps.getD 7 undef = .int .u64 (m : Int)) (HJ : JF w w' b N ng m ex) : FJ w b N ng a' w' := by
  obtain ⟨t, d⟩ := a'
  simp only at hd hs h0 h1 h5 h6 h7
  subst hd
  have h := frame_eq t hs
  rw [h0, h1, h5, h6, h7] at h
  exact ⟨m, ex, fun i => t.getD i undef, congrArg (fun x => Act.mk x []) h, Lib.hid HJ⟩
set_option maxRecDepth 100000 in
set_option maxHeartbeats 4000000 in
theorem bits_any {b N : Nat} {ng : Bool} {l : List Nat} {w : World} (hN : N < 18446744073709551616) (hN2 : 9223372036854775808 ≤ N) (hf : FB w w b N ng l 20 0) (hln : l.length ≤ 20) (hg : Gd b w) :
    Calls Tryz.prog 185 #[.pointer (some ⟨b, 0, none⟩), .pointer (some ⟨12, 0, none⟩)] w fun e w' => e = .returned (.tuple #[.int .u64 ((if ng then 9223372036854775808 else 0) + slowBits N : Nat), .bool false]) ∧ Below b w w' := by
  have HF := Lib.hid hf
  have HG := Lib.hid hg
  have HN := Lib.hid (And.intro hN hN2)
  have c8 := hf.db.nd
  have c81 := hf.db.dp
  have ll : 0 < l.length := by obtain ⟨d, t, rfl, _⟩ := hf.dec.lead; simp
  have z0 : ((l.length : Int) == 0) = false := by rw [beq_eq_false_iff_ne]; omega
  have hb21 := hg.lt
  clear hf hg hN hN2
  go_enter Tryz.func185, Tryz.ntmps185
  go_wp2_with (fail)
  refine wp_scope_jumps 0 (FJ w b N ng) (fun _ _ => 0) (rest := ?r) ?hf ?first ?pass
  case hf =>
    simp [findLabel]
    rfl
  case first =>
    go_wp2_with (fail)
    clear c8 c81
    go_loopw [6] (fun s6 wr => ∃ (l : List Nat) (dp e : Nat), s6 = .int .i64 (e : Int) ∧ l.length ≤ 20 + 2 * e ∧ e ≤ 90 ∧ Hid (FB w wr b N ng l dp e)) (fun s6 _ => 100 - (intOf s6).toNat)
    case atStart => exact ⟨l, 20, 0, rfl, by omega, by omega, HF.out⟩
    case round =>
      clear ll z0
      obtain ⟨l, dp, e, rfl, hfew, he90, HS⟩ := hrel
      have c81 := HS.out.db.dp
      by_cases h0 : 0 < dp
      · have he64 := HS.out.dec.shifted h0 HN.out.1
        obtain ⟨k, hk⟩ : ∃ k, k = pw dp := ⟨_, rfl⟩
        have hkr := pw_range dp
        rw [← hk] at hkr
        have HD := Lib.hid (HS.out.dec.down h0)
        rw [← hk] at HD
        have HSH : Hid (∀ nq, Calls Tryz.prog 202 #[.pointer (some ⟨b, 0, none⟩), .int .i64 (-(k : Int))] (wr.drewN nq) (fun e w' => DecAt (wr.drewN nq) w' b (rDigs k l) ((dp : Int) - rMove k l) ng false e)) := by
          intro nq
          exact shift_right hkr.1 hkr.2 HS.out.dec.digs HS.out.dec.lead (by omega) (HS.out.db.drewN _) (HS.out.row.drewN _) ⟨by omega, by have := HS.out.small; omega⟩
        have g0 : ((dp : Int) > 0) := by omega
        obtain ⟨pb, po, pc, hpb, hpt, hpv⟩ := (Gd.below HG.out HS.out.below).pows
        by_cases h9 : 9 ≤ dp
        · have hk27 : k = 27 := by rw [hk]; unfold pw; rw [if_pos h9]
          have g9 : decide ((9 : Int) ≤ (dp : Int)) = true := by rw [decide_eq_true_iff]; omega
          clear hpv hk
          subst hk27
          go_wp2_with (fail)
          go_quiet (fail)
          go_wp2_with (fail)
          refine (HSH.out _).mono ?_
          rintro en w' ⟨rfl, h1, h2, h3⟩
          have HN2 : Hid (FB w w' b N ng (rDigs 27 l) (dp - rMove 27 l) (e + 27) ∧ (rDigs 27 l).length ≤ 20 + 2 * (e + 27)) := Lib.hid (by
            have hd := HD.out
            have e1 : (dp : Int) - (rMove 27 l : Nat) = ((dp - rMove 27 l : Nat) : Int) := by omega
            rw [e1] at h1
            exact ⟨⟨hd.2.1, h1, h2, HS.out.below.trans ((⟨rfl, rfl, rfl, Nat.le_refl _, fun _ _ => rfl⟩ : Below b wr (wr.drewN _)).trans h3), by have := HS.out.small; omega⟩, by omega⟩)
          clear h1 h2 h3
          go_wp2_with (fail)
          go_roundw
          case rel => exact ⟨_, _, e + 27, by go_num, HN2.out.2, by omega, HN2.out.1⟩
          case measure => simp [intOf] <;> omega
        · have hk9 : k ≤ 26 := by
            rw [hk]; unfold pw; rw [if_neg h9]
            have : dp = 0 ∨ dp = 1 ∨ dp = 2 ∨ dp = 3 ∨ dp = 4 ∨ dp = 5 ∨ dp = 6 ∨ dp = 7 ∨ dp = 8 := by omega
            rcases this with rfl | rfl | rfl | rfl | rfl | rfl | rfl | rfl | rfl <;> decide
          have hkc : wr.cell? ⟨pb, po + dp, none⟩ = some (.int .i64 (k : Int)) := by
            refine hpv dp k ?_
            rw [hk]; unfold pw; rw [if_neg h9]
            have : dp = 0 ∨ dp = 1 ∨ dp = 2 ∨ dp = 3 ∨ dp = 4 ∨ dp = 5 ∨ dp = 6 ∨ dp = 7 ∨ dp = 8 := by omega
            rcases this with rfl | rfl | rfl | rfl | rfl | rfl | rfl | rfl | rfl <;> rfl
          have g9 : decide ((9 : Int) ≤ (dp : Int)) = false := by rw [decide_eq_false_iff_not]; omega
          have b1 : (0 : Int) ≤ (dp : Int) := by omega
          have b2 : (dp : Int) < 9 := by omega
          clear hpv hk
          go_wp2_with (fail)
          go_quiet (fail)
          go_wp2_with (fail)
          go_quiet (fail)
          go_wp2_with (fail)
          refine (HSH.out _).mono ?_
          rintro en w' ⟨rfl, h1, h2, h3⟩
          have HN2 : Hid (FB w w' b N ng (rDigs k l) (dp - rMove k l) (e + k) ∧ (rDigs k l).length ≤ 20 + 2 * (e + k)) := Lib.hid (by
            have hd := HD.out
            have e1 : (dp : Int) - (rMove k l : Nat) = ((dp - rMove k l : Nat) : Int) := by omega
            rw [e1] at h1
            exact ⟨⟨hd.2.1, h1, h2, HS.out.below.trans ((⟨rfl, rfl, rfl, Nat.le_refl _, fun _ _ => rfl⟩ : Below b wr (wr.drewN _)).trans h3), by have := HS.out.small; omega⟩, by omega⟩)
          clear h1 h2 h3
          go_wp2_with (fail)
          go_roundw
          case rel => exact ⟨_, _, e + k, by go_num, HN2.out.2, by omega, HN2.out.1⟩
          case measure => simp [intOf] <;> omega
      · obtain rfl : dp = 0 := by omega
        clear h0
        go_wp2_with (fail)
        go_loopw [6] (fun s6 wr => ∃ (l : List Nat) (e : Nat), s6 = .int .i64 (e : Int) ∧ l.length ≤ 200 ∧ e ≤ 90 ∧ Hid (FB w wr b N ng l 0 e)) (fun s6 _ => (intOf s6).toNat)
        case atStart => exact ⟨l, e, rfl, by omega, he90, HS.out⟩
        case round =>
          clear c81 HS hfew he90
          obtain ⟨l, e, rfl, hl200, he90, HS⟩ := hrel
          have c81 := HS.out.db.dp
          have he64 : 64 ≤ e := by
            rcases Nat.lt_or_ge e 64 with h | h
            · exfalso
              have h1 := HS.out.dec.less
              have h2 : 2 ^ e ≤ 2 ^ 63 := Nat.pow_le_pow_right (by omega) (by omega)
              have h3 := HN.out.2
              have h4 : (2 : Nat) ^ 63 = 9223372036854775808 := by decide
              omega
            · exact h
          obtain ⟨d0, t0, hl0, hd0p⟩ := HS.out.dec.lead
          have c00 : wr.cell? ⟨b, 0, none⟩ = some (.int .u8 ((d0 : Int) + 48)) := by have := HS.out.row 0 d0 (by rw [hl0]; rfl); simpa using this
          have d09 : d0 ≤ 9 := HS.out.dec.digs d0 (by rw [hl0]; simp)
          have HL0 := Lib.hid hl0
          clear hl0
          by_cases h5 : d0 < 5
          · obtain ⟨f, rfl⟩ : ∃ f, e = f + 1 := ⟨e - 1, by omega⟩
            obtain ⟨pb, po, pc, hpb, hpt, hpv⟩ := (Gd.below HG.out HS.out.below).pows
            have hk0 : wr.cell? ⟨pb, po, none⟩ = some (.int .i64 1) := by have := hpv 0 1 rfl; simpa using this
            have g5 : decide ((d0 : Int) + 48 < 53) = true := by rw [decide_eq_true_iff]; omega
            have HSH : Hid (∀ nq, Calls Tryz.prog 202 #[.pointer (some ⟨b, 0, none⟩), .int .i64 1] (wr.drewN nq) (fun e w' => DecAt (wr.drewN nq) w' b (lOne l) 0 ng false e)) := by
              intro nq
              have hh : ∀ d t, l = d :: t → d < 5 := fun d t h => by rw [HL0.out] at h; cases h; exact h5
              have hb : Below b wr (wr.drewN nq) := ⟨rfl, rfl, rfl, Nat.le_refl _, fun _ _ => rfl⟩
              have hc := left_one HS.out.dec.digs HS.out.dec.lead hh (by omega) (HS.out.db.drewN nq) (HS.out.row.drewN nq) (Gd.below HG.out (HS.out.below.trans hb)) ⟨by omega, by omega⟩
              exact shift_left (K := 1) (Or.inl rfl) HS.out.dec.lead (HS.out.db.drewN nq) hc
            have HUP : Hid (Dec N (lOne l) 0 f ∧ (lOne l).length ≤ l.length) := Lib.hid (by
              have h := HS.out.dec
              rw [HL0.out] at h ⊢
              exact h.up h5)
            clear hpv h5
            go_wp2_with (fail)
            go_quiet (fail)
            go_wp2_with (fail)
            go_quiet (fail)
            go_wp2_with (fail)
            refine (HSH.out _).mono ?_
            rintro en w' ⟨rfl, h1, h2, h3⟩
            have HN2 : Hid (FB w w' b N ng (lOne l) 0 f) := Lib.hid ⟨HUP.out.1, h1, h2, HS.out.below.trans ((⟨rfl, rfl, rfl, Nat.le_refl _, fun _ _ => rfl⟩ : Below b wr (wr.drewN _)).trans h3), by omega⟩
            clear h1 h2 h3
            go_wp2_with (fail)
            go_roundw
            case rel => exact ⟨_, f, by go_num, by have := HUP.out.2; omega, by omega, HN2.out⟩
            case measure => simp [intOf] <;> omega
          · have g5 : decide ((d0 : Int) + 48 < 53) = false := by rw [decide_eq_false_iff_not]; omega
            have he : e = 64 := by
              have hv := HS.out.dec.val
              have h1 : l.length = t0.length + 1 := by rw [HL0.out]; rfl
              have h2 : dN l = d0 * 10 ^ t0.length + dN t0 := by rw [HL0.out, dN_cons]
              rw [Nat.pow_zero, Nat.mul_one, h1, Nat.pow_succ] at hv
              rcases Nat.lt_or_ge 64 e with h | h
              · exfalso
                have h3 : 2 ^ 65 ≤ 2 ^ e := Nat.pow_le_pow_right (by omega) (by omega)
                have hp : 0 < 10 ^ t0.length := Nat.pow_pos (by decide)
                have h4 : 5 * 10 ^ t0.length ≤ dN l := by rw [h2]; exact Nat.le_trans (Nat.mul_le_mul_right _ (by omega)) (Nat.le_add_right _ _)
                have h5' : 5 * 10 ^ t0.length * 2 ^ 65 ≤ dN l * 2 ^ e := Nat.mul_le_mul h4 h3
                have h6 := HN.out.1
                have h7 : N * (10 ^ t0.length * 10) < 18446744073709551616 * (10 ^ t0.length * 10) := Nat.mul_lt_mul_of_pos_right h6 (by omega)
                have h8 : (2 : Nat) ^ 65 = 36893488147419103232 := by decide
                rw [h8] at h5'
                generalize 10 ^ t0.length = q at *
                omega
              · omega
            subst he
            have HSH : Hid (∀ nq, Calls Tryz.prog 202 #[.pointer (some ⟨b, 0, none⟩), .int .i64 53] (wr.drewN nq) (fun e w' => DecAt (wr.drewN nq) w' b (lastDigs N) 16 ng false e)) := by
              intro nq
              have hh : ∀ d t, l = d :: t → 5 ≤ d := fun d t h => by rw [HL0.out] at h; cases h; omega
              have hb : Below b wr (wr.drewN nq) := ⟨rfl, rfl, rfl, Nat.le_refl _, fun _ _ => rfl⟩
              have hc := left_big HS.out.dec.digs HS.out.dec.lead hh (by omega) (HS.out.db.drewN nq) (HS.out.row.drewN nq) (Gd.below HG.out (HS.out.below.trans hb)) ⟨by omega, by omega⟩
              have hl := HS.out.dec.last HN.out.1
              unfold lBig at hl
              rw [hl] at hc
              exact shift_left (K := 53) (Or.inr rfl) HS.out.dec.lead (HS.out.db.drewN nq) hc
            have i0 := (Gd.below HG.out HS.out.below).inf0
            have i1 := (Gd.below HG.out HS.out.below).inf1
            have i2 := (Gd.below HG.out HS.out.below).inf2
            clear h5
            go_wp2_with (fail)
            go_quiet (fail)
            go_wp2_with (fail)
            refine (HSH.out _).mono ?_
            rintro en w2 ⟨rfl, h1, h2, h3⟩
            have HB2 : Hid (Below b w w2) := Lib.hid (HS.out.below.trans ((⟨rfl, rfl, rfl, Nat.le_refl _, fun _ _ => rfl⟩ : Below b wr (wr.drewN _)).trans h3))
            have HDL : Hid (Digs (lastDigs N) ∧ (lastDigs N).length ≤ 27) := Lib.hid ⟨trimZ_digs (toD_digs _ _), by unfold lastDigs; have := trimZ_length (toD 27 (N * 48828125)); rw [toD_length] at this; exact this⟩
            have HRI := Lib.hid (rounded_any HDL.out.1 (by have := HDL.out.2; omega) h1 h2)
            have HNG := Lib.hid h1.ng
            have j0 := (Gd.below HG.out HB2.out).inf0
            have j1 := (Gd.below HG.out HB2.out).inf1
            have j2 := (Gd.below HG.out HB2.out).inf2
            obtain ⟨m0, hm0⟩ : ∃ m0, m0 = riN (lastDigs N) := ⟨_, rfl⟩
            have hmb : m0 ≤ 10000000000000000 := by rw [hm0]; exact riN_le HDL.out.1
            rw [← hm0] at HRI
            have HM0 := Lib.hid hm0
            clear h1 h2 h3 hm0 i0 i1 i2
            go_wp2_with (fail)
            refine HRI.out.mono ?_
            rintro en w3 ⟨rfl, rfl⟩
            by_cases hbig : m0 = 9007199254740992
            · have z : ((m0 : Int) == 9007199254740992) = true := by rw [beq_iff_eq]; omega
              have z2 : (m0 : Int) / 2 = ((4503599627370496 : Nat) : Int) := by omega
              have HX : Hid (slowM m0 = 4503599627370496 ∧ slowX m0 = 64) := Lib.hid ⟨by unfold slowM; rw [if_pos hbig], by unfold slowX; rw [if_pos hbig]⟩
              clear hbig
              go_wp2_with (fail)
              go_quiet (fail)
              go_wp2_with (fail)
              have a1 : bits .and .u64 4503599627370496 4503599627370496 = 4503599627370496 := by decide
              go_wp2_with (fail)
              go_step3
              refine ⟨rfl, FJ_mk (m := 4503599627370496) rfl rfl rfl rfl rfl rfl rfl ⟨by rw [← HM0.out, HX.out.1], by rw [← HM0.out, HX.out.2], by omega, HNG.out, HB2.out.trans ⟨rfl, rfl, rfl, Nat.le_refl _, fun _ _ => rfl⟩⟩⟩
            · have z : ((m0 : Int) == 9007199254740992) = false := by rw [beq_eq_false_iff_ne]; omega
              by_cases hden : m0 / 4503599627370496 % 2 = 0
              · have HX : Hid (slowM m0 = m0 ∧ slowX m0 = -1023) := Lib.hid ⟨by unfold slowM; rw [if_neg hbig], by unfold slowX; rw [if_neg hbig, if_pos hden]⟩
                have a1 : bits .and .u64 (m0 : Int) 4503599627370496 = 0 := by
                  have := and_u64 (a := m0) (b := 2 ^ 52) (by omega) (by decide)
                  rw [and_pow] at this
                  rw [show (4503599627370496 : Int) = ((2 ^ 52 : Nat) : Int) by decide, this]
                  omega
                clear hbig hden
                go_wp2_with (fail)
                go_step3
                refine ⟨rfl, FJ_mk (m := m0) rfl rfl rfl rfl rfl rfl rfl ⟨by rw [← HM0.out, HX.out.1], by rw [← HM0.out, HX.out.2], hmb, HNG.out, HB2.out⟩⟩
              · have HX : Hid (slowM m0 = m0 ∧ slowX m0 = 63) := Lib.hid ⟨by unfold slowM; rw [if_neg hbig], by unfold slowX; rw [if_neg hbig, if_neg hden]⟩
                have a1 : bits .and .u64 (m0 : Int) 4503599627370496 = 4503599627370496 := by
                  have := and_u64 (a := m0) (b := 2 ^ 52) (by omega) (by decide)
                  rw [and_pow] at this
                  rw [show (4503599627370496 : Int) = ((2 ^ 52 : Nat) : Int) by decide, this]
                  omega
                clear hbig hden
                go_wp2_with (fail)
                go_step3
                refine ⟨rfl, FJ_mk (m := m0) rfl rfl rfl rfl rfl rfl rfl ⟨by rw [← HM0.out, HX.out.1], by rw [← HM0.out, HX.out.2], hmb, HNG.out, HB2.out⟩⟩
  case pass =>
    intro a' w' hj
    unfold FJ at hj
    obtain ⟨m, ex, u, rfl, HJ⟩ := hj
    dsimp only
    have hmb := HJ.out.mb
    obtain ⟨E, hE⟩ : ∃ E, E = slowE (riN (lastDigs N)) := ⟨_, rfl⟩
    obtain ⟨hE1, hE2⟩ : ex + 1023 = (E : Int) ∧ bits .and .i64 (E : Int) 2047 = (E : Int) := by
      have h := HJ.out.xx
      rw [hE, h]
      unfold slowX slowE
      split
      · exact ⟨by decide, by decide⟩
      · split
        · exact ⟨by decide, by decide⟩
        · exact ⟨by decide, by decide⟩
    have hEb : E ≤ 1087 := by
      rw [hE]; unfold slowE
      split
      · omega
      · split <;> omega
    obtain ⟨f, hf⟩ : ∃ f, f = m % 4503599627370496 := ⟨_, rfl⟩
    have hfb : f < 4503599627370496 := by rw [hf]; exact Nat.mod_lt _ (by omega)
    have a1 : bits .and .u64 (m : Int) 4503599627370495 = (f : Int) := by
      have := mask_mod (n := m) (k := 52) (by omega) (by omega)
      rw [hf]
      exact this
    obtain ⟨V, hV⟩ : ∃ V, V = f + E * 4503599627370496 := ⟨_, rfl⟩
    have w1 : IntKind.i64.wrap (ex + 1023) = (E : Int) := by rw [hE1, IntKind.wrap_i64]; omega
    have w2 : IntKind.u64.wrap ((E : Int) * 4503599627370496) = (E : Int) * 4503599627370496 := by
      have := wrap_u64 (a := E * 4503599627370496) (by omega)
      exact this
    have o1 : bits .or .u64 (f : Int) ((E : Int) * 4503599627370496) = (V : Int) := by
      have := or_u64 (a := f) (b := E * 4503599627370496) (by omega) (by omega)
      have h2 := or_parts (s := 0) (f := f) (k := E) hfb (by omega)
      rw [Nat.zero_mul, Nat.zero_add, Nat.zero_add] at h2
      rw [h2] at this
      rw [hV, Nat.add_comm]
      exact this
    have c82 := HJ.out.ng
    have i0 := (Gd.below HG.out HJ.out.below).inf0
    have i1 := (Gd.below HG.out HJ.out.below).inf1
    have i2 := (Gd.below HG.out HJ.out.below).inf2
    have HV : Hid (V = slowBits N) := Lib.hid (by rw [hV, hf, hE, HJ.out.mm]; rfl)
    have hVb : V < 9223372036854775808 := by omega
    have HE1 := Lib.hid hE1
    have HVB := Lib.hid hVb
    clear hE hE1 hf hV hVb
    obtain ⟨Z, hZ⟩ : ∃ Z, Z = 9223372036854775808 + V := ⟨_, rfl⟩
    have o2 : bits .or .u64 (V : Int) 9223372036854775808 = (Z : Int) := by
      have := or_u64 (a := V) (b := 9223372036854775808) (by have := HVB.out; omega) (by omega)
      have h2 := Nat.two_pow_add_eq_or_of_lt (i := 63) (b := V) HVB.out 1
      have e63 : (2 : Nat) ^ 63 = 9223372036854775808 := by decide
      rw [e63, Nat.mul_one, Nat.or_comm] at h2
      rw [hZ, h2]
      exact this
    have HZ := Lib.hid hZ
    clear hZ
    have HBQ : Hid (∀ n, Below b w (w'.drewN n)) := Lib.hid fun n => HJ.out.below.trans ⟨rfl, rfl, rfl, Nat.le_refl _, fun _ _ => rfl⟩
    cases ng
    · go_wp2_with (fail)
      go_quiet (fail)
      go_wp2_with (fail)
      simp only [Exit.jump]
      go_ret2
      exact ⟨retU (by rw [← HV.out, if_neg (by decide), Nat.zero_add]), HBQ.out _⟩
    · go_wp2_with (fail)
      go_quiet (fail)
      go_wp2_with (fail)
      go_quiet (fail)
      go_wp2_with (fail)
      simp only [Exit.jump]
      go_ret2
      rw [World.drewN_drewN]
      exact ⟨retU (by rw [← HV.out, if_pos rfl, ← HZ.out]), HBQ.out _⟩
end Go.Proofs.YtppkpcijmfdfmaaGreatDoor
