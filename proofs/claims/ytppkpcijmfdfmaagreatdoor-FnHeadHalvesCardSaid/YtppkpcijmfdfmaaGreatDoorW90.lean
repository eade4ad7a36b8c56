/- One number in an object: how it is found; the walk of HeadFloat; the numerals with an exponent. -/
import Derived.Test.YtppkpcijmfdfmaaGreatDoorC15
import Derived.Test.YtppkpcijmfdfmaaGreatDoorW88
import Derived.Test.YtppkpcijmfdfmaaGreatDoorA22
import Derived.BigQuiet
import Derived.Deep.QuietTactic
set_option linter.unusedVariables false
set_option linter.unusedSimpArgs false
namespace Go.Proofs.YtppkpcijmfdfmaaGreatDoor
open Go.RowKit
attribute [local go_sem] B_size B_get B_lit B_ext_to B_ext B_toList B_app

theorem digVal_hDig (n : Nat) : digVal (hDig n) = n := by
  induction n using Nat.strongRecOn with
  | _ n ih =>
    by_cases h : n < 10
    · rw [hDig_small h]
      unfold digVal digAcc
      simp only [List.foldl_cons, List.foldl_nil]
      rw [UInt8.toNat_ofNat']
      omega
    · rw [hDig_big h, digVal_push, ih (n / 10) (by omega), UInt8.toNat_ofNat']
      omega
theorem hDig_dig (n : Nat) : ∀ c ∈ hDig n, isDig c = true := fun c hc => isDig_nat.2 (hDig_range n c hc)
/-- Digits that stand in a text. -/
theorem digs_in {a d b s : Bs} (hs : s = a ++ d ++ b) (hd : ∀ c ∈ d, isDig c = true) {o m : Nat} (ho : o = a.length) (hm : m = a.length + d.length) : digsTo s o m ∧ dv s o m = digVal d := by
  subst hs; subst ho; subst hm
  refine ⟨⟨by omega, by simp, fun i u h1 h2 hu => ?_⟩, ?_⟩
  · rw [List.append_assoc, List.getElem?_append_right h1, List.getElem?_append_left (by omega)] at hu
    exact hd u (List.mem_of_getElem? hu)
  · unfold dv
    rw [List.append_assoc, List.drop_left, show a.length + d.length - a.length = d.length by omega, List.take_left]

/-- An object of one number. -/
abbrev OneMs (num : Bs) : List (Bs × J) := [([97], .num num)]
theorem one_good {U : Bs → Bs → Prop} (hU : UG U) (num : Bs) : Good U (.obj (OneMs num)) := by
  have hm1 : ∀ m ∈ OneMs num, m = ([97], .num num) := fun m hm => by simpa [OneMs] using hm
  refine ⟨fun ms e m hm => ?_, fun ms e m hm => ?_, fun ms e m hm m' hm' c h1 h2 => ?_, fun ms e => ?_⟩
  · cases e; rw [hm1 m hm]; exact ⟨[97], hU.plain [97] (by decide)⟩
  · cases e; rw [hm1 m hm]
    refine ⟨fun s e => ?_, fun ts e => ?_⟩ <;> cases e
  · cases e; rw [hm1 m hm, hm1 m' hm']
  · cases e; simp
theorem one_finds {U : Bs → Bs → Prop} (hU : UG U) {num : Bs} {t : Option J} (h : FindsR U (some (.obj (OneMs num))) [97] t) : t = some (.num num) := by
  have hm : (([97], .num num) : Bs × J) ∈ OneMs num := by simp
  cases t with
  | none => exact absurd (hU.plain [97] (by decide)) (h _ hm)
  | some t =>
    obtain ⟨i, m, hi, hu, rfl, _⟩ := h
    have h2 := List.mem_of_getElem? hi
    have : m = ([97], .num num) := by simpa using h2
    rw [this]

/-- How one number is read. -/
def envF (num : Bs) (q : Nat) : Env where
  U q out := q = out ∧ (92 : UInt8) ∉ q
  NI _ := False
  NU _ := False
  NF s := s = num
  i64 _ := none
  u64 _ := none
  f64 _ := some q
theorem envF_ok {num : Bs} {q : Nat} (h : NumP 110 num (.float .f64 0) (some (.float .f64 q))) : (envF num q).OK where
  ug := env0_ok.ug
  i s h := h.elim
  u s h := h.elim
  f s hs := by cases hs; exact h

set_option maxRecDepth 100000 in
/-- HeadFloat of an object of one number. -/
theorem headFloat_one {num : Bs} {q : Nat} (hq : NumP 110 num (.float .f64 0) (some (.float .f64 q))) (hnum : Numeral num) (hl : num.length < 1000) {w : World} {v : Value} (hv : BA w v (oneText num)) (hG : Gw w) :
    Calls Tryz.prog 28 #[v, .string (B [97])] w fun e w' => e = .returned (.tuple #[.float .f64 q, .bool true]) ∧ Below w.heap.size w w' := by
  have hp := one_parse hnum
  have hR := ready_any (G := envF num q) v (oneText num) w hv (by simp [oneText]; omega) hG (fun j hj => by rw [hp] at hj; cases hj; exact one_good env0_ok.ug num)
  rw [hp] at hR
  have HR := Lib.hid hR
  have HQ := Lib.hid (envF_ok hq)
  clear hR hq hv hG hp
  go_enter Tryz.func28, Tryz.ntmps28
  go_wp2_with (fail)
  refine HR.out.mono ?_
  rintro e w2 ⟨hb, rfl, hb2, hq2⟩
  have HB2 := Lib.hid hb2
  have HF := Lib.hid (getFloat_any HQ.out hq2 [97] (by decide) (fun j hj hno => by cases hj; exact absurd rfl (hno _)) (fun t s hf ht => by
    have := one_finds env0_ok.ug hf
    cases this
    cases ht
    rfl))
  clear hb2 hq2
  go_wp2_with (fail)
  refine HF.out.mono ?_
  rintro e w3 h3
  obtain ⟨hq3, t, hf, hres⟩ := h3.or
  obtain rfl := one_finds env0_ok.ug hf
  have HB3 := Lib.hid (HB2.out.trans (hq3.kept.1))
  rcases hres with ⟨hn, _⟩ | ⟨x, hx, rfl⟩
  · cases hn
  obtain rfl : q = x := Option.some.inj hx
  clear h3 hq3 hf hx
  go_wp2_with (fail)
  go_quiet (fail)
  go_wp2_with (fail)
  go_ret2
  exact ⟨rfl, below_draws HB3.out _⟩
end Go.Proofs.YtppkpcijmfdfmaaGreatDoor
