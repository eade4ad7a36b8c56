/- A header that was just read can be asked. -/
import Derived.Test.YtppkpcijmfdfmaaGreatDoorC13
import Derived.Test.YtppkpcijmfdfmaaGreatDoorC11
import Derived.Test.YtppkpcijmfdfmaaGreatDoorC12
set_option linter.unusedVariables false
set_option linter.unusedSimpArgs false
namespace Go.Proofs.YtppkpcijmfdfmaaGreatDoor
open Go.RowKit
attribute [local go_sem] B_size B_get B_lit B_ext_to B_ext B_toList B_app

theorem cooked {U : Bs → Bs → Prop} : ∀ (ms : List (Bs × J)), (∀ m ∈ ms, ∃ c, U m.1 c) → ∃ cs : List Bs, cs.length = ms.length ∧ ∀ (i : Nat) r c, (ms.map (·.1))[i]? = some r → cs[i]? = some c → U r c
  | [], _ => ⟨[], rfl, fun i r c h => by simp at h⟩
  | m :: ms, h => by
    obtain ⟨c, hc⟩ := h m (by simp)
    obtain ⟨cs, hl, hcs⟩ := cooked ms fun m' hm' => h m' (by simp [hm'])
    refine ⟨c :: cs, by simp [hl], fun i r c' h1 h2 => ?_⟩
    cases i with
    | zero => simp at h1 h2; subst h1; subst h2; exact hc
    | succ i => exact hcs i r c' (by simpa using h1) (by simpa using h2)

theorem objS_start {U : Bs → Bs → Prop} {w : World} {B0 hb k o : Nat} {ms : List (Bs × J)} (hB : B0 ≤ w.heap.size) (h : RepV w (SQ w B0 hb) k o (.obj ms)) (hg : Good U (.obj ms)) : ObjS U w B0 hb k o ms w := by
  cases h with
  | @obj k o ov a2 a3 ps ms hvn hl hr hk =>
    have hS := hvn.sure 0 (by omega)
    rcases hr with ⟨rfl, rfl, h0⟩ | ⟨g, cap, rfl, h1, h2, h6, h3, h4⟩
    · have hms : ms = [] := by simpa using h0
      subst hms
      exact Or.inl ⟨rfl, hvn.c0, hvn.free 1 (by omega), false, hvn.c1⟩
    · obtain ⟨cs, hcl, hcs⟩ := cooked ms (hg.keys ms rfl)
      have hml : ms.length = ps.length := by simpa using h6
      have h40 := h4 0 ps[0] ((ms.map (·.1))[0]'(by omega)) (List.getElem?_eq_getElem h1) (List.getElem?_eq_getElem (by omega))
      have hm : ∀ i, i < ps.length → ∃ p s, ps[i]? = some p ∧ (ms.map (·.1))[i]? = some s := fun i hi => ⟨ps[i], (ms.map (·.1))[i]'(by simp; omega), List.getElem?_eq_getElem hi, List.getElem?_eq_getElem _⟩
      refine Or.inr ⟨g, cap, cs, ps, ⟨hB, hS.1, hS.2.1, hvn.shape, hvn.five, hvn.c0, h40.1.1, h40.1.2.1, h3, by simpa using hml, by omega, hcs, fun i hi => ?_, hvn.free 1 (by omega), by have := hg.few ms rfl; omega⟩, hk, false, hvn.c1, fun i s hi => ?_, fun i p hi => ?_⟩
      · obtain ⟨p, s, h7, h8⟩ := hm i hi
        exact (h4 i p s h7 h8).2.2.2.2.1
      · have hi2 : i < ps.length := by
          have := (List.getElem?_eq_some_iff.1 hi).1
          simp at this; omega
        obtain ⟨p, s', h7, h8⟩ := hm i hi2
        exact (h4 i p s h7 (by simpa using hi)).2.2.1
      · have hi2 : i < ps.length := (List.getElem?_eq_some_iff.1 hi).1
        obtain ⟨p', s, h7, h8⟩ := hm i hi2
        exact (h4 i p s hi h8).2.2.2.1

theorem ready_any {G : Env} (v : Value) (l : Bs) (w : World) (hv : BA w v l) (hl : l.length < 4294967000) (hG : Gw w) (hg : ∀ j, jParse l = some j → Good G.U j) :
    Calls Tryz.prog 62 #[v] w (Ready G (jParse l) w) := by
  refine (head_any v l w hv hl).mono ?_
  rintro e w' ⟨hb, hbk, rfl, h1, h2, hsh, h3⟩
  refine ⟨hbk, rfl, hb, ?_⟩
  cases hj : jParse l with
  | none =>
    rw [hj] at h3
    obtain ⟨T, v, c0, c1⟩ := h3
    exact ⟨⟨h1, h2, Nat.le_refl _, hb.size⟩, Below.refl _ _, T, v, c0, c1⟩
  | some j =>
    rw [hj] at h3
    obtain ⟨k, o, c0, c1, hr⟩ := h3
    exact ⟨w', k, o, Nat.le_refl _, QI.start _ _ _ _ _ h2 hsh ⟨Gd.below hG hb, hb.size⟩, hb.size, by have := hG.lt; omega, hG.err.below (by have := hG.lt; omega) hb, hr, c0, c1, hg j hj, fun ms e => by subst e; exact objS_start hb.size hr (hg _ hj)⟩
end Go.Proofs.YtppkpcijmfdfmaaGreatDoor

/- The walk of fastfloat.ParseInt64 and ParseUint64, up to 18 bytes. -/
namespace Go.Proofs.YtppkpcijmfdfmaaGreatDoor
open Go.RowKit
attribute [local go_sem] B_size B_get B_lit B_ext_to B_ext B_toList B_app

def isDig (c : UInt8) : Bool := 48 ≤ c && c ≤ 57
/-- The value of decimal digits. -/
def digAcc (a : Nat) (s : Bs) : Nat := s.foldl (fun n c => n * 10 + (c.toNat - 48)) a
def digVal (s : Bs) : Nat := digAcc 0 s
theorem digAcc_push (s : Bs) (c : UInt8) (a : Nat) : digAcc a (s ++ [c]) = digAcc a s * 10 + (c.toNat - 48) := by
  unfold digAcc
  rw [List.foldl_append, List.foldl_cons, List.foldl_nil]
theorem digVal_push (s : Bs) (c : UInt8) : digVal (s ++ [c]) = digVal s * 10 + (c.toNat - 48) := digAcc_push s c 0
theorem isDig_nat {c : UInt8} : isDig c = true ↔ 48 ≤ c.toNat ∧ c.toNat ≤ 57 := by
  unfold isDig
  rw [Bool.and_eq_true, decide_eq_true_iff, decide_eq_true_iff, UInt8.le_iff_toNat_le, UInt8.le_iff_toNat_le]
  exact Iff.rfl
theorem digAcc_cons (a : Nat) (c : UInt8) (r : Bs) : digAcc a (c :: r) = digAcc (a * 10 + (c.toNat - 48)) r := by
  unfold digAcc
  rw [List.foldl_cons]
theorem pow_step (a p : Nat) (d : Nat) (h : d ≤ 9) : (a * 10 + d + 1) * p ≤ (a + 1) * (p * 10) := by
  have h3 : a * 10 + d + 1 ≤ (a + 1) * 10 := by omega
  have h4 := Nat.mul_le_mul_right p h3
  rw [Nat.mul_assoc, Nat.mul_comm 10 p] at h4
  exact h4
theorem digAcc_lt : ∀ (s : Bs) (a : Nat), (∀ c ∈ s, isDig c = true) → digAcc a s < (a + 1) * 10 ^ s.length
  | [], a, _ => by
    unfold digAcc
    rw [List.foldl_nil, List.length_nil, Nat.pow_zero, Nat.mul_one]
    exact Nat.lt_succ_self a
  | c :: r, a, h => by
    have h1 := digAcc_lt r (a * 10 + (c.toNat - 48)) fun c hc => h c (List.mem_cons_of_mem _ hc)
    have h2 := isDig_nat.1 (h c List.mem_cons_self)
    rw [digAcc_cons, List.length_cons, Nat.pow_succ]
    exact Nat.lt_of_lt_of_le h1 (pow_step a _ _ (by omega))
theorem digVal_lt (s : Bs) (h : ∀ c ∈ s, isDig c = true) : digVal s < 10 ^ s.length := by
  have := digAcc_lt s 0 h
  rw [Nat.zero_add, Nat.one_mul] at this
  exact this
/-- A number reader's answer. -/
def NRes (z : Value) (r : Option Value) (e : Ending) : Prop :=
  match r with
  | some v => e = .returned (.tuple #[v, .nilIface])
  | none => ∃ T t, e = .returned (.tuple #[z, .iface T t])
theorem NRes.err {z : Value} {r : Option Value} (T : TypeId) (t : Value) (h : r = none) : NRes z r (.returned (.tuple #[z, .iface T t])) := by subst h; exact ⟨T, t, rfl⟩
theorem NRes.ok {z : Value} {r : Option Value} (v : Value) (h : r = some v) : NRes z r (.returned (.tuple #[v, .nilIface])) := by subst h; rfl
theorem NumP.of {f : Nat} {s : Bs} {z : Value} {r : Option Value} (h : ∀ w, Calls Tryz.prog f #[.string (B s)] w fun e w' => Below w.heap.size w w' ∧ NRes z r e) : NumP f s z r := fun w _ => h w

/-- The digits that were read. -/
def digsTo (s : Bs) (o m : Nat) : Prop := o ≤ m ∧ m ≤ s.length ∧ ∀ i u, o ≤ i → i < m → s[i]? = some u → isDig u = true
def dv (s : Bs) (o m : Nat) : Nat := digVal ((s.drop o).take (m - o))
theorem digsTo_mem {s : Bs} {o m : Nat} (h : digsTo s o m) : ∀ c ∈ (s.drop o).take (m - o), isDig c = true := by
  intro c hc
  obtain ⟨i, hi⟩ := List.mem_iff_getElem?.1 hc
  have hlt := (List.getElem?_eq_some_iff.1 hi).1
  have h1 := h.1
  simp at hlt
  rw [List.getElem?_take_of_lt (by omega), List.getElem?_drop] at hi
  exact h.2.2 (o + i) c (by omega) (by omega) hi
theorem digsTo_lt {s : Bs} {o m : Nat} (h : digsTo s o m) (hn : m ≤ 18) : dv s o m < 1000000000000000000 := by
  have h1 := digVal_lt _ (digsTo_mem h)
  have h2 : ((s.drop o).take (m - o)).length ≤ 18 := by
    rw [List.length_take]; omega
  have h3 : 10 ^ ((s.drop o).take (m - o)).length ≤ 10 ^ 18 := Nat.pow_le_pow_right (by omega) h2
  exact Nat.lt_of_lt_of_le h1 h3
theorem digsTo_step {s : Bs} {o m : Nat} {u : UInt8} (h : digsTo s o m) (hu : s[m]? = some u) (hd : isDig u = true) : digsTo s o (m + 1) ∧ dv s o (m + 1) = dv s o m * 10 + (u.toNat - 48) := by
  have hlt := (List.getElem?_eq_some_iff.1 hu).1
  have h1 := h.1
  refine ⟨⟨by omega, by omega, fun i v h1 h2 hv => ?_⟩, ?_⟩
  · by_cases e : i = m
    · subst e; rw [hu] at hv; cases hv; exact hd
    · exact h.2.2 i v h1 (by omega) hv
  · unfold dv
    rw [show m + 1 - o = (m - o) + 1 by omega, List.take_add_one, List.getElem?_drop, show o + (m - o) = m by omega, hu]
    exact digVal_push _ _
theorem digsTo_start (s : Bs) (o : Nat) (h : o ≤ s.length) : digsTo s o o := ⟨Nat.le_refl _, h, fun i u h1 h2 _ => by omega⟩
theorem dv_start (s : Bs) (o : Nat) : dv s o o = 0 := by
  unfold dv
  rw [Nat.sub_self, List.take_zero]
  rfl
theorem dv_all (s : Bs) (o : Nat) : dv s o s.length = digVal (s.drop o) := by
  unfold dv
  rw [List.take_of_length_le (by simp)]

set_option maxHeartbeats 1000000 in
set_option maxRecDepth 100000 in
theorem int64_plain (s : Bs) (hlen : s.length < 4294967296) (hne : 0 < s.length) (h45 : s[0]? ≠ some 45) (h18 : ∀ m, digsTo s 0 m → m ≤ 18) (r : Option Value)
    (hok : s.length ≠ 0 → digsTo s 0 s.length → r = some (.int .i64 ((digVal (s.drop 0) : Nat)))) (hno : s.length = 0 ∨ ¬ digsTo s 0 s.length → r = none) :
    NumP 113 s (.int .i64 0) r := by
  refine NumP.of fun w => ?_
  have H18 := Lib.hid h18
  have HR := Lib.hid (And.intro hok hno)
  clear h18 hok hno
  have h0 : 0 < s.length := hne
  have z0 : ((s.length : Int) == 0) = false := by rw [beq_eq_false_iff_ne]; omega
  have z45 : ((s[0].toNat : Int) == 45) = false := (u8_facts 45 fun e => h45 (by rw [List.getElem?_eq_getElem h0, e])).1
  clear hne h45
  go_enter Tryz.func113, Tryz.ntmps113
  go_wp2_with (go_at_call 109; refine (errorsNew_any _ _).mono ?_; rintro e w' ⟨rfl, rfl⟩)
  go_loop [4, 6] (fun i d => ∃ m : Nat, Hid (digsTo s 0 m) ∧ m ≤ s.length ∧ m ≤ 18 ∧ 0 ≤ m ∧ i = .int .u64 (m : Int) ∧ d = .int .i64 (dv s 0 m : Nat)) (fun i _ => s.length - (intOf i).toNat)
  case atStart => exact ⟨0, digsTo_start s 0 (by omega), by omega, by omega, by omega, rfl, by rw [dv_start]; rfl⟩
  case round =>
    obtain ⟨m, HD, hn, hn18, hom, rfl, rfl⟩ := hrel
    have hb := digsTo_lt HD.out hn18
    by_cases hlt : m < s.length
    · have hu : s[m]? = some s[m] := List.getElem?_eq_getElem hlt
      have hcd := isDig_nat (c := s[m])
      by_cases hd : isDig s[m] = true
      · obtain ⟨h1, h2⟩ := digsTo_step HD.out hu hd
        have h3 := H18.out _ h1
        have hb2 := digsTo_lt h1 h3
        have hcd := hcd.1 hd
        have H1 := Lib.hid h1
        have hv : ((dv s 0 (m + 1) : Nat) : Int) = (dv s 0 m : Nat) * 10 + ((s[m].toNat : Int) - 48) := by omega
        generalize dv s 0 m = D at *
        have HV := Lib.hid hv
        have c48 : 48 ≤ (s[m].toNat : Int) := by omega
        have c57 : (s[m].toNat : Int) ≤ 57 := by omega
        have m18 : ¬ ((m : Int) + 1 > 18) := by omega
        have w1 : wrap64 ((D : Int) * 10) = (D : Int) * 10 := by unfold wrap64; omega
        have w2 : wrap64 ((D : Int) * 10 + ((s[m].toNat : Int) - 48)) = (D : Int) * 10 + ((s[m].toNat : Int) - 48) := by unfold wrap64; omega
        clear h1 h2 hu hd hv hcd HD hb2
        go_wp2
        go_round
        case rel => exact ⟨m + 1, H1.out, by omega, by omega, by omega, by go_num, by rw [HV.out]; go_num⟩
        case measure => simp [intOf]; omega
      · have HN : Hid (r = none) := HR.out.2 (Or.inr fun h => hd (h.2.2 m _ hom hlt hu))
        have hcc : (s[m].toNat : Int) < 48 ∨ 57 < (s[m].toNat : Int) := by
          have : ¬ (48 ≤ s[m].toNat ∧ s[m].toNat ≤ 57) := fun e => hd (hcd.2 e)
          omega
        clear hcd hu hd HD
        by_cases hm0 : m = 0
        · subst hm0
          rcases hcc with hcc | hcc
          · have c48 : ¬ (48 ≤ (s[0].toNat : Int)) := by omega
            clear hcc
            go_wp2_with (go_at_call 109; refine (errorsNew_any _ _).mono ?_; rintro e w' ⟨rfl, rfl⟩)
            go_ret2
            exact ⟨(Below.refl _ _).alloc (Nat.le_refl _) _, NRes.err _ _ HN.out⟩
          · have c48 : 48 ≤ (s[0].toNat : Int) := by omega
            have c57 : ¬ ((s[0].toNat : Int) ≤ 57) := by omega
            clear hcc
            go_wp2_with (go_at_call 109; refine (errorsNew_any _ _).mono ?_; rintro e w' ⟨rfl, rfl⟩)
            go_ret2
            exact ⟨(Below.refl _ _).alloc (Nat.le_refl _) _, NRes.err _ _ HN.out⟩
        · have mo : ¬ ((m : Int) ≤ 0) := by omega
          rcases hcc with hcc | hcc
          · have c48 : ¬ (48 ≤ (s[m].toNat : Int)) := by omega
            clear hcc
            go_wp2_with (go_at_call 109; refine (errorsNew_any _ _).mono ?_; rintro e w' ⟨rfl, rfl⟩)
            go_ret2
            exact ⟨(Below.refl _ _).alloc (Nat.le_refl _) _, NRes.err _ _ HN.out⟩
          · have c48 : 48 ≤ (s[m].toNat : Int) := by omega
            have c57 : ¬ ((s[m].toNat : Int) ≤ 57) := by omega
            clear hcc
            go_wp2_with (go_at_call 109; refine (errorsNew_any _ _).mono ?_; rintro e w' ⟨rfl, rfl⟩)
            go_ret2
            exact ⟨(Below.refl _ _).alloc (Nat.le_refl _) _, NRes.err _ _ HN.out⟩
    · obtain rfl : m = s.length := by omega
      have HN := Lib.hid (HR.out.1 (by omega) HD.out)
      have hd : dv s 0 s.length = digVal (s.drop 0) := dv_all s 0
      have mo : ¬ ((s.length : Int) ≤ 0) := by omega
      have hs0 : ¬ (s = []) := by rintro rfl; simp at h0
      rw [hd] at hb
      rw [hd]
      generalize digVal (s.drop 0) = D at *
      clear HD HR H18 hd
      go_wp2_with (go_at_call 109; refine (errorsNew_any _ _).mono ?_; rintro e w' ⟨rfl, rfl⟩)
      go_ret2
      exact ⟨Below.refl _ _, NRes.ok _ HN.out⟩

set_option maxHeartbeats 1000000 in
set_option maxRecDepth 100000 in
theorem int64_minus (s : Bs) (hlen : s.length < 4294967296) (hne : 1 < s.length) (h45 : s[0]? = some 45) (h18 : ∀ m, digsTo s 1 m → m ≤ 18) (r : Option Value)
    (hok : s.length ≠ 1 → digsTo s 1 s.length → r = some (.int .i64 (-(digVal (s.drop 1) : Nat)))) (hno : s.length = 1 ∨ ¬ digsTo s 1 s.length → r = none) :
    NumP 113 s (.int .i64 0) r := by
  refine NumP.of fun w => ?_
  have H18 := Lib.hid h18
  have HR := Lib.hid (And.intro hok hno)
  clear h18 hok hno
  have h0 : 0 < s.length := by omega
  have z0 : ((s.length : Int) == 0) = false := by rw [beq_eq_false_iff_ne]; omega
  have z45 : ((s[0].toNat : Int) == 45) = true := by
    rw [List.getElem?_eq_getElem h0] at h45
    rw [beq_iff_eq, Option.some.inj h45]
    rfl
  have zl : ¬ ((1 : Int) ≥ (s.length : Int)) := by omega
  have zl2 : ¬ ((s.length : Int) ≤ 1) := by omega
  clear h45
  go_enter Tryz.func113, Tryz.ntmps113
  go_wp2_with (go_at_call 109; refine (errorsNew_any _ _).mono ?_; rintro e w' ⟨rfl, rfl⟩)
  go_loop [4, 6] (fun i d => ∃ m : Nat, Hid (digsTo s 1 m) ∧ m ≤ s.length ∧ m ≤ 18 ∧ 1 ≤ m ∧ i = .int .u64 (m : Int) ∧ d = .int .i64 (dv s 1 m : Nat)) (fun i _ => s.length - (intOf i).toNat)
  case atStart => exact ⟨1, digsTo_start s 1 (by omega), by omega, by omega, by omega, rfl, by rw [dv_start]; rfl⟩
  case round =>
    obtain ⟨m, HD, hn, hn18, hom, rfl, rfl⟩ := hrel
    have hb := digsTo_lt HD.out hn18
    by_cases hlt : m < s.length
    · have hu : s[m]? = some s[m] := List.getElem?_eq_getElem hlt
      have hcd := isDig_nat (c := s[m])
      by_cases hd : isDig s[m] = true
      · obtain ⟨h1, h2⟩ := digsTo_step HD.out hu hd
        have h3 := H18.out _ h1
        have hb2 := digsTo_lt h1 h3
        have hcd := hcd.1 hd
        have H1 := Lib.hid h1
        have hv : ((dv s 1 (m + 1) : Nat) : Int) = (dv s 1 m : Nat) * 10 + ((s[m].toNat : Int) - 48) := by omega
        generalize dv s 1 m = D at *
        have HV := Lib.hid hv
        have c48 : 48 ≤ (s[m].toNat : Int) := by omega
        have c57 : (s[m].toNat : Int) ≤ 57 := by omega
        have m18 : ¬ ((m : Int) + 1 > 18) := by omega
        have w1 : wrap64 ((D : Int) * 10) = (D : Int) * 10 := by unfold wrap64; omega
        have w2 : wrap64 ((D : Int) * 10 + ((s[m].toNat : Int) - 48)) = (D : Int) * 10 + ((s[m].toNat : Int) - 48) := by unfold wrap64; omega
        clear h1 h2 hu hd hv hcd HD hb2
        go_wp2
        go_round
        case rel => exact ⟨m + 1, H1.out, by omega, by omega, by omega, by go_num, by rw [HV.out]; go_num⟩
        case measure => simp [intOf]; omega
      · have HN : Hid (r = none) := HR.out.2 (Or.inr fun h => hd (h.2.2 m _ hom hlt hu))
        have hcc : (s[m].toNat : Int) < 48 ∨ 57 < (s[m].toNat : Int) := by
          have : ¬ (48 ≤ s[m].toNat ∧ s[m].toNat ≤ 57) := fun e => hd (hcd.2 e)
          omega
        clear hcd hu hd HD
        by_cases hm0 : m = 1
        · subst hm0
          rcases hcc with hcc | hcc
          · have c48 : ¬ (48 ≤ (s[1].toNat : Int)) := by omega
            clear hcc
            go_wp2_with (go_at_call 109; refine (errorsNew_any _ _).mono ?_; rintro e w' ⟨rfl, rfl⟩)
            go_ret2
            exact ⟨(Below.refl _ _).alloc (Nat.le_refl _) _, NRes.err _ _ HN.out⟩
          · have c48 : 48 ≤ (s[1].toNat : Int) := by omega
            have c57 : ¬ ((s[1].toNat : Int) ≤ 57) := by omega
            clear hcc
            go_wp2_with (go_at_call 109; refine (errorsNew_any _ _).mono ?_; rintro e w' ⟨rfl, rfl⟩)
            go_ret2
            exact ⟨(Below.refl _ _).alloc (Nat.le_refl _) _, NRes.err _ _ HN.out⟩
        · have mo : ¬ ((m : Int) ≤ 1) := by omega
          rcases hcc with hcc | hcc
          · have c48 : ¬ (48 ≤ (s[m].toNat : Int)) := by omega
            clear hcc
            go_wp2_with (go_at_call 109; refine (errorsNew_any _ _).mono ?_; rintro e w' ⟨rfl, rfl⟩)
            go_ret2
            exact ⟨(Below.refl _ _).alloc (Nat.le_refl _) _, NRes.err _ _ HN.out⟩
          · have c48 : 48 ≤ (s[m].toNat : Int) := by omega
            have c57 : ¬ ((s[m].toNat : Int) ≤ 57) := by omega
            clear hcc
            go_wp2_with (go_at_call 109; refine (errorsNew_any _ _).mono ?_; rintro e w' ⟨rfl, rfl⟩)
            go_ret2
            exact ⟨(Below.refl _ _).alloc (Nat.le_refl _) _, NRes.err _ _ HN.out⟩
    · obtain rfl : m = s.length := by omega
      have HN := Lib.hid (HR.out.1 (by omega) HD.out)
      have hd : dv s 1 s.length = digVal (s.drop 1) := dv_all s 1
      have mo : ¬ ((s.length : Int) ≤ 1) := by omega
      have hs0 : ¬ (s = []) := by rintro rfl; simp at h0
      rw [hd] at hb
      rw [hd]
      generalize digVal (s.drop 1) = D at *
      have w3 : wrap64 (-(D : Int)) = -(D : Int) := by unfold wrap64; omega
      clear HD HR H18 hd
      go_wp2_with (go_at_call 109; refine (errorsNew_any _ _).mono ?_; rintro e w' ⟨rfl, rfl⟩)
      go_ret2
      exact ⟨Below.refl _ _, NRes.ok _ HN.out⟩

set_option maxHeartbeats 1000000 in
set_option maxRecDepth 100000 in
theorem uint64_plain (s : Bs) (hlen : s.length < 4294967296) (hne : 0 < s.length) (h18 : ∀ m, digsTo s 0 m → m ≤ 18) (r : Option Value)
    (hok : s.length ≠ 0 → digsTo s 0 s.length → r = some (.int .u64 ((digVal (s.drop 0) : Nat)))) (hno : s.length = 0 ∨ ¬ digsTo s 0 s.length → r = none) :
    NumP 114 s (.int .u64 0) r := by
  refine NumP.of fun w => ?_
  have H18 := Lib.hid h18
  have HR := Lib.hid (And.intro hok hno)
  clear h18 hok hno
  have h0 : 0 < s.length := hne
  have z0 : ((s.length : Int) == 0) = false := by rw [beq_eq_false_iff_ne]; omega
  clear hne
  go_enter Tryz.func114, Tryz.ntmps114
  go_wp2_with (go_at_call 109; refine (errorsNew_any _ _).mono ?_; rintro e w' ⟨rfl, rfl⟩)
  go_loop [4, 5] (fun i d => ∃ m : Nat, Hid (digsTo s 0 m) ∧ m ≤ s.length ∧ m ≤ 18 ∧ 0 ≤ m ∧ i = .int .u64 (m : Int) ∧ d = .int .u64 (dv s 0 m : Nat)) (fun i _ => s.length - (intOf i).toNat)
  case atStart => exact ⟨0, digsTo_start s 0 (by omega), by omega, by omega, by omega, rfl, by rw [dv_start]; rfl⟩
  case round =>
    obtain ⟨m, HD, hn, hn18, hom, rfl, rfl⟩ := hrel
    have hb := digsTo_lt HD.out hn18
    by_cases hlt : m < s.length
    · have hu : s[m]? = some s[m] := List.getElem?_eq_getElem hlt
      have hcd := isDig_nat (c := s[m])
      by_cases hd : isDig s[m] = true
      · obtain ⟨h1, h2⟩ := digsTo_step HD.out hu hd
        have h3 := H18.out _ h1
        have hb2 := digsTo_lt h1 h3
        have hcd := hcd.1 hd
        have H1 := Lib.hid h1
        have hv : ((dv s 0 (m + 1) : Nat) : Int) = (dv s 0 m : Nat) * 10 + ((s[m].toNat : Int) - 48) := by omega
        generalize dv s 0 m = D at *
        have HV := Lib.hid hv
        have c48 : 48 ≤ (s[m].toNat : Int) := by omega
        have c57 : (s[m].toNat : Int) ≤ 57 := by omega
        have m18 : ¬ ((m : Int) + 1 > 18) := by omega
        clear h1 h2 hu hd hv hcd HD hb2
        go_wp2
        go_round
        case rel => exact ⟨m + 1, H1.out, by omega, by omega, by omega, by go_num, by rw [HV.out]⟩
        case measure => simp [intOf]; omega
      · have HN : Hid (r = none) := HR.out.2 (Or.inr fun h => hd (h.2.2 m _ hom hlt hu))
        have hcc : (s[m].toNat : Int) < 48 ∨ 57 < (s[m].toNat : Int) := by
          have : ¬ (48 ≤ s[m].toNat ∧ s[m].toNat ≤ 57) := fun e => hd (hcd.2 e)
          omega
        clear hcd hu hd HD
        by_cases hm0 : m = 0
        · subst hm0
          rcases hcc with hcc | hcc
          · have c48 : ¬ (48 ≤ (s[0].toNat : Int)) := by omega
            clear hcc
            go_wp2_with (go_at_call 109; refine (errorsNew_any _ _).mono ?_; rintro e w' ⟨rfl, rfl⟩)
            go_ret2
            exact ⟨(Below.refl _ _).alloc (Nat.le_refl _) _, NRes.err _ _ HN.out⟩
          · have c48 : 48 ≤ (s[0].toNat : Int) := by omega
            have c57 : ¬ ((s[0].toNat : Int) ≤ 57) := by omega
            clear hcc
            go_wp2_with (go_at_call 109; refine (errorsNew_any _ _).mono ?_; rintro e w' ⟨rfl, rfl⟩)
            go_ret2
            exact ⟨(Below.refl _ _).alloc (Nat.le_refl _) _, NRes.err _ _ HN.out⟩
        · have mo : ¬ ((m : Int) ≤ 0) := by omega
          rcases hcc with hcc | hcc
          · have c48 : ¬ (48 ≤ (s[m].toNat : Int)) := by omega
            clear hcc
            go_wp2_with (go_at_call 109; refine (errorsNew_any _ _).mono ?_; rintro e w' ⟨rfl, rfl⟩)
            go_ret2
            exact ⟨(Below.refl _ _).alloc (Nat.le_refl _) _, NRes.err _ _ HN.out⟩
          · have c48 : 48 ≤ (s[m].toNat : Int) := by omega
            have c57 : ¬ ((s[m].toNat : Int) ≤ 57) := by omega
            clear hcc
            go_wp2_with (go_at_call 109; refine (errorsNew_any _ _).mono ?_; rintro e w' ⟨rfl, rfl⟩)
            go_ret2
            exact ⟨(Below.refl _ _).alloc (Nat.le_refl _) _, NRes.err _ _ HN.out⟩
    · obtain rfl : m = s.length := by omega
      have HN := Lib.hid (HR.out.1 (by omega) HD.out)
      have hd : dv s 0 s.length = digVal (s.drop 0) := dv_all s 0
      have mo : ¬ ((s.length : Int) ≤ 0) := by omega
      have hs0 : ¬ (s = []) := by rintro rfl; simp at h0
      rw [hd] at hb
      rw [hd]
      generalize digVal (s.drop 0) = D at *
      clear HD HR H18 hd
      go_wp2_with (go_at_call 109; refine (errorsNew_any _ _).mono ?_; rintro e w' ⟨rfl, rfl⟩)
      go_ret2
      exact ⟨Below.refl _ _, NRes.ok _ HN.out⟩

end Go.Proofs.YtppkpcijmfdfmaaGreatDoor

/- The walk of headSilent. -/
namespace Go.Proofs.YtppkpcijmfdfmaaGreatDoor
open Go.RowKit
attribute [local go_sem] B_size B_get B_lit B_ext_to B_ext B_toList B_app

/-- A row of answers. -/
structure TRow (w : World) (ov : Value) (l : List (Told × Value)) : Prop where
  row : RowZ w 51 zero51 ov l.length (flatT l)
  sl : ∀ p ∈ l, ∃ x m c, p.2 = .slice x m c
theorem TRow.below {w w' : World} {ov : Value} {l : List (Told × Value)} (h : TRow w ov l) (hb : Below w.heap.size w w') : TRow w' ov l := ⟨h.row.below hb, h.sl⟩
theorem flatT_get (l : List (Told × Value)) (i : Nat) (p : Told × Value) (h : l[i]? = some p) (j : Nat) (hj : j < 7) : (flatT l)[i * 7 + j]? = (p.1.cells p.2)[j]? := by
  induction l generalizing i with
  | nil => simp at h
  | cons q r ih =>
    have e : flatT (q :: r) = q.1.cells q.2 ++ flatT r := by simp [flatT]
    have hl : (q.1.cells q.2).length = 7 := rfl
    cases i with
    | zero => simp at h; subst h; rw [e, List.getElem?_append_left (by omega)]; congr 1; omega
    | succ i =>
      rw [e, List.getElem?_append_right (by omega), hl, show (i + 1) * 7 + j - 7 = i * 7 + j by omega]
      exact ih i (by simpa using h)
theorem TRow.cells {w : World} {ov : Value} {l : List (Told × Value)} (h : TRow w ov l) {i : Nat} {a : Told} {x : Option Addr} {m c : Nat} (hi : l[i]? = some (a, .slice x m c)) :
    ∃ g cap, ov = .slice (some ⟨g, 0, none⟩) l.length cap ∧ g < w.heap.size ∧ w.cell? ⟨g, i * 7, none⟩ = some (.bool a.ok) ∧ w.cell? ⟨g, i * 7 + 1, none⟩ = some (.string (B a.text)) ∧ w.cell? ⟨g, i * 7 + 2, none⟩ = some (.bool a.is) ∧ w.cell? ⟨g, i * 7 + 3, none⟩ = some (.int .i64 a.int) ∧
      w.cell? ⟨g, i * 7 + 4, none⟩ = some (.int .u64 a.uint) ∧ w.cell? ⟨g, i * 7 + 5, none⟩ = some (.float .f64 a.fl) ∧ w.cell? ⟨g, i * 7 + 6, none⟩ = some (.slice x m c) := by
  rcases h.row with ⟨_, h0, _⟩ | ⟨g, cap, cur, rfl, hg, _⟩
  · have := (List.getElem?_eq_some_iff.1 hi).1; omega
  · have hc : ∀ j u, j < 7 → (a.cells (.slice x m c))[j]? = some u → w.cell? ⟨g, i * 7 + j, none⟩ = some u := fun j u hj hu => (h.row.cells (i * 7 + j) u ((flatT_get l i _ hi j hj).trans hu)).1
    exact ⟨g, cap, rfl, h.row.lt g rfl, hc 0 _ (by omega) rfl, hc 1 _ (by omega) rfl, hc 2 _ (by omega) rfl, hc 3 _ (by omega) rfl, hc 4 _ (by omega) rfl, hc 5 _ (by omega) rfl, hc 6 _ (by omega) rfl⟩

theorem SL.slice {w : World} {v : Value} {l : List Bs} (h : SL w v l) : ∃ x m c, v = .slice x m c := by
  rcases h with ⟨rfl, _⟩ | ⟨b, c, rfl, _⟩
  · exact ⟨_, _, _, rfl⟩
  · exact ⟨_, _, _, rfl⟩
/-- A text that gives no answers: what is read is none, or no object. -/
def Silent (r : Option J) : Prop := ∀ j, r = some j → ∀ ms, j ≠ .obj ms
theorem Silent.finds {U : Bs → Bs → Prop} {r : Option J} (h : Silent r) {key : Bs} {t : Option J} (hf : FindsR U r key t) : t = none := by
  cases r with
  | none => exact hf
  | some j =>
    cases j with
    | obj ms => exact absurd rfl (h _ rfl ms)
    | _ => exact hf
theorem Silent.zero {G : Env} {r : Option J} (h : Silent r) {q : Nat × Bs} {a : Told} (ha : Answers G r q a) (hq : q.1 < 10) : a.ok = false := by
  obtain ⟨t, hf, hk⟩ := ha
  obtain rfl := h.finds hf
  obtain ⟨k, key⟩ := q
  obtain h | h | h | h | h | h | h | h | h | h : k = 0 ∨ k = 1 ∨ k = 2 ∨ k = 3 ∨ k = 4 ∨ k = 5 ∨ k = 6 ∨ k = 7 ∨ k = 8 ∨ k = 9 := by omega
  all_goals
    subst h
    simp only [AnsK, TxtR, LstR] at hk
  · subst hk; rfl
  · obtain ⟨rr, rfl, rfl⟩ := hk; rfl
  · obtain ⟨rr, rfl, rfl⟩ := hk; rfl
  · subst hk; rfl
  · subst hk; rfl
  · subst hk; rfl
  · subst hk; rfl
  · obtain ⟨rr, rfl, rfl⟩ := hk; rfl
  · subst hk; rfl
  · subst hk; rfl
end Go.Proofs.YtppkpcijmfdfmaaGreatDoor

/- The walk of headSilent; a first way to read texts and numbers: plain texts, short whole numbers. -/
namespace Go.Proofs.YtppkpcijmfdfmaaGreatDoor
open Go.RowKit
attribute [local go_sem] B_size B_get B_lit B_ext_to B_ext B_toList B_app

/-- Short digits. -/
def Short (s : Bs) : Prop := 0 < s.length ∧ s.length ≤ 18 ∧ ∀ c ∈ s, isDig c = true
def env0 : Env where
  U q out := q = out ∧ (92 : UInt8) ∉ q
  NI := Short
  NU := Short
  NF _ := False
  i64 s := some (digVal s : Nat)
  u64 s := some (digVal s : Nat)
  f64 _ := none
theorem Short.digs {s : Bs} (h : Short s) : digsTo s 0 s.length := ⟨Nat.zero_le _, Nat.le_refl _, fun i u _ _ hu => h.2.2 u (List.mem_of_getElem? hu)⟩
theorem env0_ok : env0.OK where
  ug := ⟨fun q out h w => by
    obtain ⟨rfl, hq⟩ := h
    exact (un_plain q hq w).mono fun e w' he => ⟨he.1, he.2 ▸ Below.refl _ _⟩, fun q a b h1 h2 => h1.1.symm.trans h2.1, fun q h => ⟨rfl, h⟩⟩
  i s h := by
    refine int64_plain s (by have := h.2.1; omega) h.1 (fun e => ?_) (fun m hm => Nat.le_trans hm.2.1 h.2.1) _ (fun _ _ => rfl) fun hh => ?_
    · have := h.2.2 45 (List.mem_of_getElem? e)
      revert this; decide
    · rcases hh with hh | hh
      · have := h.1; omega
      · exact absurd h.digs hh
  u s h := by
    refine uint64_plain s (by have := h.2.1; omega) h.1 (fun m hm => Nat.le_trans hm.2.1 h.2.1) _ (fun _ _ => rfl) fun hh => ?_
    rcases hh with hh | hh
    · have := h.1; omega
    · exact absurd h.digs hh
  f s h := h.elim

/-- The world in which a header is read, as far as reading goes. -/
def Base (w : World) : Prop := Gw w
theorem Base.below {w w' : World} (h : Base w) (hb : Below w.heap.size w w') : Base w' := Gw.below h hb

theorem AskRow.below {w w' : World} {v : Value} {l : Asks} (h : AskRow w v l) (hb : Below w.heap.size w w') : AskRow w' v l := by
  rcases h with h | ⟨b, c, rfl, hlt, hc⟩
  · exact Or.inl h
  · exact Or.inr ⟨b, c, rfl, Nat.lt_of_lt_of_le hlt hb.size, fun i q hi => ⟨(hb.cell (p := ⟨b, i * 2, none⟩) hlt).trans (hc i q hi).1, (hb.cell (p := ⟨b, i * 2 + 1, none⟩) hlt).trans (hc i q hi).2⟩⟩

end Go.Proofs.YtppkpcijmfdfmaaGreatDoor
