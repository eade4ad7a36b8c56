/- The walks of slices.EqualFunc of answers and headSame. -/
import Derived.Test.YtppkpcijmfdfmaaGreatDoorG1
import Derived.Test.YtppkpcijmfdfmaaGreatDoorE3
set_option linter.unusedVariables false
set_option linter.unusedSimpArgs false
namespace Go.Proofs.YtppkpcijmfdfmaaGreatDoor
open Go.RowKit
attribute [local go_sem] run_store_float B_size B_get B_lit B_ext_to B_ext B_toList B_app

set_option maxRecDepth 100000 in
theorem sameFn_in (w : World) (ok is : Bool) (text : Bs) (int uint : Int) (f : Nat) {la lb : Value} {l : List Bs} (h1 : NS w la l) (h2 : NS w lb l) (hl : l.length ≤ 1000000) (hf : (FloatKind.f64.format.order f f == some .eq) = true) :
    Calls Tryz.prog 82 #[.agg #[.bool ok, .string (B text), .bool is, .int .i64 int, .int .u64 uint, .float .f64 f, la], .agg #[.bool ok, .string (B text), .bool is, .int .i64 int, .int .u64 uint, .float .f64 f, lb]] w fun e w' => e = .returned (.bool true) ∧ Below w.heap.size w w' := by
  have HEQ : Hid (∀ {wz : World}, Below w.heap.size w wz → Calls Tryz.prog 37 #[.agg #[.bool ok, .string (B text), .bool is, .int .i64 int, .int .u64 uint, .float .f64 f, la], .agg #[.bool ok, .string (B text), .bool is, .int .i64 int, .int .u64 uint, .float .f64 f, lb], .bool true] wz fun e w' => e = .returned (.bool true) ∧ Below wz.heap.size wz w') :=
    fun hb => sameTold_in _ ok is true text int uint f f (h1.below hb) (h2.below hb) hl (fun _ => hf)
  have HB : Hid (∀ o o' : Obj, Below w.heap.size w ((w.alloc o).alloc o')) := fun o o' => ((Below.refl _ _).alloc (Nat.le_refl _) _).alloc (by simp) _
  obtain ⟨a1, c1, rfl⟩ := h1.slice
  obtain ⟨a2, c2, rfl⟩ := h2.slice
  clear h1 h2 hf
  go_enter Tryz.func82, Tryz.ntmps82
  go_wp2_with (go_at_call 37; refine (HEQ.out (HB.out _ _)).mono ?_; rintro e w2 ⟨rfl, hb2⟩; have HB2 := Lib.hid ((HB.out _ _).trans (hb2.mono (HB.out _ _).size)); clear hb2)
  go_ret
  exact ⟨rfl, HB2.out⟩

/-- Two rows of answers that are the same, one by one. -/
def AlikeT (w : World) (l1 l2 : List (Told × Value)) : Prop := ∀ (i : Nat) p q, l1[i]? = some p → l2[i]? = some q → p.1 = q.1 ∧ NS w p.2 p.1.list ∧ NS w q.2 p.1.list ∧ p.1.list.length ≤ 1000000 ∧ (FloatKind.f64.format.order p.1.fl p.1.fl == some .eq) = true
theorem AlikeT.below {w w' : World} {l1 l2 : List (Told × Value)} (h : AlikeT w l1 l2) (hb : Below w.heap.size w w') : AlikeT w' l1 l2 := fun i p q h1 h2 => by
  obtain ⟨e, n1, n2, hl, hf⟩ := h i p q h1 h2
  exact ⟨e, n1.below hb, n2.below hb, hl, hf⟩
set_option maxRecDepth 100000 in
set_option maxHeartbeats 4000000 in
theorem equalFn_any (w : World) (ov1 ov2 fv : Value) (l1 l2 : List (Told × Value)) (h1 : TRow w ov1 l1) (h2 : TRow w ov2 l2) (hlen : l1.length = l2.length) (ha : AlikeT w l1 l2) (hl : l1.length < 9000000000000000000) (hfv : fv = .func (.func 82) #[] #[]) :
    Calls Tryz.prog 81 #[ov1, ov2, fv] w fun e w' => e = .returned (.bool true) ∧ Below w.heap.size w w' := by
  subst hfv
  have HH := Lib.hid (And.intro h1 (And.intro h2 ha))
  obtain ⟨va, vc, rfl⟩ : ∃ va vc, ov1 = .slice va l1.length vc := by
    rcases h1.row with ⟨h1, h2, _⟩ | ⟨g, cap, cur, h1, _⟩
    · exact ⟨none, 0, by rw [h1, h2]⟩
    · exact ⟨_, _, h1⟩
  obtain ⟨vb, vd, rfl⟩ : ∃ va vc, ov2 = .slice va l2.length vc := by
    rcases h2.row with ⟨h1, h2, _⟩ | ⟨g, cap, cur, h1, _⟩
    · exact ⟨none, 0, by rw [h1, h2]⟩
    · exact ⟨_, _, h1⟩
  clear h1 h2 ha
  rw [← hlen]
  have HLE := Lib.hid hlen
  clear hlen
  go_enter Tryz.func81, Tryz.ntmps81
  go_wp2
  go_loopw [17] (fun q wr => ∃ i : Nat, i ≤ l1.length ∧ Hid (Below w.heap.size w wr) ∧ q = .int .i64 i) (fun q _ => l1.length - (intOf q).toNat)
  case atStart => exact ⟨0, by omega, Below.refl _ _, rfl⟩
  case round =>
    obtain ⟨i, hi, HB, rfl⟩ := hrel
    by_cases hlt : i < l1.length
    · rcases hq1 : l1[i] with ⟨a, lv⟩
      rcases hq2 : l2[i]'(by have := HLE.out; omega) with ⟨b, lw⟩
      have hi1 : l1[i]? = some (a, lv) := by rw [List.getElem?_eq_getElem hlt, hq1]
      have hi2 : l2[i]? = some (b, lw) := by rw [List.getElem?_eq_getElem (by have := HLE.out; omega), hq2]
      obtain ⟨x, m, c, hlv⟩ := HH.out.1.sl _ (List.mem_of_getElem? hi1)
      obtain ⟨y, m', c', hlw⟩ := HH.out.2.1.sl _ (List.mem_of_getElem? hi2)
      simp only at hlv hlw
      subst hlv
      subst hlw
      obtain ⟨e, n1, n2, hll, hff⟩ := HH.out.2.2.below HB.out i _ _ hi1 hi2
      simp only at e
      subst e
      obtain ⟨g, cap, hov, hg, c0, c1, c2, c3, c4, c5, c6⟩ := (HH.out.1.below HB.out).cells hi1
      cases hov
      have h2c := (HH.out.2.1.below HB.out).cells hi2
      rw [← HLE.out] at h2c
      obtain ⟨g', cap', hov, hg', d0, d1, d2, d3, d4, d5, d6⟩ := h2c
      cases hov
      have HC : Hid (∀ {wz : World}, Below wr.heap.size wr wz → Calls Tryz.prog 82 #[.agg #[.bool a.ok, .string (B a.text), .bool a.is, .int .i64 a.int, .int .u64 a.uint, .float .f64 a.fl, .slice x m c], .agg #[.bool a.ok, .string (B a.text), .bool a.is, .int .i64 a.int, .int .u64 a.uint, .float .f64 a.fl, .slice y m' c']] wz fun e w' => e = .returned (.bool true) ∧ Below wz.heap.size wz w') :=
        fun hb => sameFn_in _ a.ok a.is a.text a.int a.uint a.fl (n1.below hb) (n2.below hb) hll hff
      have HB2A : Hid (∀ o o' : Obj, Below wr.heap.size wr ((wr.alloc o).alloc o')) := fun o o' => ((Below.refl _ _).alloc (Nat.le_refl _) _).alloc (by simp) _
      clear hq1 hq2 hi1 hi2 n1 n2 hff hll
      go_wp2_with (go_at_call 82; refine (HC.out (HB2A.out _ _)).mono ?_; rintro e w2 ⟨rfl, hb2⟩; have HB2 := Lib.hid ((HB2A.out _ _).trans (hb2.mono (HB2A.out _ _).size)); clear hb2)
      go_roundw
      case rel => exact ⟨i + 1, by omega, HB.out.trans (HB2.out.mono HB.out.size), by go_num⟩
      case measure => simp [intOf]; omega
    · obtain rfl : i = l1.length := by omega
      go_wp2
      go_ret
      exact ⟨rfl, HB.out⟩

set_option maxHeartbeats 4000000 in
/-- Two texts that read as objects with the same fields under the names. -/
theorem same_any {P1 P2 : Bs} {t1 t2 : HT} (hr1 : RdT P1 t1) (hr2 : RdT P2 t2) {v1 v2 nv : Value} {names : List Bs} {w : World} (hv1 : BA w v1 P1) (hv2 : BA w v2 P2) (hn : NS w nv names) (hG : Gw w)
    (hkl : ∀ s ∈ names, s.length < 4294967290) (hnl : names.length ≤ 1000000) (heq : ∀ s ∈ names, kidIn t1.names t1.kids s = kidIn t2.names t2.kids s) :
    Calls Tryz.prog 43 #[v1, v2, nv] w fun e w' => e = .returned (.bool true) ∧ Below w.heap.size w w' := by
  have HE := Lib.hid (each_any w nv names hn (by omega))
  have HL := Lib.hid (eachOf_length names)
  have HV := Lib.hid (And.intro hv1 hv2)
  have HKN := Lib.hid (And.intro hkl (And.intro hnl heq))
  have HRUN : Hid (∀ {wz : World} {P : Bs} {t : HT} {v av : Value}, RdT P t → Below w.heap.size w wz → BA wz v P → AskRow wz av (eachOf names) → Calls Tryz.prog 32 #[v, av] wz fun e w' => ∃ va vc l, e = .returned (.slice va (eachOf names).length vc) ∧ l.length = (eachOf names).length ∧ TRow w' (.slice va (eachOf names).length vc) l ∧
      (∀ (i : Nat) q p, (eachOf names)[i]? = some q → l[i]? = some p → p.1 = tell t q) ∧ (∀ p ∈ l, SL w' p.2 p.1.list ∧ p.1.list.length ≤ 1000000) ∧ Below wz.heap.size wz w') := by
    intro wz P t v av hr hb hv ha
    refine (runRd_any hr hv ha (Gw.below hG hb) (by rw [HL.out]; omega) (fun q hq => ⟨(eachOf_mem hq).1, hkl _ (eachOf_mem hq).2⟩)).mono ?_
    rintro e w3 ⟨ov, l, rfl, hlen, htr, hans, hsl, hb3⟩
    obtain ⟨va, vc, rfl⟩ : ∃ va vc, ov = .slice va (eachOf names).length vc := by
      rcases htr.row with ⟨h1, h2, _⟩ | ⟨g, cap, cur, h1, _⟩
      · exact ⟨none, 0, by rw [h1, ← hlen, h2]⟩
      · exact ⟨_, _, by rw [h1, hlen]⟩
    exact ⟨va, vc, l, rfl, hlen, htr, hans, hsl, hb3⟩
  have HR := Lib.hid (And.intro hr1 hr2)
  have HP : Hid (P1.length < 4294967000 ∧ P2.length < 4294967000) := ⟨by have := hr1.len; omega, by have := hr2.len; omega⟩
  clear hv1 hv2 hn hG hkl hnl heq hr1 hr2
  go_enter Tryz.func43, Tryz.ntmps43
  go_wp2_with (first
  | (go_at_call 33; refine HE.out.mono ?_; rintro e w1 ⟨av, rfl, hst⟩; have HST := Lib.hid hst; have HC := Lib.hid (clone_any w1 v1 P1 (HV.out.1.below hst.below) (by have := HP.out.1; omega)); clear hst)
  | (go_at_call 29; refine HC.out.mono ?_; rintro e w2 ⟨c2, rfl, hv2, hb2, hfr2⟩; have HV2 := Lib.hid hv2; have HB2 := Lib.hid hb2; clear hv2 hb2 hfr2))
  obtain ⟨aa, ac, rfl⟩ : ∃ aa ac, av = .slice aa (eachOf names).length ac := by
    rcases HST.out.ask with ⟨h, h2⟩ | ⟨b, c, h, _⟩
    · rw [h2]; exact ⟨none, 0, h⟩
    · exact ⟨_, _, h⟩
  have H02 := Lib.hid (Below.to_next HST.out.below HB2.out)
  refine (HRUN.out HR.out.1 H02.out HV2.out (HST.out.ask.below HB2.out)).mono ?_
  rintro e w3 ⟨xa, xc, l1, rfl, hlen1, htr1, hans1, hsl1, hb3⟩
  have H03 := Lib.hid (Below.to_next H02.out hb3)
  have H13 := Lib.hid (Below.to_next HB2.out hb3)
  have HX := Lib.hid (And.intro hlen1 (And.intro htr1 (And.intro hans1 hsl1)))
  have HC2 := Lib.hid (clone_any w3 v2 P2 (HV.out.2.below H03.out) (by have := HP.out.2; omega))
  clear hlen1 htr1 hans1 hsl1 hb3 HC
  dsimp only
  go_wp2_with (fail)
  refine HC2.out.mono ?_
  rintro e w4 ⟨c4, rfl, hv4, hb4, hfr4⟩
  have HV4 := Lib.hid hv4
  have H34 := Lib.hid hb4
  clear hv4 hb4 hfr4
  dsimp only
  go_wp2_with (fail)
  refine (HRUN.out HR.out.2 (Below.to_next H03.out H34.out) HV4.out ((HST.out.ask.below H13.out).below H34.out)).mono ?_
  rintro e w5 ⟨ya, yc, l2, rfl, hlen2, htr2, hans2, hsl2, hb5⟩
  have H35 := Lib.hid (Below.to_next H34.out hb5)
  have HY := Lib.hid (And.intro hlen2 (And.intro htr2 (And.intro hans2 hsl2)))
  clear hlen2 htr2 hans2 hsl2 hb5
  have HEF : Hid (Calls Tryz.prog 81 #[.slice xa (eachOf names).length xc, .slice ya (eachOf names).length yc, .func (.func 82) #[] #[]] w5 fun e w' => e = .returned (.bool true) ∧ Below w5.heap.size w5 w') := by
    obtain ⟨k1, k2, k3, k4⟩ := HX.out
    obtain ⟨j1, j2, j3, j4⟩ := HY.out
    refine equalFn_any w5 _ _ _ l1 l2 (k2.below H35.out) j2 (by rw [k1, j1]) (fun i p q hp hq => ?_) (by rw [k1, HL.out]; have := HKN.out.2.1; omega) rfl
    have hi := (List.getElem?_eq_some_iff.1 hp).1
    have ha : (eachOf names)[i]? = some (eachOf names)[i] := List.getElem?_eq_getElem (by omega)
    have e1 := k3 i _ p ha hp
    have e2 := j3 i _ q ha hq
    have e3 : tell t1 (eachOf names)[i] = tell t2 (eachOf names)[i] := by
      unfold tell
      rw [HKN.out.2.2 _ (eachOf_mem (List.mem_of_getElem? ha)).2]
    have hpq : p.1 = q.1 := by rw [e1, e2, e3]
    have m1 := k4 p (List.mem_of_getElem? hp)
    have m2 := j4 q (List.mem_of_getElem? hq)
    refine ⟨hpq, (m1.1.ns).below H35.out, by rw [hpq]; exact m2.1.ns, m1.2, ?_⟩
    rw [e1]
    exact tell_self t1 (fun c hc => (HR.out.1.kids c hc).1) _
  clear HX HY HRUN HE HV HKN HR HP HV2 HV4 HC2
  dsimp only
  go_wp2_with (go_at_call 81; refine HEF.out.mono ?_; rintro e w6 ⟨rfl, hb6⟩; have H56 := Lib.hid hb6; clear hb6)
  go_ret
  exact ⟨rfl, Below.to_next (Below.to_next H03.out H35.out) H56.out⟩
end Go.Proofs.YtppkpcijmfdfmaaGreatDoor
