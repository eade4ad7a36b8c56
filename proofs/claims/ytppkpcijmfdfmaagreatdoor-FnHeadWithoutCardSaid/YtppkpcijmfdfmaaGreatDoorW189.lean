/- Walks of HeadHas and headSilent over a text that reads as an object. -/
import Derived.Test.YtppkpcijmfdfmaaGreatDoorG1
import Derived.Test.YtppkpcijmfdfmaaGreatDoorE3
set_option linter.unusedVariables false
set_option linter.unusedSimpArgs false
namespace Go.Proofs.YtppkpcijmfdfmaaGreatDoor
open Go.RowKit
attribute [local go_sem] B_size B_get B_lit B_ext_to B_ext B_toList B_app

theorem rdReady {P : Bs} {t : HT} (h : RdT P t) {v : Value} {w : World} (hv : BA w v P) (hG : Gw w) : ∃ d ms, Calls Tryz.prog 62 #[v] w (Ready env1 (some (.obj ms)) w) ∧ Mems (Mt d) ms t.names t.kids ∧ ∀ D, JLe 450000000 D (.obj ms) := by
  obtain ⟨⟨d', ms, hp, hm, hl, hgood⟩, hpl, _⟩ := h
  have hR := ready_any (G := env1) v P w hv (by omega) hG (fun j hj => by rw [hp] at hj; cases hj; exact hgood)
  rw [hp] at hR
  exact ⟨d', ms, hR, hm, hl⟩
set_option maxRecDepth 100000 in
theorem hasRd_any {P : Bs} {t : HT} (h : RdT P t) {v : Value} {s : Bs} {w : World} (hv : BA w v P) (hG : Gw w) (hs : s.length < 4294967290) :
    Calls Tryz.prog 47 #[v, .string (B s)] w fun e w' => e = .returned (.bool (kidIn t.names t.kids s).isSome) ∧ Below w.heap.size w w' := by
  obtain ⟨d', ms, hR, hm, hl⟩ := rdReady h hv hG
  have HR := Lib.hid hR
  have HM := Lib.hid (And.intro hm hl)
  clear hR hm hl h hv hG
  go_enter Tryz.func47, Tryz.ntmps47
  go_wp2_with (fail)
  refine HR.out.mono ?_
  rintro e w2 ⟨hb, rfl, hb2, hq2⟩
  have HB2 := Lib.hid hb2
  have HF := Lib.hid (has_any env1_ok hq2 s hs (fun j hj hno => by cases hj; exact absurd rfl (hno _)))
  clear hb2 hq2
  go_wp2_with (fail)
  refine HF.out.mono ?_
  rintro e w3 ⟨r, hf, hq3, rfl⟩
  have HB3 := Lib.hid (HB2.out.trans hq3.kept.1)
  obtain ⟨k, hk, hmt⟩ := finds_kid HM.out.1 HM.out.2 (s := s) (r := r) hf
  have e1 : r.isSome = (kidIn t.names t.kids s).isSome := by
    rw [hk.fn]
    cases r <;> cases k <;> first | rfl | exact hmt.elim
  rw [e1]
  clear hf hq3 hk hmt e1
  go_wp2
  go_ret
  exact ⟨rfl, HB3.out⟩

set_option maxHeartbeats 4000000 in
/-- headSilent of a text that reads as an object with none of the names. -/
theorem silentRd_any {P : Bs} {t : HT} (h : RdT P t) {v nv : Value} {names : List Bs} {w : World} (hv : BA w v P) (hn : NS w nv names) (hG : Gw w) (hno : ∀ s ∈ names, kidIn t.names t.kids s = none) (hkl : ∀ s ∈ names, s.length < 4294967290) (hnl : names.length ≤ 1000000) :
    Calls Tryz.prog 42 #[v, nv] w fun e w' => e = .returned (.bool true) ∧ Below w.heap.size w w' := by
  have HE := Lib.hid (each_any w nv names hn (by omega))
  have HV := Lib.hid hv
  have HP : Hid (P.length < 4294967000) := Lib.hid (by have := h.len; omega)
  have HL := Lib.hid (eachOf_length names)
  have HRUN : Hid (∀ {wz : World} {v av : Value}, Below w.heap.size w wz → BA wz v P → AskRow wz av (eachOf names) → Calls Tryz.prog 32 #[v, av] wz fun e w' => ∃ va vc l, e = .returned (.slice va l.length vc) ∧ l.length = (eachOf names).length ∧ TRow w' (.slice va l.length vc) l ∧ (∀ p ∈ l, p.1.ok = false) ∧ Below wz.heap.size wz w') := by
    intro wz v av hb hv ha
    refine (runRd_any h hv ha (Gw.below hG hb) (by rw [HL.out]; omega) (fun q hq => ⟨(eachOf_mem hq).1, hkl _ (eachOf_mem hq).2⟩)).mono ?_
    rintro e w3 ⟨ov, l, rfl, hlen, htr, hans, hsl, hb3⟩
    obtain ⟨va, vc, rfl⟩ : ∃ va vc, ov = .slice va l.length vc := by
      rcases htr.row with ⟨h1, h2, _⟩ | ⟨g, cap, cur, h1, _⟩
      · exact ⟨none, 0, by rw [h1, h2]⟩
      · exact ⟨_, _, h1⟩
    refine ⟨va, vc, l, rfl, hlen, htr, fun p hp => ?_, hb3⟩
    obtain ⟨i, hi⟩ := List.mem_iff_getElem?.1 hp
    have hil := (List.getElem?_eq_some_iff.1 hi).1
    have hq : (eachOf names)[i]? = some (eachOf names)[i] := List.getElem?_eq_getElem (by omega)
    rw [hans i _ p hq hi]
    unfold tell
    rw [hno _ (eachOf_mem (List.mem_of_getElem? hq)).2]
    rfl
  clear hv hn hG hno hkl h
  go_enter Tryz.func42, Tryz.ntmps42
  go_wp2_with (first
  | (go_at_call 33; refine HE.out.mono ?_; rintro e w1 ⟨av, rfl, hst⟩; have HST := Lib.hid hst; have HC := Lib.hid (clone_any w1 v P (HV.out.below hst.below) (by have := HP.out; omega)); clear hst)
  | (go_at_call 29; refine HC.out.mono ?_; rintro e w2 ⟨v2, rfl, hv2, hb2, hfr2⟩; have HV2 := Lib.hid hv2; have HB2 := Lib.hid hb2; clear hv2 hb2 hfr2))
  have H02 := Lib.hid (Below.to_next HST.out.below HB2.out)
  have HR := Lib.hid (HRUN.out H02.out HV2.out (HST.out.ask.below HB2.out))
  obtain ⟨aa, ac, rfl⟩ : ∃ aa ac, av = .slice aa (eachOf names).length ac := by
    rcases HST.out.ask with ⟨h, h2⟩ | ⟨b, c, h, _⟩
    · rw [h2]; exact ⟨none, 0, h⟩
    · exact ⟨_, _, h⟩
  clear HST HC HV2 HB2 HE HV HRUN
  go_wp2_with (go_at_call 32; refine HR.out.mono ?_; rintro e w3 ⟨va, vc, l3, rfl, hlen, htr, hno, hb3⟩; have HT := Lib.hid (And.intro htr hno); have HB3 := Lib.hid (Below.to_next H02.out hb3); have hll : ((l3.length : Int) == ((eachOf names).length : Int)) = true := (by simp [hlen]); have HLN := Lib.hid hlen; clear htr hno hb3 hlen)
  go_wp2_with (go_at_call 79; refine (silentHas_any _ _ _ l3 HT.out.1 HT.out.2 (by have := HLN.out; have := HL.out; omega) rfl).mono ?_; rintro e w4 ⟨rfl, hb4⟩; have HB4 := Lib.hid hb4; clear hb4)
  go_ret
  exact ⟨rfl, Below.to_next HB3.out HB4.out⟩

end Go.Proofs.YtppkpcijmfdfmaaGreatDoor
