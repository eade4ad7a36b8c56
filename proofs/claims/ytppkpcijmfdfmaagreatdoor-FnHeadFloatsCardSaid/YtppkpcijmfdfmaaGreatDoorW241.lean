/- FnHeadFloats: the lifted statement. -/
import Derived.Test.YtppkpcijmfdfmaaGreatDoorE2
import Derived.Test.YtppkpcijmfdfmaaGreatDoorW203
import Derived.Test.YtppkpcijmfdfmaaGreatDoorW240
set_option linter.unusedVariables false
set_option linter.unusedSimpArgs false
namespace Go.Proofs.YtppkpcijmfdfmaaGreatDoor
open Go.RowKit Go.ChangeShapes Go.WideShapes Go.ChangeMaps

set_option maxRecDepth 100000 in
theorem floats_lifted (os : Os) (started : os.Started) (H : Type) (enc : TypeId × Value → H) :
    ReturnsInHanded {} Tryz.checked os 3 .any (fun w args => (Rows.fnHeadFloatsSpec.pre enc Tryz.prog Tryz.f3 Rows.fnHeadFloatsRow.domain false w args ∧ laidMetH Tryz.prog Rows.fnHeadFloatsRow.laid w) ∧ sizedMet enc Tryz.prog Tryz.f3 (OpenSpec.ofChange Rows.fnHeadFloatsSpec) false w args)
      (Rows.fnHeadFloatsSpec.post enc Tryz.prog Tryz.f3 false true false false) := by
  refine returnsInHanded_of_change_and (C := Tryz.checked) (X := fun w _ => laidMetH Tryz.prog Rows.fnHeadFloatsRow.laid w) (fun _ _ _ hh h => h.of_heap hh) Tryz.own started (by kernel_rfl) Tryz.func3
    (ChangeSpec.witness_shaped (enc := enc) (C := Tryz.checked) (os := os) (X := fun w _ => laidMetH Tryz.prog Rows.fnHeadFloatsRow.laid w) false (World.laidAll Tryz.prog os Rows.fnHeadFloatsRow.laid)
      #[.slice none 0 0, .int .u64 0, .string ⟨#[]⟩] 8 (World.laidAll_os _ _ _)
      (World.shaped_of_ZipB (by kernel_rfl) (by kernel_rfl)) (by kernel_rfl) (by kernel_rfl) (by kernel_rfl)
      (by rw [MakeChecks.laidMetH_plain _ _ _ (by kernel_rfl)]; exact laidMet_laidAll _ (by kernel_rfl) (by kernel_rfl))) ?_
  intro W base args ds gs before hval0 hW _ _ hL _
  have hval : ∀ (j : Nat) t v, Tryz.f3.params[j]? = some t → args[j]? = some v → Value.okWide Tryz.prog W .any base t v := hval0
  have hW' := hW
  obtain ⟨p, q, hA0, hV, rfl, _, _⟩ := hW
  have hA : DataW.TrodAll enc Tryz.prog W 0 (fun _ => true) true Tryz.f3.params.toList args.toList ds p := hA0
  rw [Tryz.params3] at hA hval
  obtain ⟨v0, vs0, d0, ds0, p0, q0, hargs, rfl, rfl, h0, r0⟩ := trodAll_cons hA
  obtain ⟨v1, vs1, d1, ds1, p1, q1, rfl, rfl, rfl, h1, r1⟩ := trodAll_cons r0
  obtain ⟨v2, vs2, d2, ds2, p2, q2, rfl, rfl, rfl, h2, r2⟩ := trodAll_cons r1
  obtain ⟨rfl, rfl, rfl⟩ := trodAll_nil r2
  obtain rfl : args = #[v0, v1, v2] := by cases args; simp_all
  obtain ⟨rfl, rfl⟩ := trodVars_none hV
  obtain ⟨a0, c0, l0, rfl, hr0, hl0⟩ := open_fields (hval 0 22 v0 rfl rfl) h0
  obtain ⟨x1, rfl, rfl, rfl, wx1⟩ := open_int Tryz.underlying23 (hval 1 23 v1 rfl rfl) h1
  have hx1 : 0 ≤ x1 ∧ x1 ≤ 18446744073709551615 := by simpa [Lit.wf, IntKind.min, IntKind.max, IntKind.signed, IntKind.bits] using wx1
  obtain ⟨x1, rfl⟩ : ∃ k : Nat, x1 = k := ⟨x1.toNat, by omega⟩
  obtain ⟨s2, rfl, rfl, rfl, _⟩ := open_string Tryz.underlying9 (hval 2 9 v2 rfl rfl) h2
  rw [MakeChecks.laidMetH_plain _ _ _ (by kernel_rfl)] at hL
  have hB : Base W := base_of hL (List.mem_of_getElem? (i := 13) rfl) (List.mem_of_getElem? (i := 14) rfl) (List.mem_of_getElem? (i := 1) rfl) (List.mem_of_getElem? (i := 15) rfl) (List.mem_of_getElem? (i := 11) rfl) (List.mem_of_getElem? (i := 10) rfl) (List.mem_of_getElem? (i := 4) rfl) (List.mem_of_getElem? (i := 3) rfl) (List.mem_of_getElem? (i := 5) rfl) (List.mem_of_getElem? (i := 17) rfl) (List.mem_of_getElem? (i := 16) rfl)
  have hG : Ground W := ⟨hB, tabs_of hL (List.mem_of_getElem? (i := 18) rfl) (List.mem_of_getElem? (i := 9) rfl)⟩
  have key : Calls Tryz.prog 3 #[.slice a0 l0.length c0, .int .u64 x1, .string (B s2.data.toList)] W fun e w' => e = .returned (.bool true) ∧ Below W.heap.size W w' := floats_walk hr0 hl0 hG (by omega)
  refine key.mono fun e W' ⟨he, hb⟩ => ?_
  subst he
  exact ⟨_, rfl, true_post hW' rfl ⟨rfl, rfl, rfl⟩ rfl (by kernel_rfl) hb⟩

end Go.Proofs.YtppkpcijmfdfmaaGreatDoor
