/- FnHeadDoubled: the lifted statement. -/
import Derived.Test.YtppkpcijmfdfmaaGreatDoorE2
import Derived.Test.YtppkpcijmfdfmaaGreatDoorW73
namespace Go.Proofs.YtppkpcijmfdfmaaGreatDoor
open Go.RowKit Go.ChangeShapes Go.WideShapes Go.ChangeMaps

set_option maxRecDepth 100000 in
theorem doubled_lifted (os : Os) (started : os.Started) (H : Type) (enc : TypeId × Value → H) :
    ReturnsInHanded {} Tryz.checked os 19 .any (fun w args => (Rows.fnHeadDoubledSpec.pre enc Tryz.prog Tryz.f19 Rows.fnHeadDoubledRow.domain false w args ∧ laidMetH Tryz.prog Rows.fnHeadDoubledRow.laid w) ∧ sizedMet enc Tryz.prog Tryz.f19 (OpenSpec.ofChange Rows.fnHeadDoubledSpec) false w args)
      (Rows.fnHeadDoubledSpec.post enc Tryz.prog Tryz.f19 false true false false) := by
  refine returnsInHanded_of_change_and (C := Tryz.checked) (X := fun w _ => laidMetH Tryz.prog Rows.fnHeadDoubledRow.laid w) (fun _ _ _ hh h => h.of_heap hh) Tryz.own started (by kernel_rfl) Tryz.func19
    (ChangeSpec.witness_shaped (enc := enc) (C := Tryz.checked) (os := os) (X := fun w _ => laidMetH Tryz.prog Rows.fnHeadDoubledRow.laid w) false (World.laidAll Tryz.prog os Rows.fnHeadDoubledRow.laid)
      #[.agg #[.int .u8 0, .bool false, .bool false, .int .u64 0, .string ⟨#[]⟩, .slice none 0 0, .slice none 0 0], .int .u16 0] 8 (World.laidAll_os _ _ _)
      (World.shaped_of_ZipB (by kernel_rfl) (by kernel_rfl)) (by kernel_rfl) (by kernel_rfl) (by kernel_rfl)
      (by rw [MakeChecks.laidMetH_plain _ _ _ (by kernel_rfl)]; exact laidMet_laidAll _ (by kernel_rfl) (by kernel_rfl))) ?_
  intro W base args ds gs before hval0 hW _ _ hL _
  have hval : ∀ (j : Nat) t v, Tryz.f19.params[j]? = some t → args[j]? = some v → Value.okWide Tryz.prog W .any base t v := hval0
  have hW' := hW
  obtain ⟨p, q, hA0, hV, rfl, _, _⟩ := hW
  have hA : DataW.TrodAll enc Tryz.prog W 0 (fun _ => true) true Tryz.f19.params.toList args.toList ds p := hA0
  rw [Tryz.params19] at hA hval
  obtain ⟨v0, vs0, d0, ds0, p0, q0, hargs, rfl, rfl, h0, r0⟩ := trodAll_cons hA
  obtain ⟨v1, vs1, d1, ds1, p1, q1, rfl, rfl, rfl, h1, r1⟩ := trodAll_cons r0
  obtain ⟨rfl, rfl, rfl⟩ := trodAll_nil r1
  obtain rfl : args = #[v0, v1] := by cases args; simp_all
  obtain ⟨rfl, rfl⟩ := trodVars_none hV
  obtain ⟨n0, nv0, kv0, t0, rfl, hr0⟩ := open_tree (hval 0 45 v0 rfl rfl) h0
  obtain ⟨x1, rfl, rfl, rfl, wx1⟩ := open_int Tryz.underlying67 (hval 1 67 v1 rfl rfl) h1
  have hx1 : 0 ≤ x1 ∧ x1 ≤ 65535 := by simpa [Lit.wf, IntKind.min, IntKind.max, IntKind.signed, IntKind.bits] using wx1
  obtain ⟨x1, rfl⟩ : ∃ k : Nat, x1 = k := ⟨x1.toNat, by omega⟩
  rw [MakeChecks.laidMetH_plain _ _ _ (by kernel_rfl)] at hL
  have hG : Ground W := ground_of hL (List.mem_of_getElem? (i := 18) rfl) (List.mem_of_getElem? (i := 9) rfl) (List.mem_of_getElem? (i := 13) rfl) (List.mem_of_getElem? (i := 14) rfl)
  have key : Calls Tryz.prog 19 #[.agg (tcells t0 nv0 kv0).toArray, .int .u16 x1] W fun e w' => e = .returned (.bool true) ∧ Below W.heap.size W w' := doubled_walk0 hr0 hG (Nat.le_refl _) (by omega)
  refine key.mono fun e W' ⟨he, hb⟩ => ?_
  subst he
  exact ⟨_, rfl, true_post hW' rfl ⟨rfl, rfl, rfl⟩ rfl (by kernel_rfl) hb⟩

end Go.Proofs.YtppkpcijmfdfmaaGreatDoor
