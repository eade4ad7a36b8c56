/- The walks of slices.Equal of texts and sameTold. -/
import Derived.Test.YtppkpcijmfdfmaaGreatDoorW132
set_option linter.unusedVariables false
set_option linter.unusedSimpArgs false
namespace Go.Proofs.YtppkpcijmfdfmaaGreatDoor
open Go.RowKit
attribute [local go_sem] B_size B_get B_lit B_ext_to B_ext B_toList B_app

theorem SL.ns {w : World} {v : Value} {l : List Bs} (h : SL w v l) : NS w v l := by
  rcases h with ⟨rfl, rfl⟩ | ⟨b, c, rfl, hlt, hc⟩
  · exact Or.inl ⟨none, 0, rfl, rfl⟩
  · exact Or.inr ⟨b, 0, c, rfl, hlt, fun i s hi => by rw [Nat.zero_add]; exact hc i s hi⟩
theorem equal_any (w : World) {va vb : Value} {l : List Bs} (h1 : NS w va l) (h2 : NS w vb l) (hl : l.length ≤ 1000000) : Calls Tryz.prog 74 #[va, vb] w fun e w' => e = .returned (.bool true) ∧ Below w.heap.size w w' := by
  by_cases h0 : l = []
  · subst h0
    obtain ⟨a1, c1, rfl⟩ : ∃ a c, va = .slice a 0 c := by
      rcases h1 with ⟨a, c, e, _⟩ | ⟨b, off, c, e, _⟩
      · exact ⟨a, c, e⟩
      · exact ⟨_, c, e⟩
    obtain ⟨a2, c2, rfl⟩ : ∃ a c, vb = .slice a 0 c := by
      rcases h2 with ⟨a, c, e, _⟩ | ⟨b, off, c, e, _⟩
      · exact ⟨a, c, e⟩
      · exact ⟨_, c, e⟩
    refine (Tryz.slices_Equal_string_empty a1 a2 c1 0 c2 w (by omega)).mono ?_
    rintro e w' ⟨rfl, rfl⟩
    exact ⟨by simp, Below.refl _ _⟩
  · rcases h1 with ⟨_, _, _, e⟩ | ⟨b1, o1, c1, rfl, _, k1⟩
    · exact absurd e h0
    rcases h2 with ⟨_, _, _, e⟩ | ⟨b2, o2, c2, rfl, _, k2⟩
    · exact absurd e h0
    have hg : ∀ j, j < (l.map B).length → ∃ s, l[j]? = some s ∧ (l.map B).getD j ByteArray.empty = B s := fun j hj => by
      rw [List.length_map] at hj
      refine ⟨l[j], List.getElem?_eq_getElem hj, ?_⟩
      rw [List.getD_eq_getElem?_getD, List.getElem?_map, List.getElem?_eq_getElem hj]
      rfl
    refine (Tryz.slices_Equal_string b1 o1 l.length c1 b2 o2 l.length c2 (l.map B) (l.map B) w (by simp) (by simp) (by omega) (by omega) (fun j hj => ?_) (fun j hj => ?_)).mono ?_
    · obtain ⟨s, e1, e2⟩ := hg j hj
      rw [e2]; exact k1 j s e1
    · obtain ⟨s, e1, e2⟩ := hg j hj
      rw [e2]; exact k2 j s e1
    · rintro e w' ⟨rfl, q, rfl⟩
      exact ⟨by simp, drewN_below _ _⟩
theorem NS.slice {w : World} {v : Value} {l : List Bs} (h : NS w v l) : ∃ a c, v = .slice a l.length c := by
  rcases h with ⟨a, c, rfl, rfl⟩ | ⟨b, off, c, rfl, _⟩
  · exact ⟨a, c, rfl⟩
  · exact ⟨_, c, rfl⟩
set_option maxRecDepth 100000 in
set_option maxHeartbeats 2000000 in
theorem sameTold_in (w : World) (ok is x : Bool) (text : Bs) (int uint : Int) (f g : Nat) {la lb : Value} {l : List Bs} (h1 : NS w la l) (h2 : NS w lb l) (hl : l.length ≤ 1000000) (hf : x = true → (FloatKind.f64.format.order f g == some .eq) = true) :
    Calls Tryz.prog 37 #[.agg #[.bool ok, .string (B text), .bool is, .int .i64 int, .int .u64 uint, .float .f64 f, la], .agg #[.bool ok, .string (B text), .bool is, .int .i64 int, .int .u64 uint, .float .f64 g, lb], .bool x] w fun e w' => e = .returned (.bool true) ∧ Below w.heap.size w w' := by
  have HEQ : Hid (∀ {wz : World}, Below w.heap.size w wz → Calls Tryz.prog 74 #[la, lb] wz fun e w' => e = .returned (.bool true) ∧ Below wz.heap.size wz w') := fun hb => equal_any _ (h1.below hb) (h2.below hb) hl
  have HB : Hid (∀ o o' : Obj, Below w.heap.size w ((w.alloc o).alloc o')) := fun o o' => ((Below.refl _ _).alloc (Nat.le_refl _) _).alloc (by simp) _
  obtain ⟨a1, c1, rfl⟩ := h1.slice
  obtain ⟨a2, c2, rfl⟩ := h2.slice
  clear h1 h2
  cases x
  · clear hf
    go_enter Tryz.func37, Tryz.ntmps37
    go_wp2_with (go_at_call 74; refine (HEQ.out (HB.out _ _)).mono ?_; rintro e w2 ⟨rfl, hb2⟩; have HB2 := Lib.hid ((HB.out _ _).trans (hb2.mono (HB.out _ _).size)); clear hb2)
    go_ret
    exact ⟨rfl, HB2.out⟩
  · have hf := hf rfl
    go_enter Tryz.func37, Tryz.ntmps37
    go_wp2_with (go_at_call 74; refine (HEQ.out (HB.out _ _)).mono ?_; rintro e w2 ⟨rfl, hb2⟩; have HB2 := Lib.hid ((HB.out _ _).trans (hb2.mono (HB.out _ _).size)); clear hb2)
    go_ret
    exact ⟨rfl, HB2.out⟩
/-- Two answers that are the same, but for where their lists lie, and for the number of floating point. -/
theorem sameTold_any (w : World) (a b : Told) (x : Bool) {la lb : Value} (h1 : NS w la a.list) (h2 : NS w lb b.list) (hl : a.list.length ≤ 1000000) (h : a = { b with fl := a.fl }) (hf : x = true → (FloatKind.f64.format.order a.fl b.fl == some .eq) = true) :
    Calls Tryz.prog 37 #[.agg (a.cells la).toArray, .agg (b.cells lb).toArray, .bool x] w fun e w' => e = .returned (.bool true) ∧ Below w.heap.size w w' := by
  obtain ⟨ok, text, is, int, uint, f, list⟩ := a
  obtain ⟨ok', text', is', int', uint', g, list'⟩ := b
  cases h
  exact sameTold_in w _ _ x _ _ _ _ _ h1 h2 hl hf
end Go.Proofs.YtppkpcijmfdfmaaGreatDoor
