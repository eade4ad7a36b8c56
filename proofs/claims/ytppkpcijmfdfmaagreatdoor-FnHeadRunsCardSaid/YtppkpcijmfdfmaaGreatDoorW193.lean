/- Arguments that are lists of small questions. -/
import Derived.Test.YtppkpcijmfdfmaaGreatDoorE2
import Derived.Test.YtppkpcijmfdfmaaGreatDoorW192
set_option linter.unusedVariables false
set_option linter.unusedSimpArgs false
namespace Go.Proofs.YtppkpcijmfdfmaaGreatDoor
open Go.RowKit Go.ChangeShapes Go.WideShapes
theorem Tryz.c131 : Tryz.prog.cellsOf 131 = 2 := by kernel_rfl
section
variable {H : Type} {enc : TypeId × Value → H} {W : World} {sp : Nat → Bool} {held : Bool}

set_option maxRecDepth 100000 in
theorem ask_open {fuel : Nat} {cs : List Value} {x : DataW H × List MemPlace} (h : DataW.trod enc Tryz.prog W 0 sp held fuel 131 cs = some x) : ∃ q : Nat × Nat, cs = [.int .u8 q.1, .int .u8 q.2] ∧ q.1 < 256 ∧ q.2 < 256 := by
  cases fuel with
  | zero => simp [DataW.trod] at h
  | succ fuel =>
    obtain ⟨xs, n, hn, _, hl, hxl, hall⟩ := DataW.trod_struct Tryz.underlying131 h
    rw [Tryz.c131] at hl
    obtain ⟨x0, x1, rfl⟩ : ∃ x0 x1, xs = [x0, x1] := by
      match xs, hxl with
      | [x0, x1], _ => exact ⟨x0, x1, rfl⟩
    obtain ⟨z, e0, _, w0⟩ := DataW.trod_int Tryz.underlying5 (hall 0 _ rfl)
    obtain ⟨u, e1, _, w1⟩ := DataW.trod_int Tryz.underlying5 (hall 1 _ rfl)
    have q0 : cs[0]? = some (.int .u8 z) := one_of Tryz.c5 e0
    have q1 : cs[1]? = some (.int .u8 u) := one_of Tryz.c5 e1
    have wz : 0 ≤ z ∧ z ≤ 255 := by simpa [Lit.wf, IntKind.min, IntKind.max, IntKind.signed, IntKind.bits] using w0
    have wu : 0 ≤ u ∧ u ≤ 255 := by simpa [Lit.wf, IntKind.min, IntKind.max, IntKind.signed, IntKind.bits] using w1
    obtain ⟨z, rfl⟩ : ∃ k : Nat, z = k := ⟨z.toNat, by omega⟩
    obtain ⟨u, rfl⟩ : ∃ k : Nat, u = k := ⟨u.toNat, by omega⟩
    refine ⟨(z, u), ?_, by show z < 256; omega, by show u < 256; omega⟩
    match cs, hl, q0, q1 with
    | [c0, c1], _, q0, q1 =>
      simp only [List.getElem?_cons_zero, List.getElem?_cons_succ, Option.some.injEq] at q0 q1
      rw [q0, q1]

set_option maxRecDepth 100000 in
theorem asks_open {fuel : Nat} {cs : List Value} {x : DataW H × List MemPlace} (h : DataW.trod enc Tryz.prog W 0 sp held fuel 59 cs = some x) :
    ∃ v l, cs = [v] ∧ QRow W v l ∧ l.length ≤ 9223372036854775807 := by
  rcases DataW.trod_slice Tryz.underlying59 h with ⟨rfl, _⟩ | ⟨a, len, cap, elems, rest, n, rfl, rfl, _, _, hlc, hcm, hlen, hel, _, _⟩
  · exact ⟨_, [], rfl, Or.inl ⟨none, 0, rfl, rfl⟩, by decide⟩
  have key : ∀ i, i < len → ∃ q : Nat × Nat, (W.cell? (a.add (i * 2)) = some (.int .u8 q.1) ∧ W.cell? (a.add (i * 2 + 1)) = some (.int .u8 q.2)) ∧ q.1 < 256 ∧ q.2 < 256 := by
    intro i hi
    have e := hel i hi
    rw [List.getElem?_eq_getElem (by omega), Tryz.c131] at e
    obtain ⟨cs', h1, h2⟩ := Option.bind_eq_some_iff.1 e
    obtain ⟨_, hl, hc⟩ := World.cells?_some h1
    have hc' : ∀ (j : Nat) u, cs'[j]? = some u → W.cell? (a.add (i * 2 + j)) = some u := by
      intro j u hj
      have hj7 : j < 2 := by rw [← hl]; exact (List.getElem?_eq_some_iff.1 hj).1
      have := hc j hj7
      rw [hj, add_add] at this
      exact this
    obtain ⟨q, rfl, hq⟩ := ask_open h2
    exact ⟨q, ⟨hc' 0 _ rfl, hc' 1 _ rfl⟩, hq⟩
  have hl9 : len ≤ 9223372036854775807 := Nat.le_trans hlc hcm
  by_cases h0 : len = 0
  · subst h0
    exact ⟨_, [], rfl, Or.inl ⟨_, _, rfl, rfl⟩, by decide⟩
  obtain ⟨f, hf⟩ : ∃ f : Nat → Nat × Nat, ∀ i, i < len → (W.cell? (a.add (i * 2)) = some (.int .u8 (f i).1) ∧ W.cell? (a.add (i * 2 + 1)) = some (.int .u8 (f i).2)) ∧ (f i).1 < 256 ∧ (f i).2 < 256 :=
    ⟨fun i => if hi : i < len then (key i hi).choose else (0, 0), fun i hi => by simp only [hi, dite_true]; exact (key i hi).choose_spec⟩
  obtain ⟨b, off, sp'⟩ := a
  have h1 := (hf 0 (by omega)).1.1
  obtain rfl : sp' = none := spot_of h1
  refine ⟨_, (List.range len).map f, rfl, Or.inr ⟨b, off, cap, by simp, block_lt h1, fun i q hi => ?_⟩, by simpa using hl9⟩
  simp only [List.getElem?_map, Option.map_eq_some_iff] at hi
  obtain ⟨j, hj, rfl⟩ := hi
  obtain ⟨hlt, rfl⟩ := List.getElem?_eq_some_iff.1 hj
  simp only [List.length_range, List.getElem_range] at hlt ⊢
  obtain ⟨⟨k0, k1⟩, k2⟩ := hf _ hlt
  rw [add_none] at k0 k1
  exact ⟨k0, by rw [Nat.add_assoc]; exact k1, k2⟩

set_option maxRecDepth 100000 in
theorem open_asks {r : Reach} {b0 : Nat} {v : Value} {d : DataW H} {ps : List MemPlace} (hval : Value.okWide Tryz.prog W r b0 59 v) (hd : DataW.Trod enc Tryz.prog W 0 sp held 59 v d ps) :
    ∃ a c l, v = .slice a (List.length l) c ∧ QRow W v l ∧ l.length ≤ 9223372036854775807 := by
  obtain ⟨a, len, cap, rfl⟩ := okWide_slice Tryz.underlying59 hval
  obtain ⟨fuel, hf⟩ := hd
  obtain ⟨v, l, e, hq, hl⟩ := asks_open hf
  have e' : Value.slice a len cap = v := by simpa [Value.cells] using e
  subst e'
  rcases hq with ⟨a', c', e, rfl⟩ | ⟨b, off, c, e, h1, h2⟩
  · cases e; exact ⟨_, _, [], rfl, Or.inl ⟨_, _, rfl, rfl⟩, hl⟩
  · cases e; exact ⟨_, _, l, rfl, Or.inr ⟨b, off, _, rfl, h1, h2⟩, hl⟩
end
end Go.Proofs.YtppkpcijmfdfmaaGreatDoor
