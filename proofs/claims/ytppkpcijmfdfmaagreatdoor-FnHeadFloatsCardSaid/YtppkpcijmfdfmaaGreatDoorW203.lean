/- Arguments that are lists of fields. -/
import Derived.Test.YtppkpcijmfdfmaaGreatDoorE2
import Derived.Test.YtppkpcijmfdfmaaGreatDoorW200
set_option linter.unusedVariables false
set_option linter.unusedSimpArgs false
namespace Go.Proofs.YtppkpcijmfdfmaaGreatDoor
open Go.RowKit Go.ChangeShapes Go.WideShapes
theorem Tryz.c32 : Tryz.prog.cellsOf 32 = 7 := by kernel_rfl
section
variable {H : Type} {enc : TypeId × Value → H} {W : World} {sp : Nat → Bool} {held : Bool}

set_option maxRecDepth 100000 in
theorem field_open {fuel : Nat} {cs : List Value} {x : DataW H × List MemPlace} (h : DataW.trod enc Tryz.prog W 0 sp held fuel 32 cs = some x) : ∃ (q : HF) (lv : Value), cs = fcells q lv ∧ NSB W W.heap.size lv q.list ∧ q.kind < 256 ∧ q.num < 18446744073709551616 ∧ q.list.length ≤ 9223372036854775807 := by
  cases fuel with
  | zero => simp [DataW.trod] at h
  | succ fuel =>
    obtain ⟨xs, n, hn, _, hl, hxl, hall⟩ := DataW.trod_struct Tryz.underlying32 h
    rw [Tryz.c32] at hl
    obtain ⟨x0, x1, x2, x3, x4, x5, x6, rfl⟩ : ∃ x0 x1 x2 x3 x4 x5 x6, xs = [x0, x1, x2, x3, x4, x5, x6] := by
      match xs, hxl with
      | [x0, x1, x2, x3, x4, x5, x6], _ => exact ⟨x0, x1, x2, x3, x4, x5, x6, rfl⟩
    obtain ⟨s, e0, _, _⟩ := DataW.trod_string Tryz.underlying9 (hall 0 _ rfl)
    obtain ⟨z, e1, _, w1⟩ := DataW.trod_int Tryz.underlying5 (hall 1 _ rfl)
    obtain ⟨b2, e2, _⟩ := DataW.trod_bool Tryz.underlying4 (hall 2 _ rfl)
    obtain ⟨b3, e3, _⟩ := DataW.trod_bool Tryz.underlying4 (hall 3 _ rfl)
    obtain ⟨u, e4, _, w4⟩ := DataW.trod_int Tryz.underlying23 (hall 4 _ rfl)
    obtain ⟨s5, e5, _, _⟩ := DataW.trod_string Tryz.underlying9 (hall 5 _ rfl)
    obtain ⟨nv, names, e6, hnb, hnl⟩ := names_open (hall 6 _ rfl)
    have q0 : cs[0]? = some (.string s) := one_of Tryz.c9 e0
    have q1 : cs[1]? = some (.int .u8 z) := one_of Tryz.c5 e1
    have q2 : cs[2]? = some (.bool b2) := one_of Tryz.c4 e2
    have q3 : cs[3]? = some (.bool b3) := one_of Tryz.c4 e3
    have q4 : cs[4]? = some (.int .u64 u) := one_of Tryz.c23 e4
    have q5 : cs[5]? = some (.string s5) := one_of Tryz.c9 e5
    have q6 : cs[6]? = some nv := one_of Tryz.c29 e6
    have wz : 0 ≤ z ∧ z ≤ 255 := by simpa [Lit.wf, IntKind.min, IntKind.max, IntKind.signed, IntKind.bits] using w1
    have wu : 0 ≤ u ∧ u ≤ 18446744073709551615 := by simpa [Lit.wf, IntKind.min, IntKind.max, IntKind.signed, IntKind.bits] using w4
    obtain ⟨z, rfl⟩ : ∃ k : Nat, z = k := ⟨z.toNat, by omega⟩
    obtain ⟨u, rfl⟩ : ∃ k : Nat, u = k := ⟨u.toNat, by omega⟩
    refine ⟨⟨s.data.toList, z, b2, b3, u, s5.data.toList, names⟩, nv, ?_, hnb, by show z < 256; omega, by show u < _; omega, hnl⟩
    match cs, hl, q0, q1, q2, q3, q4, q5, q6 with
    | [c0, c1, c2, c3, c4, c5, c6], _, q0, q1, q2, q3, q4, q5, q6 =>
      simp only [List.getElem?_cons_zero, List.getElem?_cons_succ, Option.some.injEq] at q0 q1 q2 q3 q4 q5 q6
      rw [q0, q1, q2, q3, q4, q5, q6]
      rfl

set_option maxRecDepth 100000 in
theorem fields_open {fuel : Nat} {cs : List Value} {x : DataW H × List MemPlace} (h : DataW.trod enc Tryz.prog W 0 sp held fuel 22 cs = some x) :
    ∃ v l, cs = [v] ∧ FRow W W.heap.size v l ∧ l.length ≤ 9223372036854775807 := by
  rcases DataW.trod_slice Tryz.underlying22 h with ⟨rfl, _⟩ | ⟨a, len, cap, elems, rest, n, rfl, rfl, _, _, hlc, hcm, hlen, hel, _, _⟩
  · exact ⟨_, [], rfl, Or.inl ⟨none, 0, rfl, rfl⟩, by decide⟩
  have key : ∀ i, i < len → ∃ q : HF, ∃ lv, (∀ (j : Nat) u, (fcells q lv)[j]? = some u → W.cell? (a.add (i * 7 + j)) = some u) ∧ NSB W W.heap.size lv q.list ∧ q.kind < 256 ∧ q.num < 18446744073709551616 ∧ q.list.length ≤ 9223372036854775807 := by
    intro i hi
    have e := hel i hi
    rw [List.getElem?_eq_getElem (by omega), Tryz.c32] at e
    obtain ⟨cs', h1, h2⟩ := Option.bind_eq_some_iff.1 e
    obtain ⟨_, hl, hc⟩ := World.cells?_some h1
    have hc' : ∀ (j : Nat) u, cs'[j]? = some u → W.cell? (a.add (i * 7 + j)) = some u := by
      intro j u hj
      have hj7 : j < 7 := by rw [← hl]; exact (List.getElem?_eq_some_iff.1 hj).1
      have := hc j hj7
      rw [hj, add_add] at this
      exact this
    obtain ⟨q, lv, rfl, hq⟩ := field_open h2
    exact ⟨q, lv, hc', hq⟩
  have hl9 : len ≤ 9223372036854775807 := Nat.le_trans hlc hcm
  by_cases h0 : len = 0
  · subst h0
    exact ⟨_, [], rfl, Or.inl ⟨_, _, rfl, rfl⟩, by decide⟩
  obtain ⟨f, hf⟩ : ∃ f : Nat → HF, ∀ i, i < len → ∃ lv, (∀ (j : Nat) u, (fcells (f i) lv)[j]? = some u → W.cell? (a.add (i * 7 + j)) = some u) ∧ NSB W W.heap.size lv (f i).list ∧ (f i).kind < 256 ∧ (f i).num < 18446744073709551616 ∧ (f i).list.length ≤ 9223372036854775807 :=
    ⟨fun i => if hi : i < len then (key i hi).choose else ⟨[], 0, false, false, 0, [], []⟩, fun i hi => by simp only [hi, dite_true]; exact (key i hi).choose_spec⟩
  obtain ⟨b, off, sp'⟩ := a
  obtain ⟨_, h1, _⟩ := hf 0 (by omega)
  have h1 := h1 0 _ rfl
  obtain rfl : sp' = none := spot_of h1
  refine ⟨_, (List.range len).map f, rfl, Or.inr ⟨b, off, cap, by simp, block_lt h1, fun i q hi => ?_⟩, by simpa using hl9⟩
  simp only [List.getElem?_map, Option.map_eq_some_iff] at hi
  obtain ⟨j, hj, rfl⟩ := hi
  obtain ⟨hlt, rfl⟩ := List.getElem?_eq_some_iff.1 hj
  simp only [List.length_range, List.getElem_range] at hlt ⊢
  obtain ⟨lv, hc, hr⟩ := hf _ hlt
  refine ⟨lv, fun j u hu => ?_, hr⟩
  have := hc j u hu
  rw [add_none, ← Nat.add_assoc] at this
  exact this

set_option maxRecDepth 100000 in
theorem open_fields {r : Reach} {b0 : Nat} {v : Value} {d : DataW H} {ps : List MemPlace} (hval : Value.okWide Tryz.prog W r b0 22 v) (hd : DataW.Trod enc Tryz.prog W 0 sp held 22 v d ps) :
    ∃ a c l, v = .slice a (List.length l) c ∧ FRow W W.heap.size v l ∧ l.length ≤ 9223372036854775807 := by
  obtain ⟨a, len, cap, rfl⟩ := okWide_slice Tryz.underlying22 hval
  obtain ⟨fuel, hf⟩ := hd
  obtain ⟨v, l, e, hq, hl⟩ := fields_open hf
  have e' : Value.slice a len cap = v := by simpa [Value.cells] using e
  subst e'
  rcases hq with ⟨a', c', e, rfl⟩ | ⟨b, off, c, e, h1, h2⟩
  · cases e; exact ⟨_, _, [], rfl, Or.inl ⟨_, _, rfl, rfl⟩, hl⟩
  · cases e; exact ⟨_, _, l, rfl, Or.inr ⟨b, off, _, rfl, h1, h2⟩, hl⟩
end
end Go.Proofs.YtppkpcijmfdfmaaGreatDoor
