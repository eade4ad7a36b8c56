/- append of the names of a tree behind one text. -/
import Derived.Test.YtppkpcijmfdfmaaGreatDoorE1
import Derived.Deep.AppendSrc
import Derived.Test.YtppkpcijmfdfmaaGreatDoorC1
import Derived.Deep.RegionHeld3
import Derived.Deep.RegionHeldLaw
set_option linter.unusedVariables false
set_option linter.unusedSimpArgs false
namespace Go.Proofs.YtppkpcijmfdfmaaGreatDoor
open Go.RowKit
/-- Names below a bound are names. -/
theorem NSB.ns {w : World} {B0 : Nat} {v : Value} {l : List Bs} (h : NSB w B0 v l) (hB : B0 ≤ w.heap.size) : NS w v l := by
  rcases h with h | ⟨b, off, c, h1, ⟨h2, _⟩, h3⟩
  · exact Or.inl h
  · exact Or.inr ⟨b, off, c, h1, Nat.lt_of_lt_of_le h2 hB, h3⟩
theorem strs_one (l : List Bs) : ∀ u ∈ l.map (fun s => Value.string (B s)), u.oneCell' = true := by
  intro u hu
  obtain ⟨_, _, rfl⟩ := List.mem_map.1 hu
  rfl
theorem names_src {w : World} {B0 : Nat} {nv : Value} {l : List Bs} (hn : NSB w B0 nv l) : Src Tryz.prog 1 29 nv l.length (l.map fun s => .string (B s)) w := by
  rcases hn with ⟨a, c, rfl, rfl⟩ | ⟨b, off, c, rfl, _, hc⟩
  · cases a with
    | none => exact Src.ofNil w Tryz.underlying29 c
    | some a => exact Src.ofSlice w Tryz.underlying29 a 0 c [] (by simp) (by simp) (by simp)
  · refine Src.ofSlice w Tryz.underlying29 ⟨b, off, none⟩ l.length c _ (by simp) (fun j v hj => ?_) (strs_one l)
    rw [List.getElem?_map, Option.map_eq_some_iff] at hj
    obtain ⟨s, hs, rfl⟩ := hj
    have e : (⟨b, off, none⟩ : Addr).add j = ⟨b, off + j, none⟩ := by
      simp only [Addr.add]
      split <;> simp_all
    rw [e]
    exact hc j s hs
theorem append_names (w : World) (ty b0 : Nat) (l : List Bs) (s0 : Bs) (nv : Value) {B0 : Nat} (h0 : w.cell? ⟨b0, 0, none⟩ = some (.string (B s0))) (hn : NSB w B0 nv l) (hl : l.length < 1000000) :
    ∃ v' w', (Builtin.append_ #[29, 29] ty #[.slice (some ⟨b0, 0, none⟩) 1 1, nv]).run Tryz.prog w = .ok v' w' ∧ NS w' v' (s0 :: l) ∧ Below w.heap.size w w' := by
  obtain ⟨i, hi, hz, hs, hb⟩ := info_parts info9
  have hsrc := names_src hn
  by_cases hm : l = []
  · subst hm
    have hr := run_append_room_src (P := Tryz.prog) w 29 29 ty 9 i Tryz.underlying29 hi b0 0 1 1 nv 0 [] (by rw [hs]; exact hsrc) (by omega) (by simp) (by simp)
    refine ⟨_, _, hr, Or.inr ⟨b0, 0, 1, rfl, ?_, fun j s hj => ?_⟩, ?_⟩
    · have : b0 < w.heap.size := by
        rcases Nat.lt_or_ge b0 w.heap.size with h' | h'
        · exact h'
        · simp [World.cell?, Array.getElem?_eq_none h'] at h0
      simpa [World.setCells] using this
    · match j, hj with
      | 0, hj =>
        cases hj
        simpa [World.setCells] using h0
    · simpa [World.setCells] using Below.refl w.heap.size w
  · have hp : 0 < l.length := List.length_pos_iff.2 hm
    have hold : (Builtin.firstCells i.size 1 (.slice (some ⟨b0, 0, none⟩) 1 1)).run Tryz.prog w.drew = .ok [Value.string (B s0)].toArray w.drew :=
      run_firstCells_some w.drew i.size 1 ⟨b0, 0, none⟩ 1 1 [Value.string (B s0)] (by rw [hs]; rfl) (fun j v hj => by
        match j, hj with
        | 0, hj => cases hj; simpa [Addr.add] using h0)
    have hr := run_append_grow_src (P := Tryz.prog) w 29 29 ty 9 i _ Tryz.underlying29 hi hz (some ⟨b0, 0, none⟩) 1 1 [Value.string (B s0)] hold nv l.length _ (by rw [hs]; exact hsrc) (by omega) (by omega)
      (growslice_fits (by omega) (by rw [hb]; omega))
    refine ⟨_, _, hr, Or.inr ⟨w.heap.size, 0, _, by rw [List.length_cons, Nat.add_comm], by simp, fun j s hj => ?_⟩, (Below.refl _ _).drew.alloc (Nat.le_refl _) _⟩
    have hlt : j < (s0 :: l).length := (List.getElem?_eq_some_iff.1 hj).1
    rw [Nat.zero_add]
    have hw := heap_alloc_new w.drew (.cells (([Value.string (B s0)] ++ l.map fun s => Value.string (B s)).toArray ++ Builtin.zeroCells (Value.string ⟨#[]⟩).cells (grownCap w (1 + l.length) 1 9 - (1 + l.length))) 9)
    refine (cell_of_row _ w.heap.size j _ _ _ hw).trans ?_
    have e : ([Value.string (B s0)] ++ l.map fun s => Value.string (B s)) = ((s0 :: l).map fun s => Value.string (B s)) := by simp
    rw [e, Array.getElem?_append_left (by simpa using hlt), List.getElem?_toArray, List.getElem?_map, hj]
    rfl
end Go.Proofs.YtppkpcijmfdfmaaGreatDoor

/- The walk of FnHeadTorn. -/
namespace Go.Proofs.YtppkpcijmfdfmaaGreatDoor
open Go.RowKit
attribute [local go_sem] B_size B_get B_lit B_ext_to B_ext B_toList B_app

theorem step_append_names {w : World} {ops : Array Oper} {o : Oper} {a : Act} {K : Act → World → Prop} {Q : Exit → Act → World → Prop} {E : Prop} (hgd : o.guard = none) (s x : Operand)
    (ho : o.op = .call { callee := .builtin .append, args := #[s, x], argTypes := #[29, 29] }) (b0 : Nat) (l : List Bs) (s0 : Bs) (nv : Value) (B0 : Nat) (hs : a.eval s = .slice (some ⟨b0, 0, none⟩) 1 1) (hx : a.eval x = nv)
    (h0 : w.cell? ⟨b0, 0, none⟩ = some (.string (B s0))) (hn : NSB w B0 nv l) (hl : l.length < 1000000) (h : ∀ v' w', NS w' v' (s0 :: l) → Below w.heap.size w w' → K (a.put o.dst v') w') :
    if Region.wanted o (yielded ops a.tmps) = true then Oper.wp Tryz.prog o a w K Q else E := by
  have hw : Region.wanted o (yielded ops a.tmps) = true := by simp [Region.wanted, hgd]
  rw [if_pos hw]
  obtain ⟨v', w', hr, h1, h2⟩ := append_names w o.type b0 l s0 nv h0 hn hl
  exact Lib.wp_append_run w s x 29 29 ho _ _ hs hx v' w' hr (h v' w' h1 h2)

theorem names_nsb {w : World} {B0 d : Nat} {nv kv : Value} {t : HT} (h : RepT w B0 d nv kv t) : NSB w B0 nv t.names := by
  cases d with
  | zero => exact h.elim
  | succ d => exact h.2.1
theorem names_short {d n : Nat} {t : HT} (h : Sized 200 60 d t 1 n) (h5 : t.kind = 5) : ∀ s ∈ t.names, s.length ≤ 200 := by
  cases d with
  | zero => exact h.elim
  | succ d =>
    intro s hs
    refine (h.2.2.2.2.1 s ?_).1
    unfold HT.texts
    rw [if_neg (by omega), if_pos h5]
    exact hs
theorem names_lt {d n : Nat} {t : HT} (h : Sized 200 60 d t 1 n) (h5 : t.kind = 5) : t.names.length ≤ 200 := by
  cases d with
  | zero => exact h.elim
  | succ d => rw [h.2.2.2.1 h5]; exact h.2.2.1
theorem Below.to_alloc {w X : World} (h : Below w.heap.size w X) (o : Obj) : Below w.heap.size w (X.alloc o) := h.alloc h.size o
theorem Below.to_next {w X Y : World} (h : Below w.heap.size w X) (k : Below X.heap.size X Y) : Below w.heap.size w Y := h.trans (k.mono h.size)
theorem Below.kept {w X : World} (h : Below w.heap.size w X) {p : Addr} {v : Value} (hp : w.cell? p = some v) : X.cell? p = some v := by
  refine (h.cell (p := p) ?_).trans hp
  rcases Nat.lt_or_ge p.block w.heap.size with h' | h'
  · exact h'
  · simp [World.cell?, Array.getElem?_eq_none h'] at hp
end Go.Proofs.YtppkpcijmfdfmaaGreatDoor
