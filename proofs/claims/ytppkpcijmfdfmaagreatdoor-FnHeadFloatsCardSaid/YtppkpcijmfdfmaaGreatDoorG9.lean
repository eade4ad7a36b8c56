/- Lengths of what FnHeadWrongWord writes; a tree less deep. -/
import Derived.Test.YtppkpcijmfdfmaaGreatDoorC2
import Derived.Test.YtppkpcijmfdfmaaGreatDoorC1
import Derived.Test.YtppkpcijmfdfmaaGreatDoorD3
import Derived.Test.YtppkpcijmfdfmaaGreatDoorC12
import Derived.Deep.AppendLies
import Derived.Deep.RegionHeld3
import Derived.Deep.RegionHeldLaw
import Derived.Deep.AppendSrc
import Derived.Lib.AppendZeros
set_option linter.unusedVariables false
set_option linter.unusedSimpArgs false
namespace Go.Proofs.YtppkpcijmfdfmaaGreatDoor
end Go.Proofs.YtppkpcijmfdfmaaGreatDoor

/- The tokens of a tree, part by part; how many they are. No program in sight. -/
namespace Go.Proofs.YtppkpcijmfdfmaaGreatDoor
/-- What is left of the kids' tokens. -/
def tFrom (f : HT → List Bs) (ob : Bool) (ns : List Bs) (ks : List HT) (m : Nat) : List Bs := if m = 0 then tKids f ob ns ks else tMore f ob (ns.drop m) (ks.drop m)
/-- A comma ahead of all but the first. -/
def tComma (m : Nat) : List Bs := if m = 0 then [] else [[44]]
theorem tFrom_step (f : HT → List Bs) (ob : Bool) (ns : List Bs) (ks : List HT) (m : Nat) (k : HT) (h : ks[m]? = some k) :
    tFrom f ob ns ks m = tComma m ++ (tName ob (ns.drop m) ++ (f k ++ tFrom f ob ns ks (m + 1))) := by
  have hd : ks.drop m = k :: ks.drop (m + 1) := by
    obtain ⟨hlt, he⟩ := List.getElem?_eq_some_iff.1 h
    rw [List.drop_eq_getElem_cons hlt, he]
  have hf : tFrom f ob ns ks (m + 1) = tMore f ob (ns.drop (m + 1)) (ks.drop (m + 1)) := by unfold tFrom; rw [if_neg (by omega)]
  unfold tComma
  by_cases hm : m = 0
  · subst hm
    rw [List.drop_zero] at hd
    unfold tFrom
    rw [if_pos rfl, if_pos rfl, if_neg (by omega), hd, tKids]
    simp
  · rw [if_neg hm, hf]
    unfold tFrom
    rw [if_neg hm, hd, tMore]
    simp
end Go.Proofs.YtppkpcijmfdfmaaGreatDoor

/- A row of texts that a call owns; appends to it; what may change beside it. -/
namespace Go.Proofs.YtppkpcijmfdfmaaGreatDoor
open Go.RowKit

def strs (l : List Bs) : List Value := l.map fun s => .string (B s)
theorem strs_length (l : List Bs) : (strs l).length = l.length := by simp [strs]
theorem strs_app (l m : List Bs) : strs (l ++ m) = strs l ++ strs m := by simp [strs]
theorem strs_cell (l : List Bs) : ∀ u ∈ strs l, u.oneCell' = true := by
  intro u hu
  obtain ⟨_, _, rfl⟩ := List.mem_map.1 hu
  rfl
theorem strs_get {l : List Bs} {j : Nat} {u : Value} (h : (strs l)[j]? = some u) : ∃ s, l[j]? = some s ∧ u = .string (B s) := by
  unfold strs at h
  rw [List.getElem?_map, Option.map_eq_some_iff] at h
  obtain ⟨s, h1, h2⟩ := h
  exact ⟨s, h1, h2.symm⟩
/-- A row of texts of a call's own. -/
def OwnG (base : Nat) (w : World) (g cap : Nat) (l : List Bs) : Prop := w.ownsRow base 9 1 (.slice (some ⟨g, 0, none⟩) l.length cap) l.length (strs l)
theorem OwnG.row {base : Nat} {w : World} {g cap : Nat} {l : List Bs} (h : OwnG base w g cap l) : ∃ cur, base ≤ g ∧ w.heap[g]? = some (.cells cur 9 (0, 0)) ∧ l.length ≤ cap ∧ cap ≤ maxLen ∧ cur.size = cap ∧ cur.toList.take l.length = strs l := by
  rcases h.2 with ⟨h, _⟩ | ⟨g', cap', cur, h1, h2, h3, h4, h5, h6, h7⟩
  · cases h
  · cases h1
    exact ⟨cur, h2, h3, h4, h5, by omega, by simpa using h7⟩
theorem OwnG.lt {base : Nat} {w : World} {g cap : Nat} {l : List Bs} (h : OwnG base w g cap l) : g < w.heap.size := by
  obtain ⟨cur, _, h3, _⟩ := h.row
  rcases Nat.lt_or_ge g w.heap.size with h' | h'
  · exact h'
  · rw [Array.getElem?_eq_none h'] at h3; cases h3
theorem OwnG.base {base : Nat} {w : World} {g cap : Nat} {l : List Bs} (h : OwnG base w g cap l) : base ≤ g := by
  obtain ⟨cur, h2, _⟩ := h.row
  exact h2
theorem OwnG.keep {base : Nat} {w w' : World} {g cap : Nat} {l : List Bs} (h : OwnG base w g cap l) (hk : w'.heap[g]? = w.heap[g]?) : OwnG base w' g cap l := by
  obtain ⟨h0, h⟩ := h
  refine ⟨h0, ?_⟩
  rcases h with h | ⟨g', cap', cur, h1, h2, h3, h4⟩
  · exact Or.inl h
  · cases h1
    exact Or.inr ⟨g, cap, cur, rfl, h2, hk.trans h3, h4⟩
theorem OwnG.below {base : Nat} {w w' : World} {g cap : Nat} {l : List Bs} (h : OwnG base w g cap l) (hb : Below w.heap.size w w') : OwnG base w' g cap l := h.keep (hb.block g h.lt)
theorem OwnG.only {base sb : Nat} {w w' : World} {g cap : Nat} {l : List Bs} (h : OwnG base w g cap l) (ho : Only sb w w') (hs : sb < base) : OwnG base w' g cap l := h.keep (ho.block g h.lt (by have := h.base; omega))
theorem OwnG.cells {base : Nat} {w : World} {g cap : Nat} {l : List Bs} (h : OwnG base w g cap l) (i : Nat) (s : Bs) (hi : l[i]? = some s) : w.cell? ⟨g, i, none⟩ = some (.string (B s)) := by
  obtain ⟨cur, _, h3, _, _, _, h7⟩ := h.row
  have hlt := (List.getElem?_eq_some_iff.1 hi).1
  have e : cur[i]? = some (.string (B s)) := by
    have : (cur.toList.take l.length)[i]? = some (.string (B s)) := by rw [h7, strs, List.getElem?_map, hi]; rfl
    rw [List.getElem?_take, if_pos hlt] at this
    simpa using this
  unfold World.cell?
  simp [h3, e]
theorem OwnG.ns {base : Nat} {w : World} {g cap : Nat} {l : List Bs} (h : OwnG base w g cap l) : NS w (.slice (some ⟨g, 0, none⟩) l.length cap) l :=
  Or.inr ⟨g, 0, cap, rfl, h.lt, fun i s hi => by rw [Nat.zero_add]; exact h.cells i s hi⟩
/-- A row that was just laid. -/
theorem OwnG.new (w : World) (l : List Bs) {base : Nat} (hb : base ≤ w.heap.size) (hl : l.length ≤ 1000000) : OwnG base (w.alloc (.cells (strs l).toArray 9)) w.heap.size l.length l := by
  refine ⟨by rw [strs_length, Nat.mul_one], Or.inr ⟨w.heap.size, l.length, (strs l).toArray, rfl, hb, heap_alloc_new w _, Nat.le_refl _, by unfold maxLen; omega, by simp [strs_length], ?_⟩⟩
  rw [Nat.mul_one]
  have : (strs l).toArray.toList = strs l := by simp
  rw [this, ← strs_length l, List.take_length]
/-- Texts in memory. -/
def TxtAt (w : World) (b off : Nat) (l : List Bs) : Prop := b < w.heap.size ∧ ∀ (i : Nat) s, l[i]? = some s → w.cell? ⟨b, off + i, none⟩ = some (.string (B s))
theorem TxtAt.keep {w w' : World} {b off : Nat} {l : List Bs} (h : TxtAt w b off l) (hs : w.heap.size ≤ w'.heap.size) (hk : w'.heap[b]? = w.heap[b]?) : TxtAt w' b off l :=
  ⟨Nat.lt_of_lt_of_le h.1 hs, fun i s hi => (World.cell?_of_block (a := ⟨b, off + i, none⟩) hk).trans (h.2 i s hi)⟩
theorem TxtAt.new (w : World) (l : List Bs) : TxtAt (w.alloc (.cells (strs l).toArray 9)) w.heap.size 0 l := by
  refine ⟨by simp, fun i s hi => ?_⟩
  rw [Nat.zero_add, cell_box, strs, List.getElem?_map, hi]
  rfl
theorem add_lit0 (b off i : Nat) : (⟨b, off, none⟩ : Addr).add i = ⟨b, off + i, none⟩ := by
  simp only [Addr.add]
  split <;> simp_all
theorem append_texts {w : World} {base g cap : Nat} {l : List Bs} (ty : TypeId) (h : OwnG base w g cap l) {b off : Nat} (c : Nat) {m : List Bs} (ht : TxtAt w b off m) (h0 : 0 < m.length) (hl : l.length + m.length < 1000000) (hb : base ≤ w.heap.size) :
    ∃ g' cap' w', (Builtin.append_ #[29, 29] ty #[.slice (some ⟨g, 0, none⟩) l.length cap, .slice (some ⟨b, off, none⟩) m.length c]).run Tryz.prog w = .ok (.slice (some ⟨g', 0, none⟩) (l ++ m).length cap') w' ∧
      OwnG base w' g' cap' (l ++ m) ∧ w.grownBy w' (some g) ∧ (g' = g ∨ g' = w.heap.size) := by
  obtain ⟨i, hi, hz, hs, hby⟩ := info_parts info9
  obtain ⟨g', cap', w', h1, h2, h3, h4, _⟩ := run_append_lies (P := Tryz.prog) w 29 ty base 9 i _ 1 16 Tryz.underlying29 hi hz hs hby rfl (by decide) _ l.length (strs l) h ⟨b, off, none⟩ m.length c (strs m)
    (by rw [strs_length, Nat.mul_one]) (fun j u hu => by
      obtain ⟨s, hs1, rfl⟩ := strs_get hu
      rw [add_lit0]
      exact ht.2 j s hs1) (strs_cell m) h0 (by unfold maxLen; omega) (by omega) hb w.heap.size rfl
  rw [← List.length_append] at h1 h2
  rw [← strs_app] at h2
  refine ⟨g', cap', w', h1, h2, h3, ?_⟩
  rcases h4 with h4 | h4
  · left; simpa [Value.ownBlock] using h4.symm
  · exact Or.inr h4
/-- Blocks below a bound are as they were, but for one. -/
structure OnlyB (sb base : Nat) (w w' : World) : Prop where
  os : w'.os = w.os
  tape : w'.tape = w.tape
  output : w'.output = w.output
  size : w.heap.size ≤ w'.heap.size
  block : ∀ k, k < base → k ≠ sb → w'.heap[k]? = w.heap[k]?
theorem OnlyB.refl (sb base : Nat) (w : World) : OnlyB sb base w w := ⟨rfl, rfl, rfl, Nat.le_refl _, fun _ _ _ => rfl⟩
theorem OnlyB.trans {sb base : Nat} {a b c : World} (h : OnlyB sb base a b) (g : OnlyB sb base b c) : OnlyB sb base a c :=
  ⟨g.os.trans h.os, g.tape.trans h.tape, g.output.trans h.output, Nat.le_trans h.size g.size, fun k hk hn => (g.block k hk hn).trans (h.block k hk hn)⟩
theorem OnlyB.only {sb base : Nat} {w w' : World} (h : Only sb w w') (hb : base ≤ w.heap.size) : OnlyB sb base w w' := ⟨h.os, h.tape, h.output, h.size, fun k hk hn => h.block k (by omega) hn⟩
theorem OnlyB.below {sb base : Nat} {w w' : World} (h : Below w.heap.size w w') (hb : base ≤ w.heap.size) : OnlyB sb base w w' := ⟨h.os, h.tape, h.output, h.size, fun k hk _ => h.block k (by omega)⟩
theorem OnlyB.grown {sb base g : Nat} {w w' : World} (h : w.grownBy w' (some g)) (hb : base ≤ w.heap.size) (hg : base ≤ g) : OnlyB sb base w w' := ⟨h.os, h.tape, h.output, h.size, fun k hk _ => h.block k (by omega) (by intro e; cases e; omega)⟩
theorem OnlyB.cell {sb base : Nat} {w w' : World} (h : OnlyB sb base w w') {k o : Nat} (hk : k < base) (hne : k ≠ sb) : w'.cell? ⟨k, o, none⟩ = w.cell? ⟨k, o, none⟩ :=
  World.cell?_of_block (a := ⟨k, o, none⟩) (h.block k hk hne)
theorem OnlyB.low {sb base B0 : Nat} {w w' : World} (h : OnlyB sb base w w') (hB : B0 ≤ sb) (hb : B0 ≤ base) : Below B0 w w' :=
  ⟨h.os, h.tape, h.output, h.size, fun k hk => h.block k (by omega) (by omega)⟩
end Go.Proofs.YtppkpcijmfdfmaaGreatDoor

/- The walk of HeadTokens: the tokens of a tree, in a row of the call's own. -/
namespace Go.Proofs.YtppkpcijmfdfmaaGreatDoor
open Go.RowKit
attribute [local go_sem] B_size B_get B_lit B_ext_to B_ext B_toList B_app
variable {N M : Nat}

theorem OwnG.one (w : World) (s : Bs) {base : Nat} (hb : base ≤ w.heap.size) : OwnG base (w.alloc (.cells #[Value.string (B s)] 9)) w.heap.size 1 [s] := OwnG.new w [s] hb (by simp)
theorem TxtAt.one (w : World) (s : Bs) : TxtAt (w.alloc (.cells #[Value.string (B s)] 9)) w.heap.size 0 [s] := TxtAt.new w [s]
/-- The tokens that are being collected. -/
structure TokSt (f : HT → List Bs) (ob : Bool) (ns : List Bs) (ks : List HT) (res tail : List Bs) (sb base : Nat) (w1 : World) (m g cap : Nat) (u : List Bs) (wr : World) : Prop where
  le : m ≤ ks.length
  own : OwnG base wr g cap u
  only : OnlyB sb base w1 wr
  st : StyleAt sb wr 0
  eq : res = u ++ (tFrom f ob ns ks m ++ tail)
theorem TokSt.step {f : HT → List Bs} {ob : Bool} {ns : List Bs} {ks : List HT} {res tail : List Bs} {sb base : Nat} {w1 : World} {m g cap : Nat} {u : List Bs} {wr wn : World} (h : TokSt f ob ns ks res tail sb base w1 m g cap u wr) {k : HT} (hk : ks[m]? = some k)
    {g' cap' : Nat} {o : List Bs} (ho : o = u ++ (tComma m ++ (tName ob (ns.drop m) ++ f k))) (hown : OwnG base wn g' cap' o) (hw : OnlyB sb base wr wn) (hs : StyleAt sb wn 0) : TokSt f ob ns ks res tail sb base w1 (m + 1) g' cap' o wn := by
  have hlt := (List.getElem?_eq_some_iff.1 hk).1
  refine ⟨by omega, hown, h.only.trans hw, hs, ?_⟩
  rw [h.eq, tFrom_step f ob ns ks m k hk, ho]
  simp only [List.append_assoc]
theorem StyleAt.grown {sb x g : Nat} {w w' : World} (h : StyleAt sb w x) (hg : w.grownBy w' (some g)) (hne : g ≠ sb) : StyleAt sb w' x := by
  have hb := hg.block sb h.lt (by intro e; cases e; exact hne rfl)
  exact ⟨(World.cell?_of_block (a := ⟨sb, 0, none⟩) hb).trans h.cell, (World.frozen?_of_block (a := ⟨sb, 0, none⟩) hb).trans h.free, Nat.lt_of_lt_of_le h.lt hg.size, h.u64⟩

theorem OwnG.txt {base : Nat} {w : World} {g cap : Nat} {l : List Bs} (h : OwnG base w g cap l) : TxtAt w g 0 l := ⟨h.lt, fun i s hi => by rw [Nat.zero_add]; exact h.cells i s hi⟩
end Go.Proofs.YtppkpcijmfdfmaaGreatDoor

/- The walks of slices.Grow of none, slices.Concat of two lists of texts, headMark and headSign. -/
namespace Go.Proofs.YtppkpcijmfdfmaaGreatDoor
open Go.RowKit
attribute [local go_sem] B_size B_get B_lit B_ext_to B_ext B_toList B_app

theorem ns_src {w : World} {v : Value} {l : List Bs} (h : NS w v l) : Src Tryz.prog 1 29 v l.length (strs l) w := by
  rcases h with ⟨a, c, rfl, rfl⟩ | ⟨b, off, c, rfl, _, hc⟩
  · cases a with
    | none => exact Src.ofNil w Tryz.underlying29 c
    | some a => exact Src.ofSlice w Tryz.underlying29 a 0 c [] (by simp) (by simp) (by simp)
  · refine Src.ofSlice w Tryz.underlying29 ⟨b, off, none⟩ l.length c _ (by simp [strs]) (fun j v hj => ?_) (strs_cell l)
    obtain ⟨s, hs, rfl⟩ := strs_get hj
    rw [add_lit0]
    exact hc j s hs
theorem append_part {w : World} {base g cap : Nat} {l : List Bs} (ty : TypeId) (h : OwnG base w g cap l) {x : Value} {m : List Bs} (ht : NS w x m) (hl : l.length + m.length < 1000000) (hb : base ≤ w.heap.size) :
    ∃ g' cap' w', (Builtin.append_ #[29, 29] ty #[.slice (some ⟨g, 0, none⟩) l.length cap, x]).run Tryz.prog w = .ok (.slice (some ⟨g', 0, none⟩) (l ++ m).length cap') w' ∧ OwnG base w' g' cap' (l ++ m) ∧ w.grownBy w' (some g) := by
  by_cases hm : m = []
  · subst hm
    obtain ⟨i, hi, hz, hs, hby⟩ := info_parts info9
    have hsrc := ns_src ht
    obtain ⟨cur, _, _, hc, _⟩ := h.row
    have hr := run_append_room_src (P := Tryz.prog) w 29 29 ty 9 i Tryz.underlying29 hi g 0 l.length cap x 0 [] (by rw [hs]; exact hsrc) (by omega) (by simp) (by simp)
    refine ⟨g, cap, _, by rw [List.append_nil]; exact hr, ?_, ?_⟩
    · rw [List.append_nil]; simpa [World.setCells] using h
    · simp only [World.setCells]
      exact ⟨rfl, rfl, rfl, Nat.le_refl _, fun _ _ _ => rfl⟩
  · rcases ht with ⟨_, _, _, h0⟩ | ⟨b, off, c, rfl, hlt, hc⟩
    · exact absurd h0 hm
    · obtain ⟨g', cap', w', h1, h2, h3, _⟩ := append_texts ty h c ⟨hlt, hc⟩ (List.length_pos_iff.2 hm) hl hb
      exact ⟨g', cap', w', h1, h2, h3⟩
end Go.Proofs.YtppkpcijmfdfmaaGreatDoor
