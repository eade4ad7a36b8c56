/- One header asked again and again: what is asked, what is told, and the state of the loop. -/
import Derived.Test.YtppkpcijmfdfmaaGreatDoorC11
set_option linter.unusedVariables false
set_option linter.unusedSimpArgs false
namespace Go.Proofs.YtppkpcijmfdfmaaGreatDoor
open Go.RowKit
attribute [local go_sem] B_size B_get B_lit B_ext_to B_ext B_toList B_app

/-- Questions: kinds and names. -/
abbrev Asks := List (Nat × Bs)
def AskRow (w : World) (v : Value) (l : Asks) : Prop :=
  (v = .slice none 0 0 ∧ l = []) ∨ ∃ b c, v = .slice (some ⟨b, 0, none⟩) l.length c ∧ b < w.heap.size ∧
    ∀ (i : Nat) q, l[i]? = some q → w.cell? ⟨b, i * 2, none⟩ = some (.int .i64 q.1) ∧ w.cell? ⟨b, i * 2 + 1, none⟩ = some (.string (B q.2))

/-- An answer, but for where its list lies. -/
structure Told where
  ok : Bool
  text : Bs
  is : Bool
  int : Int
  uint : Int
  fl : Nat
  list : List Bs
def Told.zero : Told := ⟨false, [], false, 0, 0, 0, []⟩
def Told.cells (a : Told) (lv : Value) : List Value := [.bool a.ok, .string (B a.text), .bool a.is, .int .i64 a.int, .int .u64 a.uint, .float .f64 a.fl, lv]
def zero51 : Array Value := #[.bool false, .string (B []), .bool false, .int .i64 0, .int .u64 0, .float .f64 0, .slice none 0 0]

/-- What a question is answered with, by what stands under the name. -/
def AnsK (G : Env) (t : Option J) (k : Nat) (a : Told) : Prop :=
  match k with
  | 0 => a = { Told.zero with ok := t.isSome }
  | 1 => ∃ rr, TxtR G.U t rr ∧ a = { Told.zero with ok := rr.isSome, text := rr.getD [] }
  | 2 => ∃ rr, TxtR G.U t rr ∧ a = { Told.zero with ok := rr.isSome, text := rr.getD [] }
  | 3 => a = match t.bind J.tf with | some b => { Told.zero with ok := true, is := b } | none => Told.zero
  | 4 => a = match t.bind (J.i64 G) with | some n => { Told.zero with ok := true, int := n } | none => Told.zero
  | 5 => a = match t.bind (J.u64 G) with | some n => { Told.zero with ok := true, uint := n } | none => Told.zero
  | 6 => a = match t.bind (J.f64 G) with | some x => { Told.zero with ok := true, fl := x } | none => Told.zero
  | 7 => ∃ rr, LstR G.U t rr ∧ a = { Told.zero with ok := rr.isSome, list := rr.getD [] }
  | 8 => a = match t.bind (J.i64 G) with | some n => { Told.zero with ok := true, int := n } | none => Told.zero
  | 9 => a = match t.bind (J.u64 G) with | some n => { Told.zero with ok := true, uint := n } | none => Told.zero
  | _ => a = Told.zero
def Answers (G : Env) (r : Option J) (q : Nat × Bs) (a : Told) : Prop := ∃ t, FindsR G.U r q.2 t ∧ AnsK G t q.1 a

/-- Answers in a row. -/
def flatT (l : List (Told × Value)) : List Value := (l.map fun p => p.1.cells p.2).flatten
theorem flatT_push (l : List (Told × Value)) (a : Told) (v : Value) : flatT (l ++ [(a, v)]) = flatT l ++ a.cells v := by simp [flatT]
/-- A slice of texts, in blocks from B1 on. -/
def SLB (B1 : Nat) (w : World) (v : Value) (l : List Bs) : Prop := SL w v l ∧ ∀ k, v.ownBlock = some k → B1 ≤ k

/-- The state of the loop. -/
structure RunSt (G : Env) (B0 B1 : Nat) (r : Option J) (hb : Nat) (wS : World) (asks : Asks) (ov : Value) (l : List (Told × Value)) (w : World) : Prop where
  hq : HQ G.U B0 B1 r hb w w
  below : Below B0 wS w
  row : RowZ w 51 zero51 ov l.length (flatT l)
  own : ∀ k, ov.ownBlock = some k → B1 ≤ k
  lists : ∀ p ∈ l, SLB B1 w p.2 p.1.list
  ans : ∀ (i : Nat) q p, asks[i]? = some q → l[i]? = some p → Answers G r q p.1
  apart : ∀ p ∈ l, ∀ k, p.2.ownBlock = some k → ov.ownBlock ≠ some k

theorem SL.keep {w w' : World} {v : Value} {l : List Bs} (h : SL w v l) (hs : w.heap.size ≤ w'.heap.size) (hb : ∀ k, v.ownBlock = some k → w'.heap[k]? = w.heap[k]?) : SL w' v l := by
  rcases h with h | ⟨b, c, rfl, hlt, hc⟩
  · exact Or.inl h
  · exact Or.inr ⟨b, c, rfl, by omega, fun i s hi => (World.cell?_of_block (a := ⟨b, i, none⟩) (hb b rfl)).trans (hc i s hi)⟩
theorem SL.lt {w : World} {v : Value} {l : List Bs} (h : SL w v l) (k : Nat) (hk : v.ownBlock = some k) : k < w.heap.size := by
  rcases h with ⟨rfl, _⟩ | ⟨b, c, rfl, hlt, hc⟩
  · cases hk
  · cases hk; exact hlt

/-- A question asked, in a world behind the state's: what is left of the state, and of the two new blocks. -/
structure Asked (G : Env) (B0 B1 : Nat) (r : Option J) (hb : Nat) (wS : World) (asks : Asks) (ov : Value) (l : List (Told × Value)) (wq w : World) : Prop where
  hq : HQ G.U B0 B1 r hb w w
  below : Below B0 wS w
  row : RowZ w 51 zero51 ov l.length (flatT l)
  own : ∀ k, ov.ownBlock = some k → B1 ≤ k
  lists : ∀ p ∈ l, SLB B1 w p.2 p.1.list
  ans : ∀ (i : Nat) q p, asks[i]? = some q → l[i]? = some p → Answers G r q p.1
  kept : ∀ b, B1 ≤ b → b < wq.heap.size → w.heap[b]? = wq.heap[b]?
  size : wq.heap.size ≤ w.heap.size

/-- The world in which a question is asked: two blocks more. -/
def qWorld (w : World) (k : Int) (key : Bs) : World := (w.alloc (.cells #[.int .i64 k, .string (B key)] 62)).alloc (.cells zero51 51)
theorem qWorld_size (w : World) (k : Int) (key : Bs) : (qWorld w k key).heap.size = w.heap.size + 2 := by simp [qWorld]
theorem Asked.cells {G : Env} {B0 B1 : Nat} {r : Option J} {hb : Nat} {wS : World} {asks : Asks} {ov : Value} {l : List (Told × Value)} {w w2 : World} {k : Int} {key : Bs} (h : Asked G B0 B1 r hb wS asks ov l (qWorld w k key) w2) (hsz : B1 ≤ w.heap.size) :
    w2.cell? ⟨w.heap.size, 0, none⟩ = some (.int .i64 k) ∧ w2.cell? ⟨w.heap.size, 1, none⟩ = some (.string (B key)) ∧ (∀ i, i < 7 → w2.cell? ⟨w.heap.size + 1, i, none⟩ = zero51[i]?) ∧ ∀ i, i < 7 → w2.frozen? ⟨w.heap.size + 1, i, none⟩ = false := by
  have hx := h.kept w.heap.size hsz (by rw [qWorld_size]; omega)
  have ha := h.kept (w.heap.size + 1) (by omega) (by rw [qWorld_size]; omega)
  refine ⟨(same_cells hx 0).1.trans (by simp [qWorld]), (same_cells hx 1).1.trans (by simp [qWorld]), fun i hi => (same_cells ha i).1.trans ?_, fun i hi => (same_cells ha i).2.trans (by simp [qWorld])⟩
  have hc := cell_new (w.alloc (.cells #[.int .i64 k, .string (B key)] 62)) zero51 51 i
  rw [Addr.add_lit, Nat.zero_add] at hc
  have e : (w.alloc (.cells #[.int .i64 k, .string (B key)] 62)).heap.size = w.heap.size + 1 := by simp
  rw [e] at hc
  exact hc

/-- An answer is laid behind the others. -/
theorem RunSt.push {G : Env} {B0 B1 : Nat} {r : Option J} {hb : Nat} {wS : World} {asks : Asks} {ov : Value} {l : List (Told × Value)} {w w2 w4 w5 : World} {k : Int} {key : Bs} {a : Told} {lv : Value} {g cap : Nat}
    (hs : RunSt G B0 B1 r hb wS asks ov l w) (hB : B0 ≤ B1) (hsz : B1 ≤ w.heap.size) (h : Asked G B0 B1 r hb wS asks ov l (qWorld w k key) w2)
    (ho : w4.os = w2.os) (ht : w4.tape = w2.tape) (hp : w4.output = w2.output) (hz : w2.heap.size ≤ w4.heap.size) (hblk : ∀ b, b < w2.heap.size → b ≠ w.heap.size + 1 → w4.heap[b]? = w2.heap[b]?)
    (hg : ov.ownBlock = some g ∨ w4.heap.size ≤ g) (hgb : w4.grownBy w5 ov.ownBlock) (hrow : RowZ w5 51 zero51 (.slice (some ⟨g, 0, none⟩) (l.length + 1) cap) (l.length + 1) (flatT l ++ a.cells lv))
    (hl : SL w2 lv a.list) (hln : ∀ b, lv.ownBlock = some b → w.heap.size + 2 ≤ b) (hans : ∀ q, asks[l.length]? = some q → Answers G r q a) :
    RunSt G B0 B1 r hb wS asks (.slice (some ⟨g, 0, none⟩) (l.length + 1) cap) (l ++ [(a, lv)]) w5 := by
  have hs2 : w.heap.size + 2 ≤ w2.heap.size := by have := h.size; rw [qWorld_size] at this; exact this
  have hown : ∀ b, ov.ownBlock = some b → b < w.heap.size := fun b hb => hs.row.lt b hb
  have hkeep : ∀ b, b < w2.heap.size → b ≠ w.heap.size + 1 → ov.ownBlock ≠ some b → w5.heap[b]? = w2.heap[b]? := fun b h1 h2 h3 => (hgb.block b (by omega) (fun e => h3 e.symm)).trans (hblk b h1 h2)
  have hbel : Below B1 w2 w5 := ⟨hgb.os.trans ho, hgb.tape.trans ht, hgb.output.trans hp, Nat.le_trans hz hgb.size, fun b hb => hkeep b (by omega) (by omega) fun e => by have := hs.own b e; omega⟩
  have hz5 : w2.heap.size ≤ w5.heap.size := Nat.le_trans hz hgb.size
  have hgg : g < w.heap.size ∨ w2.heap.size ≤ g := by
    rcases hg with h1 | h1
    · exact Or.inl (hown g h1)
    · exact Or.inr (by omega)
  refine ⟨h.hq.step hbel, h.below.trans (hbel.mono hB), by rw [flatT_push, List.length_append]; exact hrow, fun b e => ?_, fun p hp => ?_, fun i q p hq hi => ?_, fun p hp b e1 e2 => ?_⟩
  · obtain rfl : g = b := Option.some.inj e
    rcases hg with h1 | h1
    · exact hs.own _ h1
    · omega
  · rcases List.mem_append.1 hp with hp | hp
    · have hp0 := hs.lists p hp
      refine ⟨(h.lists p hp).1.keep (by omega) fun b e => hkeep b ((h.lists p hp).1.lt b e) (by have := hp0.1.lt b e; omega) (hs.apart p hp b e), hp0.2⟩
    · simp at hp
      subst hp
      refine ⟨hl.keep (by omega) fun b e => hkeep b (hl.lt b e) (by have := hln b e; omega) fun e2 => by have := hown b e2; have := hln b e; omega, fun b e => by have := hln b e; omega⟩
  · by_cases hlt : i < l.length
    · rw [List.getElem?_append_left hlt] at hi
      exact h.ans i q p hq hi
    · rw [List.getElem?_append_right (by omega)] at hi
      obtain rfl : i = l.length := by
        have := (List.getElem?_eq_some_iff.1 hi).1
        simp at this; omega
      simp at hi
      subst hi
      exact hans q hq
  · obtain rfl : g = b := Option.some.inj e2
    rcases List.mem_append.1 hp with hp | hp
    · have hlt := (hs.lists p hp).1.lt _ e1
      rcases hg with h1 | h1
      · exact hs.apart p hp _ e1 h1
      · omega
    · simp at hp
      subst hp
      have h1 := hln _ e1
      have h2 := hl.lt _ e1
      omega
end Go.Proofs.YtppkpcijmfdfmaaGreatDoor

/- The walk of headEach. -/
namespace Go.Proofs.YtppkpcijmfdfmaaGreatDoor
open Go.RowKit
attribute [local go_sem] B_size B_get B_lit B_ext_to B_ext B_toList B_app

/-- A slice of texts, wherever it begins. -/
def NS (w : World) (v : Value) (l : List Bs) : Prop :=
  (∃ a c, v = .slice a 0 c ∧ l = []) ∨ ∃ b off c, v = .slice (some ⟨b, off, none⟩) l.length c ∧ b < w.heap.size ∧ ∀ (i : Nat) s, l[i]? = some s → w.cell? ⟨b, off + i, none⟩ = some (.string (B s))
theorem NS.below {w w' : World} {v : Value} {l : List Bs} (h : NS w v l) (hb : Below w.heap.size w w') : NS w' v l := by
  rcases h with h | ⟨b, off, c, rfl, hlt, hc⟩
  · exact Or.inl h
  · exact Or.inr ⟨b, off, c, rfl, Nat.lt_of_lt_of_le hlt hb.size, fun i s hi => (hb.cell (p := ⟨b, off + i, none⟩) hlt).trans (hc i s hi)⟩

def flatA (l : Asks) : List Value := l.flatMap fun q => [.int .i64 q.1, .string (B q.2)]
theorem flatA_push (l : Asks) (q : Nat × Bs) : flatA (l ++ [q]) = flatA l ++ [.int .i64 q.1, .string (B q.2)] := by simp [flatA]
def zero62 : Array Value := #[.int .i64 0, .string (B [])]
/-- The state of both loops. -/
structure EachSt (w : World) (ov : Value) (l : Asks) (w' : World) : Prop where
  below : Below w.heap.size w w'
  row : RowZ w' 62 zero62 ov l.length (flatA l)
  own : ∀ k, ov.ownBlock = some k → w.heap.size ≤ k

theorem EachSt.slice {w w' : World} {ov : Value} {l : Asks} (h : EachSt w ov l w') : ∃ a m c, ov = .slice a m c := by
  rcases h.row with ⟨rfl, _⟩ | ⟨g, cap, cur, rfl, _⟩
  · exact ⟨_, _, _, rfl⟩
  · exact ⟨_, _, _, rfl⟩
theorem EachSt.push {w w' w4 w5 : World} {ov : Value} {l : Asks} {q : Nat × Bs} {g cap : Nat} (h : EachSt w ov l w') (hb : Below w'.heap.size w' w4) (hg : ov.ownBlock = some g ∨ w4.heap.size ≤ g) (hgb : w4.grownBy w5 ov.ownBlock)
    (hrow : RowZ w5 62 zero62 (.slice (some ⟨g, 0, none⟩) (l.length + 1) cap) (l.length + 1) (flatA l ++ [.int .i64 q.1, .string (B q.2)])) :
    EachSt w (.slice (some ⟨g, 0, none⟩) (l.length + 1) cap) (l ++ [q]) w5 := by
  have h1 := h.below.size
  have h2 := hb.size
  refine ⟨(h.below.trans (hb.mono h1)).trans ⟨hgb.os, hgb.tape, hgb.output, hgb.size, fun k hk => hgb.block k (by omega) fun e => by have := h.own k e.symm; omega⟩, by rw [flatA_push, List.length_append]; exact hrow, fun k e => ?_⟩
  obtain rfl : g = k := Option.some.inj e
  rcases hg with h3 | h3
  · exact h.own _ h3
  · omega

end Go.Proofs.YtppkpcijmfdfmaaGreatDoor
