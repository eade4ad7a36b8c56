/- The walk of runLive. -/
import Derived.Test.YtppkpcijmfdfmaaGreatDoorC14
set_option linter.unusedVariables false
set_option linter.unusedSimpArgs false
namespace Go.Proofs.YtppkpcijmfdfmaaGreatDoor
open Go.RowKit
attribute [local go_sem] B_size B_get B_lit B_ext_to B_ext B_toList B_app

def liveText : Bs := [123, 34, 97, 34, 58, 91, 93, 44, 34, 98, 34, 58, 55, 125]
def liveMs : List (Bs × J) := [([97], .arr []), ([98], .num [55])]
theorem live_parse : jParse liveText = some (.obj liveMs) := by kernel_rfl
theorem live_good : Good env0.U (.obj liveMs) := by
  refine ⟨fun ms e m hm => ?_, fun ms e m hm => ?_, fun ms e m hm m' hm' c h1 h2 => h1.1.trans h2.1.symm, fun ms e => ?_⟩
  · cases e
    simp [liveMs] at hm
    rcases hm with rfl | rfl
    · exact ⟨[97], rfl, by decide⟩
    · exact ⟨[98], rfl, by decide⟩
  · cases e
    simp [liveMs] at hm
    rcases hm with rfl | rfl
    · exact ⟨fun s e => (by cases e), fun ts e => (by cases e; exact ⟨by decide, fun s hs => (by cases hs)⟩)⟩
    · exact ⟨fun s e => (by cases e), fun ts e => (by cases e)⟩
  · cases e; decide
theorem live_b {t : Option J} (h : FindsR env0.U (some (.obj liveMs)) [98] t) : t = some (.num [55]) := by
  have hm : (([98], .num [55]) : Bs × J) ∈ liveMs := by simp [liveMs]
  cases t with
  | none => exact absurd (⟨rfl, by decide⟩ : env0.U [98] [98]) (h _ hm)
  | some t =>
    obtain ⟨i, m, hi, hu, rfl, _⟩ := h
    have h1 : m.1 = [98] := hu.1
    have h2 := List.mem_of_getElem? hi
    simp [liveMs] at h2
    rcases h2 with rfl | rfl
    · cases h1
    · rfl
theorem live_a {t : Option J} (h : FindsR env0.U (some (.obj liveMs)) [97] t) : t = some (.arr []) := by
  have hm : (([97], .arr []) : Bs × J) ∈ liveMs := by simp [liveMs]
  cases t with
  | none => exact absurd (⟨rfl, by decide⟩ : env0.U [97] [97]) (h _ hm)
  | some t =>
    obtain ⟨i, m, hi, hu, rfl, _⟩ := h
    have h1 : m.1 = [97] := hu.1
    have h2 := List.mem_of_getElem? hi
    simp [liveMs] at h2
    rcases h2 with rfl | rfl
    · rfl
    · cases h1
def liveAsks : Asks := [(4, [98]), (0, [97]), (1, [97])]
theorem live_ans {a0 a1 a2 : Told} (h0 : Answers env0 (some (.obj liveMs)) (4, [98]) a0) (h1 : Answers env0 (some (.obj liveMs)) (0, [97]) a1) (h2 : Answers env0 (some (.obj liveMs)) (1, [97]) a2) :
    a0.ok = true ∧ a0.int = 7 ∧ a1.ok = true ∧ a2.ok = false := by
  obtain ⟨t0, hf0, hk0⟩ := h0
  obtain ⟨t1, hf1, hk1⟩ := h1
  obtain ⟨t2, hf2, hk2⟩ := h2
  obtain rfl := live_b hf0
  obtain rfl := live_a hf1
  obtain rfl := live_a hf2
  simp only [AnsK, TxtR, StrOr] at hk0 hk1 hk2
  obtain ⟨rr, rfl, rfl⟩ := hk2
  subst hk0
  subst hk1
  exact ⟨rfl, rfl, rfl, rfl⟩

/-- The world in which it asks: the text and the questions. -/
theorem live_run (w w2 : World) (v av : Value) (hb : Below w.heap.size w w2) (hB : Base w) (hv : BA w2 v liveText) (ha : AskRow w2 av liveAsks) :
    Calls Tryz.prog 32 #[v, av] w2 fun e w3 => ∃ va vc l3, e = .returned (.slice va 3 vc) ∧ l3.length = 3 ∧ TRow w3 (.slice va 3 vc) l3 ∧ Below w.heap.size w w3 ∧
      ∀ a0 a1 a2 x0 x1 x2, l3 = [(a0, x0), (a1, x1), (a2, x2)] → a0.ok = true ∧ a0.int = 7 ∧ a1.ok = true ∧ a2.ok = false := by
  have hready := ready_any (G := env0) v liveText w2 hv (by decide) (hB.below hb) (fun j hj => by rw [live_parse] at hj; cases hj; exact live_good)
  rw [live_parse] at hready
  refine (headRun_any env0_ok v av liveAsks (some (.obj liveMs)) w2 hready ha (by decide) (fun q _ j hj hno => by cases hj; exact absurd rfl (hno _)) (fun q hq => ?_) (fun q hq => ?_) (fun q hq t s hf ht => ?_)).mono ?_
  · simp [liveAsks] at hq; rcases hq with rfl | rfl | rfl <;> decide
  · simp [liveAsks] at hq; rcases hq with rfl | rfl | rfl <;> decide
  · simp [liveAsks] at hq
    rcases hq with rfl | rfl | rfl
    · have := live_b hf
      cases this
      cases ht
      exact ⟨by decide, by decide, by decide⟩
    · trivial
    · trivial
  · rintro e w3 ⟨ov, l3, hb3, B1, rfl, hlen, hrs⟩
    have h3 : l3.length = 3 := hlen
    have htr := hrs.trow
    obtain ⟨va, vc, rfl⟩ : ∃ va vc, ov = .slice va 3 vc := by
      rcases hrs.row with ⟨h1, h2, _⟩ | ⟨g, cap, cur, h1, _⟩
      · omega
      · exact ⟨_, _, by rw [h1, h3]⟩
    refine ⟨va, vc, l3, rfl, h3, htr, hb.trans (hrs.below.mono hb.size), fun a0 a1 a2 x0 x1 x2 he => ?_⟩
    subst he
    exact live_ans (hrs.ans 0 _ _ rfl rfl) (hrs.ans 1 _ _ rfl rfl) (hrs.ans 2 _ _ rfl rfl)

theorem conv_mark (g m c n : Nat) (e : TypeId) (w : World) (h : w.shape? g = some (e, n)) :
    (convert 27 27 (.slice (some ⟨g, 0, none⟩) m c)).run Tryz.prog w = .ok (.slice (some ⟨g, 0, none⟩) m c) (w.freeze ⟨g, n, none⟩ 1) := by
  simp [convert, run_underlying Tryz.underlying27, run_underlying Tryz.underlying5, markStringish, h, Result.andThen]

def liveBytes : Array Value := #[.int .u8 123, .int .u8 34, .int .u8 97, .int .u8 34, .int .u8 58, .int .u8 91, .int .u8 93, .int .u8 44, .int .u8 34, .int .u8 98, .int .u8 34, .int .u8 58, .int .u8 55, .int .u8 125]
def liveW (w : World) : World := (w.alloc (.cells liveBytes 5)).freeze ⟨w.heap.size, 14, none⟩ 1
def liveW2 (w : World) : World := (liveW w).alloc (.cells #[.int .i64 4, .string (B [98]), .int .i64 0, .string (B [97]), .int .i64 1, .string (B [97])] 62)
theorem freeze_heap (w : World) (g n : Nat) : (w.freeze ⟨g, n, none⟩ 1).heap = w.heap.modify g fun | .cells c elem (lo, hi) => .cells c elem (if (lo == hi) = true then (n, n + 1) else (min lo n, max hi (n + 1))) | o => o := by
  unfold World.freeze
  rw [if_neg (by decide)]
  dsimp only
  congr 1
theorem freeze_below {w w1 : World} {g n : Nat} (h : Below w.heap.size w w1) (hg : w.heap.size ≤ g) : Below w.heap.size w (w1.freeze ⟨g, n, none⟩ 1) :=
  ⟨by simpa [World.freeze] using h.os, by simpa [World.freeze] using h.tape, by simpa [World.freeze] using h.output, by rw [freeze_heap]; simpa using h.size, fun b hb => by
    have : g ≠ b := by omega
    rw [← h.block b hb, freeze_heap, Array.getElem?_modify, if_neg this]⟩
theorem freeze_cell (w : World) (g n : Nat) (a : Addr) : (w.freeze ⟨g, n, none⟩ 1).cell? a = w.cell? a := by
  unfold World.cell?
  rw [freeze_heap, Array.getElem?_modify]
  by_cases h : g = a.block
  · subst h
    simp only [if_true]
    cases hb : w.heap[a.block]? with
    | none => rfl
    | some x => cases x <;> rfl
  · rw [if_neg h]
theorem liveW_size (w : World) : (liveW w).heap.size = w.heap.size + 1 := by unfold liveW; rw [freeze_heap]; simp
theorem live_pre (w : World) : Below w.heap.size w (liveW2 w) ∧ BA (liveW2 w) (.slice (some ⟨w.heap.size, 0, none⟩) 14 14) liveText ∧ AskRow (liveW2 w) (.slice (some ⟨w.heap.size + 1, 0, none⟩) 3 3) liveAsks := by
  have h1 : Below w.heap.size w (liveW w) := freeze_below ((Below.refl _ _).alloc (Nat.le_refl _) _) (Nat.le_refl _)
  have hba : BA (liveW w) (.slice (some ⟨w.heap.size, 0, none⟩) 14 14) liveText := by
    refine Or.inr ⟨w.heap.size, 0, 14, rfl, by rw [liveW_size]; omega, fun i u hu => ?_⟩
    unfold liveW
    rw [freeze_cell]
    have hc := cell_new w liveBytes 5 i
    rw [Addr.add_lit] at hc
    rw [hc]
    have hi : i < 14 := (List.getElem?_eq_some_iff.1 hu).1
    have e : liveBytes = (liveText.map fun u => Value.int .u8 u.toNat).toArray := rfl
    rw [e, List.getElem?_toArray, List.getElem?_map, hu]
    rfl
  have h2 : Below (liveW w).heap.size (liveW w) (liveW2 w) := (Below.refl _ _).alloc (Nat.le_refl _) _
  refine ⟨h1.trans (h2.mono h1.size), hba.below h2, Or.inr ⟨w.heap.size + 1, 3, rfl, by simp [liveW2, liveW_size], fun i q hi => ?_⟩⟩
  have hc := fun j => cell_new (liveW w) #[.int .i64 4, .string (B [98]), .int .i64 0, .string (B [97]), .int .i64 1, .string (B [97])] 62 j
  simp only [Addr.add_lit, Nat.zero_add, liveW_size] at hc
  match i, hi with
  | 0, hi => cases hi; exact ⟨hc 0, hc 1⟩
  | 1, hi => cases hi; exact ⟨hc 2, hc 3⟩
  | 2, hi => cases hi; exact ⟨hc 4, hc 5⟩

set_option maxHeartbeats 4000000 in
set_option maxRecDepth 100000 in
theorem live_any (w : World) (hB : Base w) : Calls Tryz.prog 34 #[] w fun e w' => e = .returned (.bool true) ∧ Below w.heap.size w w' := by
  have hcv := conv_mark w.heap.size 14 14 14 5 (w.alloc (.cells liveBytes 5)) (by unfold World.shape?; rw [show (w.alloc (.cells liveBytes 5)).heap[w.heap.size]? = some (.cells liveBytes 5) from heap_alloc_new w _]; rfl)
  have hcv2 : (convert 27 27 (.slice (some ⟨w.heap.size, 0, none⟩) 14 14)).run Tryz.prog (w.alloc (.cells #[.int .u8 123, .int .u8 34, .int .u8 97, .int .u8 34, .int .u8 58, .int .u8 91, .int .u8 93, .int .u8 44, .int .u8 34, .int .u8 98, .int .u8 34, .int .u8 58, .int .u8 55, .int .u8 125] 5)) = .ok (.slice (some ⟨w.heap.size, 0, none⟩) 14 14) (liveW w) := hcv
  have hsz := liveW_size w
  have HR := Lib.hid (live_run w (liveW2 w) _ _ (live_pre w).1 hB (live_pre w).2.1 (live_pre w).2.2)
  clear hB hcv
  go_enter Tryz.func34, Tryz.ntmps34
  go_wp2_with (fail)
  refine HR.out.mono ?_
  rintro e w3 ⟨va, vc, l3, rfl, h3, htr, hb3, hans⟩
  match l3, h3 with
  | [(a0, x0), (a1, x1), (a2, x2)], _ =>
    obtain ⟨ok0, i0, ok1, ok2⟩ := hans a0 a1 a2 x0 x1 x2 rfl
    obtain ⟨y0, m0, c0, h0⟩ := htr.sl (a0, x0) (by simp)
    obtain ⟨y1, m1, c1, h1⟩ := htr.sl (a1, x1) (by simp)
    obtain ⟨y2, m2, c2, h2⟩ := htr.sl (a2, x2) (by simp)
    simp only at h0 h1 h2
    subst h0 h1 h2
    obtain ⟨g, cap, hov, hg, p0, _, _, p3, _⟩ := htr.cells (i := 0) (a := a0) rfl
    obtain ⟨g', cap', hov', _, q0, _⟩ := htr.cells (i := 1) (a := a1) rfl
    obtain ⟨g'', cap'', hov'', _, r0, _⟩ := htr.cells (i := 2) (a := a2) rfl
    cases hov
    cases hov'
    cases hov''
    rw [ok0] at p0
    rw [i0] at p3
    rw [ok1] at q0
    rw [ok2] at r0
    have HB := Lib.hid hb3
    clear htr hb3 hans ok0 i0 ok1 ok2
    go_wp2
    go_ret
    exact ⟨rfl, HB.out⟩
end Go.Proofs.YtppkpcijmfdfmaaGreatDoor
