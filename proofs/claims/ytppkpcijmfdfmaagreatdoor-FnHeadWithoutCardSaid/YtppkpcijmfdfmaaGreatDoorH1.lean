/- Small helpers of the laws' walks. -/
import Derived.Test.YtppkpcijmfdfmaaGreatDoorG1
import Derived.Test.YtppkpcijmfdfmaaGreatDoorE3
set_option linter.unusedVariables false
set_option linter.unusedSimpArgs false
namespace Go.Proofs.YtppkpcijmfdfmaaGreatDoor
open Go.RowKit

theorem rightRd {d : Nat} {t : HT} (h : Right d t) (h5 : t.kind = 5) (x : Nat) : RdT (hPrint d t x) t := by
  obtain ⟨n, hs, hnd⟩ := h
  refine rd_print hs (by decide) (by decide) h5 ?_ x
  unfold HT.texts at hnd
  rw [if_neg (by omega), if_pos h5] at hnd
  exact hnd
theorem rightNames {d : Nat} {t : HT} (h : Right d t) (h5 : t.kind = 5) : (∀ s ∈ t.names, s.length ≤ 200) ∧ t.names.length ≤ 200 ∧ t.names.length = t.kids.length ∧ t.names.Nodup := by
  obtain ⟨n, hs, hnd⟩ := h
  unfold HT.texts at hnd
  rw [if_neg (by omega), if_pos h5] at hnd
  obtain ⟨e, ms, rfl, h1, h2, h3, h4, h6, h7, h8⟩ := sized_obj hs h5
  exact ⟨fun s hs => (h4 s hs).1, by omega, h3, hnd⟩
theorem rightTexts {d : Nat} {t : HT} (h : Right d t) (h5 : t.kind = 5) : TextsOk t.names := by
  obtain ⟨n, hs, _⟩ := h
  obtain ⟨e, ms, rfl, h1, h2, h3, h4, _⟩ := sized_obj hs h5
  exact h4
theorem rightPrint {d : Nat} {t : HT} {nv kv : Value} {x B0 : Nat} {w : World} (hr : RepT w B0 d nv kv t) (h : Right d t) (hB : B0 ≤ w.heap.size) (hx : x < 18446744073709551616) :
    Calls Tryz.prog 31 #[.agg (tcells t nv kv).toArray, .int .u64 x] w fun e w' => e = .returned (.string (B (hPrint d t x))) ∧ Below w.heap.size w w' := by
  obtain ⟨n, hs, _⟩ := h
  exact print_any hr hs (by have := sized_le hs (by decide); omega) hB hx
/-- Texts to bytes, as a function of the world. -/
theorem convFn : ∃ (cv : Bs → World → Value) (cw : Bs → World → World), ∀ P X, (convert 9 27 (.string (B P))).run Tryz.prog X = .ok (cv P X) (cw P X) ∧ BA (cw P X) (cv P X) P ∧ Below X.heap.size X (cw P X) :=
  ⟨fun P X => (conv_bytes X P).choose, fun P X => (conv_bytes X P).choose_spec.choose, fun P X => (conv_bytes X P).choose_spec.choose_spec⟩
theorem oneBox (w : World) (s : Bs) : (w.alloc (.cells #[Value.string (B s)] 9)).cell? ⟨w.heap.size, 0, none⟩ = some (.string (B s)) := by
  have := cell_of_row (w.alloc (.cells #[Value.string (B s)] 9)) w.heap.size 0 _ _ _ (heap_alloc_new w _)
  rw [this]
  rfl
theorem size_of_alloc (w : World) (o : Obj) : (w.alloc o).heap.size = w.heap.size + 1 := by simp
theorem size_of_drew (w : World) : w.drew.heap.size = w.heap.size := rfl
theorem blk_new {X : World} {b : Nat} {o : Obj} (hb : b = X.heap.size) : (X.alloc o).heap[b]? = some o := by
  subst hb
  exact heap_alloc_new _ _
end Go.Proofs.YtppkpcijmfdfmaaGreatDoor
