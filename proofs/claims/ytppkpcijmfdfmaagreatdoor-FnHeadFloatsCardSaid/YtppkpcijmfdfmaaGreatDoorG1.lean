/- A text that reads as an object, and HeadRun of it. -/
import Derived.Test.YtppkpcijmfdfmaaGreatDoorF9
import Derived.Test.YtppkpcijmfdfmaaGreatDoorA28
set_option linter.unusedVariables false
set_option linter.unusedSimpArgs false
set_option linter.unusedVariables false
set_option linter.unusedSimpArgs false
namespace Go.Proofs.YtppkpcijmfdfmaaGreatDoor
open Go.RowKit

theorem KidAt.fn {t : HT} {s : Bs} {k : Option HT} (h : KidAt t s k) : kidIn t.names t.kids s = k := by
  cases k with
  | none => exact kidIn_none h
  | some c =>
    obtain ⟨i, h1, h2, h3⟩ := h
    exact kidIn_at h1 h2 h3
/-- A text that reads as an object. -/
structure RdT (P : Bs) (t : HT) : Prop where
  ex : ∃ d ms, jParse P = some (.obj ms) ∧ Mems (Mt d) ms t.names t.kids ∧ (∀ D, JLe 450000000 D (.obj ms)) ∧ Good UnR (.obj ms)
  len : P.length ≤ 450000000
  kids : ∀ c ∈ t.kids, c.num < 18446744073709551616 ∧ c.kids.length ≤ 1000000
  lens : t.names.length = t.kids.length
  few : t.names.length ≤ 1000000
theorem obj_read2 {N M d : Nat} {t : HT} {n : Nat} (h : Sized N M d t 1 n) (hn : n ≤ 1000) (hM : M ≤ 300) (h5 : t.kind = 5) (x : Nat) :
    ∃ d' ms, jParse (hPrint d t x) = some (.obj ms) ∧ Mems (Mt d') ms t.names t.kids ∧ ∀ D, JLe 450000000 D (.obj ms) := by
  obtain ⟨j, e1, e2⟩ := print_back h hM x
  have hl := print_length2 h hn x
  cases d with
  | zero => exact e2.elim
  | succ d =>
    rcases e2 with ⟨k, _⟩ | ⟨k, _⟩ | ⟨k, _⟩ | ⟨k, _⟩ | ⟨k, _⟩ | ⟨_, ms, rfl, hm⟩
    · omega
    · omega
    · omega
    · omega
    · omega
    · exact ⟨d, ms, e1, hm, fun D => (parse_le e1 D).mono hl⟩
theorem sized_kids {N M d n : Nat} {t : HT} (h : Sized N M d t 1 n) (h5 : t.kind = 5) (hN : N ≤ 1000) : (∀ c ∈ t.kids, c.num < 18446744073709551616 ∧ c.kids.length ≤ 1000000) ∧ t.names.length = t.kids.length ∧ t.names.length ≤ 1000000 := by
  obtain ⟨e, ms, rfl, h1, h2, h3, h4, h6, h7, h8⟩ := sized_obj h h5
  refine ⟨fun c hc => ?_, h3, by omega⟩
  obtain ⟨i, hi⟩ := List.mem_iff_getElem?.1 hc
  obtain ⟨m, _, hm⟩ := (All2.get h6).2 i _ hi
  cases e with
  | zero => exact hm.elim
  | succ e => exact ⟨hm.2.1.2, by have := hm.2.2.1; omega⟩
theorem rd_print {N M d : Nat} {t : HT} {n : Nat} (h : Sized N M d t 1 n) (hN : N ≤ 1000) (hM : M ≤ 300) (h5 : t.kind = 5) (hnd : t.names.Nodup) (x : Nat) : RdT (hPrint d t x) t := by
  obtain ⟨e, ms', _, _, _, _, _, _, _, hn⟩ := sized_obj h h5
  obtain ⟨d', ms, h1, h2, h3⟩ := obj_read2 h (by omega) hM h5 x
  obtain ⟨k1, k2, k3⟩ := sized_kids h h5 hN
  exact ⟨⟨d', ms, h1, h2, h3, obj_good h2 h3 hnd⟩, print_length2 h (by omega) x, k1, k2, k3⟩
/-- What an answer is. -/
noncomputable def tell (t : HT) (q : Nat × Bs) : Told := toldT (kidIn t.names t.kids q.2) q.1
end Go.Proofs.YtppkpcijmfdfmaaGreatDoor

/- The walks of slices.Equal of texts and sameTold. -/
set_option linter.unusedVariables false
set_option linter.unusedSimpArgs false
namespace Go.Proofs.YtppkpcijmfdfmaaGreatDoor
open Go.RowKit
attribute [local go_sem] B_size B_get B_lit B_ext_to B_ext B_toList B_app

theorem SL.ns {w : World} {v : Value} {l : List Bs} (h : SL w v l) : NS w v l := by
  rcases h with ⟨rfl, rfl⟩ | ⟨b, c, rfl, hlt, hc⟩
  · exact Or.inl ⟨none, 0, rfl, rfl⟩
  · exact Or.inr ⟨b, 0, c, rfl, hlt, fun i s hi => by rw [Nat.zero_add]; exact hc i s hi⟩
theorem NS.slice {w : World} {v : Value} {l : List Bs} (h : NS w v l) : ∃ a c, v = .slice a l.length c := by
  rcases h with ⟨a, c, rfl, rfl⟩ | ⟨b, off, c, rfl, _⟩
  · exact ⟨a, c, rfl⟩
  · exact ⟨_, c, rfl⟩
end Go.Proofs.YtppkpcijmfdfmaaGreatDoor
