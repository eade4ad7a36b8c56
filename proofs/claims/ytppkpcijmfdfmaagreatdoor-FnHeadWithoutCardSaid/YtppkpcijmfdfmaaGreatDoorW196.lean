/- That a tree's row of kids has room for them: from a law's start. -/
import Derived.Test.YtppkpcijmfdfmaaGreatDoorE2
set_option linter.unusedVariables false
set_option linter.unusedSimpArgs false
namespace Go.Proofs.YtppkpcijmfdfmaaGreatDoor
open Go.RowKit Go.ChangeShapes Go.WideShapes
section
variable {H : Type} {enc : TypeId × Value → H} {W : World} {sp : Nat → Bool} {held : Bool}
theorem open_cap {t : HT} {nv kv : Value} {d : DataW H} {ps : List MemPlace} (hd : DataW.Trod enc Tryz.prog W 0 sp held 45 (.agg (tcells t nv kv).toArray) d ps) :
    ∀ a n c, kv = .slice a n c → n ≤ c := by
  intro a n c e
  subst e
  obtain ⟨fuel, h⟩ := hd
  cases fuel with
  | zero => simp [DataW.trod] at h
  | succ fuel =>
    obtain ⟨xs, n', hn, _, hl, hxl, hall⟩ := DataW.trod_struct Tryz.underlying45 h
    obtain ⟨x0, x1, x2, x3, x4, x5, x6, rfl⟩ : ∃ x0 x1 x2 x3 x4 x5 x6, xs = [x0, x1, x2, x3, x4, x5, x6] := by
      match xs, hxl with
      | [x0, x1, x2, x3, x4, x5, x6], _ => exact ⟨x0, x1, x2, x3, x4, x5, x6, rfl⟩
    rcases DataW.trod_slice Tryz.underlying43 (hall 6 _ rfl) with ⟨e, _⟩ | ⟨a', len, cap, elems, rest, m', hm, e, _, _, hlc, hcm, hlen, hel, _, _⟩
    · have q6 := one_of Tryz.c43 e
      have e7 : some (Value.slice a n c) = some (Value.slice none 0 0) := q6
      cases e7
      exact Nat.le_refl _
    · have q6 := one_of Tryz.c43 e
      have e7 : some (Value.slice a n c) = some (Value.slice (some a') len cap) := q6
      cases e7
      exact hlc
end
end Go.Proofs.YtppkpcijmfdfmaaGreatDoor
