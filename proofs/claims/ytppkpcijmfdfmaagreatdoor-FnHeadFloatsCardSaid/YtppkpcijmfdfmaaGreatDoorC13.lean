/- The walk of HeadRun. -/
import Derived.Test.YtppkpcijmfdfmaaGreatDoorC12
import Derived.Deep.RegionWith
set_option linter.unusedVariables false
set_option linter.unusedSimpArgs false
namespace Go.Proofs.YtppkpcijmfdfmaaGreatDoor
open Go.RowKit
attribute [local go_sem] B_size B_get B_lit B_ext_to B_ext B_toList B_app

@[local go_sem] theorem run_store_float {P : Program} {w : World} {a : Addr} {m : Mode} (k : FloatKind) (n : Nat) : (store a (.float k n) m).run P w = stored P w a (.float k n) m := run_store P w a _ m rfl

/-- What the walk needs of a header that was just read. -/
def Ready (G : Env) (r : Option J) (w : World) (e : Ending) (w' : World) : Prop :=
  ∃ hb, e = .returned (.iface 171 (.pointer (some ⟨hb, 0, none⟩))) ∧ Below w.heap.size w w' ∧ HQ G.U w.heap.size w'.heap.size r hb w' w'

theorem HAns.or {G : Env} {B0 B1 : Nat} {r : Option J} {hb : Nat} {wx : World} {key : Bs} {z : Value} {α : Type} {f : J → Option α} {g : α → Value} {e : Ending} {w' : World} (h : HAns G B0 B1 r hb wx key z (fun j => (f j).map g) e w') :
    HQ G.U B0 B1 r hb wx w' ∧ ∃ t, FindsR G.U r key t ∧ ((t.bind f = none ∧ ∃ T v, e = .returned (.tuple #[z, .iface T v])) ∨ ∃ x, t.bind f = some x ∧ e = .returned (.tuple #[g x, .nilIface])) := by
  obtain ⟨t, hf, hq, ha⟩ := h
  have e1 : (t.bind fun j => (f j).map g) = (t.bind f).map g := by cases t <;> rfl
  rw [e1] at ha
  refine ⟨hq, t, hf, ?_⟩
  cases hx : t.bind f with
  | none => rw [hx] at ha; exact Or.inl ⟨rfl, ha⟩
  | some x => rw [hx] at ha; exact Or.inr ⟨x, rfl, ha⟩
theorem AnsE.or {z : Value} {α : Type} {g : α → Value} {rr : Option α} {e : Ending} (h : AnsE z (rr.map g) e) : (rr = none ∧ ∃ T v, e = .returned (.tuple #[z, .iface T v])) ∨ ∃ x, rr = some x ∧ e = .returned (.tuple #[g x, .nilIface]) := by
  cases rr with
  | none => exact Or.inl ⟨rfl, h⟩
  | some x => exact Or.inr ⟨x, rfl, h⟩

theorem RowZ.slice {w : World} {e : TypeId} {z : Array Value} {sv : Value} {n : Nat} {xs : List Value} (h : RowZ w e z sv n xs) : ∃ a m c, sv = .slice a m c := by
  rcases h with ⟨rfl, _⟩ | ⟨g, cap, cur, rfl, _⟩
  · exact ⟨_, _, _, rfl⟩
  · exact ⟨_, _, _, rfl⟩

end Go.Proofs.YtppkpcijmfdfmaaGreatDoor

