/- Walks of HeadHas and headSilent over a text that reads as an object. -/
import Derived.Test.YtppkpcijmfdfmaaGreatDoorG1
import Derived.Test.YtppkpcijmfdfmaaGreatDoorE3
set_option linter.unusedVariables false
set_option linter.unusedSimpArgs false
namespace Go.Proofs.YtppkpcijmfdfmaaGreatDoor
open Go.RowKit
attribute [local go_sem] B_size B_get B_lit B_ext_to B_ext B_toList B_app

theorem rdReady {P : Bs} {t : HT} (h : RdT P t) {v : Value} {w : World} (hv : BA w v P) (hG : Gw w) : ∃ d ms, Calls Tryz.prog 62 #[v] w (Ready env1 (some (.obj ms)) w) ∧ Mems (Mt d) ms t.names t.kids ∧ ∀ D, JLe 450000000 D (.obj ms) := by
  obtain ⟨⟨d', ms, hp, hm, hl, hgood⟩, hpl, _⟩ := h
  have hR := ready_any (G := env1) v P w hv (by omega) hG (fun j hj => by rw [hp] at hj; cases hj; exact hgood)
  rw [hp] at hR
  exact ⟨d', ms, hR, hm, hl⟩
end Go.Proofs.YtppkpcijmfdfmaaGreatDoor
