/- The plain side of products of numbers of floating point: what a product is, is equal to itself. -/
import Derived.Test.YtppkpcijmfdfmaaGreatDoorA18
import GoSem.Core.Float
namespace Go.Proofs.YtppkpcijmfdfmaaGreatDoor
open Ieee (Datum double)
theorem order_read {q : Nat} (h : (double.read q).isNaN = false) : (FloatKind.f64.format.order q q == some .eq) = true := by
  show (double.order q q == some .eq) = true
  unfold Ieee.Format.order
  rw [order_self h]
  rfl
theorem mul_self {x tv : Nat} (hx : (double.read x).isNaN = false) {s : Bool} {m : Nat} {p : Int} (ht : double.read tv = .number s m p) (hm : m ≠ 0) :
    ∃ q, double.mul x tv = some q ∧ (FloatKind.f64.format.order q q == some .eq) = true := by
  unfold Ieee.Format.mul
  rw [ht]
  cases hr : double.read x with
  | number s' m' p' => exact ⟨_, rfl, order_read (nearest_read _ _ _)⟩
  | infinity s' =>
    refine ⟨double.write (Datum.infinity (s' ^^ s)), by simp only [Datum.product, if_neg hm, Option.map_some], order_read ?_⟩
    exact word_read _ (Nat.le_refl _)
  | nan s' t => rw [hr] at hx; cases hx
theorem of_int_read (n : Nat) : (double.read (FloatKind.f64.nearest (n : Int))).isNaN = false := nearest_read _ _ _
end Go.Proofs.YtppkpcijmfdfmaaGreatDoor
