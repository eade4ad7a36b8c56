/- The plain side of numbers of floating point: what is written is no NaN, and equal to itself; signs; quotients that are exact. No program in sight. -/
import Ieee.Arith
import GoSem.Op.Equal
namespace Go.Proofs.YtppkpcijmfdfmaaGreatDoor
open Ieee (Datum double)

theorem order_self {d : Datum} (h : d.isNaN = false) : Datum.order d d = some .eq := by
  cases d with
  | number s m i => simp [Datum.order, Std.ReflCmp.compare_self]
  | infinity s => simp [Datum.order, Std.ReflCmp.compare_self]
  | nan s t => cases h
theorem word_read (neg : Bool) {r : Nat} (h : r ≤ double.infRung) : (double.read (double.word neg r)).isNaN = false := by
  have e1 : double.infRung = 9218868437227405312 := by decide
  have e2 : double.signWeight = 9223372036854775808 := by decide
  rw [e1] at h
  have e3 : double.word neg r % double.signWeight = r := by
    unfold Ieee.Format.word
    rw [e2]
    cases neg
    · simp only [Bool.false_eq_true, if_false]; omega
    · simp only [if_true]; omega
  unfold Ieee.Format.read
  simp only [e3, e1]
  split
  · rfl
  · split
    · rfl
    · split
      · rfl
      · omega
theorem nearest_read (neg : Bool) (m : Nat) (p : Int) : (double.read (double.nearest neg m p)).isNaN = false := by
  unfold Ieee.Format.nearest
  split
  · exact word_read neg (by decide)
  · exact word_read neg (by omega)
theorem nearest_self (neg : Bool) (m : Nat) (p : Int) : Go.Op.floatEq .f64 (double.nearest neg m p) (double.nearest neg m p) = true := by
  unfold Go.Op.floatEq Ieee.Format.order
  show (Datum.order (double.read (double.nearest neg m p)) (double.read (double.nearest neg m p)) == some .eq) = true
  rw [order_self (nearest_read neg m p)]
  rfl
end Go.Proofs.YtppkpcijmfdfmaaGreatDoor
