/- The walk of HeadTokens: the tokens of a tree, in a row of the call's own. -/
import Derived.Test.YtppkpcijmfdfmaaGreatDoorW64
import Derived.Deep.RegionHeld3
import Derived.Deep.RegionHeldLaw
namespace Go.Proofs.YtppkpcijmfdfmaaGreatDoor
open Go.RowKit
attribute [local go_sem] B_size B_get B_lit B_ext_to B_ext B_toList B_app
variable {N M : Nat}

/-- What HeadTokens gives: the tokens, in a new row. -/
def TokR (w : World) (l : List Bs) (e : Ending) (w' : World) : Prop := ∃ g cap, e = .returned (.slice (some ⟨g, 0, none⟩) l.length cap) ∧ OwnG w.heap.size w' g cap l ∧ Below w.heap.size w w'
theorem OwnG.one (w : World) (s : Bs) {base : Nat} (hb : base ≤ w.heap.size) : OwnG base (w.alloc (.cells #[Value.string (B s)] 9)) w.heap.size 1 [s] := OwnG.new w [s] hb (by simp)
theorem TxtAt.one (w : World) (s : Bs) : TxtAt (w.alloc (.cells #[Value.string (B s)] 9)) w.heap.size 0 [s] := TxtAt.new w [s]
/-- The tokens that are being collected. -/
structure TokSt (f : HT → List Bs) (ob : Bool) (ns : List Bs) (ks : List HT) (res tail : List Bs) (sb base : Nat) (w1 : World) (m g cap : Nat) (u : List Bs) (wr : World) : Prop where
  le : m ≤ ks.length
  own : OwnG base wr g cap u
  only : OnlyB sb base w1 wr
  st : StyleAt sb wr 0
  eq : res = u ++ (tFrom f ob ns ks m ++ tail)
theorem TokSt.step {f : HT → List Bs} {ob : Bool} {ns : List Bs} {ks : List HT} {res tail : List Bs} {sb base : Nat} {w1 : World} {m g cap : Nat} {u : List Bs} {wr wn : World} (h : TokSt f ob ns ks res tail sb base w1 m g cap u wr) {k : HT} (hk : ks[m]? = some k)
    {g' cap' : Nat} {o : List Bs} (ho : o = u ++ (tComma m ++ (tName ob (ns.drop m) ++ f k))) (hown : OwnG base wn g' cap' o) (hw : OnlyB sb base wr wn) (hs : StyleAt sb wn 0) : TokSt f ob ns ks res tail sb base w1 (m + 1) g' cap' o wn := by
  have hlt := (List.getElem?_eq_some_iff.1 hk).1
  refine ⟨by omega, hown, h.only.trans hw, hs, ?_⟩
  rw [h.eq, tFrom_step f ob ns ks m k hk, ho]
  simp only [List.append_assoc]
theorem StyleAt.grown {sb x g : Nat} {w w' : World} (h : StyleAt sb w x) (hg : w.grownBy w' (some g)) (hne : g ≠ sb) : StyleAt sb w' x := by
  have hb := hg.block sb h.lt (by intro e; cases e; exact hne rfl)
  exact ⟨(World.cell?_of_block (a := ⟨sb, 0, none⟩) hb).trans h.cell, (World.frozen?_of_block (a := ⟨sb, 0, none⟩) hb).trans h.free, Nat.lt_of_lt_of_le h.lt hg.size, h.u64⟩

theorem OwnG.txt {base : Nat} {w : World} {g cap : Nat} {l : List Bs} (h : OwnG base w g cap l) : TxtAt w g 0 l := ⟨h.lt, fun i s hi => by rw [Nat.zero_add]; exact h.cells i s hi⟩
end Go.Proofs.YtppkpcijmfdfmaaGreatDoor
