/- Trees in memory; the walk of a value that is no list and no object. -/
import Derived.Test.YtppkpcijmfdfmaaGreatDoorD2
import Derived.Test.YtppkpcijmfdfmaaGreatDoorC1
import Derived.Deep.CutRange
import Derived.Deep.DeepCutAuto
set_option linter.unusedVariables false
set_option linter.unusedSimpArgs false
namespace Go.Proofs.YtppkpcijmfdfmaaGreatDoor
open Go.RowKit
attribute [local go_sem] B_size B_get B_lit B_ext_to B_ext B_toList B_app

/-- A slice of texts, in blocks below a bound. -/
def NSB (w : World) (B0 : Nat) (v : Value) (l : List Bs) : Prop :=
  (∃ a c, v = .slice a 0 c ∧ l = []) ∨ ∃ b off c, v = .slice (some ⟨b, off, none⟩) l.length c ∧ (b < B0 ∧ l.length ≤ c) ∧ ∀ (i : Nat) s, l[i]? = some s → w.cell? ⟨b, off + i, none⟩ = some (.string (B s))
theorem NSB.below {w w' : World} {B0 : Nat} {v : Value} {l : List Bs} (h : NSB w B0 v l) (hb : Below B0 w w') : NSB w' B0 v l := by
  rcases h with h | ⟨b, off, c, rfl, hlt, hc⟩
  · exact Or.inl h
  · exact Or.inr ⟨b, off, c, rfl, hlt, fun i s hi => (hb.cell (p := ⟨b, off + i, none⟩) hlt.1).trans (hc i s hi)⟩
/-- A tree's cells. -/
def tcells (t : HT) (nv kv : Value) : List Value := [.int .u8 t.kind, .bool t.is, .bool t.minus, .int .u64 t.num, .string (B t.text), nv, kv]
/-- Kids in memory. -/
def KidsB (w : World) (B0 : Nat) (v : Value) (l : List HT) (R : Value → Value → HT → Prop) : Prop :=
  (∃ a c, v = .slice a 0 c ∧ l = []) ∨ ∃ b off c, v = .slice (some ⟨b, off, none⟩) l.length c ∧ b < B0 ∧
    ∀ (i : Nat) k, l[i]? = some k → ∃ nv kv, R nv kv k ∧ ∀ (j : Nat) u, (tcells k nv kv)[j]? = some u → w.cell? ⟨b, off + i * 7 + j, none⟩ = some u
/-- A tree in memory, in blocks below a bound. -/
def RepT (w : World) (B0 : Nat) : Nat → Value → Value → HT → Prop
  | 0, _, _, _ => False
  | d + 1, nv, kv, t => (t.kind < 256 ∧ t.num < 18446744073709551616 ∧ t.names.length ≤ 9223372036854775807 ∧ t.kids.length ≤ 9223372036854775807) ∧ NSB w B0 nv t.names ∧ KidsB w B0 kv t.kids (RepT w B0 d)
theorem RepT.below {w w' : World} {B0 : Nat} (hb : Below B0 w w') : ∀ {d : Nat} {nv kv : Value} {t : HT}, RepT w B0 d nv kv t → RepT w' B0 d nv kv t
  | 0, _, _, _, h => h.elim
  | d + 1, nv, kv, t, h => by
    obtain ⟨h1, h2, h3⟩ := h
    refine ⟨h1, h2.below hb, ?_⟩
    rcases h3 with h3 | ⟨b, off, c, rfl, hlt, hc⟩
    · exact Or.inl h3
    · refine Or.inr ⟨b, off, c, rfl, hlt, fun i k hi => ?_⟩
      obtain ⟨nv', kv', hr, hcell⟩ := hc i k hi
      exact ⟨nv', kv', RepT.below hb hr, fun j u hu => (hb.cell (p := ⟨b, off + i * 7 + j, none⟩) hlt).trans (hcell j u hu)⟩
theorem NSB.slice {w : World} {B0 : Nat} {v : Value} {l : List Bs} (h : NSB w B0 v l) : ∃ a c, v = .slice a l.length c := by
  rcases h with ⟨a, c, rfl, rfl⟩ | ⟨b, off, c, rfl, _⟩
  · exact ⟨a, c, rfl⟩
  · exact ⟨_, c, rfl⟩
theorem KidsB.slice {w : World} {B0 : Nat} {v : Value} {l : List HT} {R : Value → Value → HT → Prop} (h : KidsB w B0 v l R) : ∃ a c, v = .slice a l.length c := by
  rcases h with ⟨a, c, rfl, rfl⟩ | ⟨b, off, c, rfl, _⟩
  · exact ⟨a, c, rfl⟩
  · exact ⟨_, c, rfl⟩
/-- What a call leaves alone, by what it may change. -/
theorem Only.low {sb B0 : Nat} {w w' : World} (h : Only sb w w') (hB : B0 ≤ sb) (hw : B0 ≤ w.heap.size) : Below B0 w w' :=
  ⟨h.os, h.tape, h.output, h.size, fun k hk => h.block k (by omega) (by omega)⟩

end Go.Proofs.YtppkpcijmfdfmaaGreatDoor

/- The walk of a tree as a style writes it. -/
namespace Go.Proofs.YtppkpcijmfdfmaaGreatDoor
open Go.RowKit
attribute [local go_sem] B_size B_get B_lit B_ext_to B_ext B_toList B_app
variable {N M : Nat}

/-- What is left to write of the kids. -/
noncomputable def hFrom (f : HT → Nat → Bs × Nat) (ob : Bool) (ns : List Bs) (ks : List HT) (m y : Nat) : Bs × Nat := if m = 0 then hKids f ob ns ks y else hMore f ob (ns.drop m) (ks.drop m) y
theorem drewN_below (w : World) (n : Nat) : Below w.heap.size w (w.drewN n) := ⟨rfl, rfl, rfl, Nat.le_refl _, fun _ _ => rfl⟩
theorem StyleAt.drewN {sb x : Nat} {w : World} (h : StyleAt sb w x) (n : Nat) : StyleAt sb (w.drewN n) x := h.below (drewN_below w n)
theorem Only.drewN {sb : Nat} {a w : World} (h : Only sb a w) (n : Nat) : Only sb a (w.drewN n) := h.trans (Only.below (drewN_below w n))

theorem hTree_scalar {d : Nat} {t : HT} {x : Nat} (h : t.kind < 4) : hTree (d + 1) t x = hScalar t x := by rw [hTree, if_pos h]
theorem hTree_list {d : Nat} {t : HT} {x : Nat} (h : ¬ t.kind < 4) (h5 : t.kind ≠ 5) :
    hTree (d + 1) t x = (91 :: ((blank x).1 ++ ((hKids (hTree d) false t.names t.kids (blank x).2).1 ++ [93])), (hKids (hTree d) false t.names t.kids (blank x).2).2) := by
  have e : (t.kind == 5) = false := by rw [beq_eq_false_iff_ne]; exact h5
  rw [hTree, if_neg h, e]
  simp only [if_neg h5]
theorem hTree_obj {d : Nat} {t : HT} {x : Nat} (h5 : t.kind = 5) :
    hTree (d + 1) t x = (123 :: ((blank x).1 ++ ((hKids (hTree d) true t.names t.kids (blank x).2).1 ++ [125])), (hKids (hTree d) true t.names t.kids (blank x).2).2) := by
  have e : (t.kind == 5) = true := by rw [h5]; rfl
  rw [hTree, if_neg (by omega), e]
  simp only [if_pos h5]
theorem StyleAt.drew {sb x : Nat} {w : World} (h : StyleAt sb w x) : StyleAt sb w.drew x := h.below ((Below.refl _ _).drew)
theorem Only.drew {sb : Nat} {a w : World} (h : Only sb a w) : Only sb a w.drew := h.trans (Only.below ((Below.refl _ _).drew))
/-- A tree that is being written: `tail` closes it. -/
structure TreeSt (f : HT → Nat → Bs × Nat) (ob : Bool) (ns : List Bs) (ks : List HT) (res : Bs × Nat) (tail : Bs) (sb : Nat) (w1 : World) (m y : Nat) (u : Bs) (wr : World) : Prop where
  le : m ≤ ks.length
  st : StyleAt sb wr y
  only : Only sb w1 wr
  eq : res = (u ++ ((hFrom f ob ns ks m y).1 ++ tail), (hFrom f ob ns ks m y).2)

theorem RepT.slices {w : World} {B0 : Nat} : ∀ {d : Nat} {nv kv : Value} {t : HT}, RepT w B0 d nv kv t → (∃ a c, nv = .slice a t.names.length c) ∧ ∃ a c, kv = .slice a t.kids.length c
  | 0, _, _, _, h => h.elim
  | _ + 1, _, _, _, h => ⟨h.2.1.slice, h.2.2.slice⟩
/-- One kid's text, a comma ahead of it but at the first. -/
noncomputable def hComma (m y : Nat) : Bs × Nat := if m = 0 then ([], y) else (44 :: (blank y).1, (blank y).2)
theorem hFrom_step (f : HT → Nat → Bs × Nat) (ob : Bool) (ns : List Bs) (ks : List HT) (m y : Nat) (k : HT) (h : ks[m]? = some k) :
    hFrom f ob ns ks m y = ((hComma m y).1 ++ ((hKid f ob (ns.drop m) k (hComma m y).2).1 ++ (hFrom f ob ns ks (m + 1) (hKid f ob (ns.drop m) k (hComma m y).2).2).1), (hFrom f ob ns ks (m + 1) (hKid f ob (ns.drop m) k (hComma m y).2).2).2) := by
  have hd : ks.drop m = k :: ks.drop (m + 1) := by
    obtain ⟨hlt, he⟩ := List.getElem?_eq_some_iff.1 h
    rw [List.drop_eq_getElem_cons hlt, he]
  have hf : ∀ z, hFrom f ob ns ks (m + 1) z = hMore f ob (ns.drop (m + 1)) (ks.drop (m + 1)) z := fun z => by unfold hFrom; rw [if_neg (by omega)]
  unfold hComma
  by_cases hm : m = 0
  · subst hm
    simp only [if_pos, hf, List.nil_append]
    rw [List.drop_zero] at hd
    unfold hFrom
    rw [if_pos rfl, hd, hKids_cons]
    simp
  · simp only [if_neg hm, hf]
    have e : hFrom f ob ns ks m y = hMore f ob (ns.drop m) (ks.drop m) y := by unfold hFrom; rw [if_neg hm]
    rw [e, hd, hMore_cons]
    simp
theorem hFrom_end (f : HT → Nat → Bs × Nat) (ob : Bool) (ns : List Bs) (ks : List HT) (m y : Nat) (h : ks.length ≤ m) : hFrom f ob ns ks m y = ([], y) := by
  unfold hFrom
  by_cases hm : m = 0
  · rw [if_pos hm]
    have : ks = [] := List.eq_nil_of_length_eq_zero (by omega)
    rw [this]
    rfl
  · rw [if_neg hm, List.drop_of_length_le h]
    rfl
/-- The next kid. -/
theorem TreeSt.step {f : HT → Nat → Bs × Nat} {ob : Bool} {ns : List Bs} {ks : List HT} {res : Bs × Nat} {tail : Bs} {sb : Nat} {w1 : World} {m y : Nat} {u : Bs} {wr wn : World} (h : TreeSt f ob ns ks res tail sb w1 m y u wr) {k : HT} (hk : ks[m]? = some k)
    {o : Bs} {y' : Nat} (ho : o = (hComma m y).1 ++ (hKid f ob (ns.drop m) k (hComma m y).2).1) (hy : y' = (hKid f ob (ns.drop m) k (hComma m y).2).2) (hs : StyleAt sb wn y') (hw : Only sb wr wn) : TreeSt f ob ns ks res tail sb w1 (m + 1) y' (u ++ o) wn := by
  have hlt := (List.getElem?_eq_some_iff.1 hk).1
  refine ⟨by omega, hs, h.only.trans hw, ?_⟩
  rw [h.eq, hFrom_step f ob ns ks m y k hk, ho, hy]
  simp only [List.append_assoc]
theorem hKid_list (f : HT → Nat → Bs × Nat) (ns : List Bs) (k : HT) (y : Nat) : hKid f false ns k y = ((f k y).1 ++ (blank (f k y).2).1, (blank (f k y).2).2) := by
  unfold hKid hName
  simp
theorem hKid_obj (f : HT → Nat → Bs × Nat) (ns : List Bs) (k : HT) (y : Nat) (s : Bs) (h : ns.headD [] = s) : hKid f true ns k y =
    ((hText s y).1 ++ ((blank (hText s y).2).1 ++ 58 :: ((blank (blank (hText s y).2).2).1 ++ ((f k (blank (blank (hText s y).2).2).2).1 ++ (blank (f k (blank (blank (hText s y).2).2).2).2).1))), (blank (f k (blank (blank (hText s y).2).2).2).2).2) := by
  unfold hKid hName
  simp only [if_true, h, List.append_assoc, List.cons_append]
theorem cell_box (w : World) (l : List Value) (ty : TypeId) (j : Nat) : (w.alloc (.cells l.toArray ty)).cell? ⟨w.heap.size, j, none⟩ = l[j]? := by
  unfold World.cell?
  rw [show (w.alloc (.cells l.toArray ty)).heap[(⟨w.heap.size, j, none⟩ : Addr).block]? = some (.cells l.toArray ty) from heap_alloc_new w _]
  simp
theorem Only.cell {sb : Nat} {w w' : World} (h : Only sb w w') {k o : Nat} (hk : k < w.heap.size) (hne : k ≠ sb) : w'.cell? ⟨k, o, none⟩ = w.cell? ⟨k, o, none⟩ :=
  World.cell?_of_block (a := ⟨k, o, none⟩) (h.block k hk hne)
end Go.Proofs.YtppkpcijmfdfmaaGreatDoor

/- The walk of HeadPrint: a tree's whole text. -/
namespace Go.Proofs.YtppkpcijmfdfmaaGreatDoor
open Go.RowKit
attribute [local go_sem] B_size B_get B_lit B_ext_to B_ext B_toList B_app
variable {N M : Nat}

end Go.Proofs.YtppkpcijmfdfmaaGreatDoor
