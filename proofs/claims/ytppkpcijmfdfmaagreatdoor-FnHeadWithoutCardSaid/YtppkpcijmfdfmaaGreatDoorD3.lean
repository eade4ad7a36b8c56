/- Trees in memory; the walk of a value that is no list and no object. -/
import Derived.Test.YtppkpcijmfdfmaaGreatDoorD2
import Derived.Test.YtppkpcijmfdfmaaGreatDoorC1
import Derived.Deep.CutRange
import Derived.Deep.DeepCutAuto
set_option linter.unusedVariables false
set_option linter.unusedSimpArgs false
namespace Go.Proofs.YtppkpcijmfdfmaaGreatDoor
open Go.RowKit
attribute [local go_sem] B_size B_get B_lit B_ext_to B_ext B_toList B_app

/-- A slice of texts, in blocks below a bound. -/
def NSB (w : World) (B0 : Nat) (v : Value) (l : List Bs) : Prop :=
  (∃ a c, v = .slice a 0 c ∧ l = []) ∨ ∃ b off c, v = .slice (some ⟨b, off, none⟩) l.length c ∧ (b < B0 ∧ l.length ≤ c) ∧ ∀ (i : Nat) s, l[i]? = some s → w.cell? ⟨b, off + i, none⟩ = some (.string (B s))
theorem NSB.below {w w' : World} {B0 : Nat} {v : Value} {l : List Bs} (h : NSB w B0 v l) (hb : Below B0 w w') : NSB w' B0 v l := by
  rcases h with h | ⟨b, off, c, rfl, hlt, hc⟩
  · exact Or.inl h
  · exact Or.inr ⟨b, off, c, rfl, hlt, fun i s hi => (hb.cell (p := ⟨b, off + i, none⟩) hlt.1).trans (hc i s hi)⟩
/-- A tree's cells. -/
def tcells (t : HT) (nv kv : Value) : List Value := [.int .u8 t.kind, .bool t.is, .bool t.minus, .int .u64 t.num, .string (B t.text), nv, kv]
/-- Kids in memory. -/
def KidsB (w : World) (B0 : Nat) (v : Value) (l : List HT) (R : Value → Value → HT → Prop) : Prop :=
  (∃ a c, v = .slice a 0 c ∧ l = []) ∨ ∃ b off c, v = .slice (some ⟨b, off, none⟩) l.length c ∧ b < B0 ∧
    ∀ (i : Nat) k, l[i]? = some k → ∃ nv kv, R nv kv k ∧ ∀ (j : Nat) u, (tcells k nv kv)[j]? = some u → w.cell? ⟨b, off + i * 7 + j, none⟩ = some u
/-- A tree in memory, in blocks below a bound. -/
def RepT (w : World) (B0 : Nat) : Nat → Value → Value → HT → Prop
  | 0, _, _, _ => False
  | d + 1, nv, kv, t => (t.kind < 256 ∧ t.num < 18446744073709551616 ∧ t.names.length ≤ 9223372036854775807 ∧ t.kids.length ≤ 9223372036854775807) ∧ NSB w B0 nv t.names ∧ KidsB w B0 kv t.kids (RepT w B0 d)
theorem RepT.below {w w' : World} {B0 : Nat} (hb : Below B0 w w') : ∀ {d : Nat} {nv kv : Value} {t : HT}, RepT w B0 d nv kv t → RepT w' B0 d nv kv t
  | 0, _, _, _, h => h.elim
  | d + 1, nv, kv, t, h => by
    obtain ⟨h1, h2, h3⟩ := h
    refine ⟨h1, h2.below hb, ?_⟩
    rcases h3 with h3 | ⟨b, off, c, rfl, hlt, hc⟩
    · exact Or.inl h3
    · refine Or.inr ⟨b, off, c, rfl, hlt, fun i k hi => ?_⟩
      obtain ⟨nv', kv', hr, hcell⟩ := hc i k hi
      exact ⟨nv', kv', RepT.below hb hr, fun j u hu => (hb.cell (p := ⟨b, off + i * 7 + j, none⟩) hlt).trans (hcell j u hu)⟩
theorem NSB.slice {w : World} {B0 : Nat} {v : Value} {l : List Bs} (h : NSB w B0 v l) : ∃ a c, v = .slice a l.length c := by
  rcases h with ⟨a, c, rfl, rfl⟩ | ⟨b, off, c, rfl, _⟩
  · exact ⟨a, c, rfl⟩
  · exact ⟨_, c, rfl⟩
theorem KidsB.slice {w : World} {B0 : Nat} {v : Value} {l : List HT} {R : Value → Value → HT → Prop} (h : KidsB w B0 v l R) : ∃ a c, v = .slice a l.length c := by
  rcases h with ⟨a, c, rfl, rfl⟩ | ⟨b, off, c, rfl, _⟩
  · exact ⟨a, c, rfl⟩
  · exact ⟨_, c, rfl⟩
/-- What a call leaves alone, by what it may change. -/
theorem Only.low {sb B0 : Nat} {w w' : World} (h : Only sb w w') (hB : B0 ≤ sb) (hw : B0 ≤ w.heap.size) : Below B0 w w' :=
  ⟨h.os, h.tape, h.output, h.size, fun k hk => h.block k (by omega) (by omega)⟩

def fieldOf (t : HT) : Value := .agg #[.string (B []), .int .u8 t.kind, .bool t.is, .bool t.minus, .int .u64 t.num, .string (B t.text), .slice none 0 0]
set_option maxRecDepth 100000 in
set_option maxHeartbeats 4000000 in
theorem value_any {sb x : Nat} {w : World} (t : HT) (h : StyleAt sb w x) (hn : t.num < 18446744073709551616) (hk : t.kind < 4) (hl : t.kind = 3 → t.text.length < 4294967296) :
    Calls Tryz.prog 60 #[.pointer (some ⟨sb, 0, none⟩), fieldOf t] w fun e w' => e = .returned (.string (B (hScalar t x).1)) ∧ StyleAt sb w' (hScalar t x).2 ∧ Only sb w w' := by
  obtain ⟨kind, is, minus, num, text, names, kids⟩ := t
  simp only [HT.num, HT.kind, HT.text] at hn hk hl
  simp only [fieldOf, HT.num, HT.kind, HT.text, HT.is, HT.minus, hScalar]
  have hbw : Below w.heap.size w (w.alloc (.cells #[.string (B []), .int .u8 kind, .bool is, .bool minus, .int .u64 num, .string (B text), .slice none 0 0] 32)) := (Below.refl _ _).alloc (Nat.le_refl _) _
  have H1 := Lib.hid (h.below hbw)
  have HO := Lib.hid (Only.below (sb := sb) hbw)
  clear h hbw
  obtain rfl | rfl | rfl | rfl : kind = 0 ∨ kind = 1 ∨ kind = 2 ∨ kind = 3 := by omega
  · go_enter Tryz.func60, Tryz.ntmps60
    go_wp2
    go_ret
    exact ⟨rfl, H1.out, HO.out⟩
  · cases is
    · go_enter Tryz.func60, Tryz.ntmps60
      go_wp2
      go_ret
      exact ⟨rfl, H1.out, HO.out⟩
    · go_enter Tryz.func60, Tryz.ntmps60
      go_wp2
      go_ret
      exact ⟨rfl, H1.out, HO.out⟩
  · have HD := Lib.hid (digits_any num hn)
    have hdl : (hDig num).length ≤ 20 := hDig_length 19 num (Nat.lt_trans hn (by decide))
    cases minus
    · have e : hNum false num = hDig num := by unfold hNum; rw [if_neg (by simp)]
      go_enter Tryz.func60, Tryz.ntmps60
      go_wp2_with (go_at_call 93; with_reducible refine (HD.out _).mono ?_; rintro e2 w2 ⟨rfl, rfl⟩)
      go_ret
      exact ⟨by rw [← e]; rfl, H1.out, HO.out⟩
    · by_cases h0 : num = 0
      · subst h0
        have e : hNum true 0 = hDig 0 := by unfold hNum; rw [if_neg (by omega)]
        have HD0 : Hid (∀ w, Calls Tryz.prog 93 #[.int .u64 0] w fun e w' => e = .returned (.string (B (hDig 0))) ∧ w = w') := HD.out
        clear hn
        go_enter Tryz.func60, Tryz.ntmps60
        go_wp2_with (go_at_call 93; with_reducible refine (HD0.out _).mono ?_; rintro e2 w2 ⟨rfl, rfl⟩)
        go_ret
        exact ⟨by rw [← e]; rfl, H1.out, HO.out⟩
      · have e : hNum true num = 45 :: hDig num := by unfold hNum; rw [if_pos ⟨rfl, by omega⟩]
        have hz : decide ((0 : Int) < num) = true := by simp; omega
        go_enter Tryz.func60, Tryz.ntmps60
        go_wp2_with (go_at_call 93; with_reducible refine (HD.out _).mono ?_; rintro e2 w2 ⟨rfl, rfl⟩)
        go_ret
        exact ⟨by rw [← e]; rfl, H1.out, HO.out⟩
  · have HT := Lib.hid (text_any text H1.out (hl rfl))
    go_enter Tryz.func60, Tryz.ntmps60
    go_wp2_with (go_at_call 59; refine HT.out.mono ?_; rintro e2 w2 ⟨rfl, hs2, ho2⟩; have H2 := Lib.hid (And.intro hs2 ho2); clear hs2 ho2)
    go_ret
    exact ⟨rfl, H2.out.1, HO.out.trans H2.out.2⟩
end Go.Proofs.YtppkpcijmfdfmaaGreatDoor

/- The walk of a tree as a style writes it. -/
namespace Go.Proofs.YtppkpcijmfdfmaaGreatDoor
open Go.RowKit
attribute [local go_sem] B_size B_get B_lit B_ext_to B_ext B_toList B_app
variable {N M : Nat}

/-- What is left to write of the kids. -/
noncomputable def hFrom (f : HT → Nat → Bs × Nat) (ob : Bool) (ns : List Bs) (ks : List HT) (m y : Nat) : Bs × Nat := if m = 0 then hKids f ob ns ks y else hMore f ob (ns.drop m) (ks.drop m) y
theorem drewN_below (w : World) (n : Nat) : Below w.heap.size w (w.drewN n) := ⟨rfl, rfl, rfl, Nat.le_refl _, fun _ _ => rfl⟩
theorem StyleAt.drewN {sb x : Nat} {w : World} (h : StyleAt sb w x) (n : Nat) : StyleAt sb (w.drewN n) x := h.below (drewN_below w n)
theorem Only.drewN {sb : Nat} {a w : World} (h : Only sb a w) (n : Nat) : Only sb a (w.drewN n) := h.trans (Only.below (drewN_below w n))

theorem hTree_scalar {d : Nat} {t : HT} {x : Nat} (h : t.kind < 4) : hTree (d + 1) t x = hScalar t x := by rw [hTree, if_pos h]
theorem hTree_list {d : Nat} {t : HT} {x : Nat} (h : ¬ t.kind < 4) (h5 : t.kind ≠ 5) :
    hTree (d + 1) t x = (91 :: ((blank x).1 ++ ((hKids (hTree d) false t.names t.kids (blank x).2).1 ++ [93])), (hKids (hTree d) false t.names t.kids (blank x).2).2) := by
  have e : (t.kind == 5) = false := by rw [beq_eq_false_iff_ne]; exact h5
  rw [hTree, if_neg h, e]
  simp only [if_neg h5]
theorem hTree_obj {d : Nat} {t : HT} {x : Nat} (h5 : t.kind = 5) :
    hTree (d + 1) t x = (123 :: ((blank x).1 ++ ((hKids (hTree d) true t.names t.kids (blank x).2).1 ++ [125])), (hKids (hTree d) true t.names t.kids (blank x).2).2) := by
  have e : (t.kind == 5) = true := by rw [h5]; rfl
  rw [hTree, if_neg (by omega), e]
  simp only [if_pos h5]
theorem texts_three {t : HT} (h : t.kind = 3) : t.text ∈ t.texts := by unfold HT.texts; rw [if_pos h]; simp
theorem texts_five {t : HT} (h : t.kind = 5) : t.texts = t.names := by unfold HT.texts; rw [if_neg (by omega), if_pos h]
theorem StyleAt.drew {sb x : Nat} {w : World} (h : StyleAt sb w x) : StyleAt sb w.drew x := h.below ((Below.refl _ _).drew)
theorem Only.drew {sb : Nat} {a w : World} (h : Only sb a w) : Only sb a w.drew := h.trans (Only.below ((Below.refl _ _).drew))
/-- A tree that is being written: `tail` closes it. -/
structure TreeSt (f : HT → Nat → Bs × Nat) (ob : Bool) (ns : List Bs) (ks : List HT) (res : Bs × Nat) (tail : Bs) (sb : Nat) (w1 : World) (m y : Nat) (u : Bs) (wr : World) : Prop where
  le : m ≤ ks.length
  st : StyleAt sb wr y
  only : Only sb w1 wr
  eq : res = (u ++ ((hFrom f ob ns ks m y).1 ++ tail), (hFrom f ob ns ks m y).2)

theorem RepT.slices {w : World} {B0 : Nat} : ∀ {d : Nat} {nv kv : Value} {t : HT}, RepT w B0 d nv kv t → (∃ a c, nv = .slice a t.names.length c) ∧ ∃ a c, kv = .slice a t.kids.length c
  | 0, _, _, _, h => h.elim
  | _ + 1, _, _, _, h => ⟨h.2.1.slice, h.2.2.slice⟩
/-- One kid's text, a comma ahead of it but at the first. -/
noncomputable def hComma (m y : Nat) : Bs × Nat := if m = 0 then ([], y) else (44 :: (blank y).1, (blank y).2)
theorem hFrom_step (f : HT → Nat → Bs × Nat) (ob : Bool) (ns : List Bs) (ks : List HT) (m y : Nat) (k : HT) (h : ks[m]? = some k) :
    hFrom f ob ns ks m y = ((hComma m y).1 ++ ((hKid f ob (ns.drop m) k (hComma m y).2).1 ++ (hFrom f ob ns ks (m + 1) (hKid f ob (ns.drop m) k (hComma m y).2).2).1), (hFrom f ob ns ks (m + 1) (hKid f ob (ns.drop m) k (hComma m y).2).2).2) := by
  have hd : ks.drop m = k :: ks.drop (m + 1) := by
    obtain ⟨hlt, he⟩ := List.getElem?_eq_some_iff.1 h
    rw [List.drop_eq_getElem_cons hlt, he]
  have hf : ∀ z, hFrom f ob ns ks (m + 1) z = hMore f ob (ns.drop (m + 1)) (ks.drop (m + 1)) z := fun z => by unfold hFrom; rw [if_neg (by omega)]
  unfold hComma
  by_cases hm : m = 0
  · subst hm
    simp only [if_pos, hf, List.nil_append]
    rw [List.drop_zero] at hd
    unfold hFrom
    rw [if_pos rfl, hd, hKids_cons]
    simp
  · simp only [if_neg hm, hf]
    have e : hFrom f ob ns ks m y = hMore f ob (ns.drop m) (ks.drop m) y := by unfold hFrom; rw [if_neg hm]
    rw [e, hd, hMore_cons]
    simp
theorem hFrom_end (f : HT → Nat → Bs × Nat) (ob : Bool) (ns : List Bs) (ks : List HT) (m y : Nat) (h : ks.length ≤ m) : hFrom f ob ns ks m y = ([], y) := by
  unfold hFrom
  by_cases hm : m = 0
  · rw [if_pos hm]
    have : ks = [] := List.eq_nil_of_length_eq_zero (by omega)
    rw [this]
    rfl
  · rw [if_neg hm, List.drop_of_length_le h]
    rfl
/-- The next kid. -/
theorem TreeSt.step {f : HT → Nat → Bs × Nat} {ob : Bool} {ns : List Bs} {ks : List HT} {res : Bs × Nat} {tail : Bs} {sb : Nat} {w1 : World} {m y : Nat} {u : Bs} {wr wn : World} (h : TreeSt f ob ns ks res tail sb w1 m y u wr) {k : HT} (hk : ks[m]? = some k)
    {o : Bs} {y' : Nat} (ho : o = (hComma m y).1 ++ (hKid f ob (ns.drop m) k (hComma m y).2).1) (hy : y' = (hKid f ob (ns.drop m) k (hComma m y).2).2) (hs : StyleAt sb wn y') (hw : Only sb wr wn) : TreeSt f ob ns ks res tail sb w1 (m + 1) y' (u ++ o) wn := by
  have hlt := (List.getElem?_eq_some_iff.1 hk).1
  refine ⟨by omega, hs, h.only.trans hw, ?_⟩
  rw [h.eq, hFrom_step f ob ns ks m y k hk, ho, hy]
  simp only [List.append_assoc]
theorem mem_sum : ∀ {ms : List Nat} {m : Nat}, m ∈ ms → m ≤ ms.sum
  | a :: ms, m, h => by
    rw [List.sum_cons]
    rcases List.mem_cons.1 h with rfl | h
    · omega
    · have := mem_sum h; omega
theorem hKid_list (f : HT → Nat → Bs × Nat) (ns : List Bs) (k : HT) (y : Nat) : hKid f false ns k y = ((f k y).1 ++ (blank (f k y).2).1, (blank (f k y).2).2) := by
  unfold hKid hName
  simp
theorem hKid_obj (f : HT → Nat → Bs × Nat) (ns : List Bs) (k : HT) (y : Nat) (s : Bs) (h : ns.headD [] = s) : hKid f true ns k y =
    ((hText s y).1 ++ ((blank (hText s y).2).1 ++ 58 :: ((blank (blank (hText s y).2).2).1 ++ ((f k (blank (blank (hText s y).2).2).2).1 ++ (blank (f k (blank (blank (hText s y).2).2).2).2).1))), (blank (f k (blank (blank (hText s y).2).2).2).2).2) := by
  unfold hKid hName
  simp only [if_true, h, List.append_assoc, List.cons_append]
/-- The cells of a block that was made are there. -/
theorem box_cells {sb : Nat} {w w2 : World} {l : List Value} {ty : TypeId} (hsb : sb < w.heap.size) (h : Only sb ((w.alloc (.cells l.toArray ty)).drew) w2) (j : Nat) (u : Value) (hj : l[j]? = some u) : w2.cell? ⟨w.heap.size, j, none⟩ = some u := by
  have e := h.block w.heap.size (by show w.heap.size < (w.alloc _).heap.size; simp) (by omega)
  refine (World.cell?_of_block (w := (w.alloc (.cells l.toArray ty)).drew) (a := ⟨w.heap.size, j, none⟩) e).trans ?_
  have hc : (w.alloc (.cells l.toArray ty)).cell? ⟨w.heap.size, j, none⟩ = l.toArray[j]? := by
    unfold World.cell?
    rw [show (w.alloc (.cells l.toArray ty)).heap[(⟨w.heap.size, j, none⟩ : Addr).block]? = some (.cells l.toArray ty) from heap_alloc_new w _]
    rfl
  show (w.alloc (.cells l.toArray ty)).cell? ⟨w.heap.size, j, none⟩ = some u
  rw [hc]
  simpa using hj
theorem cell_box (w : World) (l : List Value) (ty : TypeId) (j : Nat) : (w.alloc (.cells l.toArray ty)).cell? ⟨w.heap.size, j, none⟩ = l[j]? := by
  unfold World.cell?
  rw [show (w.alloc (.cells l.toArray ty)).heap[(⟨w.heap.size, j, none⟩ : Addr).block]? = some (.cells l.toArray ty) from heap_alloc_new w _]
  simp
theorem Only.cell {sb : Nat} {w w' : World} (h : Only sb w w') {k o : Nat} (hk : k < w.heap.size) (hne : k ≠ sb) : w'.cell? ⟨k, o, none⟩ = w.cell? ⟨k, o, none⟩ :=
  World.cell?_of_block (a := ⟨k, o, none⟩) (h.block k hk hne)
set_option maxRecDepth 100000 in
set_option maxHeartbeats 4000000 in
theorem tree_step {d : Nat} (ih : ∀ {t : HT} {nv kv : Value} {deep n sb x B0 : Nat} {w : World}, RepT w B0 d nv kv t → Sized N M d t deep n → n ≤ 1000 → StyleAt sb w x → B0 ≤ sb →
      Calls Tryz.prog 63 #[.pointer (some ⟨sb, 0, none⟩), .agg (tcells t nv kv).toArray] w fun e w' => e = .returned (.string (B (hTree d t x).1)) ∧ StyleAt sb w' (hTree d t x).2 ∧ Only sb w w')
    {t : HT} {nv kv : Value} {deep n sb x B0 : Nat} {w : World} (hr : RepT w B0 (d + 1) nv kv t) (hz : Sized N M (d + 1) t deep n) (hn : n ≤ 1000) (hs : StyleAt sb w x) (hB : B0 ≤ sb) :
    Calls Tryz.prog 63 #[.pointer (some ⟨sb, 0, none⟩), .agg (tcells t nv kv).toArray] w fun e w' => e = .returned (.string (B (hTree (d + 1) t x).1)) ∧ StyleAt sb w' (hTree (d + 1) t x).2 ∧ Only sb w w' := by
  have hlen := tree_length (d + 1) t deep n hz
  have hsb := hs.lt
  obtain ⟨⟨r1, r2, r3, r4⟩, hnames, hkids⟩ := hr
  obtain ⟨an, cn, rfl⟩ := hnames.slice
  obtain ⟨ak, ck, rfl⟩ := hkids.slice
  have hb1 : Below w.heap.size w (w.alloc (.cells (tcells t (.slice an t.names.length cn) (.slice ak t.kids.length ck)).toArray 45)) := (Below.refl _ _).alloc (Nat.le_refl _) _
  have H1 := Lib.hid (hs.below hb1)
  have HO := Lib.hid (Only.below (sb := sb) hb1)
  have HB1 := Lib.hid hb1
  clear hs hb1
  obtain ⟨z1, z2, z3, z4, z5, z6⟩ := hz
  by_cases hk : t.kind < 4
  · have htx : t.kind = 3 → t.text.length < 4294967296 := by
      intro h3
      have := (z5 t.text (texts_three h3)).1
      omega
    rw [hTree_scalar hk]
    have HV := Lib.hid (value_any t H1.out r2 hk htx)
    have hd : decide ((t.kind : Int) < 4) = true := by simp; omega
    clear hlen hnames hkids z1 z2 z3 z4 z5 z6 htx r1 r2 r3 r4 ih hk
    simp only [fieldOf] at HV
    simp only [tcells] at H1 HO HB1 HV ⊢
    go_enter Tryz.func63, Tryz.ntmps63
    go_wp2_with (fail)
    refine HV.out.mono ?_
    rintro e2 w2 ⟨rfl, hs2, ho2⟩
    have H2 := Lib.hid (And.intro hs2 ho2)
    clear hs2 ho2
    go_wp2
    go_ret
    exact ⟨rfl, H2.out.1, HO.out.trans H2.out.2⟩
  · obtain ⟨ms, hms, hnn⟩ : ∃ ms : List Nat, All2 (fun k m => Sized N M d k (deep + 1) m) t.kids ms ∧ n = 1 + ms.sum := by
      rcases z6 with z6 | z6
      · exact absurd z6.1 hk
      · exact z6.2.2
    have HM := Lib.hid hms
    have HN := Lib.hid hnames
    have HK := Lib.hid hkids
    have HLN := Lib.hid hlen
    have HIH : Hid (∀ {t : HT} {nv kv : Value} {deep n sb x B0 : Nat} {w : World}, RepT w B0 d nv kv t → Sized N M d t deep n → n ≤ 1000 → StyleAt sb w x → B0 ≤ sb →
      Calls Tryz.prog 63 #[.pointer (some ⟨sb, 0, none⟩), .agg (tcells t nv kv).toArray] w fun e w' => e = .returned (.string (B (hTree d t x).1)) ∧ StyleAt sb w' (hTree d t x).2 ∧ Only sb w w') := @ih
    have HBL := Lib.hid (blank_any H1.out.drew)
    have hbl := blank_length x
    by_cases hk5 : t.kind = 5
    · have HE := Lib.hid (hTree_obj (d := d) (x := x) hk5)
      have hkk : ((t.kind : Int) == 5) = true := by rw [beq_iff_eq]; omega
      have HNL := Lib.hid (z4 hk5)
      have HNV : Hid (∀ s ∈ t.names, s.length ≤ 200) := fun s hs => (z5 s (by rw [texts_five hk5]; exact hs)).1
      have hd : decide ((t.kind : Int) < 4) = false := by simp; omega
      clear hms hnames hkids hlen ih hk hk5 z1 z2 z3 z4 z5 z6
      rw [HE.out]
      simp only [tcells] at H1 HO HB1 HBL ⊢
      go_enter Tryz.func63, Tryz.ntmps63
      go_upto_region 6 with (fail)
      go_region_with (go_at_call 58; refine HBL.out.mono ?_; rintro e2 w2 ⟨rfl, hs2, ho2⟩; have H2 := Lib.hid (And.intro hs2 ho2); clear hs2 ho2)
      have HBX := Lib.hid (box_cells hsb H2.out.2)
      have hlt2 : w.heap.size < w2.heap.size := Nat.lt_of_lt_of_le (by show w.heap.size < (w.alloc _).heap.size; simp) H2.out.2.size
      have HT0 : Hid (TreeSt (hTree d) true t.names t.kids (hTree (d + 1) t x) [125] sb w2 0 (blank x).2 (123 :: (blank x).1) w2) := ⟨Nat.zero_le _, H2.out.1, Only.refl _ _, by rw [HE.out]; simp [hFrom]⟩
      have HO2 := Lib.hid ((HO.out.drew).trans H2.out.2)
      have HRES : Hid (hTree (d + 1) t x = (123 :: ((blank x).1 ++ ((hKids (hTree d) true t.names t.kids (blank x).2).1 ++ [125])), (hKids (hTree d) true t.names t.kids (blank x).2).2)) := HE.out
      clear H2 HBL HE
      have q6 := HBX.out 6 _ rfl
      go_wp2
      clear q6
      go_loopw [6, 36] (fun o i wr => ∃ (m y : Nat) (u : Bs), Hid (TreeSt (hTree d) true t.names t.kids (hTree (d + 1) t x) [125] sb w2 m y u wr) ∧ i = .int .i64 m ∧ o = .string (B u)) (fun _ i _ => t.kids.length - (intOf i).toNat)
      case atStart => exact ⟨0, _, _, HT0, rfl, rfl⟩
      case round =>
        clear HT0
        obtain ⟨m, y, u, HS, rfl, rfl⟩ := hrel
        have hul : u.length ≤ 400000000 := by
          have h1 := HLN.out x
          rw [HS.out.eq] at h1
          simp only [List.length_append] at h1
          omega
        by_cases hlt : m < t.kids.length
        · obtain ⟨b, off, hbo, hbB, hcell⟩ : ∃ b off, ak = some ⟨b, off, none⟩ ∧ b < B0 ∧ ∀ (i : Nat) k, t.kids[i]? = some k → ∃ nv kv, RepT w B0 d nv kv k ∧ ∀ (j : Nat) u, (tcells k nv kv)[j]? = some u → w.cell? ⟨b, off + i * 7 + j, none⟩ = some u := by
            rcases HK.out with ⟨a, c, e, hnil⟩ | ⟨b, off, c, e, h1, h2⟩
            · rw [hnil] at hlt; simp at hlt
            · cases e; exact ⟨b, off, rfl, h1, h2⟩
          subst hbo
          obtain ⟨k, hkid⟩ : ∃ k, t.kids[m]? = some k := ⟨_, List.getElem?_eq_getElem hlt⟩
          obtain ⟨nv', kv', hrep, hcl⟩ := hcell m k hkid
          have hon := HO2.out.trans HS.out.only
          have pc : ∀ (j : Nat) u, (tcells k nv' kv')[j]? = some u → wr.cell? ⟨b, off + m * 7 + j, none⟩ = some u := fun j u hj => (hon.cell (by omega) (by omega)).trans (hcl j u hj)
          have p0 := pc 0 _ rfl
          have p1 := pc 1 _ rfl
          have p2 := pc 2 _ rfl
          have p3 := pc 3 _ rfl
          have p4 := pc 4 _ rfl
          have p5 := pc 5 _ rfl
          have p6 := pc 6 _ rfl
          rw [Nat.add_zero] at p0
          obtain ⟨⟨an', cn', rfl⟩, ak', ck', rfl⟩ := hrep.slices
          obtain ⟨bn, offn, hbno, hbnB, hncell⟩ : ∃ bn offn, an = some ⟨bn, offn, none⟩ ∧ bn < B0 ∧ ∀ (i : Nat) s, t.names[i]? = some s → w.cell? ⟨bn, offn + i, none⟩ = some (.string (B s)) := by
            rcases HN.out with ⟨a, c, e, hnil⟩ | ⟨b, off, c, e, h1, h2⟩
            · have hnl := HNL.out
              rw [hnil] at hnl; simp at hnl; omega
            · cases e; exact ⟨b, off, rfl, h1.1, h2⟩
          subst hbno
          obtain ⟨s, hname⟩ : ∃ s, t.names[m]? = some s := ⟨_, List.getElem?_eq_getElem (by have := HNL.out; omega)⟩
          have pn : wr.cell? ⟨bn, offn + m, none⟩ = some (.string (B s)) := (hon.cell (by omega) (by omega)).trans (hncell m s hname)
          have q5 : wr.cell? ⟨w.heap.size, 5, none⟩ = some (.slice (some ⟨bn, offn, none⟩) t.names.length cn) := (HS.out.only.cell hlt2 (by omega)).trans (HBX.out 5 _ rfl)
          have hsl := HNV.out s (List.mem_of_getElem? hname)
          have hltn : m < t.names.length := by have := HNL.out; omega
          have HDR : Hid ((t.names.drop m).headD [] = s) := by
            show (t.names.drop m).headD [] = s
            rw [List.drop_eq_getElem_cons hltn, List.headD_cons]
            exact (List.getElem?_eq_some_iff.1 hname).2
          have hbnr : bn < wr.heap.size := by have := (hon.low hB (by omega)).size; omega
          have q0 : wr.cell? ⟨w.heap.size, 0, none⟩ = some (.int .u8 t.kind) := (HS.out.only.cell hlt2 (by omega)).trans (HBX.out 0 _ rfl)
          have hltr : w.heap.size < wr.heap.size := Nat.lt_of_lt_of_le hlt2 HS.out.only.size
          obtain ⟨mk, hmk, hsz⟩ := HM.out.of_mem k (List.mem_of_getElem? hkid)
          have hmk2 : mk ≤ 1000 := by have := mem_sum hmk; omega
          have KL : Hid (∀ z, (hTree d k z).1.length ≤ 400000000) := fun z => by have := tree_length d k _ _ hsz z; omega
          have HB2 : Hid (Below B0 w wr) := hon.low hB (by omega)
          have HCALL : Hid (∀ {wz : World} {z : Nat}, StyleAt sb wz z → Below B0 w wz → Calls Tryz.prog 63 #[.pointer (some ⟨sb, 0, none⟩), .agg (tcells k (.slice an' k.names.length cn') (.slice ak' k.kids.length ck')).toArray] wz fun e w' => e = .returned (.string (B (hTree d k z).1)) ∧ StyleAt sb w' (hTree d k z).2 ∧ Only sb wz w') :=
            fun {wz z} h1 h2 => HIH.out (hrep.below h2) hsz hmk2 h1 hB
          obtain ⟨WA, hWA⟩ : ∃ WA, WA = wr.alloc (.cells (tcells k (.slice an' k.names.length cn') (.slice ak' k.kids.length ck')).toArray 45) := ⟨_, rfl⟩
          have hba : Below wr.heap.size wr WA := by rw [hWA]; exact (Below.refl _ _).alloc (Nat.le_refl _) _
          have SA := Lib.hid (HS.out.st.below hba)
          have OA := Lib.hid (Only.below (sb := sb) hba)
          have BA2 : Hid (Below B0 w WA) := HB2.out.trans (hba.mono (by have := HB2.out.size; omega))
          have QA : Hid (WA.cell? ⟨w.heap.size, 0, none⟩ = some (.int .u8 t.kind)) := (hba.cell (p := ⟨w.heap.size, 0, none⟩) hltr).trans q0
          have Q5A : Hid (WA.cell? ⟨w.heap.size, 5, none⟩ = some (.slice (some ⟨bn, offn, none⟩) t.names.length cn)) := (hba.cell (p := ⟨w.heap.size, 5, none⟩) hltr).trans q5
          have PNA : Hid (WA.cell? ⟨bn, offn + m, none⟩ = some (.string (B s))) := (hba.cell (p := ⟨bn, offn + m, none⟩) hbnr).trans pn
          have hbnA : bn < WA.heap.size := Nat.lt_of_lt_of_le hbnr hba.size
          have KBX : Hid (∀ {wz : World}, Only sb WA wz → ∀ (j : Nat) v, (tcells k (.slice an' k.names.length cn') (.slice ak' k.kids.length ck'))[j]? = some v → wz.cell? ⟨wr.heap.size, j, none⟩ = some v) := by
            intro wz ho j v hv
            refine (ho.cell (by rw [hWA]; simp) (by omega)).trans ?_
            rw [hWA, cell_box]
            exact hv
          have hltA : w.heap.size < WA.heap.size := Nat.lt_of_lt_of_le hltr hba.size
          have HKID := Lib.hid hkid
          have HON := Lib.hid hon
          clear hrep hkid hcell hcl pc hon hba hsz hmk hname hncell
          simp only [tcells] at hWA HCALL KBX
          subst hWA
          by_cases hm0 : 0 < m
          · have hcm : hComma m y = (44 :: (blank y).1, (blank y).2) := by unfold hComma; rw [if_neg (by omega)]
            have HCM := Lib.hid hcm
            clear hcm
            go_wp2_with (first
              | (go_at_call 58; with_reducible refine (blank_any SA.out).mono ?_; rintro e2 w3 ⟨rfl, hs3, ho3⟩; have l3 := blank_length y; have q3 := (ho3.cell hltA (by omega)).trans QA.out; have q35 := (ho3.cell hltA (by omega)).trans Q5A.out; have pn3 := (ho3.cell hbnA (by omega)).trans PNA.out; have H3 := Lib.hid (And.intro hs3 ho3); clear hs3 ho3)
              | (go_at_call 59; with_reducible refine (text_any s H3.out.1 (by omega)).mono ?_; rintro e2 w4 ⟨rfl, hs4, ho4⟩; have l4 := hText_length s ((blank y).2); have H4 := Lib.hid (And.intro hs4 ((H3.out.2).trans ho4)); clear hs4 ho4)
              | (go_at_call 58; with_reducible refine (blank_any H4.out.1).mono ?_; rintro e2 w5 ⟨rfl, hs5, ho5⟩; have l5 := blank_length ((hText s ((blank y).2)).2); have H5 := Lib.hid (And.intro hs5 (H4.out.2.trans ho5)); clear hs5 ho5)
              | (go_at_call 58; with_reducible refine (blank_any H5.out.1).mono ?_; rintro e2 w6 ⟨rfl, hs6, ho6⟩; have l6 := blank_length ((blank ((hText s ((blank y).2)).2)).2); have H6 := Lib.hid (And.intro hs6 (H5.out.2.trans ho6)); have g0 := KBX.out H6.out.2 0 _ rfl; have g1 := KBX.out H6.out.2 1 _ rfl; have g2 := KBX.out H6.out.2 2 _ rfl; have g3 := KBX.out H6.out.2 3 _ rfl; have g4 := KBX.out H6.out.2 4 _ rfl; have g5 := KBX.out H6.out.2 5 _ rfl; have g6 := KBX.out H6.out.2 6 _ rfl; have B6 := Lib.hid (BA2.out.trans (H6.out.2.low hB (by omega))); clear hs6 ho6)
              | (go_at_call 63; with_reducible refine (HCALL.out H6.out.1 B6.out).mono ?_; rintro e2 w7 ⟨rfl, hs7, ho7⟩; have l7 := KL.out ((blank ((blank ((hText s ((blank y).2)).2)).2)).2); have H7 := Lib.hid (And.intro hs7 (H6.out.2.trans ho7)); clear hs7 ho7)
              | (go_at_call 58; with_reducible refine (blank_any H7.out.1).mono ?_; rintro e2 w8 ⟨rfl, hs8, ho8⟩; have l8 := blank_length ((hTree d k ((blank ((blank ((hText s ((blank y).2)).2)).2)).2)).2); have H8 := Lib.hid (And.intro hs8 (H7.out.2.trans ho8)); clear hs8 ho8))
            go_roundw
            case rel =>
              have hst := HS.out.step HKID.out (by rw [HCM.out, hKid_obj _ _ _ _ _ HDR.out]) (by rw [HCM.out, hKid_obj _ _ _ _ _ HDR.out]) H8.out.1 (OA.out.trans H8.out.2)
              refine ⟨m + 1, _, _, hst, by go_num, ?_⟩
              simp
            case measure => simp [intOf]; omega
          · have hcm : hComma m y = ([], y) := by unfold hComma; rw [if_pos (by omega)]
            have HCM := Lib.hid hcm
            clear hcm
            go_wp2_with (first
              | (go_at_call 59; with_reducible refine (text_any s SA.out (by omega)).mono ?_; rintro e2 w4 ⟨rfl, hs4, ho4⟩; have l4 := hText_length s (y); have H4 := Lib.hid (And.intro hs4 ho4); clear hs4 ho4)
              | (go_at_call 58; with_reducible refine (blank_any H4.out.1).mono ?_; rintro e2 w5 ⟨rfl, hs5, ho5⟩; have l5 := blank_length ((hText s (y)).2); have H5 := Lib.hid (And.intro hs5 (H4.out.2.trans ho5)); clear hs5 ho5)
              | (go_at_call 58; with_reducible refine (blank_any H5.out.1).mono ?_; rintro e2 w6 ⟨rfl, hs6, ho6⟩; have l6 := blank_length ((blank ((hText s (y)).2)).2); have H6 := Lib.hid (And.intro hs6 (H5.out.2.trans ho6)); have g0 := KBX.out H6.out.2 0 _ rfl; have g1 := KBX.out H6.out.2 1 _ rfl; have g2 := KBX.out H6.out.2 2 _ rfl; have g3 := KBX.out H6.out.2 3 _ rfl; have g4 := KBX.out H6.out.2 4 _ rfl; have g5 := KBX.out H6.out.2 5 _ rfl; have g6 := KBX.out H6.out.2 6 _ rfl; have B6 := Lib.hid (BA2.out.trans (H6.out.2.low hB (by omega))); clear hs6 ho6)
              | (go_at_call 63; with_reducible refine (HCALL.out H6.out.1 B6.out).mono ?_; rintro e2 w7 ⟨rfl, hs7, ho7⟩; have l7 := KL.out ((blank ((blank ((hText s (y)).2)).2)).2); have H7 := Lib.hid (And.intro hs7 (H6.out.2.trans ho7)); clear hs7 ho7)
              | (go_at_call 58; with_reducible refine (blank_any H7.out.1).mono ?_; rintro e2 w8 ⟨rfl, hs8, ho8⟩; have l8 := blank_length ((hTree d k ((blank ((blank ((hText s (y)).2)).2)).2)).2); have H8 := Lib.hid (And.intro hs8 (H7.out.2.trans ho8)); clear hs8 ho8))
            go_roundw
            case rel =>
              have hst := HS.out.step HKID.out (by rw [HCM.out, hKid_obj _ _ _ _ _ HDR.out]) (by rw [HCM.out, hKid_obj _ _ _ _ _ HDR.out]) H8.out.1 (OA.out.trans H8.out.2)
              refine ⟨m + 1, _, _, hst, by go_num, ?_⟩
              simp
            case measure => simp [intOf]; omega
        · obtain rfl : m = t.kids.length := by have := HS.out.le; omega
          have he := HS.out.eq
          rw [hFrom_end _ _ _ _ _ _ (Nat.le_refl _), HRES.out] at he
          have HE2 := Lib.hid he
          clear he
          go_wp2
          go_ret
          have h1 := congrArg Prod.fst HE2.out
          have h2 := congrArg Prod.snd HE2.out
          simp only [List.nil_append] at h1 h2
          rw [h1, h2]
          exact ⟨rfl, HS.out.st, HO2.out.trans HS.out.only⟩
    · have HE := Lib.hid (hTree_list (d := d) (x := x) hk hk5)
      have hkk : ((t.kind : Int) == 5) = false := by rw [beq_eq_false_iff_ne]; omega
      have hd : decide ((t.kind : Int) < 4) = false := by simp; omega
      clear hms hnames hkids hlen ih hk hk5 z1 z2 z3 z4 z5 z6
      rw [HE.out]
      simp only [tcells] at H1 HO HB1 HBL ⊢
      go_enter Tryz.func63, Tryz.ntmps63
      go_upto_region 6 with (fail)
      go_region_with (go_at_call 58; refine HBL.out.mono ?_; rintro e2 w2 ⟨rfl, hs2, ho2⟩; have H2 := Lib.hid (And.intro hs2 ho2); clear hs2 ho2)
      have HBX := Lib.hid (box_cells hsb H2.out.2)
      have hlt2 : w.heap.size < w2.heap.size := Nat.lt_of_lt_of_le (by show w.heap.size < (w.alloc _).heap.size; simp) H2.out.2.size
      have HT0 : Hid (TreeSt (hTree d) false t.names t.kids (hTree (d + 1) t x) [93] sb w2 0 (blank x).2 (91 :: (blank x).1) w2) := ⟨Nat.zero_le _, H2.out.1, Only.refl _ _, by rw [HE.out]; simp [hFrom]⟩
      have HO2 := Lib.hid ((HO.out.drew).trans H2.out.2)
      have HRES : Hid (hTree (d + 1) t x = (91 :: ((blank x).1 ++ ((hKids (hTree d) false t.names t.kids (blank x).2).1 ++ [93])), (hKids (hTree d) false t.names t.kids (blank x).2).2)) := HE.out
      clear H2 HBL HE
      have q6 := HBX.out 6 _ rfl
      go_wp2
      clear q6
      go_loopw [6, 36] (fun o i wr => ∃ (m y : Nat) (u : Bs), Hid (TreeSt (hTree d) false t.names t.kids (hTree (d + 1) t x) [93] sb w2 m y u wr) ∧ i = .int .i64 m ∧ o = .string (B u)) (fun _ i _ => t.kids.length - (intOf i).toNat)
      case atStart => exact ⟨0, _, _, HT0, rfl, rfl⟩
      case round =>
        clear HT0
        obtain ⟨m, y, u, HS, rfl, rfl⟩ := hrel
        have hul : u.length ≤ 400000000 := by
          have h1 := HLN.out x
          rw [HS.out.eq] at h1
          simp only [List.length_append] at h1
          omega
        by_cases hlt : m < t.kids.length
        · obtain ⟨b, off, hbo, hbB, hcell⟩ : ∃ b off, ak = some ⟨b, off, none⟩ ∧ b < B0 ∧ ∀ (i : Nat) k, t.kids[i]? = some k → ∃ nv kv, RepT w B0 d nv kv k ∧ ∀ (j : Nat) u, (tcells k nv kv)[j]? = some u → w.cell? ⟨b, off + i * 7 + j, none⟩ = some u := by
            rcases HK.out with ⟨a, c, e, hnil⟩ | ⟨b, off, c, e, h1, h2⟩
            · rw [hnil] at hlt; simp at hlt
            · cases e; exact ⟨b, off, rfl, h1, h2⟩
          subst hbo
          obtain ⟨k, hkid⟩ : ∃ k, t.kids[m]? = some k := ⟨_, List.getElem?_eq_getElem hlt⟩
          obtain ⟨nv', kv', hrep, hcl⟩ := hcell m k hkid
          have hon := HO2.out.trans HS.out.only
          have pc : ∀ (j : Nat) u, (tcells k nv' kv')[j]? = some u → wr.cell? ⟨b, off + m * 7 + j, none⟩ = some u := fun j u hj => (hon.cell (by omega) (by omega)).trans (hcl j u hj)
          have p0 := pc 0 _ rfl
          have p1 := pc 1 _ rfl
          have p2 := pc 2 _ rfl
          have p3 := pc 3 _ rfl
          have p4 := pc 4 _ rfl
          have p5 := pc 5 _ rfl
          have p6 := pc 6 _ rfl
          rw [Nat.add_zero] at p0
          obtain ⟨⟨an', cn', rfl⟩, ak', ck', rfl⟩ := hrep.slices
          have q0 : wr.cell? ⟨w.heap.size, 0, none⟩ = some (.int .u8 t.kind) := (HS.out.only.cell hlt2 (by omega)).trans (HBX.out 0 _ rfl)
          have hltr : w.heap.size < wr.heap.size := Nat.lt_of_lt_of_le hlt2 HS.out.only.size
          obtain ⟨mk, hmk, hsz⟩ := HM.out.of_mem k (List.mem_of_getElem? hkid)
          have hmk2 : mk ≤ 1000 := by have := mem_sum hmk; omega
          have KL : Hid (∀ z, (hTree d k z).1.length ≤ 400000000) := fun z => by have := tree_length d k _ _ hsz z; omega
          have HB2 : Hid (Below B0 w wr) := hon.low hB (by omega)
          have HCALL : Hid (∀ {wz : World} {z : Nat}, StyleAt sb wz z → Below B0 w wz → Calls Tryz.prog 63 #[.pointer (some ⟨sb, 0, none⟩), .agg (tcells k (.slice an' k.names.length cn') (.slice ak' k.kids.length ck')).toArray] wz fun e w' => e = .returned (.string (B (hTree d k z).1)) ∧ StyleAt sb w' (hTree d k z).2 ∧ Only sb wz w') :=
            fun {wz z} h1 h2 => HIH.out (hrep.below h2) hsz hmk2 h1 hB
          obtain ⟨WA, hWA⟩ : ∃ WA, WA = wr.alloc (.cells (tcells k (.slice an' k.names.length cn') (.slice ak' k.kids.length ck')).toArray 45) := ⟨_, rfl⟩
          have hba : Below wr.heap.size wr WA := by rw [hWA]; exact (Below.refl _ _).alloc (Nat.le_refl _) _
          have SA := Lib.hid (HS.out.st.below hba)
          have OA := Lib.hid (Only.below (sb := sb) hba)
          have BA2 : Hid (Below B0 w WA) := HB2.out.trans (hba.mono (by have := HB2.out.size; omega))
          have QA : Hid (WA.cell? ⟨w.heap.size, 0, none⟩ = some (.int .u8 t.kind)) := (hba.cell (p := ⟨w.heap.size, 0, none⟩) hltr).trans q0
          have KBX : Hid (∀ {wz : World}, Only sb WA wz → ∀ (j : Nat) v, (tcells k (.slice an' k.names.length cn') (.slice ak' k.kids.length ck'))[j]? = some v → wz.cell? ⟨wr.heap.size, j, none⟩ = some v) := by
            intro wz ho j v hv
            refine (ho.cell (by rw [hWA]; simp) (by omega)).trans ?_
            rw [hWA, cell_box]
            exact hv
          have hltA : w.heap.size < WA.heap.size := Nat.lt_of_lt_of_le hltr hba.size
          have HKID := Lib.hid hkid
          have HON := Lib.hid hon
          clear hrep hkid hcell hcl pc hon hba hsz hmk
          simp only [tcells] at hWA HCALL KBX
          subst hWA
          by_cases hm0 : 0 < m
          · have hcm : hComma m y = (44 :: (blank y).1, (blank y).2) := by unfold hComma; rw [if_neg (by omega)]
            have HCM := Lib.hid hcm
            clear hcm
            go_wp2_with (first
              | (go_at_call 58; with_reducible refine (blank_any SA.out).mono ?_; rintro e2 w3 ⟨rfl, hs3, ho3⟩; have l3 := blank_length y; have q3 := (ho3.cell hltA (by omega)).trans QA.out; have g0 := KBX.out ho3 0 _ rfl; have g1 := KBX.out ho3 1 _ rfl; have g2 := KBX.out ho3 2 _ rfl; have g3 := KBX.out ho3 3 _ rfl; have g4 := KBX.out ho3 4 _ rfl; have g5 := KBX.out ho3 5 _ rfl; have g6 := KBX.out ho3 6 _ rfl; have B3 := Lib.hid (BA2.out.trans (ho3.low hB (by omega))); have H3 := Lib.hid (And.intro hs3 ho3); clear hs3 ho3)
              | (go_at_call 63; with_reducible refine (HCALL.out H3.out.1 B3.out).mono ?_; rintro e2 w4 ⟨rfl, hs4, ho4⟩; have l4 := KL.out (blank y).2; have H4 := Lib.hid (And.intro hs4 ho4); clear hs4 ho4)
              | (go_at_call 58; with_reducible refine (blank_any H4.out.1).mono ?_; rintro e2 w5 ⟨rfl, hs5, ho5⟩; have l5 := blank_length (hTree d k (blank y).2).2; have H5 := Lib.hid (And.intro hs5 ho5); clear hs5 ho5))
            go_roundw
            case rel =>
              have hst := HS.out.step HKID.out (by rw [HCM.out, hKid_list]) (by rw [HCM.out, hKid_list]) H5.out.1 (((OA.out.trans H3.out.2).trans H4.out.2).trans H5.out.2)
              refine ⟨m + 1, _, _, hst, by go_num, ?_⟩
              simp
            case measure => simp [intOf]; omega
          · have hcm : hComma m y = ([], y) := by unfold hComma; rw [if_pos (by omega)]
            have HCM := Lib.hid hcm
            clear hcm
            go_wp2_with (first
              | (go_at_call 63; with_reducible refine (HCALL.out SA.out BA2.out).mono ?_; rintro e2 w4 ⟨rfl, hs4, ho4⟩; have l4 := KL.out y; have H4 := Lib.hid (And.intro hs4 ho4); clear hs4 ho4)
              | (go_at_call 58; with_reducible refine (blank_any H4.out.1).mono ?_; rintro e2 w5 ⟨rfl, hs5, ho5⟩; have l5 := blank_length (hTree d k y).2; have H5 := Lib.hid (And.intro hs5 ho5); clear hs5 ho5))
            go_roundw
            case rel =>
              have hst := HS.out.step HKID.out (by rw [HCM.out, hKid_list]) (by rw [HCM.out, hKid_list]) H5.out.1 ((OA.out.trans H4.out.2).trans H5.out.2)
              refine ⟨m + 1, _, _, hst, by go_num, ?_⟩
              simp
            case measure => simp [intOf]; omega
        · obtain rfl : m = t.kids.length := by have := HS.out.le; omega
          have he := HS.out.eq
          rw [hFrom_end _ _ _ _ _ _ (Nat.le_refl _), HRES.out] at he
          have HE2 := Lib.hid he
          clear he
          go_wp2
          go_ret
          have h1 := congrArg Prod.fst HE2.out
          have h2 := congrArg Prod.snd HE2.out
          simp only [List.nil_append] at h1 h2
          rw [h1, h2]
          exact ⟨rfl, HS.out.st, HO2.out.trans HS.out.only⟩
end Go.Proofs.YtppkpcijmfdfmaaGreatDoor

/- The walk of HeadPrint: a tree's whole text. -/
namespace Go.Proofs.YtppkpcijmfdfmaaGreatDoor
open Go.RowKit
attribute [local go_sem] B_size B_get B_lit B_ext_to B_ext B_toList B_app
variable {N M : Nat}

theorem tree_any : ∀ (d : Nat) {t : HT} {nv kv : Value} {deep n sb x B0 : Nat} {w : World}, RepT w B0 d nv kv t → Sized N M d t deep n → n ≤ 1000 → StyleAt sb w x → B0 ≤ sb →
      Calls Tryz.prog 63 #[.pointer (some ⟨sb, 0, none⟩), .agg (tcells t nv kv).toArray] w fun e w' => e = .returned (.string (B (hTree d t x).1)) ∧ StyleAt sb w' (hTree d t x).2 ∧ Only sb w w'
  | 0, _, _, _, _, _, _, _, _, _, h, _, _, _, _ => h.elim
  | d + 1, _, _, _, _, _, _, _, _, _, hr, hz, hn, hs, hB => tree_step (fun a b c e f => tree_any d a b c e f) hr hz hn hs hB

set_option maxRecDepth 100000 in
set_option maxHeartbeats 4000000 in
theorem print_any {d : Nat} {t : HT} {nv kv : Value} {n x B0 : Nat} {w : World} (hr : RepT w B0 d nv kv t) (hz : Sized N M d t 1 n) (hn : n ≤ 1000) (hB : B0 ≤ w.heap.size) (hx : x < 18446744073709551616) :
    Calls Tryz.prog 31 #[.agg (tcells t nv kv).toArray, .int .u64 x] w fun e w' => e = .returned (.string (B (hPrint d t x))) ∧ Below w.heap.size w w' := by
  obtain ⟨⟨an, cn, rfl⟩, ak, ck, rfl⟩ := hr.slices
  obtain ⟨w1, hw1⟩ : ∃ w1, w1 = (w.alloc (.cells (tcells t (.slice an t.names.length cn) (.slice ak t.kids.length ck)).toArray 45)).alloc (.cells [Value.int .u64 (x : Int)].toArray 99) := ⟨_, rfl⟩
  have hb1 : Below w.heap.size w w1 := by rw [hw1]; exact ((Below.refl _ _).alloc (Nat.le_refl _) _).alloc (by simp) _
  have hsz1 : (w.alloc (.cells (tcells t (.slice an t.names.length cn) (.slice ak t.kids.length ck)).toArray 45)).heap.size = w.heap.size + 1 := by simp
  have hs1 : StyleAt (w.heap.size + 1) w1 x := by
    refine ⟨?_, ?_, ?_, hx⟩
    · rw [hw1, ← hsz1, cell_box]; rfl
    · rw [hw1, ← hsz1]
      unfold World.frozen?
      rw [show ((w.alloc (.cells (tcells t (.slice an t.names.length cn) (.slice ak t.kids.length ck)).toArray 45)).alloc (.cells [Value.int .u64 (x : Int)].toArray 99)).heap[(w.alloc (.cells (tcells t (.slice an t.names.length cn) (.slice ak t.kids.length ck)).toArray 45)).heap.size]? = some (.cells [Value.int .u64 (x : Int)].toArray 99) from heap_alloc_new _ _]
      rfl
    · rw [hw1]; simp
  have TBX : Hid (∀ {wz : World}, Only (w.heap.size + 1) w1 wz → ∀ (j : Nat) v, (tcells t (.slice an t.names.length cn) (.slice ak t.kids.length ck))[j]? = some v → wz.cell? ⟨w.heap.size, j, none⟩ = some v) := by
    intro wz ho j v hv
    refine (ho.cell (by rw [hw1]; simp; omega) (by omega)).trans ?_
    rw [hw1]
    refine ((((Below.refl (w.heap.size + 1) _).alloc (by simp) _).cell (p := ⟨w.heap.size, j, none⟩) (by show w.heap.size < _; omega))).trans ?_
    rw [cell_box]
    exact hv
  have KT : Hid (∀ {wz : World} {z : Nat}, StyleAt (w.heap.size + 1) wz z → Only (w.heap.size + 1) w1 wz → Calls Tryz.prog 63 #[.pointer (some ⟨w.heap.size + 1, 0, none⟩), .agg (tcells t (.slice an t.names.length cn) (.slice ak t.kids.length ck)).toArray] wz fun e w' => e = .returned (.string (B (hTree d t z).1)) ∧ StyleAt (w.heap.size + 1) w' (hTree d t z).2 ∧ Only (w.heap.size + 1) wz w') := by
    intro wz z h1 h2
    have hb2 : Below B0 w wz := (hb1.mono hB).trans (h2.low (by omega) (Nat.le_trans hB hb1.size))
    exact tree_any d (hr.below hb2) hz hn h1 (by omega)
  have HL := Lib.hid (tree_length d t 1 n hz)
  have hbl := blank_length x
  have htl := HL.out (blank x).2
  have hbl2 := blank_length (hTree d t (blank x).2).2
  have H1 := Lib.hid hs1.drew
  have HB1 := Lib.hid hb1
  have END : Hid (∀ {wz : World}, Only (w.heap.size + 1) w1 wz → Below w.heap.size w wz) := fun h => HB1.out.trans (h.low (by omega) HB1.out.size)
  clear hs1 hb1 hr hz hsz1 HL
  simp only [tcells] at hw1 KT TBX
  subst hw1
  simp only [tcells]
  go_enter Tryz.func31, Tryz.ntmps31
  go_upto_region 2 with (fail)
  go_region_with (first
    | (go_at_call 58; with_reducible refine (blank_any H1.out).mono ?_; rintro e2 w3 ⟨rfl, hs3, ho3⟩; have H3 := Lib.hid (And.intro hs3 ((Only.refl _ _).drew.trans ho3)); have g0 := TBX.out H3.out.2 0 _ rfl; have g1 := TBX.out H3.out.2 1 _ rfl; have g2 := TBX.out H3.out.2 2 _ rfl; have g3 := TBX.out H3.out.2 3 _ rfl; have g4 := TBX.out H3.out.2 4 _ rfl; have g5 := TBX.out H3.out.2 5 _ rfl; have g6 := TBX.out H3.out.2 6 _ rfl; clear hs3 ho3)
    | (go_at_call 63; with_reducible refine (KT.out H3.out.1 H3.out.2).mono ?_; rintro e2 w4 ⟨rfl, hs4, ho4⟩; have H4 := Lib.hid (And.intro hs4 (H3.out.2.trans ho4)); clear hs4 ho4)
    | (go_at_call 58; with_reducible refine (blank_any H4.out.1).mono ?_; rintro e2 w5 ⟨rfl, hs5, ho5⟩; have H5 := Lib.hid (H4.out.2.trans ho5); clear hs5 ho5))
  all_goals
    go_wp2
    go_ret
    exact ⟨rfl, END.out H5.out⟩
end Go.Proofs.YtppkpcijmfdfmaaGreatDoor
