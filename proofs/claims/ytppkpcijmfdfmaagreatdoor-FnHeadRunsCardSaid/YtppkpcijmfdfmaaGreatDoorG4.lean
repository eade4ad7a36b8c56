/- The walk of HeadTexts; what headTold gives, in plain words. -/
import Derived.Test.YtppkpcijmfdfmaaGreatDoorW174
import Derived.Test.YtppkpcijmfdfmaaGreatDoorG2
import Derived.Test.YtppkpcijmfdfmaaGreatDoorH1
import Derived.Handy
set_option linter.unusedVariables false
set_option linter.unusedSimpArgs false
set_option linter.unusedVariables false
set_option linter.unusedSimpArgs false
namespace Go.Proofs.YtppkpcijmfdfmaaGreatDoor
open Go.RowKit
attribute [local go_sem] B_size B_get B_lit B_ext_to B_ext B_toList B_app

theorem wpList_append_oneN {w : World} {ops : Array Oper} {rest : List Oper} {o : Oper} {a : Act} {Q : Exit → Act → World → Prop} (hgd : o.guard = none) (s x : Operand)
    (ho : o.op = .call { callee := .builtin .append, args := #[s, x], argTypes := #[29, 29] }) {base : Nat} {v : Value} {l : List Bs} (h : RowN base w v l) (hs : a.eval s = v) (b : Nat) (m : Bs) (hx : a.eval x = .slice (some ⟨b, 0, none⟩) 1 1) (hc : w.cell? ⟨b, 0, none⟩ = some (.string (B m))) (hl : l.length < 1000000) (hb : base ≤ w.heap.size)
    (hK : ∀ g cap w', OwnG base w' g cap (l ++ [m]) → w.grownBy w' v.ownBlock → wpList Tryz.prog ops Q rest (a.put o.dst (.slice (some ⟨g, 0, none⟩) (l ++ [m]).length cap)) w') : wpList Tryz.prog ops Q (o :: rest) a w := by
  obtain ⟨g', cap', w', h1, h2, h3⟩ := append_oneN o.type h hc hl hb
  exact Lib.wpList_append_run w hgd s x 29 29 ho _ _ hs hx _ _ h1 (hK g' cap' w' h2 h3)
theorem RowN.own {base : Nat} {w : World} {v : Value} {l : List Bs} (h : RowN base w v l) (k : Nat) (hk : v.ownBlock = some k) : base ≤ k := by
  rcases h.form with ⟨rfl, _⟩ | ⟨g, cap, rfl, ho⟩
  · cases hk
  · cases hk; exact ho.base
theorem RowN.ns {base : Nat} {w : World} {v : Value} {l : List Bs} (h : RowN base w v l) : NS w v l := by
  rcases h.form with ⟨rfl, rfl⟩ | ⟨g, cap, rfl, ho⟩
  · exact Or.inl ⟨none, 0, rfl, rfl⟩
  · exact ho.ns
theorem RowN.keepTo {base : Nat} {w z : World} {v : Value} {l : List Bs} (h : RowN base w v l) (hk : ∀ b, base ≤ b → z.heap[b]? = w.heap[b]?) : NS z v l := by
  rcases h.form with ⟨rfl, rfl⟩ | ⟨g, cap, rfl, ho⟩
  · exact Or.inl ⟨none, 0, rfl, rfl⟩
  · exact (ho.keep (hk g ho.base)).ns
/-- What HeadTexts gives. -/
def TextsR (base : Nat) (w' : World) (c : HT) (e : Ending) : Prop :=
  ((c.kind = 4 ∧ ∀ x ∈ c.kids, x.kind = 3) ∧ ∃ lv, e = .returned (.tuple #[lv, .bool true]) ∧ RowN base w' lv (c.kids.map (·.text))) ∨ (¬ (c.kind = 4 ∧ ∀ x ∈ c.kids, x.kind = 3) ∧ e = .returned (.tuple #[.slice none 0 0, .bool false]))
set_option maxRecDepth 100000 in
set_option maxHeartbeats 4000000 in
theorem headTexts_any {d B0 : Nat} {c : HT} {nv kv : Value} {w : World} (hr : RepT w B0 (d + 1) nv kv c) (hB : B0 ≤ w.heap.size) (hlen : c.kids.length ≤ 900000) :
    Calls Tryz.prog 77 #[.agg (tcells c nv kv).toArray] w fun e w' => TextsR w.heap.size w' c e ∧ Below w.heap.size w w' := by
  obtain ⟨⟨an, cn, rfl⟩, ak, ck, rfl⟩ := hr.slices
  obtain ⟨ps, hrp, hkr⟩ := KidsB.krow hr.2.2 hB
  have HR := Lib.hid (And.intro hrp hkr)
  clear hr hrp hkr
  simp only [tcells]
  by_cases h4 : c.kind = 4
  · rw [h4, show ((4 : Nat) : Int) = 4 from rfl]
    have H4 := Lib.hid h4
    clear h4
    go_enter Tryz.func77, Tryz.ntmps77
    go_wp2
    go_loopw [4, 13] (fun ov q wr => ∃ i : Nat, i ≤ c.kids.length ∧ Hid (RowN w.heap.size wr ov ((c.kids.map (·.text)).take i) ∧ Below w.heap.size w wr ∧ ∀ x ∈ c.kids.take i, x.kind = 3) ∧ q = .int .i64 i) (fun _ q _ => c.kids.length - (intOf q).toNat)
    case atStart => exact ⟨0, by omega, ⟨⟨rfl, Or.inl ⟨rfl, rfl⟩⟩, (Below.refl _ _).alloc (Nat.le_refl _) _, fun x hx => by simp at hx⟩, rfl⟩
    case round =>
      obtain ⟨i, hi, HS, rfl⟩ := hrel
      by_cases hlt : i < c.kids.length
      · obtain ⟨x, hx⟩ : ∃ x, c.kids[i]? = some x := ⟨_, List.getElem?_eq_getElem hlt⟩
        obtain ⟨p, hp⟩ : ∃ p, ps[i]? = some p := ⟨ps[i]'(by rw [← HR.out.1.1]; exact hlt), List.getElem?_eq_getElem _⟩
        obtain ⟨⟨a1, c1, e1⟩, a2, c2, e2⟩ := (HR.out.1.2 i x p hx hp).slices
        obtain ⟨b, off, rfl, hbl, hbc⟩ : ∃ b off, ak = some ⟨b, off, none⟩ ∧ b < w.heap.size ∧ ∀ (j : Nat) u, (flatK c.kids ps)[j]? = some u → w.cell? ⟨b, off + j, none⟩ = some u := by
          rcases HR.out.2.2 with ⟨_, _, _, e⟩ | ⟨b, off, cc, e, h1, h2⟩
          · rw [e] at hlt; simp at hlt
          · cases e; exact ⟨b, off, rfl, h1, h2⟩
        have hcell : ∀ (j : Nat) u, (tcells x (.slice a1 x.names.length c1) (.slice a2 x.kids.length c2))[j]? = some u → wr.cell? ⟨b, off + i * 7 + j, none⟩ = some u := by
          intro j u hu
          have hj : j < 7 := (List.getElem?_eq_some_iff.1 hu).1
          refine (HS.out.2.1.cell (p := ⟨b, off + i * 7 + j, none⟩) hbl).trans ?_
          rw [Nat.add_assoc]
          refine hbc _ u ((flatK_get hx hp j hj).trans ?_)
          rw [e1, e2]
          exact hu
        have k0 : wr.cell? ⟨b, off + i * 7, none⟩ = some (.int .u8 x.kind) := hcell 0 _ rfl
        have k1 := hcell 1 _ rfl
        have k2 := hcell 2 _ rfl
        have k3 := hcell 3 _ rfl
        have k4 := hcell 4 _ rfl
        have k5 := hcell 5 _ rfl
        have k6 := hcell 6 _ rfl
        have HX := Lib.hid hx
        clear hcell hbc hx hp e1 e2
        by_cases h3 : x.kind = 3
        · have f3 : ((x.kind : Int) == 3) = true := by rw [beq_iff_eq]; omega
          have HL : Hid (((c.kids.map (·.text)).take i).length < 1000000) := Lib.hid (by rw [List.length_take, List.length_map]; omega)
          have H3 := Lib.hid h3
          clear h3
          go_wp2_with (at_builtin; refine wpList_append_oneN rfl (.tmp 20) (.tmp 23) rfl (HS.out.1.below (by go_grown)) rfl _ x.text rfl ?hcell HL.out (by have := HS.out.2.1.size; simp only [World.size_alloc]; omega) ?_)
          case hcell => rw [← size_of_alloc wr]; exact oneBox _ _
          intro g cap w5 hown hgr
          have HN : Hid (RowN w.heap.size w5 (.slice (some ⟨g, 0, none⟩) (i + 1) cap) ((c.kids.map (·.text)).take (i + 1)) ∧ Below w.heap.size w w5 ∧ ∀ y ∈ c.kids.take (i + 1), y.kind = 3) := by
            have e : c.kids.take (i + 1) = c.kids.take i ++ [x] := by rw [List.take_add_one, HX.out]; rfl
            refine ⟨?_, ?_, fun y hy => ?_⟩
            · have e' : (c.kids.map (·.text)).take (i + 1) = (c.kids.map (·.text)).take i ++ [x.text] := by rw [List.take_add_one, List.getElem?_map, HX.out]; rfl
              have el : (((c.kids.map (·.text)).take i) ++ [x.text]).length = i + 1 := by rw [List.length_append, List.length_take, List.length_map, List.length_singleton]; omega
              rw [e', ← el]; exact hown
            · exact ((HS.out.2.1.alloc HS.out.2.1.size _).alloc (by have := HS.out.2.1.size; simp only [World.size_alloc]; omega) _).grown hgr (by have := HS.out.2.1.size; simp only [World.size_alloc]; omega) (fun k hk => HS.out.1.own k hk)
            · rw [e] at hy
              rcases List.mem_append.1 hy with hy | hy
              · exact HS.out.2.2 y hy
              · rw [List.mem_singleton.1 hy]; exact H3.out
          clear hown hgr
          go_wp2
          go_roundw
          case rel => exact ⟨i + 1, by omega, HN, by go_num⟩
          case measure => simp [intOf]; omega
        · have f3 : ((x.kind : Int) == 3) = false := by rw [beq_eq_false_iff_ne]; omega
          have H3 := Lib.hid h3
          clear h3
          go_wp2
          go_ret2
          refine ⟨Or.inr ⟨fun h => H3.out (h.2 x (List.mem_of_getElem? HX.out)), rfl⟩, ?_⟩
          exact HS.out.2.1.alloc HS.out.2.1.size _
      · obtain rfl : i = c.kids.length := by omega
        have HD := HS.out
        rw [List.take_length, List.take_of_length_le (by rw [List.length_map]; exact Nat.le_refl _)] at HD
        have HD2 := Lib.hid HD
        clear HD
        go_wp2
        go_ret2
        exact ⟨Or.inl ⟨⟨H4.out, HD2.out.2.2⟩, _, rfl, HD2.out.1⟩, HD2.out.2.1⟩
  · have f4 : ((c.kind : Int) == 4) = false := by rw [beq_eq_false_iff_ne]; omega
    have H4 := Lib.hid h4
    clear h4
    go_enter Tryz.func77, Tryz.ntmps77
    go_wp2
    go_ret2
    exact ⟨Or.inr ⟨fun h => H4.out h.1, rfl⟩, by go_grown⟩
end Go.Proofs.YtppkpcijmfdfmaaGreatDoor

/- The walk of headTold: a theorem for each kind of question. Printed by gen_w176.py. -/
set_option linter.unusedVariables false
set_option linter.unusedSimpArgs false
namespace Go.Proofs.YtppkpcijmfdfmaaGreatDoor
open Go.RowKit
attribute [local go_sem] run_store_float B_size B_get B_lit B_ext_to B_ext B_toList B_app

/-- The answer that headTold gives. -/
def goldT (k : Option HT) (q : Nat) : Told :=
  match k with
  | none => Told.zero
  | some t =>
    if q = 0 then { Told.zero with ok := true }
    else if q = 1 ∨ q = 2 then (if t.kind = 3 then { Told.zero with ok := true, text := t.text } else Told.zero)
    else if q = 3 then (if t.kind = 1 then { Told.zero with ok := true, is := t.is } else Told.zero)
    else if q = 4 ∨ q = 8 then { Told.zero with ok := (goldI t.kind t.minus t.num).isSome, int := (goldI t.kind t.minus t.num).getD 0 }
    else if q = 5 ∨ q = 9 then { Told.zero with ok := (goldU t.kind t.minus t.num).isSome, uint := (goldU t.kind t.minus t.num).getD 0 }
    else if q = 6 then { Told.zero with ok := decide (t.kind = 2), fl := floatOfInt .f64 ((goldI t.kind t.minus t.num).getD 0) }
    else if q = 7 then (if t.kind = 4 ∧ ∀ x ∈ t.kids, x.kind = 3 then { Told.zero with ok := true, list := t.kids.map (·.text) } else Told.zero)
    else Told.zero
def ToldR (k : Option HT) (q : Nat) (w : World) (e : Ending) (w' : World) : Prop :=
  ∃ lv, e = .returned (.agg ((goldT k q).cells lv).toArray) ∧ NS w' lv (goldT k q).list ∧ Below w.heap.size w w'
theorem NS.nil (w : World) : NS w (.slice none 0 0) [] := Or.inl ⟨none, 0, rfl, rfl⟩
abbrev Zero51 : List Value := [.bool false, .string (B []), .bool false, .int .i64 0, .int .u64 0, .float .f64 0, .slice none 0 0]
theorem told_boxes {w w2 : World} {a b c : Obj} (hb : Below (((w.alloc a).alloc b).alloc c).heap.size (((w.alloc a).alloc b).alloc c) w2) : w2.heap[w.heap.size + 1]? = some b ∧ w2.heap[w.heap.size + 1 + 1]? = some c ∧ Below w.heap.size w w2 := by
  have e1 : (w.alloc a).heap.size = w.heap.size + 1 := by simp
  have e2 : ((w.alloc a).alloc b).heap.size = w.heap.size + 1 + 1 := by simp
  refine ⟨blk_below hb (blk_alloc ?_), blk_below hb ?_, Below.to_next (Below.to_alloc (Below.to_alloc (Below.to_alloc (Below.refl _ _) _) _) _) hb⟩
  · rw [← e1]; exact heap_alloc_new _ _
  · rw [← e2]; exact heap_alloc_new _ _
theorem told_kid {w w2 : World} {a b : Obj} (hb : Below ((w.alloc a).alloc b).heap.size ((w.alloc a).alloc b) w2) : w2.heap[w.heap.size]? = some a ∧ w2.heap[w.heap.size + 1]? = some b ∧ Below w.heap.size w w2 := by
  have e1 : (w.alloc a).heap.size = w.heap.size + 1 := by simp
  refine ⟨blk_below hb (blk_alloc (heap_alloc_new _ _)), blk_below hb ?_, Below.to_next (Below.to_alloc (Below.to_alloc (Below.refl _ _) _) _) hb⟩
  rw [← e1]; exact heap_alloc_new _ _
theorem letterW {P : Program} {code : Code} {Q : Exit → Act → World → Prop} {a : Act} {X : World} (h : ∀ x, x = X → Code.wp P code Q a x) : Code.wp P code Q a X := h X rfl
theorem letterB {P : Program} {fn : Func} {R : Ending → World → Prop} {ex : Exit} {a : Act} {X : World} (h : ∀ x, x = X → bodyPost P fn R ex a x) : bodyPost P fn R ex a X := h X rfl
theorem cell_set {y : World} {b i : Nat} {u : Value} (h : (y.cell? ⟨b, i, none⟩).isSome = true) (k : Nat) : (y.setCell ⟨b, i, none⟩ u).cell? ⟨b, k, none⟩ = if k = i then some u else y.cell? ⟨b, k, none⟩ := by
  by_cases e : k = i
  · subst e
    obtain ⟨v, hv⟩ := Option.isSome_iff_exists.1 h
    rw [if_pos rfl]
    exact World.cell?_setCell_same _ _ _ hv
  · rw [if_neg e]
    exact World.cell?_setCell_other _ _ _ _ (by intro e'; cases e'; exact e rfl)
theorem set7 {x : World} {b : Nat} {c0 c1 c2 c3 c4 c5 c6 : Value} (h : ∀ j, j < 7 → (x.cell? ⟨b, j, none⟩).isSome = true) :
    ∀ (j : Nat) u, [c0, c1, c2, c3, c4, c5, c6][j]? = some u → (((((((x.setCell ⟨b, 0, none⟩ c0).setCell ⟨b, 1, none⟩ c1).setCell ⟨b, 2, none⟩ c2).setCell ⟨b, 3, none⟩ c3).setCell ⟨b, 4, none⟩ c4).setCell ⟨b, 5, none⟩ c5).setCell ⟨b, 6, none⟩ c6).cell? ⟨b, j, none⟩ = some u := by
  have g : ∀ (y : World) i u, (∀ j, j < 7 → (y.cell? ⟨b, j, none⟩).isSome = true) → i < 7 → ∀ j, j < 7 → ((y.setCell ⟨b, i, none⟩ u).cell? ⟨b, j, none⟩).isSome = true := by
    intro y i u hy hi j hj
    rw [cell_set (hy i hi)]
    split
    · rfl
    · exact hy j hj
  have h1 := g x 0 c0 h (by decide)
  have h2 := g _ 1 c1 h1 (by decide)
  have h3 := g _ 2 c2 h2 (by decide)
  have h4 := g _ 3 c3 h3 (by decide)
  have h5 := g _ 4 c4 h4 (by decide)
  have h6 := g _ 5 c5 h5 (by decide)
  intro j u hu
  have hj : j < 7 := (List.getElem?_eq_some_iff.1 hu).1
  rw [cell_set (h6 6 (by decide)), cell_set (h5 5 (by decide)), cell_set (h4 4 (by decide)), cell_set (h3 3 (by decide)), cell_set (h2 2 (by decide)), cell_set (h1 1 (by decide)), cell_set (h 0 (by decide))]
  obtain e | e | e | e | e | e | e : j = 0 ∨ j = 1 ∨ j = 2 ∨ j = 3 ∨ j = 4 ∨ j = 5 ∨ j = 6 := by omega
  all_goals
    subst e
    cases hu
    rfl
theorem seven {x : World} {b : Nat} {c0 c1 c2 c3 c4 c5 c6 : Value} (h : ∀ (j : Nat) u, [c0, c1, c2, c3, c4, c5, c6][j]? = some u → x.cell? ⟨b, j, none⟩ = some u) :
    x.cell? ⟨b, 0, none⟩ = some c0 ∧ x.cell? ⟨b, 1, none⟩ = some c1 ∧ x.cell? ⟨b, 2, none⟩ = some c2 ∧ x.cell? ⟨b, 3, none⟩ = some c3 ∧ x.cell? ⟨b, 4, none⟩ = some c4 ∧ x.cell? ⟨b, 5, none⟩ = some c5 ∧ x.cell? ⟨b, 6, none⟩ = some c6 :=
  ⟨h 0 _ rfl, h 1 _ rfl, h 2 _ rfl, h 3 _ rfl, h 4 _ rfl, h 5 _ rfl, h 6 _ rfl⟩
theorem sevenF {x : World} {b : Nat} {l : Array Value} {ty : TypeId} (h : x.heap[b]? = some (.cells l ty (0, 0))) :
    x.frozen? ⟨b, 0, none⟩ = false ∧ x.frozen? ⟨b, 1, none⟩ = false ∧ x.frozen? ⟨b, 2, none⟩ = false ∧ x.frozen? ⟨b, 3, none⟩ = false ∧ x.frozen? ⟨b, 4, none⟩ = false ∧ x.frozen? ⟨b, 5, none⟩ = false ∧ x.frozen? ⟨b, 6, none⟩ = false :=
  ⟨blk_free h 0, blk_free h 1, blk_free h 2, blk_free h 3, blk_free h 4, blk_free h 5, blk_free h 6⟩
theorem some_seven {x : World} {b : Nat} {l : List Value} (hl : l.length = 7) (h : ∀ (j : Nat) u, l[j]? = some u → x.cell? ⟨b, j, none⟩ = some u) : ∀ j, j < 7 → (x.cell? ⟨b, j, none⟩).isSome = true := by
  intro j hj
  rw [h j l[j] (List.getElem?_eq_getElem (by omega))]
  rfl

set_option maxRecDepth 100000 in
set_option maxHeartbeats 8000000 in
theorem headTold_none {d B0 q : Nat} {t : HT} {an ak : Option Addr} {cn ck : Nat} {s : Bs} {w : World} (hkid : ∀ {wz : World}, Below w.heap.size w wz → Calls Tryz.prog 46 #[.agg #[.int .u8 t.kind, .bool t.is, .bool t.minus, .int .u64 t.num, .string (B t.text), .slice an t.names.length cn, .slice ak t.kids.length ck], .string (B s)] wz fun e w' => KidR wz B0 (d + 1) none e ∧ Below wz.heap.size wz w') :
    Calls Tryz.prog 39 #[.agg #[.int .u8 t.kind, .bool t.is, .bool t.minus, .int .u64 t.num, .string (B t.text), .slice an t.names.length cn, .slice ak t.kids.length ck], .agg #[.int .i64 q, .string (B s)]] w (ToldR none q w) := by
  have HK := Lib.hid (fun (a b c : Obj) => hkid (wz := ((w.alloc a).alloc b).alloc c) (by go_grown))
  clear hkid
  have eg : goldT none q = Told.zero := rfl
  unfold ToldR
  rw [eg]
  go_enter Tryz.func39, Tryz.ntmps39
  go_wp2_with (fail)
  refine (HK.out _ _ _).mono ?_
  rintro e w2 ⟨he, hb2⟩
  have he' : e = .returned (.tuple #[.agg #[.int .u8 0, .bool false, .bool false, .int .u64 0, .string (B []), .slice none 0 0, .slice none 0 0], .bool false]) := he
  subst he'
  obtain ⟨_, hres, hbw⟩ := told_boxes hb2
  have HRES := Lib.hid hres
  have H2 := Lib.hid hbw
  have hle : w.heap.size ≤ w.heap.size + 1 + 1 := by omega
  generalize w.heap.size + 1 + 1 = br at *
  generalize w.heap.size + 1 = bq at *
  clear hres hb2 he hbw
  go_upto_region 4 with (fail)
  refine letterW ?_
  intro x hx
  have hr' : x.heap[br]? = some (.cells (Zero51).toArray 51 (0, 0)) := by rw [hx]; exact blk_alloc (blk_alloc HRES.out)
  have ho' : ∀ (j : Nat) u, ([Value.bool false, .string (B []), .bool false, .int .i64 0, .int .u64 0, .float .f64 0, .slice none 0 0] : List Value)[j]? = some u → x.cell? ⟨w2.heap.size + 1, j, none⟩ = some u := by
    rw [hx]
    exact blk_cell (blk_new (by simp only [size_of_alloc]))
  have HX : Hid (Below w.heap.size w x) := Lib.hid (by rw [hx]; exact Below.to_alloc (Below.to_alloc H2.out _) _)
  clear hx HRES
  generalize w2.heap.size + 1 = bo at *
  obtain ⟨oc0, oc1, oc2, oc3, oc4, oc5, oc6⟩ := seven ho'
  obtain ⟨rc0, rc1, rc2, rc3, rc4, rc5, rc6⟩ := seven (blk_cell (l := Zero51) hr')
  obtain ⟨rf0, rf1, rf2, rf3, rf4, rf5, rf6⟩ := sevenF hr'
  have R7 : Hid (∀ j, j < 7 → (x.cell? ⟨br, j, none⟩).isSome = true) := Lib.hid (some_seven (l := Zero51) rfl (blk_cell hr'))
  clear ho' hr'
  go_wp2
  refine letterB ?_
  intro z hz
  have hz7 : ∀ (j : Nat) u, ([Value.bool false, .string (B []), .bool false, .int .i64 0, .int .u64 0, .float .f64 0, .slice none 0 0] : List Value)[j]? = some u → z.cell? ⟨br, j, none⟩ = some u := by rw [hz]; with_reducible exact set7 R7.out
  have HZ : Hid (Below w.heap.size w z) := Lib.hid (by rw [hz]; have hx0 := HX.out; repeat (first | with_reducible exact hx0 | with_reducible refine Below.setCell ?_ hle _))
  clear hz oc0 rc0 rf0 oc1 rc1 rf1 oc2 rc2 rf2 oc3 rc3 rf3 oc4 rc4 rf4 oc5 rc5 rf5 oc6 rc6 rf6
  obtain ⟨z0, z1, z2, z3, z4, z5, z6⟩ := seven hz7
  clear hz7
  refine bodyPost_ret (by simp [results, Tryz.results39, go_sem, z0, z1, z2, z3, z4, z5, z6]; try rfl) rfl ?_
  exact ⟨.slice none 0 0, rfl, NS.nil _, HZ.out⟩

variable {d B0 : Nat} {t c : HT} {an ak : Option Addr} {cn ck : Nat} {s : Bs} {w : World}
def KidC (d B0 : Nat) (t c : HT) (an ak : Option Addr) (cn ck : Nat) (s : Bs) (w : World) : Prop := ∀ {wz : World}, Below w.heap.size w wz → Calls Tryz.prog 46 #[.agg #[.int .u8 t.kind, .bool t.is, .bool t.minus, .int .u64 t.num, .string (B t.text), .slice an t.names.length cn, .slice ak t.kids.length ck], .string (B s)] wz fun e w' => KidR wz B0 (d + 1) (some c) e ∧ Below wz.heap.size wz w'
set_option maxRecDepth 100000 in
set_option maxHeartbeats 8000000 in
theorem headTold_0 (hkid : KidC d B0 t c an ak cn ck s w) (hB : B0 ≤ w.heap.size) (hnum : c.num < 18446744073709551616) (hkids : c.kids.length ≤ 900000) :
    Calls Tryz.prog 39 #[.agg #[.int .u8 t.kind, .bool t.is, .bool t.minus, .int .u64 t.num, .string (B t.text), .slice an t.names.length cn, .slice ak t.kids.length ck], .agg #[.int .i64 0, .string (B s)]] w (ToldR (some c) 0 w) := by
    have HK := Lib.hid (fun (a b c : Obj) => hkid (wz := ((w.alloc a).alloc b).alloc c) (by go_grown))
    clear hkid

    have eg : goldT (some c) 0 = { Told.zero with ok := true } := rfl
    unfold ToldR
    rw [eg]
    go_enter Tryz.func39, Tryz.ntmps39
    go_wp2_with (fail)
    refine (HK.out _ _ _).mono ?_
    rintro e w2 ⟨he, hb2⟩
    obtain ⟨a1, c1, a2, c2, hrc, rfl⟩ := he
    dsimp only [tcells]
    obtain ⟨hq, hres, hbw⟩ := told_boxes hb2
    have HRES := Lib.hid hres
    have H2 := Lib.hid hbw
    have HRC := Lib.hid (hrc.below (hb2.mono (by simp only [size_of_alloc]; omega)))
    have HB2 : Hid (B0 ≤ w2.heap.size) := Lib.hid (by have := hbw.size; omega)
    have qc0 := blk_cell (l := [.int .i64 0, .string (B s)]) hq 0 _ rfl
    have hle : w.heap.size ≤ w.heap.size + 1 + 1 := by omega
    generalize w.heap.size + 1 + 1 = br at *
    generalize w.heap.size + 1 = bq at *
    have hlq : bq < w2.heap.size := block_lt_of_cell qc0
    have HLR : Hid (br < w2.heap.size) := Lib.hid (block_lt_of_cell (blk_cell (l := Zero51) HRES.out 0 _ rfl))
    clear hq hrc hb2 hres hbw
    go_upto_region 27 with (fail)
    refine letterW ?_
    intro x hx
    have hr' : x.heap[br]? = some (.cells (Zero51).toArray 51 (0, 0)) := by rw [hx]; exact blk_alloc (blk_alloc HRES.out)
    have ho' : ∀ (j : Nat) u, ([Value.bool true, .string (B []), .bool false, .int .i64 0, .int .u64 0, .float .f64 0, .slice none 0 0] : List Value)[j]? = some u → x.cell? ⟨w2.heap.size + 1, j, none⟩ = some u := by
      rw [hx]
      exact blk_cell (blk_new (by simp only [size_of_alloc]))
    have HX : Hid (Below w.heap.size w x) := Lib.hid (by rw [hx]; exact Below.to_alloc (Below.to_alloc H2.out _) _)
    clear hx HRES
    generalize w2.heap.size + 1 = bo at *
    obtain ⟨oc0, oc1, oc2, oc3, oc4, oc5, oc6⟩ := seven ho'
    obtain ⟨rc0, rc1, rc2, rc3, rc4, rc5, rc6⟩ := seven (blk_cell (l := Zero51) hr')
    obtain ⟨rf0, rf1, rf2, rf3, rf4, rf5, rf6⟩ := sevenF hr'
    have R7 : Hid (∀ j, j < 7 → (x.cell? ⟨br, j, none⟩).isSome = true) := Lib.hid (some_seven (l := Zero51) rfl (blk_cell hr'))
    clear ho' hr'
    go_wp2
    refine letterB ?_
    intro z hz
    have hz7 : ∀ (j : Nat) u, ([Value.bool true, .string (B []), .bool false, .int .i64 0, .int .u64 0, .float .f64 0, .slice none 0 0] : List Value)[j]? = some u → z.cell? ⟨br, j, none⟩ = some u := by rw [hz]; with_reducible exact set7 R7.out
    have HZ : Hid (Below w.heap.size w z) := Lib.hid (by rw [hz]; have hx0 := HX.out; repeat (first | with_reducible exact hx0 | with_reducible refine Below.setCell ?_ hle _))
    clear hz oc0 rc0 rf0 oc1 rc1 rf1 oc2 rc2 rf2 oc3 rc3 rf3 oc4 rc4 rf4 oc5 rc5 rf5 oc6 rc6 rf6
    obtain ⟨z0, z1, z2, z3, z4, z5, z6⟩ := seven hz7
    clear hz7
    refine bodyPost_ret (by simp [results, Tryz.results39, go_sem, z0, z1, z2, z3, z4, z5, z6]; try rfl) rfl ?_
    exact ⟨.slice none 0 0, rfl, NS.nil _, HZ.out⟩

set_option maxRecDepth 100000 in
set_option maxHeartbeats 8000000 in
theorem headTold_1 {q : Nat} (hqq : q = 1 ∨ q = 2) (hkid : KidC d B0 t c an ak cn ck s w) (hB : B0 ≤ w.heap.size) (hnum : c.num < 18446744073709551616) (hkids : c.kids.length ≤ 900000) :
    Calls Tryz.prog 39 #[.agg #[.int .u8 t.kind, .bool t.is, .bool t.minus, .int .u64 t.num, .string (B t.text), .slice an t.names.length cn, .slice ak t.kids.length ck], .agg #[.int .i64 q, .string (B s)]] w (ToldR (some c) q w) := by
    have HK := Lib.hid (fun (a b c : Obj) => hkid (wz := ((w.alloc a).alloc b).alloc c) (by go_grown))
    clear hkid

    by_cases hk : c.kind = 3
    · have f0 : ((c.kind : Int) == 3) = true := by rw [beq_iff_eq]; omega
      have eg : goldT (some c) q = { Told.zero with ok := true, text := c.text } := by rcases hqq with rfl | rfl <;> simp [goldT, hk]
      unfold ToldR
      rw [eg]
      clear hk
      clear eg
      rcases hqq with rfl | rfl
      all_goals
        go_enter Tryz.func39, Tryz.ntmps39
        go_wp2_with (fail)
        refine (HK.out _ _ _).mono ?_
        rintro e w2 ⟨he, hb2⟩
        obtain ⟨a1, c1, a2, c2, hrc, rfl⟩ := he
        dsimp only [tcells]
        obtain ⟨hq, hres, hbw⟩ := told_boxes hb2
        have HRES := Lib.hid hres
        have H2 := Lib.hid hbw
        have HRC := Lib.hid (hrc.below (hb2.mono (by simp only [size_of_alloc]; omega)))
        have HB2 : Hid (B0 ≤ w2.heap.size) := Lib.hid (by have := hbw.size; omega)
        have qc0 := blk_cell (l := [.int .i64 _, .string (B s)]) hq 0 _ rfl
        have hle : w.heap.size ≤ w.heap.size + 1 + 1 := by omega
        generalize w.heap.size + 1 + 1 = br at *
        generalize w.heap.size + 1 = bq at *
        have hlq : bq < w2.heap.size := block_lt_of_cell qc0
        have HLR : Hid (br < w2.heap.size) := Lib.hid (block_lt_of_cell (blk_cell (l := Zero51) HRES.out 0 _ rfl))
        clear hq hrc hb2 hres hbw
        go_upto_region 11 with (fail)
        go_region
        all_goals
          go_upto_region 27 with (fail)
          refine letterW ?_
          intro x hx
          have hr' : x.heap[br]? = some (.cells (Zero51).toArray 51 (0, 0)) := by rw [hx]; exact (by repeat (first | exact HRES.out | refine blk_drew ?_ | refine blk_alloc ?_))
          have ho' : ∀ (j : Nat) u, ([Value.bool true, .string (B c.text), .bool false, .int .i64 0, .int .u64 0, .float .f64 0, .slice none 0 0] : List Value)[j]? = some u → x.cell? ⟨w2.heap.size + 1, j, none⟩ = some u := by
            rw [hx]
            exact blk_cell (by repeat (first | exact blk_new (by simp only [size_of_alloc, size_of_drew]) | refine blk_drew ?_ | refine blk_alloc ?_))
          have HX : Hid (Below w.heap.size w x) := Lib.hid (by rw [hx]; exact (by have hx0 := H2.out; repeat (first | exact hx0 | refine Below.drew ?_ | refine Below.to_alloc ?_ _)))
          clear hx HRES
          generalize w2.heap.size + 1 = bo at *
          obtain ⟨oc0, oc1, oc2, oc3, oc4, oc5, oc6⟩ := seven ho'
          obtain ⟨rc0, rc1, rc2, rc3, rc4, rc5, rc6⟩ := seven (blk_cell (l := Zero51) hr')
          obtain ⟨rf0, rf1, rf2, rf3, rf4, rf5, rf6⟩ := sevenF hr'
          have R7 : Hid (∀ j, j < 7 → (x.cell? ⟨br, j, none⟩).isSome = true) := Lib.hid (some_seven (l := Zero51) rfl (blk_cell hr'))
          clear ho' hr'
          go_wp2
          refine letterB ?_
          intro z hz
          have hz7 : ∀ (j : Nat) u, ([Value.bool true, .string (B c.text), .bool false, .int .i64 0, .int .u64 0, .float .f64 0, .slice none 0 0] : List Value)[j]? = some u → z.cell? ⟨br, j, none⟩ = some u := by rw [hz]; with_reducible exact set7 R7.out
          have HZ : Hid (Below w.heap.size w z) := Lib.hid (by rw [hz]; have hx0 := HX.out; repeat (first | with_reducible exact hx0 | with_reducible refine Below.setCell ?_ hle _))
          clear hz oc0 rc0 rf0 oc1 rc1 rf1 oc2 rc2 rf2 oc3 rc3 rf3 oc4 rc4 rf4 oc5 rc5 rf5 oc6 rc6 rf6
          obtain ⟨z0, z1, z2, z3, z4, z5, z6⟩ := seven hz7
          clear hz7
          refine bodyPost_ret (by simp [results, Tryz.results39, go_sem, z0, z1, z2, z3, z4, z5, z6]; try rfl) rfl ?_
          exact ⟨.slice none 0 0, rfl, NS.nil _, HZ.out⟩
    · have f0 : ((c.kind : Int) == 3) = false := by rw [beq_eq_false_iff_ne]; omega
      have eg : goldT (some c) q = Told.zero := by rcases hqq with rfl | rfl <;> simp [goldT, hk]
      unfold ToldR
      rw [eg]
      clear hk
      clear eg
      rcases hqq with rfl | rfl
      all_goals
        go_enter Tryz.func39, Tryz.ntmps39
        go_wp2_with (fail)
        refine (HK.out _ _ _).mono ?_
        rintro e w2 ⟨he, hb2⟩
        obtain ⟨a1, c1, a2, c2, hrc, rfl⟩ := he
        dsimp only [tcells]
        obtain ⟨hq, hres, hbw⟩ := told_boxes hb2
        have HRES := Lib.hid hres
        have H2 := Lib.hid hbw
        have HRC := Lib.hid (hrc.below (hb2.mono (by simp only [size_of_alloc]; omega)))
        have HB2 : Hid (B0 ≤ w2.heap.size) := Lib.hid (by have := hbw.size; omega)
        have qc0 := blk_cell (l := [.int .i64 _, .string (B s)]) hq 0 _ rfl
        have hle : w.heap.size ≤ w.heap.size + 1 + 1 := by omega
        generalize w.heap.size + 1 + 1 = br at *
        generalize w.heap.size + 1 = bq at *
        have hlq : bq < w2.heap.size := block_lt_of_cell qc0
        have HLR : Hid (br < w2.heap.size) := Lib.hid (block_lt_of_cell (blk_cell (l := Zero51) HRES.out 0 _ rfl))
        clear hq hrc hb2 hres hbw
        go_upto_region 27 with (fail)
        refine letterW ?_
        intro x hx
        have hr' : x.heap[br]? = some (.cells (Zero51).toArray 51 (0, 0)) := by rw [hx]; exact blk_alloc (blk_alloc HRES.out)
        have ho' : ∀ (j : Nat) u, ([Value.bool false, .string (B []), .bool false, .int .i64 0, .int .u64 0, .float .f64 0, .slice none 0 0] : List Value)[j]? = some u → x.cell? ⟨w2.heap.size + 1, j, none⟩ = some u := by
          rw [hx]
          exact blk_cell (blk_new (by simp only [size_of_alloc]))
        have HX : Hid (Below w.heap.size w x) := Lib.hid (by rw [hx]; exact Below.to_alloc (Below.to_alloc H2.out _) _)
        clear hx HRES
        generalize w2.heap.size + 1 = bo at *
        obtain ⟨oc0, oc1, oc2, oc3, oc4, oc5, oc6⟩ := seven ho'
        obtain ⟨rc0, rc1, rc2, rc3, rc4, rc5, rc6⟩ := seven (blk_cell (l := Zero51) hr')
        obtain ⟨rf0, rf1, rf2, rf3, rf4, rf5, rf6⟩ := sevenF hr'
        have R7 : Hid (∀ j, j < 7 → (x.cell? ⟨br, j, none⟩).isSome = true) := Lib.hid (some_seven (l := Zero51) rfl (blk_cell hr'))
        clear ho' hr'
        go_wp2
        refine letterB ?_
        intro z hz
        have hz7 : ∀ (j : Nat) u, ([Value.bool false, .string (B []), .bool false, .int .i64 0, .int .u64 0, .float .f64 0, .slice none 0 0] : List Value)[j]? = some u → z.cell? ⟨br, j, none⟩ = some u := by rw [hz]; with_reducible exact set7 R7.out
        have HZ : Hid (Below w.heap.size w z) := Lib.hid (by rw [hz]; have hx0 := HX.out; repeat (first | with_reducible exact hx0 | with_reducible refine Below.setCell ?_ hle _))
        clear hz oc0 rc0 rf0 oc1 rc1 rf1 oc2 rc2 rf2 oc3 rc3 rf3 oc4 rc4 rf4 oc5 rc5 rf5 oc6 rc6 rf6
        obtain ⟨z0, z1, z2, z3, z4, z5, z6⟩ := seven hz7
        clear hz7
        refine bodyPost_ret (by simp [results, Tryz.results39, go_sem, z0, z1, z2, z3, z4, z5, z6]; try rfl) rfl ?_
        exact ⟨.slice none 0 0, rfl, NS.nil _, HZ.out⟩

set_option maxRecDepth 100000 in
set_option maxHeartbeats 8000000 in
theorem headTold_3 (hkid : KidC d B0 t c an ak cn ck s w) (hB : B0 ≤ w.heap.size) (hnum : c.num < 18446744073709551616) (hkids : c.kids.length ≤ 900000) :
    Calls Tryz.prog 39 #[.agg #[.int .u8 t.kind, .bool t.is, .bool t.minus, .int .u64 t.num, .string (B t.text), .slice an t.names.length cn, .slice ak t.kids.length ck], .agg #[.int .i64 3, .string (B s)]] w (ToldR (some c) 3 w) := by
    have HK := Lib.hid (fun (a b c : Obj) => hkid (wz := ((w.alloc a).alloc b).alloc c) (by go_grown))
    clear hkid

    by_cases hk : c.kind = 1
    · have f0 : ((c.kind : Int) == 1) = true := by rw [beq_iff_eq]; omega
      have eg : goldT (some c) 3 = { Told.zero with ok := true, is := c.is } := by simp [goldT, hk]
      unfold ToldR
      rw [eg]
      clear hk
      go_enter Tryz.func39, Tryz.ntmps39
      go_wp2_with (fail)
      refine (HK.out _ _ _).mono ?_
      rintro e w2 ⟨he, hb2⟩
      obtain ⟨a1, c1, a2, c2, hrc, rfl⟩ := he
      dsimp only [tcells]
      obtain ⟨hq, hres, hbw⟩ := told_boxes hb2
      have HRES := Lib.hid hres
      have H2 := Lib.hid hbw
      have HRC := Lib.hid (hrc.below (hb2.mono (by simp only [size_of_alloc]; omega)))
      have HB2 : Hid (B0 ≤ w2.heap.size) := Lib.hid (by have := hbw.size; omega)
      have qc0 := blk_cell (l := [.int .i64 3, .string (B s)]) hq 0 _ rfl
      have hle : w.heap.size ≤ w.heap.size + 1 + 1 := by omega
      generalize w.heap.size + 1 + 1 = br at *
      generalize w.heap.size + 1 = bq at *
      have hlq : bq < w2.heap.size := block_lt_of_cell qc0
      have HLR : Hid (br < w2.heap.size) := Lib.hid (block_lt_of_cell (blk_cell (l := Zero51) HRES.out 0 _ rfl))
      clear hq hrc hb2 hres hbw
      go_upto_region 14 with (fail)
      go_region
      all_goals
        go_upto_region 27 with (fail)
        refine letterW ?_
        intro x hx
        have hr' : x.heap[br]? = some (.cells (Zero51).toArray 51 (0, 0)) := by rw [hx]; exact (by repeat (first | exact HRES.out | refine blk_drew ?_ | refine blk_alloc ?_))
        have ho' : ∀ (j : Nat) u, ([Value.bool true, .string (B []), .bool c.is, .int .i64 0, .int .u64 0, .float .f64 0, .slice none 0 0] : List Value)[j]? = some u → x.cell? ⟨w2.heap.size + 1, j, none⟩ = some u := by
          rw [hx]
          exact blk_cell (by repeat (first | exact blk_new (by simp only [size_of_alloc, size_of_drew]) | refine blk_drew ?_ | refine blk_alloc ?_))
        have HX : Hid (Below w.heap.size w x) := Lib.hid (by rw [hx]; exact (by have hx0 := H2.out; repeat (first | exact hx0 | refine Below.drew ?_ | refine Below.to_alloc ?_ _)))
        clear hx HRES
        generalize w2.heap.size + 1 = bo at *
        obtain ⟨oc0, oc1, oc2, oc3, oc4, oc5, oc6⟩ := seven ho'
        obtain ⟨rc0, rc1, rc2, rc3, rc4, rc5, rc6⟩ := seven (blk_cell (l := Zero51) hr')
        obtain ⟨rf0, rf1, rf2, rf3, rf4, rf5, rf6⟩ := sevenF hr'
        have R7 : Hid (∀ j, j < 7 → (x.cell? ⟨br, j, none⟩).isSome = true) := Lib.hid (some_seven (l := Zero51) rfl (blk_cell hr'))
        clear ho' hr'
        go_wp2
        refine letterB ?_
        intro z hz
        have hz7 : ∀ (j : Nat) u, ([Value.bool true, .string (B []), .bool c.is, .int .i64 0, .int .u64 0, .float .f64 0, .slice none 0 0] : List Value)[j]? = some u → z.cell? ⟨br, j, none⟩ = some u := by rw [hz]; with_reducible exact set7 R7.out
        have HZ : Hid (Below w.heap.size w z) := Lib.hid (by rw [hz]; have hx0 := HX.out; repeat (first | with_reducible exact hx0 | with_reducible refine Below.setCell ?_ hle _))
        clear hz oc0 rc0 rf0 oc1 rc1 rf1 oc2 rc2 rf2 oc3 rc3 rf3 oc4 rc4 rf4 oc5 rc5 rf5 oc6 rc6 rf6
        obtain ⟨z0, z1, z2, z3, z4, z5, z6⟩ := seven hz7
        clear hz7
        refine bodyPost_ret (by simp [results, Tryz.results39, go_sem, z0, z1, z2, z3, z4, z5, z6]; try rfl) rfl ?_
        exact ⟨.slice none 0 0, rfl, NS.nil _, HZ.out⟩
    · have f0 : ((c.kind : Int) == 1) = false := by rw [beq_eq_false_iff_ne]; omega
      have eg : goldT (some c) 3 = Told.zero := by simp [goldT, hk]
      unfold ToldR
      rw [eg]
      clear hk
      go_enter Tryz.func39, Tryz.ntmps39
      go_wp2_with (fail)
      refine (HK.out _ _ _).mono ?_
      rintro e w2 ⟨he, hb2⟩
      obtain ⟨a1, c1, a2, c2, hrc, rfl⟩ := he
      dsimp only [tcells]
      obtain ⟨hq, hres, hbw⟩ := told_boxes hb2
      have HRES := Lib.hid hres
      have H2 := Lib.hid hbw
      have HRC := Lib.hid (hrc.below (hb2.mono (by simp only [size_of_alloc]; omega)))
      have HB2 : Hid (B0 ≤ w2.heap.size) := Lib.hid (by have := hbw.size; omega)
      have qc0 := blk_cell (l := [.int .i64 3, .string (B s)]) hq 0 _ rfl
      have hle : w.heap.size ≤ w.heap.size + 1 + 1 := by omega
      generalize w.heap.size + 1 + 1 = br at *
      generalize w.heap.size + 1 = bq at *
      have hlq : bq < w2.heap.size := block_lt_of_cell qc0
      have HLR : Hid (br < w2.heap.size) := Lib.hid (block_lt_of_cell (blk_cell (l := Zero51) HRES.out 0 _ rfl))
      clear hq hrc hb2 hres hbw
      go_upto_region 27 with (fail)
      refine letterW ?_
      intro x hx
      have hr' : x.heap[br]? = some (.cells (Zero51).toArray 51 (0, 0)) := by rw [hx]; exact blk_alloc (blk_alloc HRES.out)
      have ho' : ∀ (j : Nat) u, ([Value.bool false, .string (B []), .bool false, .int .i64 0, .int .u64 0, .float .f64 0, .slice none 0 0] : List Value)[j]? = some u → x.cell? ⟨w2.heap.size + 1, j, none⟩ = some u := by
        rw [hx]
        exact blk_cell (blk_new (by simp only [size_of_alloc]))
      have HX : Hid (Below w.heap.size w x) := Lib.hid (by rw [hx]; exact Below.to_alloc (Below.to_alloc H2.out _) _)
      clear hx HRES
      generalize w2.heap.size + 1 = bo at *
      obtain ⟨oc0, oc1, oc2, oc3, oc4, oc5, oc6⟩ := seven ho'
      obtain ⟨rc0, rc1, rc2, rc3, rc4, rc5, rc6⟩ := seven (blk_cell (l := Zero51) hr')
      obtain ⟨rf0, rf1, rf2, rf3, rf4, rf5, rf6⟩ := sevenF hr'
      have R7 : Hid (∀ j, j < 7 → (x.cell? ⟨br, j, none⟩).isSome = true) := Lib.hid (some_seven (l := Zero51) rfl (blk_cell hr'))
      clear ho' hr'
      go_wp2
      refine letterB ?_
      intro z hz
      have hz7 : ∀ (j : Nat) u, ([Value.bool false, .string (B []), .bool false, .int .i64 0, .int .u64 0, .float .f64 0, .slice none 0 0] : List Value)[j]? = some u → z.cell? ⟨br, j, none⟩ = some u := by rw [hz]; with_reducible exact set7 R7.out
      have HZ : Hid (Below w.heap.size w z) := Lib.hid (by rw [hz]; have hx0 := HX.out; repeat (first | with_reducible exact hx0 | with_reducible refine Below.setCell ?_ hle _))
      clear hz oc0 rc0 rf0 oc1 rc1 rf1 oc2 rc2 rf2 oc3 rc3 rf3 oc4 rc4 rf4 oc5 rc5 rf5 oc6 rc6 rf6
      obtain ⟨z0, z1, z2, z3, z4, z5, z6⟩ := seven hz7
      clear hz7
      refine bodyPost_ret (by simp [results, Tryz.results39, go_sem, z0, z1, z2, z3, z4, z5, z6]; try rfl) rfl ?_
      exact ⟨.slice none 0 0, rfl, NS.nil _, HZ.out⟩

set_option maxRecDepth 100000 in
set_option maxHeartbeats 8000000 in
theorem headTold_4 {q : Nat} (hqq : q = 4 ∨ q = 8) (hkid : KidC d B0 t c an ak cn ck s w) (hB : B0 ≤ w.heap.size) (hnum : c.num < 18446744073709551616) (hkids : c.kids.length ≤ 900000) :
    Calls Tryz.prog 39 #[.agg #[.int .u8 t.kind, .bool t.is, .bool t.minus, .int .u64 t.num, .string (B t.text), .slice an t.names.length cn, .slice ak t.kids.length ck], .agg #[.int .i64 q, .string (B s)]] w (ToldR (some c) q w) := by
    have HK := Lib.hid (fun (a b c : Obj) => hkid (wz := ((w.alloc a).alloc b).alloc c) (by go_grown))
    clear hkid

    have eg : goldT (some c) q = { Told.zero with ok := (goldI c.kind c.minus c.num).isSome, int := (goldI c.kind c.minus c.num).getD 0 } := by rcases hqq with rfl | rfl <;> rfl
    unfold ToldR
    rw [eg]
    clear eg
    rcases hqq with rfl | rfl
    all_goals
      go_enter Tryz.func39, Tryz.ntmps39
      go_wp2_with (fail)
      refine (HK.out _ _ _).mono ?_
      rintro e w2 ⟨he, hb2⟩
      obtain ⟨a1, c1, a2, c2, hrc, rfl⟩ := he
      dsimp only [tcells]
      obtain ⟨hq, hres, hbw⟩ := told_boxes hb2
      have HRES := Lib.hid hres
      have H2 := Lib.hid hbw
      have HRC := Lib.hid (hrc.below (hb2.mono (by simp only [size_of_alloc]; omega)))
      have HB2 : Hid (B0 ≤ w2.heap.size) := Lib.hid (by have := hbw.size; omega)
      have qc0 := blk_cell (l := [.int .i64 _, .string (B s)]) hq 0 _ rfl
      have hle : w.heap.size ≤ w.heap.size + 1 + 1 := by omega
      generalize w.heap.size + 1 + 1 = br at *
      generalize w.heap.size + 1 = bq at *
      have hlq : bq < w2.heap.size := block_lt_of_cell qc0
      have HLR : Hid (br < w2.heap.size) := Lib.hid (block_lt_of_cell (blk_cell (l := Zero51) HRES.out 0 _ rfl))
      clear hq hrc hb2 hres hbw
      go_wp2_with (fail)
      refine (number_any _ c a1 a2 c.names.length c.kids.length c1 c2).mono ?_
      rintro e w3 ⟨rfl, hb3⟩
      obtain ⟨hkb, hob, hbw3⟩ := told_kid hb3
      have hres3 := blk_below hb3 (blk_alloc (blk_alloc HRES.out))
      have H3 := Lib.hid (Below.to_next H2.out hbw3)
      clear hb3 qc0 hbw3
      dsimp only
      go_wp2_with (fail)
      refine (headInt_any w3 c hnum).mono ?_
      rintro e w4 ⟨rfl, hb4⟩
      have HKB := Lib.hid (blk_below hb4 hkb)
      have HOB := Lib.hid (blk_below hb4 hob)
      clear HRES
      have HRES := Lib.hid (blk_below hb4 hres3)
      have H4 := Lib.hid (Below.to_next H3.out hb4)
      clear hkb hob hres3 hb4
      dsimp only
      have hbne : br ≠ w2.heap.size + 1 := by have := HLR.out; omega
      have hbo : w.heap.size ≤ w2.heap.size + 1 := by have := H2.out.size; omega
      generalize w2.heap.size + 1 = bo at *
      have oc0 := blk_cell (l := Zero51) HOB.out 0 _ rfl
      have oc3 := blk_cell (l := Zero51) HOB.out 3 _ rfl
      have of0 := blk_free HOB.out 0
      have of3 := blk_free HOB.out 3
      go_upto_region 27 with (fail)
      refine letterW ?_
      intro x hx
      have hr' : x.heap[br]? = some (.cells (Zero51).toArray 51 (0, 0)) := by rw [hx]; exact (by rw [Below.heap_setCell _ _ _ _ hbne, Below.heap_setCell _ _ _ _ hbne]; exact HRES.out)
      have ho' : ∀ (j : Nat) u, ([Value.bool (goldI c.kind c.minus c.num).isSome, .string (B []), .bool false, .int .i64 ((goldI c.kind c.minus c.num).getD 0), .int .u64 0, .float .f64 0, .slice none 0 0] : List Value)[j]? = some u → x.cell? ⟨bo, j, none⟩ = some u := by
        rw [hx]
        intro j u hu
        have hj : j < 7 := (List.getElem?_eq_some_iff.1 hu).1
        have h0 := blk_cell (l := Zero51) HOB.out
        rw [cell_set (by rw [cell_set (by rw [h0 3 _ rfl]; rfl), if_neg (by decide), h0 0 _ rfl]; rfl), cell_set (by rw [h0 3 _ rfl]; rfl)]
        obtain e | e | e | e | e | e | e : j = 0 ∨ j = 1 ∨ j = 2 ∨ j = 3 ∨ j = 4 ∨ j = 5 ∨ j = 6 := by omega
        all_goals
          subst e
          cases hu
          first | rfl | exact h0 _ _ rfl
      have HX : Hid (Below w.heap.size w x) := Lib.hid (by rw [hx]; exact (Below.setCell (Below.setCell H4.out hbo _) hbo _))
      clear hx HRES
      obtain ⟨oc0, oc1, oc2, oc3, oc4, oc5, oc6⟩ := seven ho'
      obtain ⟨rc0, rc1, rc2, rc3, rc4, rc5, rc6⟩ := seven (blk_cell (l := Zero51) hr')
      obtain ⟨rf0, rf1, rf2, rf3, rf4, rf5, rf6⟩ := sevenF hr'
      have R7 : Hid (∀ j, j < 7 → (x.cell? ⟨br, j, none⟩).isSome = true) := Lib.hid (some_seven (l := Zero51) rfl (blk_cell hr'))
      clear ho' hr'
      go_wp2
      refine letterB ?_
      intro z hz
      have hz7 : ∀ (j : Nat) u, ([Value.bool (goldI c.kind c.minus c.num).isSome, .string (B []), .bool false, .int .i64 ((goldI c.kind c.minus c.num).getD 0), .int .u64 0, .float .f64 0, .slice none 0 0] : List Value)[j]? = some u → z.cell? ⟨br, j, none⟩ = some u := by rw [hz]; with_reducible exact set7 R7.out
      have HZ : Hid (Below w.heap.size w z) := Lib.hid (by rw [hz]; have hx0 := HX.out; repeat (first | with_reducible exact hx0 | with_reducible refine Below.setCell ?_ hle _))
      clear hz oc0 rc0 rf0 oc1 rc1 rf1 oc2 rc2 rf2 oc3 rc3 rf3 oc4 rc4 rf4 oc5 rc5 rf5 oc6 rc6 rf6
      obtain ⟨z0, z1, z2, z3, z4, z5, z6⟩ := seven hz7
      clear hz7
      refine bodyPost_ret (by simp [results, Tryz.results39, go_sem, z0, z1, z2, z3, z4, z5, z6]; try rfl) rfl ?_
      exact ⟨.slice none 0 0, rfl, NS.nil _, HZ.out⟩

set_option maxRecDepth 100000 in
set_option maxHeartbeats 8000000 in
theorem headTold_5 {q : Nat} (hqq : q = 5 ∨ q = 9) (hkid : KidC d B0 t c an ak cn ck s w) (hB : B0 ≤ w.heap.size) (hnum : c.num < 18446744073709551616) (hkids : c.kids.length ≤ 900000) :
    Calls Tryz.prog 39 #[.agg #[.int .u8 t.kind, .bool t.is, .bool t.minus, .int .u64 t.num, .string (B t.text), .slice an t.names.length cn, .slice ak t.kids.length ck], .agg #[.int .i64 q, .string (B s)]] w (ToldR (some c) q w) := by
    have HK := Lib.hid (fun (a b c : Obj) => hkid (wz := ((w.alloc a).alloc b).alloc c) (by go_grown))
    clear hkid

    have eg : goldT (some c) q = { Told.zero with ok := (goldU c.kind c.minus c.num).isSome, uint := (goldU c.kind c.minus c.num).getD 0 } := by rcases hqq with rfl | rfl <;> rfl
    unfold ToldR
    rw [eg]
    clear eg
    rcases hqq with rfl | rfl
    all_goals
      go_enter Tryz.func39, Tryz.ntmps39
      go_wp2_with (fail)
      refine (HK.out _ _ _).mono ?_
      rintro e w2 ⟨he, hb2⟩
      obtain ⟨a1, c1, a2, c2, hrc, rfl⟩ := he
      dsimp only [tcells]
      obtain ⟨hq, hres, hbw⟩ := told_boxes hb2
      have HRES := Lib.hid hres
      have H2 := Lib.hid hbw
      have HRC := Lib.hid (hrc.below (hb2.mono (by simp only [size_of_alloc]; omega)))
      have HB2 : Hid (B0 ≤ w2.heap.size) := Lib.hid (by have := hbw.size; omega)
      have qc0 := blk_cell (l := [.int .i64 _, .string (B s)]) hq 0 _ rfl
      have hle : w.heap.size ≤ w.heap.size + 1 + 1 := by omega
      generalize w.heap.size + 1 + 1 = br at *
      generalize w.heap.size + 1 = bq at *
      have hlq : bq < w2.heap.size := block_lt_of_cell qc0
      have HLR : Hid (br < w2.heap.size) := Lib.hid (block_lt_of_cell (blk_cell (l := Zero51) HRES.out 0 _ rfl))
      clear hq hrc hb2 hres hbw
      go_wp2_with (fail)
      refine (number_any _ c a1 a2 c.names.length c.kids.length c1 c2).mono ?_
      rintro e w3 ⟨rfl, hb3⟩
      obtain ⟨hkb, hob, hbw3⟩ := told_kid hb3
      have hres3 := blk_below hb3 (blk_alloc (blk_alloc HRES.out))
      have H3 := Lib.hid (Below.to_next H2.out hbw3)
      clear hb3 qc0 hbw3
      dsimp only
      go_wp2_with (fail)
      refine (headUint_any w3 c hnum).mono ?_
      rintro e w4 ⟨rfl, hb4⟩
      have HKB := Lib.hid (blk_below hb4 hkb)
      have HOB := Lib.hid (blk_below hb4 hob)
      clear HRES
      have HRES := Lib.hid (blk_below hb4 hres3)
      have H4 := Lib.hid (Below.to_next H3.out hb4)
      clear hkb hob hres3 hb4
      dsimp only
      have hbne : br ≠ w2.heap.size + 1 := by have := HLR.out; omega
      have hbo : w.heap.size ≤ w2.heap.size + 1 := by have := H2.out.size; omega
      generalize w2.heap.size + 1 = bo at *
      have oc0 := blk_cell (l := Zero51) HOB.out 0 _ rfl
      have oc4 := blk_cell (l := Zero51) HOB.out 4 _ rfl
      have of0 := blk_free HOB.out 0
      have of4 := blk_free HOB.out 4
      go_upto_region 27 with (fail)
      refine letterW ?_
      intro x hx
      have hr' : x.heap[br]? = some (.cells (Zero51).toArray 51 (0, 0)) := by rw [hx]; exact (by rw [Below.heap_setCell _ _ _ _ hbne, Below.heap_setCell _ _ _ _ hbne]; exact HRES.out)
      have ho' : ∀ (j : Nat) u, ([Value.bool (goldU c.kind c.minus c.num).isSome, .string (B []), .bool false, .int .i64 0, .int .u64 ((goldU c.kind c.minus c.num).getD 0), .float .f64 0, .slice none 0 0] : List Value)[j]? = some u → x.cell? ⟨bo, j, none⟩ = some u := by
        rw [hx]
        intro j u hu
        have hj : j < 7 := (List.getElem?_eq_some_iff.1 hu).1
        have h0 := blk_cell (l := Zero51) HOB.out
        rw [cell_set (by rw [cell_set (by rw [h0 4 _ rfl]; rfl), if_neg (by decide), h0 0 _ rfl]; rfl), cell_set (by rw [h0 4 _ rfl]; rfl)]
        obtain e | e | e | e | e | e | e : j = 0 ∨ j = 1 ∨ j = 2 ∨ j = 3 ∨ j = 4 ∨ j = 5 ∨ j = 6 := by omega
        all_goals
          subst e
          cases hu
          first | rfl | exact h0 _ _ rfl
      have HX : Hid (Below w.heap.size w x) := Lib.hid (by rw [hx]; exact (Below.setCell (Below.setCell H4.out hbo _) hbo _))
      clear hx HRES
      obtain ⟨oc0, oc1, oc2, oc3, oc4, oc5, oc6⟩ := seven ho'
      obtain ⟨rc0, rc1, rc2, rc3, rc4, rc5, rc6⟩ := seven (blk_cell (l := Zero51) hr')
      obtain ⟨rf0, rf1, rf2, rf3, rf4, rf5, rf6⟩ := sevenF hr'
      have R7 : Hid (∀ j, j < 7 → (x.cell? ⟨br, j, none⟩).isSome = true) := Lib.hid (some_seven (l := Zero51) rfl (blk_cell hr'))
      clear ho' hr'
      go_wp2
      refine letterB ?_
      intro z hz
      have hz7 : ∀ (j : Nat) u, ([Value.bool (goldU c.kind c.minus c.num).isSome, .string (B []), .bool false, .int .i64 0, .int .u64 ((goldU c.kind c.minus c.num).getD 0), .float .f64 0, .slice none 0 0] : List Value)[j]? = some u → z.cell? ⟨br, j, none⟩ = some u := by rw [hz]; with_reducible exact set7 R7.out
      have HZ : Hid (Below w.heap.size w z) := Lib.hid (by rw [hz]; have hx0 := HX.out; repeat (first | with_reducible exact hx0 | with_reducible refine Below.setCell ?_ hle _))
      clear hz oc0 rc0 rf0 oc1 rc1 rf1 oc2 rc2 rf2 oc3 rc3 rf3 oc4 rc4 rf4 oc5 rc5 rf5 oc6 rc6 rf6
      obtain ⟨z0, z1, z2, z3, z4, z5, z6⟩ := seven hz7
      clear hz7
      refine bodyPost_ret (by simp [results, Tryz.results39, go_sem, z0, z1, z2, z3, z4, z5, z6]; try rfl) rfl ?_
      exact ⟨.slice none 0 0, rfl, NS.nil _, HZ.out⟩

set_option maxRecDepth 100000 in
set_option maxHeartbeats 8000000 in
theorem headTold_6 (hkid : KidC d B0 t c an ak cn ck s w) (hB : B0 ≤ w.heap.size) (hnum : c.num < 18446744073709551616) (hkids : c.kids.length ≤ 900000) :
    Calls Tryz.prog 39 #[.agg #[.int .u8 t.kind, .bool t.is, .bool t.minus, .int .u64 t.num, .string (B t.text), .slice an t.names.length cn, .slice ak t.kids.length ck], .agg #[.int .i64 6, .string (B s)]] w (ToldR (some c) 6 w) := by
    have HK := Lib.hid (fun (a b c : Obj) => hkid (wz := ((w.alloc a).alloc b).alloc c) (by go_grown))
    clear hkid

    have eg : goldT (some c) 6 = { Told.zero with ok := ((c.kind : Int) == 2), fl := floatOfInt .f64 ((goldI c.kind c.minus c.num).getD 0) } := by
      have e2 : decide (c.kind = 2) = ((c.kind : Int) == 2) := by rw [Bool.eq_iff_iff, decide_eq_true_iff, beq_iff_eq]; omega
      simp [goldT, e2]
    unfold ToldR
    rw [eg]
    go_enter Tryz.func39, Tryz.ntmps39
    go_wp2_with (fail)
    refine (HK.out _ _ _).mono ?_
    rintro e w2 ⟨he, hb2⟩
    obtain ⟨a1, c1, a2, c2, hrc, rfl⟩ := he
    dsimp only [tcells]
    obtain ⟨hq, hres, hbw⟩ := told_boxes hb2
    have HRES := Lib.hid hres
    have H2 := Lib.hid hbw
    have HRC := Lib.hid (hrc.below (hb2.mono (by simp only [size_of_alloc]; omega)))
    have HB2 : Hid (B0 ≤ w2.heap.size) := Lib.hid (by have := hbw.size; omega)
    have qc0 := blk_cell (l := [.int .i64 6, .string (B s)]) hq 0 _ rfl
    have hle : w.heap.size ≤ w.heap.size + 1 + 1 := by omega
    generalize w.heap.size + 1 + 1 = br at *
    generalize w.heap.size + 1 = bq at *
    have hlq : bq < w2.heap.size := block_lt_of_cell qc0
    have HLR : Hid (br < w2.heap.size) := Lib.hid (block_lt_of_cell (blk_cell (l := Zero51) HRES.out 0 _ rfl))
    clear hq hrc hb2 hres hbw
    go_wp2_with (fail)
    refine (number_any _ c a1 a2 c.names.length c.kids.length c1 c2).mono ?_
    rintro e w3 ⟨rfl, hb3⟩
    obtain ⟨hkb, hob, hbw3⟩ := told_kid hb3
    have hres3 := blk_below hb3 (blk_alloc (blk_alloc HRES.out))
    have H3 := Lib.hid (Below.to_next H2.out hbw3)
    clear hb3 qc0 hbw3
    dsimp only
    go_wp2_with (fail)
    refine (headInt_any w3 c hnum).mono ?_
    rintro e w4 ⟨rfl, hb4⟩
    have HKB := Lib.hid (blk_below hb4 hkb)
    have HOB := Lib.hid (blk_below hb4 hob)
    clear HRES
    have HRES := Lib.hid (blk_below hb4 hres3)
    have H4 := Lib.hid (Below.to_next H3.out hb4)
    clear hkb hob hres3 hb4
    dsimp only
    have hbne : br ≠ w2.heap.size + 1 := by have := HLR.out; omega
    have hbo : w.heap.size ≤ w2.heap.size + 1 := by have := H2.out.size; omega
    generalize w2.heap.size + 1 = bo at *
    have oc0 := blk_cell (l := Zero51) HOB.out 0 _ rfl
    have oc5 := blk_cell (l := Zero51) HOB.out 5 _ rfl
    have of0 := blk_free HOB.out 0
    have of5 := blk_free HOB.out 5
    have kc0 := blk_cell (l := [Value.int .u8 c.kind, .bool c.is, .bool c.minus, .int .u64 c.num, .string (B c.text), .slice a1 c.names.length c1, .slice a2 c.kids.length c2]) HKB.out 0 _ rfl
    go_upto_region 27 with (fail)
    refine letterW ?_
    intro x hx
    have hr' : x.heap[br]? = some (.cells (Zero51).toArray 51 (0, 0)) := by rw [hx]; exact (by rw [Below.heap_setCell _ _ _ _ hbne, Below.heap_setCell _ _ _ _ hbne]; exact HRES.out)
    have ho' : ∀ (j : Nat) u, ([Value.bool ((c.kind : Int) == 2), .string (B []), .bool false, .int .i64 0, .int .u64 0, .float .f64 (floatOfInt .f64 ((goldI c.kind c.minus c.num).getD 0)), .slice none 0 0] : List Value)[j]? = some u → x.cell? ⟨bo, j, none⟩ = some u := by
      rw [hx]
      intro j u hu
      have hj : j < 7 := (List.getElem?_eq_some_iff.1 hu).1
      have h0 := blk_cell (l := Zero51) HOB.out
      rw [cell_set (by rw [cell_set (by rw [h0 0 _ rfl]; rfl), if_neg (by decide), h0 5 _ rfl]; rfl), cell_set (by rw [h0 0 _ rfl]; rfl)]
      obtain e | e | e | e | e | e | e : j = 0 ∨ j = 1 ∨ j = 2 ∨ j = 3 ∨ j = 4 ∨ j = 5 ∨ j = 6 := by omega
      all_goals
        subst e
        cases hu
        first | rfl | exact h0 _ _ rfl
    have HX : Hid (Below w.heap.size w x) := Lib.hid (by rw [hx]; exact (Below.setCell (Below.setCell H4.out hbo _) hbo _))
    clear hx HRES
    obtain ⟨oc0, oc1, oc2, oc3, oc4, oc5, oc6⟩ := seven ho'
    obtain ⟨rc0, rc1, rc2, rc3, rc4, rc5, rc6⟩ := seven (blk_cell (l := Zero51) hr')
    obtain ⟨rf0, rf1, rf2, rf3, rf4, rf5, rf6⟩ := sevenF hr'
    have R7 : Hid (∀ j, j < 7 → (x.cell? ⟨br, j, none⟩).isSome = true) := Lib.hid (some_seven (l := Zero51) rfl (blk_cell hr'))
    clear ho' hr'
    go_wp2
    refine letterB ?_
    intro z hz
    have hz7 : ∀ (j : Nat) u, ([Value.bool ((c.kind : Int) == 2), .string (B []), .bool false, .int .i64 0, .int .u64 0, .float .f64 (floatOfInt .f64 ((goldI c.kind c.minus c.num).getD 0)), .slice none 0 0] : List Value)[j]? = some u → z.cell? ⟨br, j, none⟩ = some u := by rw [hz]; with_reducible exact set7 R7.out
    have HZ : Hid (Below w.heap.size w z) := Lib.hid (by rw [hz]; have hx0 := HX.out; repeat (first | with_reducible exact hx0 | with_reducible refine Below.setCell ?_ hle _))
    clear hz oc0 rc0 rf0 oc1 rc1 rf1 oc2 rc2 rf2 oc3 rc3 rf3 oc4 rc4 rf4 oc5 rc5 rf5 oc6 rc6 rf6
    obtain ⟨z0, z1, z2, z3, z4, z5, z6⟩ := seven hz7
    clear hz7
    refine bodyPost_ret (by simp [results, Tryz.results39, go_sem, z0, z1, z2, z3, z4, z5, z6]; try rfl) rfl ?_
    exact ⟨.slice none 0 0, rfl, NS.nil _, HZ.out⟩

set_option maxRecDepth 100000 in
set_option maxHeartbeats 8000000 in
theorem headTold_7 (hkid : KidC d B0 t c an ak cn ck s w) (hB : B0 ≤ w.heap.size) (hnum : c.num < 18446744073709551616) (hkids : c.kids.length ≤ 900000) :
    Calls Tryz.prog 39 #[.agg #[.int .u8 t.kind, .bool t.is, .bool t.minus, .int .u64 t.num, .string (B t.text), .slice an t.names.length cn, .slice ak t.kids.length ck], .agg #[.int .i64 7, .string (B s)]] w (ToldR (some c) 7 w) := by
    have HK := Lib.hid (fun (a b c : Obj) => hkid (wz := ((w.alloc a).alloc b).alloc c) (by go_grown))
    clear hkid

    by_cases hy : c.kind = 4 ∧ ∀ x ∈ c.kids, x.kind = 3
    · have eg : goldT (some c) 7 = { Told.zero with ok := true, list := c.kids.map (·.text) } := by simp only [goldT]; rw [if_neg (by omega), if_neg (by omega), if_neg (by omega), if_neg (by omega), if_neg (by omega), if_neg (by omega), if_pos trivial, if_pos hy]
      unfold ToldR
      rw [eg]
      clear eg
      have HY := Lib.hid hy
      clear hy
      go_enter Tryz.func39, Tryz.ntmps39
      go_wp2_with (fail)
      refine (HK.out _ _ _).mono ?_
      rintro e w2 ⟨he, hb2⟩
      obtain ⟨a1, c1, a2, c2, hrc, rfl⟩ := he
      dsimp only [tcells]
      obtain ⟨hq, hres, hbw⟩ := told_boxes hb2
      have HRES := Lib.hid hres
      have H2 := Lib.hid hbw
      have HRC := Lib.hid (hrc.below (hb2.mono (by simp only [size_of_alloc]; omega)))
      have HB2 : Hid (B0 ≤ w2.heap.size) := Lib.hid (by have := hbw.size; omega)
      have qc0 := blk_cell (l := [.int .i64 7, .string (B s)]) hq 0 _ rfl
      have hle : w.heap.size ≤ w.heap.size + 1 + 1 := by omega
      generalize w.heap.size + 1 + 1 = br at *
      generalize w.heap.size + 1 = bq at *
      have hlq : bq < w2.heap.size := block_lt_of_cell qc0
      have HLR : Hid (br < w2.heap.size) := Lib.hid (block_lt_of_cell (blk_cell (l := Zero51) HRES.out 0 _ rfl))
      clear hq hrc hb2 hres hbw
      have HTX : Hid (∀ {wz : World}, Below w2.heap.size w2 wz → Calls Tryz.prog 77 #[.agg #[.int .u8 c.kind, .bool c.is, .bool c.minus, .int .u64 c.num, .string (B c.text), .slice a1 c.names.length c1, .slice a2 c.kids.length c2]] wz fun e w' => TextsR wz.heap.size w' c e ∧ Below wz.heap.size wz w') := fun h => headTexts_any (HRC.out.below (h.mono HB2.out)) (Nat.le_trans HB2.out h.size) hkids
      go_wp2_with (fail)
      with_reducible refine (HTX.out (Below.to_alloc (Below.to_alloc (Below.refl _ _) _) _)).mono ?_
      rintro e w3 ⟨hx3, hb3⟩
      obtain ⟨hkb, hob, hbw3⟩ := told_kid hb3
      have HOB := Lib.hid hob
      have hres3 := blk_below hb3 (blk_alloc (blk_alloc HRES.out))
      clear HRES
      have HRES := Lib.hid hres3
      have H3 := Lib.hid (Below.to_next H2.out hbw3)
      clear hkb hob hres3 hbw3 hb3 qc0
      obtain ⟨lv, rfl, hrow⟩ : ∃ lv, e = .returned (.tuple #[lv, .bool true]) ∧ RowN _ w3 lv (c.kids.map (·.text)) := by
        rcases hx3 with ⟨_, h⟩ | ⟨h, _⟩
        · exact h
        · exact absurd HY.out h
      clear hx3 HY
      obtain ⟨la, ln, lc, rfl⟩ : ∃ a n c, lv = .slice a n c := by rcases hrow.form with ⟨h, _⟩ | ⟨g, cap, h, _⟩ <;> exact ⟨_, _, _, h⟩
      have HROW : Hid (RowN (w2.heap.size + 1 + 1) w3 (.slice la ln lc) (c.kids.map (·.text))) := Lib.hid (by have h := hrow; simp only [size_of_alloc] at h; exact h)
      clear hrow
      have hbne : br ≠ w2.heap.size + 1 := by have := HLR.out; omega
      have hbo : w.heap.size ≤ w2.heap.size + 1 := by have := H2.out.size; omega
      have HBR : Hid (br < w2.heap.size + 1) := Lib.hid (by have := HLR.out; omega)
      generalize w2.heap.size + 1 = bo at *
      have oc6 := blk_cell (l := Zero51) HOB.out 6 _ rfl
      have oc0 := blk_cell (l := Zero51) HOB.out 0 _ rfl
      have of6 := blk_free HOB.out 6
      have of0 := blk_free HOB.out 0
      dsimp only
      go_upto_region 27 with (fail)
      refine letterW ?_
      intro x hx
      have hr' : x.heap[br]? = some (.cells (Zero51).toArray 51 (0, 0)) := by rw [hx]; exact (by rw [Below.heap_setCell _ _ _ _ hbne, Below.heap_setCell _ _ _ _ hbne]; exact HRES.out)
      have ho' : ∀ (j : Nat) u, ([Value.bool true, .string (B []), .bool false, .int .i64 0, .int .u64 0, .float .f64 0, .slice la ln lc] : List Value)[j]? = some u → x.cell? ⟨bo, j, none⟩ = some u := by
        rw [hx]
        intro j u hu
        have hj : j < 7 := (List.getElem?_eq_some_iff.1 hu).1
        have h0 := blk_cell (l := Zero51) HOB.out
        rw [cell_set (by rw [cell_set (by rw [h0 6 _ rfl]; rfl), if_neg (by decide), h0 0 _ rfl]; rfl), cell_set (by rw [h0 6 _ rfl]; rfl)]
        obtain e | e | e | e | e | e | e : j = 0 ∨ j = 1 ∨ j = 2 ∨ j = 3 ∨ j = 4 ∨ j = 5 ∨ j = 6 := by omega
        all_goals
          subst e
          cases hu
          first | rfl | exact h0 _ _ rfl
      have HX : Hid (Below w.heap.size w x) := Lib.hid (by rw [hx]; exact (Below.setCell (Below.setCell H3.out hbo _) hbo _))
      have HXB : Hid (∀ b, b ≠ bo → x.heap[b]? = w3.heap[b]?) := Lib.hid (fun b hb => by rw [hx, Below.heap_setCell _ _ _ _ hb, Below.heap_setCell _ _ _ _ hb])
      clear hx HRES
      obtain ⟨oc0, oc1, oc2, oc3, oc4, oc5, oc6⟩ := seven ho'
      obtain ⟨rc0, rc1, rc2, rc3, rc4, rc5, rc6⟩ := seven (blk_cell (l := Zero51) hr')
      obtain ⟨rf0, rf1, rf2, rf3, rf4, rf5, rf6⟩ := sevenF hr'
      have R7 : Hid (∀ j, j < 7 → (x.cell? ⟨br, j, none⟩).isSome = true) := Lib.hid (some_seven (l := Zero51) rfl (blk_cell hr'))
      clear ho' hr'
      go_wp2
      refine letterB ?_
      intro z hz
      have hz7 : ∀ (j : Nat) u, ([Value.bool true, .string (B []), .bool false, .int .i64 0, .int .u64 0, .float .f64 0, .slice la ln lc] : List Value)[j]? = some u → z.cell? ⟨br, j, none⟩ = some u := by rw [hz]; with_reducible exact set7 R7.out
      have HZ : Hid (Below w.heap.size w z) := Lib.hid (by rw [hz]; have hx0 := HX.out; repeat (first | with_reducible exact hx0 | with_reducible refine Below.setCell ?_ hle _))
      have HZB : Hid (∀ b, b ≠ br → z.heap[b]? = x.heap[b]?) := Lib.hid (fun b hb => by rw [hz]; repeat rw [Below.heap_setCell _ _ _ _ hb])
      clear hz oc0 rc0 rf0 oc1 rc1 rf1 oc2 rc2 rf2 oc3 rc3 rf3 oc4 rc4 rf4 oc5 rc5 rf5 oc6 rc6 rf6
      obtain ⟨z0, z1, z2, z3, z4, z5, z6⟩ := seven hz7
      clear hz7
      refine bodyPost_ret (by simp [results, Tryz.results39, go_sem, z0, z1, z2, z3, z4, z5, z6]; try rfl) rfl ?_
      exact ⟨.slice la ln lc, rfl, HROW.out.keepTo (fun b hb => (HZB.out b (by have := HBR.out; omega)).trans (HXB.out b (by omega))), HZ.out⟩
    · have eg : goldT (some c) 7 = Told.zero := by simp only [goldT]; rw [if_neg (by omega), if_neg (by omega), if_neg (by omega), if_neg (by omega), if_neg (by omega), if_neg (by omega), if_pos trivial, if_neg hy]
      unfold ToldR
      rw [eg]
      clear eg
      have HY := Lib.hid hy
      clear hy
      go_enter Tryz.func39, Tryz.ntmps39
      go_wp2_with (fail)
      refine (HK.out _ _ _).mono ?_
      rintro e w2 ⟨he, hb2⟩
      obtain ⟨a1, c1, a2, c2, hrc, rfl⟩ := he
      dsimp only [tcells]
      obtain ⟨hq, hres, hbw⟩ := told_boxes hb2
      have HRES := Lib.hid hres
      have H2 := Lib.hid hbw
      have HRC := Lib.hid (hrc.below (hb2.mono (by simp only [size_of_alloc]; omega)))
      have HB2 : Hid (B0 ≤ w2.heap.size) := Lib.hid (by have := hbw.size; omega)
      have qc0 := blk_cell (l := [.int .i64 7, .string (B s)]) hq 0 _ rfl
      have hle : w.heap.size ≤ w.heap.size + 1 + 1 := by omega
      generalize w.heap.size + 1 + 1 = br at *
      generalize w.heap.size + 1 = bq at *
      have hlq : bq < w2.heap.size := block_lt_of_cell qc0
      have HLR : Hid (br < w2.heap.size) := Lib.hid (block_lt_of_cell (blk_cell (l := Zero51) HRES.out 0 _ rfl))
      clear hq hrc hb2 hres hbw
      have HTX : Hid (∀ {wz : World}, Below w2.heap.size w2 wz → Calls Tryz.prog 77 #[.agg #[.int .u8 c.kind, .bool c.is, .bool c.minus, .int .u64 c.num, .string (B c.text), .slice a1 c.names.length c1, .slice a2 c.kids.length c2]] wz fun e w' => TextsR wz.heap.size w' c e ∧ Below wz.heap.size wz w') := fun h => headTexts_any (HRC.out.below (h.mono HB2.out)) (Nat.le_trans HB2.out h.size) hkids
      go_wp2_with (fail)
      with_reducible refine (HTX.out (Below.to_alloc (Below.to_alloc (Below.refl _ _) _) _)).mono ?_
      rintro e w3 ⟨hx3, hb3⟩
      obtain ⟨hkb, hob, hbw3⟩ := told_kid hb3
      have HOB := Lib.hid hob
      have hres3 := blk_below hb3 (blk_alloc (blk_alloc HRES.out))
      clear HRES
      have HRES := Lib.hid hres3
      have H3 := Lib.hid (Below.to_next H2.out hbw3)
      clear hkb hob hres3 hbw3 hb3 qc0
      obtain rfl : e = .returned (.tuple #[.slice none 0 0, .bool false]) := by
        rcases hx3 with ⟨h, _⟩ | ⟨_, h⟩
        · exact absurd h HY.out
        · exact h
      clear hx3 HY
      have hbne : br ≠ w2.heap.size + 1 := by have := HLR.out; omega
      have hbo : w.heap.size ≤ w2.heap.size + 1 := by have := H2.out.size; omega
      generalize w2.heap.size + 1 = bo at *
      have oc6 := blk_cell (l := Zero51) HOB.out 6 _ rfl
      have oc0 := blk_cell (l := Zero51) HOB.out 0 _ rfl
      have of6 := blk_free HOB.out 6
      have of0 := blk_free HOB.out 0
      dsimp only
      go_upto_region 27 with (fail)
      refine letterW ?_
      intro x hx
      have hr' : x.heap[br]? = some (.cells (Zero51).toArray 51 (0, 0)) := by rw [hx]; exact (by rw [Below.heap_setCell _ _ _ _ hbne, Below.heap_setCell _ _ _ _ hbne]; exact HRES.out)
      have ho' : ∀ (j : Nat) u, ([Value.bool false, .string (B []), .bool false, .int .i64 0, .int .u64 0, .float .f64 0, .slice none 0 0] : List Value)[j]? = some u → x.cell? ⟨bo, j, none⟩ = some u := by
        rw [hx]
        intro j u hu
        have hj : j < 7 := (List.getElem?_eq_some_iff.1 hu).1
        have h0 := blk_cell (l := Zero51) HOB.out
        rw [cell_set (by rw [cell_set (by rw [h0 6 _ rfl]; rfl), if_neg (by decide), h0 0 _ rfl]; rfl), cell_set (by rw [h0 6 _ rfl]; rfl)]
        obtain e | e | e | e | e | e | e : j = 0 ∨ j = 1 ∨ j = 2 ∨ j = 3 ∨ j = 4 ∨ j = 5 ∨ j = 6 := by omega
        all_goals
          subst e
          cases hu
          first | rfl | exact h0 _ _ rfl
      have HX : Hid (Below w.heap.size w x) := Lib.hid (by rw [hx]; exact (Below.setCell (Below.setCell H3.out hbo _) hbo _))
      clear hx HRES
      obtain ⟨oc0, oc1, oc2, oc3, oc4, oc5, oc6⟩ := seven ho'
      obtain ⟨rc0, rc1, rc2, rc3, rc4, rc5, rc6⟩ := seven (blk_cell (l := Zero51) hr')
      obtain ⟨rf0, rf1, rf2, rf3, rf4, rf5, rf6⟩ := sevenF hr'
      have R7 : Hid (∀ j, j < 7 → (x.cell? ⟨br, j, none⟩).isSome = true) := Lib.hid (some_seven (l := Zero51) rfl (blk_cell hr'))
      clear ho' hr'
      go_wp2
      refine letterB ?_
      intro z hz
      have hz7 : ∀ (j : Nat) u, ([Value.bool false, .string (B []), .bool false, .int .i64 0, .int .u64 0, .float .f64 0, .slice none 0 0] : List Value)[j]? = some u → z.cell? ⟨br, j, none⟩ = some u := by rw [hz]; with_reducible exact set7 R7.out
      have HZ : Hid (Below w.heap.size w z) := Lib.hid (by rw [hz]; have hx0 := HX.out; repeat (first | with_reducible exact hx0 | with_reducible refine Below.setCell ?_ hle _))
      clear hz oc0 rc0 rf0 oc1 rc1 rf1 oc2 rc2 rf2 oc3 rc3 rf3 oc4 rc4 rf4 oc5 rc5 rf5 oc6 rc6 rf6
      obtain ⟨z0, z1, z2, z3, z4, z5, z6⟩ := seven hz7
      clear hz7
      refine bodyPost_ret (by simp [results, Tryz.results39, go_sem, z0, z1, z2, z3, z4, z5, z6]; try rfl) rfl ?_
      exact ⟨.slice none 0 0, rfl, NS.nil _, HZ.out⟩

end Go.Proofs.YtppkpcijmfdfmaaGreatDoor

/- headTold of any kind, headExact, and that the answers of a text are those that headTold gives. -/
set_option linter.unusedVariables false
set_option linter.unusedSimpArgs false
namespace Go.Proofs.YtppkpcijmfdfmaaGreatDoor
open Go.RowKit
attribute [local go_sem] B_size B_get B_lit B_ext_to B_ext B_toList B_app

theorem headTold_any {d B0 q : Nat} {t : HT} {nv kv : Value} {s : Bs} {w : World} (hr : RepT w B0 (d + 1) nv kv t) (hB : B0 ≤ w.heap.size) (h5 : t.kind = 5) (hl : t.names.length = t.kids.length) (hlen : t.names.length ≤ 1000000)
    (hkn : ∀ c ∈ t.kids, c.num < 18446744073709551616 ∧ c.kids.length ≤ 900000) (hq : q < 10) :
    Calls Tryz.prog 39 #[.agg (tcells t nv kv).toArray, .agg #[.int .i64 q, .string (B s)]] w (ToldR (kidIn t.names t.kids s) q w) := by
  have hr2 : RepT w B0 (d + 1 + 1) nv kv t := hr.fuel (by omega)
  obtain ⟨⟨an, cn, rfl⟩, ak, ck, rfl⟩ := hr.slices
  have hkid : ∀ {wz : World}, Below w.heap.size w wz → Calls Tryz.prog 46 #[.agg #[.int .u8 t.kind, .bool t.is, .bool t.minus, .int .u64 t.num, .string (B t.text), .slice an t.names.length cn, .slice ak t.kids.length ck], .string (B s)] wz fun e w' => KidR wz B0 (d + 1) (kidIn t.names t.kids s) e ∧ Below wz.heap.size wz w' :=
    fun h => headKid_any (d := d + 1) (hr2.below (h.mono hB)) (Nat.le_trans hB h.size) h5 hl hlen
  have hkn' : ∀ c, kidIn t.names t.kids s = some c → c.num < 18446744073709551616 ∧ c.kids.length ≤ 900000 := fun c hc => hkn c (kidIn_mem hc).2
  clear hr hr2
  simp only [tcells]
  generalize kidIn t.names t.kids s = k at *
  cases k with
  | none => exact headTold_none hkid
  | some c =>
    have hkid' : KidC d B0 t c an ak cn ck s w := fun h => hkid h
    obtain ⟨h1, h2⟩ := hkn' c rfl
    obtain h | h | h | h | h | h | h | h | h | h : q = 0 ∨ q = 1 ∨ q = 2 ∨ q = 3 ∨ q = 4 ∨ q = 5 ∨ q = 6 ∨ q = 7 ∨ q = 8 ∨ q = 9 := by omega
    · subst h; exact headTold_0 hkid' hB h1 h2
    · subst h; exact headTold_1 (q := 1) (Or.inl rfl) hkid' hB h1 h2
    · subst h; exact headTold_1 (q := 2) (Or.inr rfl) hkid' hB h1 h2
    · subst h; exact headTold_3 hkid' hB h1 h2
    · subst h; exact headTold_4 (q := 4) (Or.inl rfl) hkid' hB h1 h2
    · subst h; exact headTold_5 (q := 5) (Or.inl rfl) hkid' hB h1 h2
    · subst h; exact headTold_6 hkid' hB h1 h2
    · subst h; exact headTold_7 hkid' hB h1 h2
    · subst h; exact headTold_4 (q := 8) (Or.inr rfl) hkid' hB h1 h2
    · subst h; exact headTold_5 (q := 9) (Or.inr rfl) hkid' hB h1 h2

/-- A number of at most 2^53, or none. -/
def exactT (k : Option HT) : Bool :=
  match k with
  | none => true
  | some c => !(decide (c.kind = 2)) || decide (c.num ≤ 9007199254740992)
theorem order_zero : (FloatKind.f64.format.order 0 0 == some .eq) = true := by decide +kernel
theorem float_zero : floatOfInt .f64 0 = 0 := by decide +kernel
theorem tell_gold (t : HT) (hk : ∀ c ∈ t.kids, c.num < 18446744073709551616) (q : Nat) (s : Bs) (hq : q < 10) :
    tell t (q, s) = { goldT (kidIn t.names t.kids s) q with fl := (tell t (q, s)).fl } ∧ (exactT (kidIn t.names t.kids s) = true → (FloatKind.f64.format.order (tell t (q, s)).fl (goldT (kidIn t.names t.kids s) q).fl == some .eq) = true) := by
  unfold tell
  cases hc : kidIn t.names t.kids s with
  | none => exact ⟨rfl, fun _ => order_zero⟩
  | some c =>
    have hn := hk c (kidIn_mem hc).2
    simp only
    obtain h | hqq | h | hqq | hqq | h | h : q = 0 ∨ (q = 1 ∨ q = 2) ∨ q = 3 ∨ (q = 4 ∨ q = 8) ∨ (q = 5 ∨ q = 9) ∨ q = 6 ∨ q = 7 := by omega
    · subst h; exact ⟨rfl, fun _ => order_zero⟩
    · skip
      by_cases h3 : c.kind = 3
      · have e1 : toldT (some c) q = { Told.zero with ok := true, text := c.text } := by rcases hqq with rfl | rfl <;> simp [toldT, h3]
        have e2 : goldT (some c) q = { Told.zero with ok := true, text := c.text } := by rcases hqq with rfl | rfl <;> simp [goldT, h3]
        rw [e1, e2]; exact ⟨rfl, fun _ => order_zero⟩
      · have e1 : toldT (some c) q = Told.zero := by rcases hqq with rfl | rfl <;> simp [toldT, h3]
        have e2 : goldT (some c) q = Told.zero := by rcases hqq with rfl | rfl <;> simp [goldT, h3]
        rw [e1, e2]; exact ⟨rfl, fun _ => order_zero⟩
    · subst h
      by_cases h3 : c.kind = 1
      · have e1 : toldT (some c) 3 = { Told.zero with ok := true, is := c.is } := by simp [toldT, h3]
        have e2 : goldT (some c) 3 = { Told.zero with ok := true, is := c.is } := by simp [goldT, h3]
        rw [e1, e2]; exact ⟨rfl, fun _ => order_zero⟩
      · have e1 : toldT (some c) 3 = Told.zero := by simp [toldT, h3]
        have e2 : goldT (some c) 3 = Told.zero := by simp [goldT, h3]
        rw [e1, e2]; exact ⟨rfl, fun _ => order_zero⟩
    · skip
      have e1 : toldT (some c) q = { Told.zero with ok := (goldI c.kind c.minus c.num).isSome, int := (goldI c.kind c.minus c.num).getD 0 } := by
        by_cases h2 : c.kind = 2
        · rcases hqq with rfl | rfl <;> cases hi : hInt c.minus c.num <;> simp [toldT, goldI, h2, hi, Told.zero]
        · rcases hqq with rfl | rfl <;> simp [toldT, goldI, h2, Told.zero]
      rw [e1]; rcases hqq with rfl | rfl <;> exact ⟨rfl, fun _ => order_zero⟩
    · skip
      have e1 : toldT (some c) q = { Told.zero with ok := (goldU c.kind c.minus c.num).isSome, uint := (goldU c.kind c.minus c.num).getD 0 } := by
        by_cases h2 : c.kind = 2
        · rcases hqq with rfl | rfl <;> cases hi : hUint c.minus c.num <;> simp [toldT, goldU, h2, hi, Told.zero]
        · rcases hqq with rfl | rfl <;> simp [toldT, goldU, h2, Told.zero]
      rw [e1]; rcases hqq with rfl | rfl <;> exact ⟨rfl, fun _ => order_zero⟩
    · subst h
      have e2 : goldT (some c) 6 = { Told.zero with ok := decide (c.kind = 2), fl := floatOfInt .f64 ((goldI c.kind c.minus c.num).getD 0) } := rfl
      rw [e2]
      by_cases h2 : c.kind = 2
      · obtain ⟨f, hf, _, h3, h4⟩ := numF_at (s := hNum c.minus c.num) ⟨_, _, hn, rfl⟩
        have e1 : toldT (some c) 6 = { Told.zero with ok := true, fl := f } := by simp [toldT, h2, hf]
        rw [e1]
        refine ⟨by simp [h2], fun he => ?_⟩
        have hle : c.num ≤ 9007199254740992 := by simpa [exactT, h2] using he
        have e3 := h4 c.minus c.num rfl hle
        have e4 : (goldI c.kind c.minus c.num).getD 0 = if c.minus then -(c.num : Int) else c.num := by
          unfold goldI hInt
          rw [if_pos h2]
          cases hm : c.minus
          · rw [if_neg (by simp), if_neg (by omega)]; rfl
          · by_cases h0 : 0 < c.num
            · rw [if_pos ⟨rfl, h0⟩, if_neg (by omega)]; rfl
            · rw [if_neg (by simp [h0]), if_neg (by omega)]
              have : c.num = 0 := by omega
              rw [this]; rfl
        show (FloatKind.f64.format.order f (floatOfInt .f64 ((goldI c.kind c.minus c.num).getD 0)) == some .eq) = true
        rw [e4, ← e3]
        exact h3
      · have e1 : toldT (some c) 6 = Told.zero := by simp [toldT, h2]
        rw [e1]
        refine ⟨by simp [h2, Told.zero], fun _ => ?_⟩
        have e4 : (goldI c.kind c.minus c.num).getD 0 = 0 := by unfold goldI; rw [if_neg h2]; rfl
        show (FloatKind.f64.format.order 0 (floatOfInt .f64 ((goldI c.kind c.minus c.num).getD 0)) == some .eq) = true
        rw [e4, float_zero]
        exact order_zero
    · subst h
      by_cases h4 : c.kind = 4 ∧ ∀ x ∈ c.kids, x.kind = 3
      · have e1 : toldT (some c) 7 = { Told.zero with ok := true, list := c.kids.map (·.text) } := by
          unfold toldT
          simp only
          rw [if_neg (by omega), if_neg (by omega), if_neg (by omega), if_neg (by omega), if_neg (by omega), if_neg (by omega), if_pos ⟨h4.1, trivial, h4.2⟩]
        have e2 : goldT (some c) 7 = { Told.zero with ok := true, list := c.kids.map (·.text) } := by simp only [goldT]; rw [if_neg (by omega), if_neg (by omega), if_neg (by omega), if_neg (by omega), if_neg (by omega), if_neg (by omega), if_pos trivial, if_pos h4]
        rw [e1, e2]; exact ⟨rfl, fun _ => order_zero⟩
      · have e1 : toldT (some c) 7 = Told.zero := by
          unfold toldT
          simp only
          rw [if_neg (by omega), if_neg (by omega), if_neg (by omega), if_neg (by omega), if_neg (by omega), if_neg (by omega), if_neg (fun h => h4 ⟨h.1, h.2.2⟩)]
        have e2 : goldT (some c) 7 = Told.zero := by simp only [goldT]; rw [if_neg (by omega), if_neg (by omega), if_neg (by omega), if_neg (by omega), if_neg (by omega), if_neg (by omega), if_pos trivial, if_neg h4]
        rw [e1, e2]; exact ⟨rfl, fun _ => order_zero⟩
end Go.Proofs.YtppkpcijmfdfmaaGreatDoor

/- The walk of headExact. -/
set_option linter.unusedVariables false
set_option linter.unusedSimpArgs false
namespace Go.Proofs.YtppkpcijmfdfmaaGreatDoor
open Go.RowKit
attribute [local go_sem] B_size B_get B_lit B_ext_to B_ext B_toList B_app

set_option maxRecDepth 100000 in
set_option maxHeartbeats 2000000 in
theorem headExact_any {d B0 : Nat} {t : HT} {nv kv : Value} {s : Bs} {w : World} (hr : RepT w B0 (d + 1) nv kv t) (hB : B0 ≤ w.heap.size) (h5 : t.kind = 5) (hl : t.names.length = t.kids.length) (hlen : t.names.length ≤ 1000000) :
    Calls Tryz.prog 40 #[.agg (tcells t nv kv).toArray, .string (B s)] w fun e w' => e = .returned (.bool (exactT (kidIn t.names t.kids s))) ∧ Below w.heap.size w w' := by
  obtain ⟨⟨an, cn, rfl⟩, ak, ck, rfl⟩ := hr.slices
  have HK : Hid (∀ o : Obj, Calls Tryz.prog 46 #[.agg #[.int .u8 t.kind, .bool t.is, .bool t.minus, .int .u64 t.num, .string (B t.text), .slice an t.names.length cn, .slice ak t.kids.length ck], .string (B s)] (w.alloc o) fun e w' => KidR (w.alloc o) B0 d (kidIn t.names t.kids s) e ∧ Below w.heap.size w w') := fun o =>
    (headKid_any (d := d) (hr.below (((Below.refl w.heap.size w).alloc (Nat.le_refl _) o).mono hB)) (by rw [size_of_alloc]; omega) h5 hl hlen).mono fun e w' h => ⟨h.1, Below.to_next (Below.to_alloc (Below.refl _ _) _) h.2⟩
  clear hr h5 hl
  simp only [tcells]
  cases hk : kidIn t.names t.kids s with
  | none =>
    rw [hk] at HK
    clear hk
    have e0 : exactT none = true := rfl
    rw [e0]
    go_enter Tryz.func40, Tryz.ntmps40
    go_wp2_with (fail)
    refine (HK.out _).mono ?_
    rintro e w2 ⟨he, hb2⟩
    have he' : e = .returned (.tuple #[.agg #[.int .u8 0, .bool false, .bool false, .int .u64 0, .string (B []), .slice none 0 0, .slice none 0 0], .bool false]) := he
    subst he'
    have H2 := Lib.hid hb2
    clear hb2 he
    dsimp only
    go_wp2
    go_ret
    exact ⟨rfl, Below.to_alloc H2.out _⟩
  | some c =>
    rw [hk] at HK
    clear hk
    have e0 : exactT (some c) = (!(decide (c.kind = 2)) || decide (c.num ≤ 9007199254740992)) := rfl
    rw [e0]
    by_cases h2 : c.kind = 2
    · have f2 : ((c.kind : Int) == 2) = true := by rw [beq_iff_eq]; omega
      have f3 : ((c.kind : Int) != 2) = false := by simp; omega
      have f4 : (c.kind : Int) = 2 := by omega
      have e1 : decide (c.num ≤ 9007199254740992) = decide ((c.num : Int) ≤ 9007199254740992) := by rw [Bool.eq_iff_iff, decide_eq_true_iff, decide_eq_true_iff]; omega
      rw [decide_eq_true h2, Bool.not_true, Bool.false_or, e1]
      clear h2 e0
      go_enter Tryz.func40, Tryz.ntmps40
      go_wp2_with (fail)
      refine (HK.out _).mono ?_
      rintro e w2 ⟨he, hb2⟩
      obtain ⟨a1, c1, a2, c2, hrc, rfl⟩ := he
      have H2 := Lib.hid hb2
      clear hb2 hrc
      dsimp only [tcells]
      go_wp2
      go_ret
      exact ⟨rfl, Below.to_alloc H2.out _⟩
    · have f2 : ((c.kind : Int) == 2) = false := by rw [beq_eq_false_iff_ne]; omega
      have f3 : ((c.kind : Int) != 2) = true := by simp; omega
      have f4 : ¬ (c.kind : Int) = 2 := by omega
      rw [decide_eq_false h2, Bool.not_false, Bool.true_or]
      clear h2 e0
      go_enter Tryz.func40, Tryz.ntmps40
      go_wp2_with (fail)
      refine (HK.out _).mono ?_
      rintro e w2 ⟨he, hb2⟩
      obtain ⟨a1, c1, a2, c2, hrc, rfl⟩ := he
      have H2 := Lib.hid hb2
      clear hb2 hrc
      dsimp only [tcells]
      go_wp2
      go_ret
      exact ⟨rfl, Below.to_alloc H2.out _⟩
end Go.Proofs.YtppkpcijmfdfmaaGreatDoor
