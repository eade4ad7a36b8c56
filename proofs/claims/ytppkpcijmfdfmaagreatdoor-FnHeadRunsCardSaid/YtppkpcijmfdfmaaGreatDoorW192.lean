/- The walk of headAsks: questions by small numbers. -/
import Derived.Test.YtppkpcijmfdfmaaGreatDoorG2
import Derived.Test.YtppkpcijmfdfmaaGreatDoorH1
import Derived.Deep.AppendLies
set_option linter.unusedVariables false
set_option linter.unusedSimpArgs false
namespace Go.Proofs.YtppkpcijmfdfmaaGreatDoor
open Go.RowKit
attribute [local go_sem] B_size B_get B_lit B_ext_to B_ext B_toList B_app

/-- Small questions in memory. -/
def QRow (w : World) (v : Value) (l : List (Nat × Nat)) : Prop :=
  (∃ a c, v = .slice a 0 c ∧ l = []) ∨ ∃ b off c, v = .slice (some ⟨b, off, none⟩) l.length c ∧ b < w.heap.size ∧
    ∀ (i : Nat) q, l[i]? = some q → w.cell? ⟨b, off + i * 2, none⟩ = some (.int .u8 q.1) ∧ w.cell? ⟨b, off + i * 2 + 1, none⟩ = some (.int .u8 q.2) ∧ q.1 < 256 ∧ q.2 < 256
theorem QRow.below {w w' : World} {v : Value} {l : List (Nat × Nat)} (h : QRow w v l) (hb : Below w.heap.size w w') : QRow w' v l := by
  rcases h with h | ⟨b, off, c, rfl, hlt, hc⟩
  · exact Or.inl h
  · exact Or.inr ⟨b, off, c, rfl, Nat.lt_of_lt_of_le hlt hb.size, fun i q hi => ⟨(hb.cell (p := ⟨b, off + i * 2, none⟩) hlt).trans (hc i q hi).1, (hb.cell (p := ⟨b, off + i * 2 + 1, none⟩) hlt).trans (hc i q hi).2.1, (hc i q hi).2.2⟩⟩
/-- What they ask. -/
def asksOf (names : List Bs) (l : List (Nat × Nat)) : Asks := l.map fun q => (q.1 % 10, names.getD (q.2 % names.length) [])
theorem asksOf_length (names : List Bs) (l : List (Nat × Nat)) : (asksOf names l).length = l.length := by simp [asksOf]
theorem asksOf_push {names : List Bs} {l : List (Nat × Nat)} {i : Nat} {q : Nat × Nat} (h : l[i]? = some q) {s : Bs} (hs : names[q.2 % names.length]? = some s) : asksOf names (l.take (i + 1)) = asksOf names (l.take i) ++ [(q.1 % 10, s)] := by
  unfold asksOf
  rw [List.take_add_one, h, List.map_append]
  simp [hs]
theorem asksOf_mem {names : List Bs} {l : List (Nat × Nat)} {q : Nat × Bs} (h : q ∈ asksOf names l) (hn : 0 < names.length) : q.1 < 10 ∧ q.2 ∈ names := by
  obtain ⟨p, hp, rfl⟩ := List.mem_map.1 h
  refine ⟨Nat.mod_lt _ (by decide), ?_⟩
  have hlt := Nat.mod_lt p.2 hn
  show names.getD (p.2 % names.length) [] ∈ names
  rw [List.getD_eq_getElem?_getD, List.getElem?_eq_getElem hlt]
  exact List.getElem_mem hlt
/-- A row of questions of a call's own, or nil. -/
def RowA (base : Nat) (w : World) (v : Value) (l : Asks) : Prop := w.ownsRow base 62 2 v l.length (flatA l)
theorem flatA_length (l : Asks) : (flatA l).length = l.length * 2 := by
  unfold flatA
  induction l with
  | nil => rfl
  | cons a l ih => rw [List.flatMap_cons, List.length_append, ih]; simp; omega
theorem RowA.ask {base : Nat} {w : World} {v : Value} {l : Asks} (h : RowA base w v l) : AskRow w v l := by
  obtain ⟨h0, ⟨rfl, h1⟩ | ⟨g, cap, cur, rfl, h2, h3, h4, h5, h6, h7⟩⟩ := h
  · exact Or.inl ⟨rfl, List.eq_nil_of_length_eq_zero h1⟩
  · have hlt : g < w.heap.size := by
      rcases Nat.lt_or_ge g w.heap.size with h' | h'
      · exact h'
      · rw [Array.getElem?_eq_none h'] at h3; cases h3
    have hc : ∀ (j : Nat) u, (flatA l)[j]? = some u → w.cell? ⟨g, j, none⟩ = some u := fun j u hu => by
      have hj := (List.getElem?_eq_some_iff.1 hu).1
      rw [flatA_length] at hj
      have e : cur[j]? = some u := by
        rw [← Array.getElem?_toList, ← List.getElem?_take_of_lt (show j < l.length * 2 by omega), h7]
        exact hu
      unfold World.cell?
      simp [h3, e]
    exact Or.inr ⟨g, cap, rfl, hlt, fun i q hi => ⟨hc _ _ (flatA_get l i q hi).1, hc _ _ (flatA_get l i q hi).2⟩⟩
theorem RowA.below {base : Nat} {w w' : World} {v : Value} {l : Asks} (h : RowA base w v l) (hb : Below w.heap.size w w') : RowA base w' v l := by
  obtain ⟨h0, h | ⟨g, cap, cur, rfl, h2, h3, h4⟩⟩ := h
  · exact ⟨h0, Or.inl h⟩
  · have hlt : g < w.heap.size := by
      rcases Nat.lt_or_ge g w.heap.size with h' | h'
      · exact h'
      · rw [Array.getElem?_eq_none h'] at h3; cases h3
    exact ⟨h0, Or.inr ⟨g, cap, cur, rfl, h2, (hb.block g hlt).trans h3, h4⟩⟩
theorem RowA.own {base : Nat} {w : World} {v : Value} {l : Asks} (h : RowA base w v l) : ∀ g, v.ownBlock = some g → base ≤ g ∧ g < w.heap.size := by
  intro g e
  obtain ⟨h0, ⟨rfl, _⟩ | ⟨g', cap, cur, rfl, h2, h3, _⟩⟩ := h
  · cases e
  · obtain rfl : g' = g := Option.some.inj e
    refine ⟨h2, ?_⟩
    rcases Nat.lt_or_ge g' w.heap.size with h' | h'
    · exact h'
    · rw [Array.getElem?_eq_none h'] at h3; cases h3
theorem RowA.slice {base : Nat} {w : World} {v : Value} {l : Asks} (h : RowA base w v l) : ∃ a m c, v = .slice a m c := by
  obtain ⟨h0, ⟨rfl, _⟩ | ⟨g', cap, cur, rfl, h2, _⟩⟩ := h
  · exact ⟨_, _, _, rfl⟩
  · exact ⟨_, _, _, rfl⟩
theorem blk_lt' {w : World} {b : Nat} {o : Obj} (h : w.heap[b]? = some o) : b < w.heap.size := by
  rcases Nat.lt_or_ge b w.heap.size with h' | h'
  · exact h'
  · rw [Array.getElem?_eq_none h'] at h; cases h
theorem step_append_ask {w : World} {ops : Array Oper} {o : Oper} {a : Act} {K : Act → World → Prop} {Q : Exit → Act → World → Prop} {E : Prop} (hgd : o.guard = none) (s x : Operand)
    (ho : o.op = .call { callee := .builtin .append, args := #[s, x], argTypes := #[48, 48] }) {base : Nat} {v : Value} {l : Asks} (h : RowA base w v l) (hs : a.eval s = v) (b : Nat) (q : Nat × Bs) (hx : a.eval x = .slice (some ⟨b, 0, none⟩) 1 1)
    (hc : ∀ (j : Nat) u, [Value.int .i64 q.1, Value.string (B q.2)][j]? = some u → w.cell? ⟨b, j, none⟩ = some u) (hl : l.length < 1000000) (hb : base ≤ w.heap.size)
    (hK : ∀ v' w', RowA base w' v' (l ++ [q]) → w.grownBy w' v.ownBlock → K (a.put o.dst v') w') :
    if Region.wanted o (yielded ops a.tmps) = true then Oper.wp Tryz.prog o a w K Q else E := by
  have hw : Region.wanted o (yielded ops a.tmps) = true := by simp [Region.wanted, hgd]
  rw [if_pos hw]
  obtain ⟨i, hi, hz, hs', hby⟩ := info_parts info62
  obtain ⟨g', cap', w', h1, h2, h3, _, _⟩ := run_append_lies (P := Tryz.prog) w 48 o.type base 62 i _ 2 24 Tryz.underlying48 hi hz hs' hby rfl (by decide) _ l.length (flatA l) h ⟨b, 0, none⟩ 1 1 [Value.int .i64 q.1, Value.string (B q.2)]
    rfl (fun j u hu => by rw [add_lit0, Nat.zero_add]; exact hc j u hu) (by intro u hu; simp at hu; rcases hu with rfl | rfl <;> rfl) (by decide) (by unfold maxLen; omega) (by omega) hb w.heap.size rfl
  have e : l.length + 1 = (l ++ [q]).length := by simp
  rw [e] at h1 h2
  rw [← flatA_push] at h2
  exact Lib.wp_append_run w s x 48 48 ho _ _ hs hx _ _ h1 (hK _ w' h2 h3)

set_option maxRecDepth 100000 in
set_option maxHeartbeats 4000000 in
theorem asks_any {d B0 : Nat} {t : HT} {nv kv : Value} {name : Bs} {lv : Value} {l : List (Nat × Nat)} {w : World} (hr : RepT w B0 d nv kv t) (hB : B0 ≤ w.heap.size) (hn : t.names.length ≤ 1000) (hq : QRow w lv l) (hl : l.length ≤ 1000) :
    Calls Tryz.prog 38 #[.agg (tcells t nv kv).toArray, lv, .string (B name)] w fun e w' => ∃ av, e = .returned av ∧ AskRow w' av (asksOf (name :: t.names) l) ∧ Below w.heap.size w w' := by
  obtain ⟨⟨an, cn, rfl⟩, ak, ck, rfl⟩ := hr.slices
  obtain ⟨la, lc, rfl⟩ : ∃ a c, lv = .slice a l.length c := by
    rcases hq with ⟨a, c, h, rfl⟩ | ⟨b, off, c, h, _⟩
    · exact ⟨a, c, h⟩
    · exact ⟨_, c, h⟩
  obtain ⟨w1, hw1⟩ : ∃ w1, w1 = w.alloc (.cells (tcells t (.slice an t.names.length cn) (.slice ak t.kids.length ck)).toArray 45) := ⟨_, rfl⟩
  have hb1 : Below w.heap.size w w1 := by rw [hw1]; exact (Below.refl _ _).alloc (Nat.le_refl _) _
  have hlt1 : w.heap.size < w1.heap.size := by rw [hw1]; simp
  have hq5 : w1.cell? ⟨w.heap.size, 5, none⟩ = some (.slice an t.names.length cn) := by rw [hw1, cell_box]; rfl
  have hns0 : NSB w1 B0 (.slice an t.names.length cn) t.names := (names_nsb hr).below (hb1.mono hB)
  have HQ := Lib.hid hq
  have HB1 := Lib.hid hb1
  have hb2 : Below w1.heap.size w1 (w1.alloc (.cells #[Value.string (B name)] 9)) := Below.to_alloc (Below.refl _ _) _
  have hq5b : (w1.alloc (.cells #[Value.string (B name)] 9)).cell? ⟨w.heap.size, 5, none⟩ = some (.slice an t.names.length cn) := (hb2.cell (p := ⟨w.heap.size, 5, none⟩) hlt1).trans hq5
  obtain ⟨nvv, w2, happ, hns, hb3⟩ := append_names (w1.alloc (.cells #[Value.string (B name)] 9)) 29 w1.heap.size t.names name (.slice an t.names.length cn) (oneBox w1 name) (hns0.below (hb2.mono (Nat.le_trans hB hb1.size))) (by omega)
  obtain ⟨vb, vof, vc, rfl, hvl, hvc⟩ : ∃ b off c, nvv = .slice (some ⟨b, off, none⟩) (name :: t.names).length c ∧ b < w2.heap.size ∧ ∀ (i : Nat) s, (name :: t.names)[i]? = some s → w2.cell? ⟨b, off + i, none⟩ = some (.string (B s)) := by
    rcases hns with ⟨_, _, _, h⟩ | ⟨b, off, c, h, h2, h3⟩
    · cases h
    · exact ⟨b, off, c, h, h2, h3⟩
  have HVC := Lib.hid (And.intro hvl hvc)
  have HAPP := Lib.hid happ
  have HB2 := Lib.hid (Below.to_next (Below.to_next HB1.out hb2) hb3)
  obtain ⟨NS, hNS⟩ : ∃ n, n = name :: t.names := ⟨_, rfl⟩
  have hnl : 0 < NS.length ∧ NS.length ≤ 1001 := by rw [hNS, List.length_cons]; omega
  rw [← hNS] at HVC HAPP ⊢
  have HNL := Lib.hid hnl
  clear hr hq hb1 hns0 hb2 hns hb3 hvl hvc happ hNS hnl
  simp only [tcells] at hw1 ⊢
  have HW1 := Lib.hid hw1
  clear hw1
  go_enter Tryz.func38, Tryz.ntmps38
  go_upto_region 1 with (fail)
  rw [← HW1.out]
  go_wp2_with (at_builtin; refine Lib.wpList_append_run _ rfl (.tmp 12) (.tmp 14) 29 29 rfl _ _ rfl rfl _ _ HAPP.out ?_)
  go_upto_region 4 with (fail)
  clear hq5 hq5b
  go_loopw [8, 18] (fun ov q wr => ∃ i : Nat, i ≤ l.length ∧ q = .int .i64 (i : Int) ∧ Hid (RowA w2.heap.size wr ov (asksOf NS (l.take i)) ∧ Below w2.heap.size w2 wr)) (fun _ q _ => l.length + 1 - (intOf q).toNat)
  case atStart => exact ⟨0, Nat.zero_le _, rfl, Lib.hid ⟨⟨rfl, Or.inl ⟨rfl, rfl⟩⟩, Below.refl _ _⟩⟩
  case round =>
    obtain ⟨i, hi, rfl, HS⟩ := hrel
    by_cases hlt : i < l.length
    · obtain ⟨⟨qk, qa⟩, hq⟩ : ∃ q, l[i]? = some q := ⟨_, List.getElem?_eq_getElem hlt⟩
      obtain ⟨oa, om, oc, rfl⟩ := HS.out.1.slice
      have HBW : Hid (Below w.heap.size w wr) := Lib.hid (Below.to_next HB2.out HS.out.2)
      obtain ⟨b, off, rfl, hbl, hcl⟩ : ∃ b off, la = some ⟨b, off, none⟩ ∧ b < w.heap.size ∧ ∀ (i : Nat) q, l[i]? = some q → w.cell? ⟨b, off + i * 2, none⟩ = some (.int .u8 q.1) ∧ w.cell? ⟨b, off + i * 2 + 1, none⟩ = some (.int .u8 q.2) ∧ q.1 < 256 ∧ q.2 < 256 := by
        rcases HQ.out with ⟨_, _, h, h2⟩ | ⟨b, off, c, h, h1, h2⟩
        · rw [h2] at hlt; simp at hlt
        · cases h; exact ⟨b, off, rfl, h1, h2⟩
      obtain ⟨k0, k1, k2, k3⟩ := hcl i _ hq
      have k0 := (HBW.out.cell (p := ⟨b, off + i * 2, none⟩) hbl).trans k0
      have k1 := (HBW.out.cell (p := ⟨b, off + i * 2 + 1, none⟩) hbl).trans k1
      simp only at k0 k1 k2 k3
      obtain ⟨m, hm⟩ : ∃ m, m = qk % 10 := ⟨_, rfl⟩
      obtain ⟨p, hp⟩ : ∃ p, p = qa % NS.length := ⟨_, rfl⟩
      have hn0 := HNL.out
      have hpl : p < NS.length := by rw [hp]; exact Nat.mod_lt _ hn0.1
      obtain ⟨s, hs⟩ : ∃ s, NS[p]? = some s := ⟨_, List.getElem?_eq_getElem hpl⟩
      have e1 : (qk : Int).tmod 10 = (m : Int) := by rw [hm]; exact Int.ofNat_tmod qk 10
      have e2 : (qa : Int).tmod (NS.length : Int) = (p : Int) := by rw [hp]; exact Int.ofNat_tmod qa NS.length
      have e3 : IntKind.i64.wrap (m : Int) = (m : Int) := by rw [IntKind.wrap_i64]; omega
      have e4 : IntKind.i64.wrap (qa : Int) = (qa : Int) := by rw [IntKind.wrap_i64]; omega
      have e5 : ¬ (NS.length = 0) := by omega
      have e6 : ¬ ((NS.length : Int) = 0) := by omega
      have e7 : (p : Int) < (NS.length : Int) := by omega
      have e8 : (0 : Int) ≤ (p : Int) := by omega
      have e9 : IntKind.u8.wrap (m : Int) = (m : Int) := by
        have : m < 10 := by rw [hm]; exact Nat.mod_lt _ (by decide)
        unfold IntKind.wrap
        simp [IntKind.bits, IntKind.signed]
        omega
      have HPUSH := Lib.hid (asksOf_push (names := NS) hq (by rw [← hp]; exact hs))
      rw [← hm] at HPUSH
      have HLT := Lib.hid hlt
      have il : (i : Int) < (l.length : Int) := by omega
      have i9 : (i : Int) < 100000 := by omega
      have i0 : (0 : Int) ≤ (i : Int) := by omega
      have HTK : Hid ((asksOf NS (l.take i)).length ≤ 1000) := Lib.hid (by rw [asksOf_length, List.length_take]; omega)
      clear hq hcl hm hp hbl
      go_upto_region 6 with (fail)
      obtain ⟨wq, hwq⟩ : ∃ wq, wq = wr.alloc (.cells #[Value.int .u8 qk, .int .u8 qa] 131) := ⟨_, rfl⟩
      rw [← hwq]
      have hbq : Below wr.heap.size wr wq := by rw [hwq]; exact Below.to_alloc (Below.refl _ _) _
      have hqb : wq.heap[wr.heap.size]? = some (.cells ([Value.int .u8 qk, .int .u8 qa] : List Value).toArray 131 (0, 0)) := by rw [hwq]; exact heap_alloc_new _ _
      have HQ0 : Hid (∀ {wz : World}, Below wq.heap.size wq wz → wz.cell? ⟨wr.heap.size, 0, none⟩ = some (.int .u8 qk)) := fun h => blk_cell (blk_below h hqb) 0 _ rfl
      have HQ1 : Hid (∀ {wz : World}, Below wq.heap.size wq wz → wz.cell? ⟨wr.heap.size, 1, none⟩ = some (.int .u8 qa)) := fun h => blk_cell (blk_below h hqb) 1 _ rfl
      have HBQ := Lib.hid hbq
      have HNC : Hid (∀ {wz : World}, Below wq.heap.size wq wz → wz.cell? ⟨vb, vof + p, none⟩ = some (.string (B s))) := fun h =>
        ((Below.to_next (Below.to_next HS.out.2 HBQ.out) h).cell (p := ⟨vb, vof + p, none⟩) HVC.out.1).trans (HVC.out.2 p s hs)
      have HRA := Lib.hid (HS.out.1.below hbq)
      have HSW : Hid (w2.heap.size ≤ wq.heap.size) := Lib.hid (Nat.le_trans HS.out.2.size hbq.size)
      have HBQ2 := Lib.hid (Below.to_next HS.out.2 hbq)
      have HS5 : Hid (∀ {X Y : World}, Below wq.heap.size wq X → X.grownBy Y (Value.slice oa om oc).ownBlock → (Y.cell? ⟨wr.heap.size, 0, none⟩ = some (.int .u8 qk) ∧ Y.cell? ⟨wr.heap.size, 1, none⟩ = some (.int .u8 qa) ∧ Y.cell? ⟨vb, vof + p, none⟩ = some (.string (B s))) ∧ Below w2.heap.size w2 Y) := by
        intro X Y hX hg
        have hwr : wr.heap.size < wq.heap.size := blk_lt' hqb
        have hown := fun g e => RowA.own HS.out.1 g e
        have hvb : vb < w2.heap.size := HVC.out.1
        have h2q := HSW.out
        have hsz := hX.size
        have k1 := hg.block wr.heap.size (by omega) (fun e => by have := (hown _ e.symm).2; omega)
        have k2 := hg.block vb (by omega) (fun e => by have := (hown _ e.symm).1; omega)
        exact ⟨⟨(World.cell?_of_block (a := ⟨wr.heap.size, 0, none⟩) k1).trans (HQ0.out hX), (World.cell?_of_block (a := ⟨wr.heap.size, 1, none⟩) k1).trans (HQ1.out hX), (World.cell?_of_block (a := ⟨vb, vof + p, none⟩) k2).trans (HNC.out hX)⟩, Below.grown (Below.to_next HBQ2.out hX) hg (by omega) (fun g e => (hown g e).1)⟩
      clear hwq hbq hqb hs k0 k1
      go_region_held_law (fun w' => (w'.cell? ⟨wr.heap.size, 0, none⟩ = some (.int .u8 qk) ∧ w'.cell? ⟨wr.heap.size, 1, none⟩ = some (.int .u8 qa) ∧ w'.cell? ⟨vb, vof + p, none⟩ = some (.string (B s))) ∧ Below w2.heap.size w2 w')
        (first
          | exact HS5.out (by (repeat (first | with_reducible exact Below.refl _ _ | with_reducible refine Below.drew ?_ | with_reducible refine Below.to_alloc ?_ _))) hgr
          | (refine (fun hz => ⟨⟨HQ0.out hz, HQ1.out hz, HNC.out hz⟩, Below.to_next HBQ2.out hz⟩) ?_
             (repeat (first | with_reducible exact Below.refl _ _ | with_reducible refine Below.drew ?_ | with_reducible refine Below.to_alloc ?_ _))))
        (first
          | (refine step_append_ask (by rfl) _ _ (by rfl) (RowA.below HRA.out (by (repeat (first | with_reducible exact Below.refl _ _ | with_reducible refine Below.drew ?_ | with_reducible refine Below.to_alloc ?_ _)))) (by rfl) _ (m, s) (by rfl) (fun j u hu => by first | exact blk_cell (l := [Value.int .i64 m, Value.string (B s)]) (heap_alloc_new _ _) j u hu | exact blk_cell (l := [Value.int .i64 m, Value.string (B s)]) (blk_drew (heap_alloc_new _ _)) j u hu) (by have := HTK.out; omega) (Nat.le_trans HSW.out (Below.size (B := wq.heap.size) (by (repeat (first | with_reducible exact Below.refl _ _ | with_reducible refine Below.drew ?_ | with_reducible refine Below.to_alloc ?_ _))))) ?_; intro v' w5 hrow hgr; have HB5 := Lib.hid (Below.grown (Below.to_next HBQ2.out (by (repeat (first | with_reducible exact Below.refl _ _ | with_reducible refine Below.drew ?_ | with_reducible refine Below.to_alloc ?_ _)))) hgr (Nat.le_trans HSW.out (Below.size (B := wq.heap.size) (by (repeat (first | with_reducible exact Below.refl _ _ | with_reducible refine Below.drew ?_ | with_reducible refine Below.to_alloc ?_ _))))) (fun g e => (RowA.own HRA.out g e).1))))
      all_goals
        go_split_ands
        have hrow2 := hrow
        rw [← HPUSH.out] at hrow2
        have HROW := Lib.hid hrow2
        clear hrow hgr hrow2
        go_wp2
        go_roundw
        case rel => exact ⟨i + 1, by have := HLT.out; omega, by go_num, Lib.hid ⟨HROW.out, HB5.out⟩⟩
        case measure => (have := HLT.out; simp [intOf]; omega)
    · obtain rfl : i = l.length := by omega
      go_wp2
      go_ret
      refine ⟨_, rfl, ?_, Below.to_next HB2.out HS.out.2⟩
      have := HS.out.1.ask
      rwa [List.take_length] at this
end Go.Proofs.YtppkpcijmfdfmaaGreatDoor
