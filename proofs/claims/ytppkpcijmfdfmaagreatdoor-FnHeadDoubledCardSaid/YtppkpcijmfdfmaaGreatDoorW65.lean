/- The walk of HeadTokens: the tokens of a tree, in a row of the call's own. -/
import Derived.Test.YtppkpcijmfdfmaaGreatDoorW64
import Derived.Deep.RegionHeld3
import Derived.Deep.RegionHeldLaw
namespace Go.Proofs.YtppkpcijmfdfmaaGreatDoor
open Go.RowKit
attribute [local go_sem] B_size B_get B_lit B_ext_to B_ext B_toList B_app
variable {N M : Nat}

/-- What HeadTokens gives: the tokens, in a new row. -/
def TokR (w : World) (l : List Bs) (e : Ending) (w' : World) : Prop := ∃ g cap, e = .returned (.slice (some ⟨g, 0, none⟩) l.length cap) ∧ OwnG w.heap.size w' g cap l ∧ Below w.heap.size w w'
theorem OwnG.one (w : World) (s : Bs) {base : Nat} (hb : base ≤ w.heap.size) : OwnG base (w.alloc (.cells #[Value.string (B s)] 9)) w.heap.size 1 [s] := OwnG.new w [s] hb (by simp)
theorem TxtAt.one (w : World) (s : Bs) : TxtAt (w.alloc (.cells #[Value.string (B s)] 9)) w.heap.size 0 [s] := TxtAt.new w [s]
theorem OwnG.lower {base b' : Nat} {w : World} {g cap : Nat} {l : List Bs} (h : OwnG base w g cap l) (hb : b' ≤ base) : OwnG b' w g cap l := by
  obtain ⟨h0, h⟩ := h
  refine ⟨h0, ?_⟩
  rcases h with h | ⟨g', cap', cur, h1, h2, h3⟩
  · exact Or.inl h
  · exact Or.inr ⟨g', cap', cur, h1, Nat.le_trans hb h2, h3⟩

/-- The tokens that are being collected. -/
structure TokSt (f : HT → List Bs) (ob : Bool) (ns : List Bs) (ks : List HT) (res tail : List Bs) (sb base : Nat) (w1 : World) (m g cap : Nat) (u : List Bs) (wr : World) : Prop where
  le : m ≤ ks.length
  own : OwnG base wr g cap u
  only : OnlyB sb base w1 wr
  st : StyleAt sb wr 0
  eq : res = u ++ (tFrom f ob ns ks m ++ tail)
theorem TokSt.step {f : HT → List Bs} {ob : Bool} {ns : List Bs} {ks : List HT} {res tail : List Bs} {sb base : Nat} {w1 : World} {m g cap : Nat} {u : List Bs} {wr wn : World} (h : TokSt f ob ns ks res tail sb base w1 m g cap u wr) {k : HT} (hk : ks[m]? = some k)
    {g' cap' : Nat} {o : List Bs} (ho : o = u ++ (tComma m ++ (tName ob (ns.drop m) ++ f k))) (hown : OwnG base wn g' cap' o) (hw : OnlyB sb base wr wn) (hs : StyleAt sb wn 0) : TokSt f ob ns ks res tail sb base w1 (m + 1) g' cap' o wn := by
  have hlt := (List.getElem?_eq_some_iff.1 hk).1
  refine ⟨by omega, hown, h.only.trans hw, hs, ?_⟩
  rw [h.eq, tFrom_step f ob ns ks m k hk, ho]
  simp only [List.append_assoc]
theorem TokSt.step' {f : HT → List Bs} {ob : Bool} {ns : List Bs} {ks : List HT} {res tail : List Bs} {sb base : Nat} {w1 : World} {m g cap : Nat} {u : List Bs} {wr wn : World} (h : TokSt f ob ns ks res tail sb base w1 m g cap u wr) {k : HT} (hk : ks[m]? = some k)
    {g' cap' : Nat} {o : List Bs} (ho : o = u ++ (tComma m ++ (tName ob (ns.drop m) ++ f k))) (hown : OwnG base wn g' cap' o) (hw : OnlyB sb base w1 wn) (hs : StyleAt sb wn 0) : TokSt f ob ns ks res tail sb base w1 (m + 1) g' cap' o wn := by
  have hlt := (List.getElem?_eq_some_iff.1 hk).1
  refine ⟨by omega, hown, hw, hs, ?_⟩
  rw [h.eq, tFrom_step f ob ns ks m k hk, ho]
  simp only [List.append_assoc]
theorem StyleAt.grown {sb x g : Nat} {w w' : World} (h : StyleAt sb w x) (hg : w.grownBy w' (some g)) (hne : g ≠ sb) : StyleAt sb w' x := by
  have hb := hg.block sb h.lt (by intro e; cases e; exact hne rfl)
  exact ⟨(World.cell?_of_block (a := ⟨sb, 0, none⟩) hb).trans h.cell, (World.frozen?_of_block (a := ⟨sb, 0, none⟩) hb).trans h.free, Nat.lt_of_lt_of_le h.lt hg.size, h.u64⟩

/-- The start of the walk: the tree's own block, and the style's. -/
structure TokW (w w1 : World) (l : List Value) (B0 : Nat) : Prop where
  st : StyleAt (w.heap.size + 1) w1 0
  size : w1.heap.size = w.heap.size + 2
  cells : ∀ {wz : World}, OnlyB (w.heap.size + 1) (w.heap.size + 2) w1 wz → ∀ (j : Nat) v, l[j]? = some v → wz.cell? ⟨w.heap.size, j, none⟩ = some v
  low : ∀ {wz : World}, OnlyB (w.heap.size + 1) (w.heap.size + 2) w1 wz → Below w.heap.size w wz
theorem tokW (w : World) (l : List Value) (B0 : Nat) : TokW w ((w.alloc (.cells l.toArray 45)).alloc (.cells #[Value.int .u64 0] 99)) l B0 := by
  have hsz1 : (w.alloc (.cells l.toArray 45)).heap.size = w.heap.size + 1 := by simp
  have hs : StyleAt (w.heap.size + 1) ((w.alloc (.cells l.toArray 45)).alloc (.cells #[Value.int .u64 0] 99)) 0 := by
    have hb := heap_alloc_new (w.alloc (.cells l.toArray 45)) (.cells #[Value.int .u64 0] 99)
    rw [hsz1] at hb
    refine ⟨?_, ?_, by simp, by decide⟩
    · show (World.alloc _ (.cells [Value.int .u64 0].toArray 99)).cell? _ = _
      rw [← hsz1, cell_box]
      rfl
    · unfold World.frozen?
      rw [show ((w.alloc (.cells l.toArray 45)).alloc (.cells #[Value.int .u64 0] 99)).heap[(⟨w.heap.size + 1, 0, none⟩ : Addr).block]? = some (.cells #[Value.int .u64 0] 99) from hb]
      rfl
  refine ⟨hs, by simp, fun {wz} ho j v hv => ?_, fun {wz} ho => ?_⟩
  · refine (ho.cell (by omega) (by omega)).trans ?_
    refine ((((Below.refl (w.heap.size + 1) _).alloc (by simp) _).cell (p := ⟨w.heap.size, j, none⟩) (by show w.heap.size < _; omega))).trans ?_
    rw [cell_box]
    exact hv
  · have hb1 : Below w.heap.size w ((w.alloc (.cells l.toArray 45)).alloc (.cells #[Value.int .u64 0] 99)) := ((Below.refl _ _).alloc (Nat.le_refl _) _).alloc (by simp) _
    exact hb1.trans (ho.low (by omega) (by omega))

set_option maxRecDepth 100000 in
set_option maxHeartbeats 4000000 in
theorem toks_scalar {d : Nat} {t : HT} {nv kv : Value} {w : World} (hn : t.num < 18446744073709551616) (hk : t.kind < 4) (hl : t.kind = 3 → t.text.length < 4294967296) (hs : (∃ a n c, nv = .slice a n c) ∧ ∃ a n c, kv = .slice a n c) :
    Calls Tryz.prog 50 #[.agg (tcells t nv kv).toArray] w (TokR w (hToks (d + 1) t)) := by
  obtain ⟨⟨an, nn, cn, rfl⟩, ak, nk, ck, rfl⟩ := hs
  obtain ⟨w1, hw1⟩ : ∃ w1, w1 = (w.alloc (.cells (tcells t (.slice an nn cn) (.slice ak nk ck)).toArray 45)).alloc (.cells #[Value.int .u64 0] 99) := ⟨_, rfl⟩
  have HW : Hid (TokW w w1 (tcells t (.slice an nn cn) (.slice ak nk ck)) 0) := by rw [hw1]; exact tokW _ _ _
  have HV := Lib.hid (value_any t HW.out.st hn hk hl)
  rw [hToks_scalar hk]
  have f4 : ((t.kind : Int) == 4) = false := by rw [beq_eq_false_iff_ne]; omega
  have f5 : ((t.kind : Int) == 5) = false := by rw [beq_eq_false_iff_ne]; omega
  have q0 := HW.out.cells (OnlyB.refl _ _ _) 0 _ rfl
  have q1 := HW.out.cells (OnlyB.refl _ _ _) 1 _ rfl
  have q2 := HW.out.cells (OnlyB.refl _ _ _) 2 _ rfl
  have q3 := HW.out.cells (OnlyB.refl _ _ _) 3 _ rfl
  have q4 := HW.out.cells (OnlyB.refl _ _ _) 4 _ rfl
  clear hn hk hl
  simp only [tcells] at hw1 HW ⊢
  simp only [fieldOf] at HV
  have HW1 := Lib.hid hw1
  clear hw1
  go_enter Tryz.func50, Tryz.ntmps50
  go_upto_region 2 with (fail)
  rw [← HW1.out]
  go_wp2_with (fail)
  refine HV.out.mono ?_
  rintro e w2 ⟨rfl, hs2, ho2⟩
  have H2 := Lib.hid (And.intro hs2 ho2)
  clear hs2 ho2
  go_wp2
  go_ret
  have hb2 : w.heap.size ≤ w2.heap.size := by have := H2.out.2.size; have := HW.out.size; omega
  refine ⟨w2.heap.size, 1, rfl, OwnG.one w2 _ hb2, (HW.out.low (OnlyB.only H2.out.2 (by have := HW.out.size; omega))).alloc hb2 _⟩

theorem OwnG.txt {base : Nat} {w : World} {g cap : Nat} {l : List Bs} (h : OwnG base w g cap l) : TxtAt w g 0 l := ⟨h.lt, fun i s hi => by rw [Nat.zero_add]; exact h.cells i s hi⟩
theorem toks_pos {d : Nat} {t : HT} {deep n : Nat} (h : Sized N M d t deep n) : 0 < (hToks d t).length := by
  cases d with
  | zero => exact h.elim
  | succ d =>
    rw [hToks]
    split <;> simp
/-- A kid's block, and what was kept since it was laid. -/
theorem kid_cells {wr : World} {l : List Value} {wz : World} (h : wz.heap[wr.heap.size]? = (wr.alloc (.cells l.toArray 45)).heap[wr.heap.size]?) (j : Nat) (v : Value) (hj : l[j]? = some v) : wz.cell? ⟨wr.heap.size, j, none⟩ = some v := by
  refine (World.cell?_of_block (a := ⟨wr.heap.size, j, none⟩) h).trans ?_
  rw [cell_box]
  exact hj

set_option maxRecDepth 100000 in
set_option maxHeartbeats 4000000 in
theorem toks_list {d : Nat} (ih : ∀ {t : HT} {nv kv : Value} {deep n B0 : Nat} {w : World}, RepT w B0 d nv kv t → Sized N M d t deep n → n ≤ 1000 → B0 ≤ w.heap.size → Calls Tryz.prog 50 #[.agg (tcells t nv kv).toArray] w (TokR w (hToks d t)))
    {t : HT} {nv kv : Value} {deep n B0 : Nat} {w : World} (hr : RepT w B0 (d + 1) nv kv t) (hz : Sized N M (d + 1) t deep n) (hn : n ≤ 1000) (hB : B0 ≤ w.heap.size) (h4 : t.kind = 4) :
    Calls Tryz.prog 50 #[.agg (tcells t nv kv).toArray] w (TokR w (hToks (d + 1) t)) := by
  have hlen := hToks_length (d + 1) t deep n hz
  obtain ⟨ms, hms, hnn⟩ : ∃ ms : List Nat, All2 (fun k m => Sized N M d k (deep + 1) m) t.kids ms ∧ n = 1 + ms.sum := by
    obtain ⟨_, _, _, _, _, z6⟩ := hz
    rcases z6 with z6 | z6
    · omega
    · exact z6.2.2
  have HLN : Hid ((hToks (d + 1) t).length ≤ 5000) := by show _ ≤ _; omega
  have HM := Lib.hid hms
  obtain ⟨⟨r1, r2, r3, r4⟩, hnames, hkids⟩ := hr
  obtain ⟨an, cn, rfl⟩ := hnames.slice
  obtain ⟨ak, ck, rfl⟩ := hkids.slice
  have HK := Lib.hid hkids
  obtain ⟨w1, hw1⟩ : ∃ w1, w1 = (w.alloc (.cells (tcells t (.slice an t.names.length cn) (.slice ak t.kids.length ck)).toArray 45)).alloc (.cells #[Value.int .u64 0] 99) := ⟨_, rfl⟩
  have HW : Hid (TokW w w1 (tcells t (.slice an t.names.length cn) (.slice ak t.kids.length ck)) 0) := by rw [hw1]; exact tokW _ _ _
  have HIH : Hid (∀ {t : HT} {nv kv : Value} {deep n B0 : Nat} {w : World}, RepT w B0 d nv kv t → Sized N M d t deep n → n ≤ 1000 → B0 ≤ w.heap.size → Calls Tryz.prog 50 #[.agg (tcells t nv kv).toArray] w (TokR w (hToks d t))) := @ih
  have HE := Lib.hid (hToks_list (d := d) (t := t) (by omega) (by omega))
  have f4 : ((t.kind : Int) == 4) = true := by rw [beq_iff_eq]; omega
  obtain ⟨base, hbase⟩ : ∃ base, base = w.heap.size + 2 := ⟨_, rfl⟩
  obtain ⟨sb, hsb⟩ : ∃ sb, sb = w.heap.size + 1 := ⟨_, rfl⟩
  have hws := HW.out.size
  have hb1 : base ≤ w1.heap.size := by omega
  obtain ⟨w2, hw2⟩ : ∃ w2, w2 = w1.alloc (.cells #[Value.string (B [91])] 9) := ⟨_, rfl⟩
  have hb2 : Below w1.heap.size w1 w2 := by rw [hw2]; exact (Below.refl _ _).alloc (Nat.le_refl _) _
  have HO2 : Hid (OnlyB sb base w1 w2) := OnlyB.below hb2 hb1
  have HT0 : Hid (TokSt (hToks d) false t.names t.kids (hToks (d + 1) t) [[93]] sb base w2 0 w1.heap.size 1 [[91]] w2) := by
    refine ⟨Nat.zero_le _, by rw [hw2]; exact OwnG.one w1 _ hb1, OnlyB.refl _ _ _, ?_, by rw [HE.out]; simp [tFrom]⟩
    rw [hsb]
    exact HW.out.st.below hb2
  have CELLS : Hid (∀ {wz : World}, OnlyB sb base w2 wz → (∀ (j : Nat) v, (tcells t (.slice an t.names.length cn) (.slice ak t.kids.length ck))[j]? = some v → wz.cell? ⟨w.heap.size, j, none⟩ = some v) ∧ Below w.heap.size w wz) := fun {wz} h => by
    have h' := HO2.out.trans h
    rw [hsb, hbase] at h'
    exact ⟨HW.out.cells h', HW.out.low h'⟩
  have hb2s : base ≤ w2.heap.size := Nat.le_trans hb1 hb2.size
  have q0 := HW.out.cells (OnlyB.refl _ _ _) 0 _ rfl
  have q6 := (CELLS.out (OnlyB.refl _ _ _)).1 6 _ rfl
  have HBASE : Hid (w.heap.size ≤ base) := by show _ ≤ _; omega
  have hsbb : sb < base := by omega
  clear hms hnames hkids hlen ih h4 hz hb2 hsb hbase hws
  simp only [tcells] at hw1 HW CELLS ⊢
  have HW1 := Lib.hid hw1
  have HW2 := Lib.hid hw2
  clear hw1 hw2
  go_enter Tryz.func50, Tryz.ntmps50
  go_upto_region 2 with (fail)
  rw [← HW1.out]
  go_upto_region 5 with (fail)
  rw [← HW2.out]
  clear q0
  go_wp2
  clear q6
  go_loopw [4, 20] (fun o i wr => ∃ (m g cap : Nat) (u : List Bs), Hid (TokSt (hToks d) false t.names t.kids (hToks (d + 1) t) [[93]] sb base w2 m g cap u wr) ∧ i = .int .i64 m ∧ o = .slice (some ⟨g, 0, none⟩) u.length cap) (fun _ i _ => t.kids.length - (intOf i).toNat)
  case atStart => exact ⟨0, _, _, _, HT0, rfl, rfl⟩
  case round =>
    clear HT0
    obtain ⟨m, g, cap, u, HS, rfl, rfl⟩ := hrel
    have hul : u.length ≤ 5000 := by
      have h1 := HLN.out
      rw [HS.out.eq] at h1
      simp only [List.length_append] at h1
      omega
    have hgb := HS.out.own.base
    have hgl := HS.out.own.lt
    have hsz := HS.out.only.size
    by_cases hlt : m < t.kids.length
    · obtain ⟨b, off, hbo, hbB, hcell⟩ : ∃ b off, ak = some ⟨b, off, none⟩ ∧ b < B0 ∧ ∀ (i : Nat) k, t.kids[i]? = some k → ∃ nv kv, RepT w B0 d nv kv k ∧ ∀ (j : Nat) u, (tcells k nv kv)[j]? = some u → w.cell? ⟨b, off + i * 7 + j, none⟩ = some u := by
        rcases HK.out with ⟨a, c, e, hnil⟩ | ⟨b, off, c, e, h1, h2⟩
        · rw [hnil] at hlt; simp at hlt
        · cases e; exact ⟨b, off, rfl, h1, h2⟩
      subst hbo
      obtain ⟨k, hkid⟩ : ∃ k, t.kids[m]? = some k := ⟨_, List.getElem?_eq_getElem hlt⟩
      obtain ⟨nv', kv', hrep, hcl⟩ := hcell m k hkid
      have hlow := (CELLS.out HS.out.only).2
      have pc : ∀ (j : Nat) u, (tcells k nv' kv')[j]? = some u → wr.cell? ⟨b, off + m * 7 + j, none⟩ = some u := fun j u hj => (hlow.cell (p := ⟨b, off + m * 7 + j, none⟩) (by show b < _; omega)).trans (hcl j u hj)
      have p0 := pc 0 _ rfl
      have p1 := pc 1 _ rfl
      have p2 := pc 2 _ rfl
      have p3 := pc 3 _ rfl
      have p4 := pc 4 _ rfl
      have p5 := pc 5 _ rfl
      have p6 := pc 6 _ rfl
      rw [Nat.add_zero] at p0
      obtain ⟨⟨an', cn', rfl⟩, ak', ck', rfl⟩ := hrep.slices
      obtain ⟨mk, hmk, hks⟩ := HM.out.of_mem k (List.mem_of_getElem? hkid)
      have hmk2 : mk ≤ 1000 := by have := mem_sum hmk; omega
      have hkl := hToks_length d k _ _ hks
      have HLOW : Hid (Below w.heap.size w wr) := hlow
      have HCALL : Hid (∀ {wz : World}, Below w.heap.size w wz → Calls Tryz.prog 50 #[.agg (tcells k (.slice an' k.names.length cn') (.slice ak' k.kids.length ck')).toArray] wz (TokR wz (hToks d k))) :=
        fun {wz} h => HIH.out (hrep.below (h.mono hB)) hks hmk2 (Nat.le_trans hB h.size)
      obtain ⟨WA, hWA⟩ : ∃ WA, WA = wr.alloc (.cells (tcells k (.slice an' k.names.length cn') (.slice ak' k.kids.length ck')).toArray 45) := ⟨_, rfl⟩
      have HBA : Hid (Below wr.heap.size wr WA) := by show Below _ _ _; rw [hWA]; exact (Below.refl _ _).alloc (Nat.le_refl _) _
      have hsA : WA.heap.size = wr.heap.size + 1 := by rw [hWA]; simp
      have KBX : Hid (∀ {wz : World}, wz.heap[wr.heap.size]? = WA.heap[wr.heap.size]? → ∀ (j : Nat) v, (tcells k (.slice an' k.names.length cn') (.slice ak' k.kids.length ck'))[j]? = some v → wz.cell? ⟨wr.heap.size, j, none⟩ = some v) := by
        intro wz h j v hv
        rw [hWA] at h
        exact kid_cells h j v hv
      have HKID := Lib.hid hkid
      have HSA := Lib.hid hsA
      have HPOS := Lib.hid (toks_pos hks)
      have HKL : Hid ((hToks d k).length ≤ 5000) := by show _ ≤ _; omega
      clear hrep hkid hcell hcl pc hlow hks hmk hsA hkl
      simp only [tcells] at hWA HCALL KBX
      have HWA := Lib.hid hWA
      clear hWA
      by_cases hm0 : 0 < m
      · have hcm : tComma m = [[44]] := by unfold tComma; rw [if_neg (by omega)]
        have HCM := Lib.hid hcm
        clear hcm
        obtain ⟨WB, hWB⟩ : ∃ WB, WB = WA.alloc (.cells #[Value.string (B [44])] 9) := ⟨_, rfl⟩
        have HBB : Hid (Below WA.heap.size WA WB) := by show Below _ _ _; rw [hWB]; exact (Below.refl _ _).alloc (Nat.le_refl _) _
        have HTX : Hid (TxtAt WB WA.heap.size 0 [[44]]) := by rw [hWB]; exact TxtAt.one WA _
        have HOB : Hid (OwnG base WB g cap u) := (HS.out.own.below HBA.out).below HBB.out
        have hsB : base ≤ WB.heap.size := by have := HBB.out.size; have := HSA.out; omega
        have HWB := Lib.hid hWB
        clear hWB
        go_upto_region 9 with (fail)
        rw [← HWA.out]
        go_wp2_with (at_builtin; rw [← HWB.out]; refine wpList_append_texts rfl (.tmp 27) (.tmp 28) rfl HOB.out _ rfl rfl WA.heap.size 0 1 [[44]] 1 rfl rfl HTX.out (by decide) (by show u.length + 1 < 1000000; omega) hsB ?_)
        intro g3 cap3 w3 hown3 hgrow3 hg3
        have hz3 : w3.heap[wr.heap.size]? = WA.heap[wr.heap.size]? := (hgrow3.block _ (by have := HBB.out.size; have := HSA.out; omega) (by intro e; cases e; omega)).trans (HBB.out.block _ (by have := HSA.out; omega))
        obtain ⟨u3, hu3⟩ : ∃ x, x = u ++ [[44]] := ⟨_, rfl⟩
        rw [← hu3] at hown3
        have hu3l : u3.length = u.length + 1 := by rw [hu3]; simp
        have HU3 := Lib.hid hu3
        have HU3L := Lib.hid hu3l
        have HO3 := Lib.hid hown3
        clear hu3 hu3l
        have HK3 : Hid (OnlyB sb base w2 w3 ∧ StyleAt sb w3 0) := ⟨((HS.out.only.trans (OnlyB.below HBA.out (by omega))).trans (OnlyB.below HBB.out (by have := HSA.out; omega))).trans (OnlyB.grown hgrow3 hsB hgb), ((HS.out.st.below HBA.out).below HBB.out).grown hgrow3 (by omega)⟩
        have hs3 : base ≤ w3.heap.size := Nat.le_trans hsB hgrow3.size
        have HZ3 := Lib.hid hz3
        clear hown3 hgrow3 hg3 hz3
        have c0 := KBX.out HZ3.out 0 _ rfl
        have c1 := KBX.out HZ3.out 1 _ rfl
        have c2 := KBX.out HZ3.out 2 _ rfl
        have c3 := KBX.out HZ3.out 3 _ rfl
        have c4 := KBX.out HZ3.out 4 _ rfl
        have c5 := KBX.out HZ3.out 5 _ rfl
        have c6 := KBX.out HZ3.out 6 _ rfl
        go_wp2_with (fail)
        refine (HCALL.out (CELLS.out HK3.out.1).2).mono ?_
        rintro e w4 ⟨g4, cap4, rfl, hown4, hb4⟩
        have HX4 := Lib.hid hown4.txt
        have HO4 : Hid (OwnG base w4 g3 cap3 u3) := HO3.out.below hb4
        have HK4 : Hid (OnlyB sb base w2 w4 ∧ StyleAt sb w4 0) := ⟨HK3.out.1.trans (OnlyB.below hb4 hs3), HK3.out.2.below hb4⟩
        have hs4 : base ≤ w4.heap.size := Nat.le_trans hs3 hb4.size
        clear hown4 hb4
        go_wp2_with (at_builtin; refine wpList_append_texts rfl (.tmp 30) (.tmp 32) rfl HO4.out (u.length + 1) HU3L.out rfl g4 0 cap4 (hToks d k) _ rfl rfl HX4.out HPOS.out (by have := HKL.out; have := HU3L.out; omega) hs4 ?_)
        intro g5 cap5 w5 hown5 hgrow5 hg5
        have HS5 : Hid (TokSt (hToks d) false t.names t.kids (hToks (d + 1) t) [[93]] sb base w2 (m + 1) g5 cap5 (u3 ++ hToks d k) w5) := by
          refine HS.out.step' HKID.out ?_ hown5 (HK4.out.1.trans (OnlyB.grown hgrow5 hs4 HO4.out.base)) (HK4.out.2.grown hgrow5 (by have := HO4.out.base; omega))
          rw [HU3.out, HCM.out]; simp [tName]
        clear hown5 hgrow5 hg5
        go_wp2
        go_roundw
        case rel => exact ⟨m + 1, g5, cap5, _, HS5, by go_num, by rw [List.length_append, HU3L.out]⟩
        case measure => simp [intOf]; omega
      · have hcm : tComma m = [] := by unfold tComma; rw [if_pos (by omega)]
        have HCM := Lib.hid hcm
        clear hcm
        have hsA : base ≤ WA.heap.size := by have := HSA.out; omega
        have HOA : Hid (OwnG base WA g cap u) := HS.out.own.below HBA.out
        have HKA : Hid (OnlyB sb base w2 WA ∧ StyleAt sb WA 0) := ⟨HS.out.only.trans (OnlyB.below HBA.out (by omega)), HS.out.st.below HBA.out⟩
        have c0 := KBX.out (rfl) 0 _ rfl
        have c1 := KBX.out (rfl) 1 _ rfl
        have c2 := KBX.out (rfl) 2 _ rfl
        have c3 := KBX.out (rfl) 3 _ rfl
        have c4 := KBX.out (rfl) 4 _ rfl
        have c5 := KBX.out (rfl) 5 _ rfl
        have c6 := KBX.out (rfl) 6 _ rfl
        go_wp2_with (fail)
        rw [← HWA.out]
        refine (HCALL.out (CELLS.out HKA.out.1).2).mono ?_
        rintro e w4 ⟨g4, cap4, rfl, hown4, hb4⟩
        have HX4 := Lib.hid hown4.txt
        have HO4 : Hid (OwnG base w4 g cap u) := HOA.out.below hb4
        have HK4 : Hid (OnlyB sb base w2 w4 ∧ StyleAt sb w4 0) := ⟨HKA.out.1.trans (OnlyB.below hb4 hsA), HKA.out.2.below hb4⟩
        have hs4 : base ≤ w4.heap.size := Nat.le_trans hsA hb4.size
        clear hown4 hb4
        go_wp2_with (at_builtin; refine wpList_append_texts rfl (.tmp 30) (.tmp 32) rfl HO4.out u.length rfl rfl g4 0 cap4 (hToks d k) _ rfl rfl HX4.out HPOS.out (by have := HKL.out; omega) hs4 ?_)
        intro g5 cap5 w5 hown5 hgrow5 hg5
        have HS5 : Hid (TokSt (hToks d) false t.names t.kids (hToks (d + 1) t) [[93]] sb base w2 (m + 1) g5 cap5 (u ++ hToks d k) w5) := by
          refine HS.out.step' HKID.out ?_ hown5 (HK4.out.1.trans (OnlyB.grown hgrow5 hs4 HO4.out.base)) (HK4.out.2.grown hgrow5 (by have := HO4.out.base; omega))
          rw [HCM.out]; simp [tName]
        clear hown5 hgrow5 hg5
        go_wp2
        go_roundw
        case rel => exact ⟨m + 1, g5, cap5, _, HS5, by go_num, by rw [List.length_append]⟩
        case measure => simp [intOf]; omega
    · obtain rfl : m = t.kids.length := by have := HS.out.le; omega
      have he := HS.out.eq
      rw [tFrom_end _ _ _ _ _ (Nat.le_refl _), List.nil_append] at he
      have HE2 := Lib.hid he
      clear he
      have hsr : base ≤ wr.heap.size := by omega
      obtain ⟨WB, hWB⟩ : ∃ WB, WB = wr.alloc (.cells #[Value.string (B [93])] 9) := ⟨_, rfl⟩
      have HBB : Hid (Below wr.heap.size wr WB) := by show Below _ _ _; rw [hWB]; exact (Below.refl _ _).alloc (Nat.le_refl _) _
      have HTX : Hid (TxtAt WB wr.heap.size 0 [[93]]) := by rw [hWB]; exact TxtAt.one wr _
      have HOB : Hid (OwnG base WB g cap u) := HS.out.own.below HBB.out
      have hsB : base ≤ WB.heap.size := Nat.le_trans hsr HBB.out.size
      have HWB := Lib.hid hWB
      clear hWB
      go_wp2_with (at_builtin; rw [← HWB.out]; refine wpList_append_texts rfl (.tmp 35) (.tmp 36) rfl HOB.out _ rfl rfl wr.heap.size 0 1 [[93]] 1 rfl rfl HTX.out (by decide) (by show u.length + 1 < 1000000; omega) hsB ?_)
      intro g3 cap3 w3 hown3 hgrow3 hg3
      have HEND : Hid (OwnG w.heap.size w3 g3 cap3 (u ++ [[93]]) ∧ Below w.heap.size w w3) := ⟨hown3.lower HBASE.out, (CELLS.out ((HS.out.only.trans (OnlyB.below HBB.out hsr)).trans (OnlyB.grown hgrow3 hsB hgb))).2⟩
      clear hown3 hgrow3 hg3
      go_wp2
      go_ret
      rw [HE2.out]
      refine ⟨g3, cap3, ?_, HEND.out⟩
      rw [List.length_append]
      rfl
end Go.Proofs.YtppkpcijmfdfmaaGreatDoor
