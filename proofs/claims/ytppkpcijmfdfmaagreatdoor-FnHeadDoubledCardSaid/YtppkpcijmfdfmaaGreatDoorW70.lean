/- The walk of HeadTokens at an object: one statement draws its order. -/
import Derived.Test.YtppkpcijmfdfmaaGreatDoorW65
namespace Go.Proofs.YtppkpcijmfdfmaaGreatDoor
open Go.RowKit
attribute [local go_sem] B_size B_get B_lit B_ext_to B_ext B_toList B_app
variable {N M : Nat}

/-- What stands while the statement runs, by the world in which it began. -/
structure R20 (sb base kb : Nat) (X w : World) : Prop where
  only : OnlyB sb base X w
  st : StyleAt sb w 0
  kid : w.heap[kb]? = X.heap[kb]?
/-- What is asked of the blocks. -/
structure B20 (sb base kb g : Nat) (X : World) : Prop where
  hb : base ≤ X.heap.size
  hs : sb < base
  hk : kb < X.heap.size
  hks : kb ≠ sb
  hkg : kb ≠ g
  hg : base ≤ g
  hgl : g < X.heap.size
theorem R20.onlyS {sb base kb g : Nat} {X w w' : World} (H : B20 sb base kb g X) (h : R20 sb base kb X w) (ho : Only sb w w') (hs : StyleAt sb w' 0) : R20 sb base kb X w' :=
  ⟨h.only.trans (OnlyB.only ho (Nat.le_trans H.hb h.only.size)), hs, (ho.block kb (Nat.lt_of_lt_of_le H.hk h.only.size) H.hks).trans h.kid⟩
theorem R20.below {sb base kb g : Nat} {X w w' : World} (H : B20 sb base kb g X) (h : R20 sb base kb X w) (hb : Below w.heap.size w w') : R20 sb base kb X w' := h.onlyS H (Only.below hb) (h.st.below hb)
theorem R20.alloc {sb base kb g : Nat} {X w : World} (H : B20 sb base kb g X) (h : R20 sb base kb X w) (o : Obj) : R20 sb base kb X (w.alloc o) := h.below H ((Below.refl _ _).alloc (Nat.le_refl _) _)
theorem R20.grown {sb base kb g gx : Nat} {X w w' : World} (H : B20 sb base kb g X) (h : R20 sb base kb X w) (hg : w.grownBy w' (some gx)) (h1 : base ≤ gx) (h2 : kb ≠ gx) : R20 sb base kb X w' :=
  ⟨h.only.trans (OnlyB.grown hg (Nat.le_trans H.hb h.only.size) h1), h.st.grown hg (by have := H.hs; omega), (hg.block kb (Nat.lt_of_lt_of_le H.hk h.only.size) (by intro e; cases e; exact h2 rfl)).trans h.kid⟩
theorem R20.drew {sb base kb : Nat} {X w : World} (h : R20 sb base kb X w) : R20 sb base kb X w.drew := ⟨⟨h.only.os, h.only.tape, h.only.output, h.only.size, h.only.block⟩, h.st.drew, h.kid⟩
theorem R20.start {sb base kb : Nat} {X : World} (h : StyleAt sb X 0) : R20 sb base kb X X := ⟨OnlyB.refl _ _ _, h, rfl⟩
/-- Texts in a block that is later than the beginning. -/
def TxtH (X w : World) (b off : Nat) (l : List Bs) : Prop := X.heap.size ≤ b ∧ TxtAt w b off l
theorem TxtH.only {sb base kb g : Nat} {X w w' : World} (H : B20 sb base kb g X) {b off : Nat} {l : List Bs} (ho : Only sb w w') (h : TxtH X w b off l) : TxtH X w' b off l :=
  ⟨h.1, h.2.keep ho.size (ho.block b h.2.1 (by have := h.1; have := H.hb; have := H.hs; omega))⟩
theorem TxtH.alloc {X w : World} {b off : Nat} {l : List Bs} (o : Obj) (h : TxtH X w b off l) : TxtH X (w.alloc o) b off l :=
  ⟨h.1, h.2.keep (by simp) (((Below.refl _ _).alloc (Nat.le_refl _) o).block b h.2.1)⟩
theorem TxtH.grown {sb base kb g : Nat} {X w w' : World} (H : B20 sb base kb g X) {b off : Nat} {l : List Bs} (hg : w.grownBy w' (some g)) (h : TxtH X w b off l) : TxtH X w' b off l :=
  ⟨h.1, h.2.keep hg.size (hg.block b h.2.1 (by intro e; cases e; have := h.1; have := H.hgl; omega))⟩
theorem TxtH.two {sb base kb : Nat} {X w : World} (s s' : Bs) (h : R20 sb base kb X w) : TxtH X (w.alloc (.cells #[Value.string (B s), Value.string (B s')] 9)) w.heap.size 0 [s, s'] :=
  ⟨h.only.size, TxtAt.new w [s, s']⟩
theorem OwnG.onlyS {sb base g cap : Nat} {w w' : World} {l : List Bs} (hs : sb < base) (ho : Only sb w w') (h : OwnG base w g cap l) : OwnG base w' g cap l := h.only ho hs
theorem OwnG.alloc {base g cap : Nat} {w : World} {l : List Bs} (o : Obj) (h : OwnG base w g cap l) : OwnG base (w.alloc o) g cap l := h.below ((Below.refl _ _).alloc (Nat.le_refl _) _)
theorem step_append20 {sb base kb g0 : Nat} {X : World} (H : B20 sb base kb g0 X) {w : World} {ops : Array Oper} {o : Oper} {a : Act} {K : Act → World → Prop} {Q : Exit → Act → World → Prop} {E : Prop} (hgd : o.guard = none) (s x : Operand)
    (ho : o.op = .call { callee := .builtin .append, args := #[s, x], argTypes := #[29, 29] }) (hr : R20 sb base kb X w) {g cap : Nat} {l : List Bs} (h : OwnG base w g cap l) (hgk : kb ≠ g) (n : Nat) (hn : l.length = n) (hs : a.eval s = .slice (some ⟨g, 0, none⟩) n cap) (b off c : Nat) (m : List Bs)
    (k : Nat) (hk : m.length = k) (hx : a.eval x = .slice (some ⟨b, off, none⟩) k c) (ht : TxtH X w b off m) (h0 : 0 < m.length) (hl : l.length + m.length < 1000000)
    (hK : ∀ g' cap' w', OwnG base w' g' cap' (l ++ m) → R20 sb base kb X w' → w.grownBy w' (some g) → kb ≠ g' → K (a.put o.dst (.slice (some ⟨g', 0, none⟩) (n + k) cap')) w') :
    if Region.wanted o (yielded ops a.tmps) = true then Oper.wp Tryz.prog o a w K Q else E :=
  step_append_texts hgd s x ho h n hn hs b off c m k hk hx ht.2 h0 hl (Nat.le_trans H.hb hr.only.size) fun g' cap' w' h1 h2 h3 => hK g' cap' w' h1 (hr.grown H h2 h.base hgk) h2 (by
    rcases h3 with h3 | h3
    · rw [h3]; exact hgk
    · have := H.hk; have := hr.only.size; omega)

set_option maxRecDepth 100000 in
set_option maxHeartbeats 4000000 in
theorem toks_obj {d : Nat} (ih : ∀ {t : HT} {nv kv : Value} {deep n B0 : Nat} {w : World}, RepT w B0 d nv kv t → Sized N M d t deep n → n ≤ 1000 → B0 ≤ w.heap.size → Calls Tryz.prog 50 #[.agg (tcells t nv kv).toArray] w (TokR w (hToks d t)))
    {t : HT} {nv kv : Value} {deep n B0 : Nat} {w : World} (hr : RepT w B0 (d + 1) nv kv t) (hz : Sized N M (d + 1) t deep n) (hn : n ≤ 1000) (hB : B0 ≤ w.heap.size) (h4 : t.kind = 5) :
    Calls Tryz.prog 50 #[.agg (tcells t nv kv).toArray] w (TokR w (hToks (d + 1) t)) := by
  have hlen := hToks_length (d + 1) t deep n hz
  obtain ⟨ms, hms, hnn⟩ : ∃ ms : List Nat, All2 (fun k m => Sized N M d k (deep + 1) m) t.kids ms ∧ n = 1 + ms.sum := by
    obtain ⟨_, _, _, _, _, z6⟩ := hz
    rcases z6 with z6 | z6
    · omega
    · exact z6.2.2
  have HLN : Hid ((hToks (d + 1) t).length ≤ 5000) := by show _ ≤ _; omega
  have HM := Lib.hid hms
  obtain ⟨⟨r1, r2, r3, r4⟩, hnames, hkids⟩ := hr
  obtain ⟨an, cn, rfl⟩ := hnames.slice
  obtain ⟨ak, ck, rfl⟩ := hkids.slice
  have HK := Lib.hid hkids
  have HN := Lib.hid hnames
  have HNL : Hid (t.names.length = t.kids.length) := hz.2.2.2.1 h4
  have HNV : Hid (∀ s ∈ t.names, s.length ≤ 200) := fun s hs => (hz.2.2.2.2.1 s (by rw [texts_five h4]; exact hs)).1
  obtain ⟨w1, hw1⟩ : ∃ w1, w1 = (w.alloc (.cells (tcells t (.slice an t.names.length cn) (.slice ak t.kids.length ck)).toArray 45)).alloc (.cells #[Value.int .u64 0] 99) := ⟨_, rfl⟩
  have HW : Hid (TokW w w1 (tcells t (.slice an t.names.length cn) (.slice ak t.kids.length ck)) 0) := by rw [hw1]; exact tokW _ _ _
  have HIH : Hid (∀ {t : HT} {nv kv : Value} {deep n B0 : Nat} {w : World}, RepT w B0 d nv kv t → Sized N M d t deep n → n ≤ 1000 → B0 ≤ w.heap.size → Calls Tryz.prog 50 #[.agg (tcells t nv kv).toArray] w (TokR w (hToks d t))) := @ih
  have HE := Lib.hid (hToks_obj (d := d) (t := t) h4)
  have f4 : ((t.kind : Int) == 4) = false := by rw [beq_eq_false_iff_ne]; omega
  have f5 : ((t.kind : Int) == 5) = true := by rw [beq_iff_eq]; omega
  obtain ⟨base, hbase⟩ : ∃ base, base = w.heap.size + 2 := ⟨_, rfl⟩
  obtain ⟨sb, hsb⟩ : ∃ sb, sb = w.heap.size + 1 := ⟨_, rfl⟩
  have HSB : Hid (w.heap.size + 1 = sb) := by show _ = _; omega
  have hws := HW.out.size
  have hb1 : base ≤ w1.heap.size := by omega
  obtain ⟨w2, hw2⟩ : ∃ w2, w2 = w1.alloc (.cells #[Value.string (B [123])] 9) := ⟨_, rfl⟩
  have hb2 : Below w1.heap.size w1 w2 := by rw [hw2]; exact (Below.refl _ _).alloc (Nat.le_refl _) _
  have HO2 : Hid (OnlyB sb base w1 w2) := OnlyB.below hb2 hb1
  have HT0 : Hid (TokSt (hToks d) true t.names t.kids (hToks (d + 1) t) [[125]] sb base w2 0 w1.heap.size 1 [[123]] w2) := by
    refine ⟨Nat.zero_le _, by rw [hw2]; exact OwnG.one w1 _ hb1, OnlyB.refl _ _ _, ?_, by rw [HE.out]; simp [tFrom]⟩
    rw [hsb]
    exact HW.out.st.below hb2
  have CELLS : Hid (∀ {wz : World}, OnlyB sb base w2 wz → (∀ (j : Nat) v, (tcells t (.slice an t.names.length cn) (.slice ak t.kids.length ck))[j]? = some v → wz.cell? ⟨w.heap.size, j, none⟩ = some v) ∧ Below w.heap.size w wz) := fun {wz} h => by
    have h' := HO2.out.trans h
    rw [hsb, hbase] at h'
    exact ⟨HW.out.cells h', HW.out.low h'⟩
  have hb2s : base ≤ w2.heap.size := Nat.le_trans hb1 hb2.size
  have q0 := HW.out.cells (OnlyB.refl _ _ _) 0 _ rfl
  have q6 := (CELLS.out (OnlyB.refl _ _ _)).1 6 _ rfl
  have HBASE : Hid (w.heap.size ≤ base) := by show _ ≤ _; omega
  have hsbb : sb < base := by omega
  clear hms hnames hkids hlen ih h4 hz hb2 hsb hbase hws
  simp only [tcells] at hw1 HW CELLS ⊢
  have HW1 := Lib.hid hw1
  have HW2 := Lib.hid hw2
  clear hw1 hw2
  go_enter Tryz.func50, Tryz.ntmps50
  go_upto_region 2 with (fail)
  rw [← HW1.out]
  go_upto_region 15 with (fail)
  rw [← HW2.out]
  clear q0
  go_wp2
  clear q6
  go_loopw [7, 44] (fun o i wr => ∃ (m g cap : Nat) (u : List Bs), Hid (TokSt (hToks d) true t.names t.kids (hToks (d + 1) t) [[125]] sb base w2 m g cap u wr) ∧ i = .int .i64 m ∧ o = .slice (some ⟨g, 0, none⟩) u.length cap) (fun _ i _ => t.kids.length - (intOf i).toNat)
  case atStart => exact ⟨0, _, _, _, HT0, rfl, rfl⟩
  case round =>
    clear HT0
    obtain ⟨m, g, cap, u, HS, rfl, rfl⟩ := hrel
    have hul : u.length ≤ 5000 := by
      have h1 := HLN.out
      rw [HS.out.eq] at h1
      simp only [List.length_append] at h1
      omega
    have hgb := HS.out.own.base
    have hgl := HS.out.own.lt
    have hsz := HS.out.only.size
    by_cases hlt : m < t.kids.length
    · obtain ⟨b, off, hbo, hbB, hcell⟩ : ∃ b off, ak = some ⟨b, off, none⟩ ∧ b < B0 ∧ ∀ (i : Nat) k, t.kids[i]? = some k → ∃ nv kv, RepT w B0 d nv kv k ∧ ∀ (j : Nat) u, (tcells k nv kv)[j]? = some u → w.cell? ⟨b, off + i * 7 + j, none⟩ = some u := by
        rcases HK.out with ⟨a, c, e, hnil⟩ | ⟨b, off, c, e, h1, h2⟩
        · rw [hnil] at hlt; simp at hlt
        · cases e; exact ⟨b, off, rfl, h1, h2⟩
      subst hbo
      obtain ⟨k, hkid⟩ : ∃ k, t.kids[m]? = some k := ⟨_, List.getElem?_eq_getElem hlt⟩
      obtain ⟨nv', kv', hrep, hcl⟩ := hcell m k hkid
      have hlow := (CELLS.out HS.out.only).2
      have pc : ∀ (j : Nat) u, (tcells k nv' kv')[j]? = some u → wr.cell? ⟨b, off + m * 7 + j, none⟩ = some u := fun j u hj => (hlow.cell (p := ⟨b, off + m * 7 + j, none⟩) (by show b < _; omega)).trans (hcl j u hj)
      have p0 := pc 0 _ rfl
      have p1 := pc 1 _ rfl
      have p2 := pc 2 _ rfl
      have p3 := pc 3 _ rfl
      have p4 := pc 4 _ rfl
      have p5 := pc 5 _ rfl
      have p6 := pc 6 _ rfl
      rw [Nat.add_zero] at p0
      obtain ⟨⟨an', cn', rfl⟩, ak', ck', rfl⟩ := hrep.slices
      obtain ⟨mk, hmk, hks⟩ := HM.out.of_mem k (List.mem_of_getElem? hkid)
      have hmk2 : mk ≤ 1000 := by have := mem_sum hmk; omega
      have hkl := hToks_length d k _ _ hks
      have HLOW : Hid (Below w.heap.size w wr) := hlow
      have HCALL : Hid (∀ {wz : World}, Below w.heap.size w wz → Calls Tryz.prog 50 #[.agg (tcells k (.slice an' k.names.length cn') (.slice ak' k.kids.length ck')).toArray] wz (TokR wz (hToks d k))) :=
        fun {wz} h => HIH.out (hrep.below (h.mono hB)) hks hmk2 (Nat.le_trans hB h.size)
      obtain ⟨WA, hWA⟩ : ∃ WA, WA = wr.alloc (.cells (tcells k (.slice an' k.names.length cn') (.slice ak' k.kids.length ck')).toArray 45) := ⟨_, rfl⟩
      have HBA : Hid (Below wr.heap.size wr WA) := by show Below _ _ _; rw [hWA]; exact (Below.refl _ _).alloc (Nat.le_refl _) _
      have hsA : WA.heap.size = wr.heap.size + 1 := by rw [hWA]; simp
      have KBX : Hid (∀ {wz : World}, wz.heap[wr.heap.size]? = WA.heap[wr.heap.size]? → ∀ (j : Nat) v, (tcells k (.slice an' k.names.length cn') (.slice ak' k.kids.length ck'))[j]? = some v → wz.cell? ⟨wr.heap.size, j, none⟩ = some v) := by
        intro wz h j v hv
        rw [hWA] at h
        exact kid_cells h j v hv
      obtain ⟨bn, offn, hbno, hbnB, hncell⟩ : ∃ bn offn, an = some ⟨bn, offn, none⟩ ∧ bn < B0 ∧ ∀ (i : Nat) s, t.names[i]? = some s → w.cell? ⟨bn, offn + i, none⟩ = some (.string (B s)) := by
        rcases HN.out with ⟨a, c, e, hnil⟩ | ⟨b, off, c, e, h1, h2⟩
        · have hnl := HNL.out
          rw [hnil] at hnl; simp at hnl; omega
        · cases e; exact ⟨b, off, rfl, h1.1, h2⟩
      subst hbno
      have hltn : m < t.names.length := by have := HNL.out; omega
      obtain ⟨s, hname⟩ : ∃ s, t.names[m]? = some s := ⟨_, List.getElem?_eq_getElem hltn⟩
      have hsl := HNV.out s (List.mem_of_getElem? hname)
      have HDR : Hid ((t.names.drop m).headD [] = s) := by
        show (t.names.drop m).headD [] = s
        rw [List.drop_eq_getElem_cons hltn, List.headD_cons]
        exact (List.getElem?_eq_some_iff.1 hname).2
      obtain ⟨tn, htn⟩ : ∃ tn, tn = (hText s 0).1 := ⟨_, rfl⟩
      have HTN := Lib.hid htn
      have TEXT0 : Hid (∀ {wz : World}, StyleAt sb wz 0 → Calls Tryz.prog 59 #[.pointer (some ⟨w.heap.size + 1, 0, none⟩), .string (B s)] wz fun e w' => e = .returned (.string (B tn)) ∧ StyleAt sb w' 0 ∧ Only sb wz w') := fun {wz} h => by
        have := text_any s h (by omega)
        rw [hText_zero, ← htn] at this
        rw [HSB.out]
        exact this
      have NAME : Hid (∀ {wz : World}, Below w.heap.size w wz → wz.cell? ⟨bn, offn + m, none⟩ = some (.string (B s))) := fun h => (h.cell (p := ⟨bn, offn + m, none⟩) (by show bn < _; omega)).trans (hncell m s hname)
      clear htn hname hncell
      have HKID := Lib.hid hkid
      have HSA := Lib.hid hsA
      have HPOS := Lib.hid (toks_pos hks)
      have HKL : Hid ((hToks d k).length ≤ 5000) := by show _ ≤ _; omega
      clear hrep hkid hcell hcl pc hlow hks hmk hsA hkl
      simp only [tcells] at hWA HCALL KBX
      have HWA := Lib.hid hWA
      clear hWA
      by_cases hm0 : 0 < m
      · have hcm : tComma m = [[44]] := by unfold tComma; rw [if_neg (by omega)]
        have HCM := Lib.hid hcm
        clear hcm
        obtain ⟨WB, hWB⟩ : ∃ WB, WB = WA.alloc (.cells #[Value.string (B [44])] 9) := ⟨_, rfl⟩
        have HBB : Hid (Below WA.heap.size WA WB) := by show Below _ _ _; rw [hWB]; exact (Below.refl _ _).alloc (Nat.le_refl _) _
        have HTX : Hid (TxtAt WB WA.heap.size 0 [[44]]) := by rw [hWB]; exact TxtAt.one WA _
        have HOB : Hid (OwnG base WB g cap u) := (HS.out.own.below HBA.out).below HBB.out
        have hsB : base ≤ WB.heap.size := by have := HBB.out.size; have := HSA.out; omega
        have HWB := Lib.hid hWB
        clear hWB
        go_upto_region 19 with (fail)
        rw [← HWA.out]
        go_wp2_with (at_builtin; rw [← HWB.out]; refine wpList_append_texts rfl (.tmp 51) (.tmp 52) rfl HOB.out _ rfl rfl WA.heap.size 0 1 [[44]] 1 rfl rfl HTX.out (by decide) (by show u.length + 1 < 1000000; omega) hsB ?_)
        intro g3 cap3 w3 hown3 hgrow3 hg3
        have hz3 : w3.heap[wr.heap.size]? = WA.heap[wr.heap.size]? := (hgrow3.block _ (by have := HBB.out.size; have := HSA.out; omega) (by intro e; cases e; omega)).trans (HBB.out.block _ (by have := HSA.out; omega))
        obtain ⟨u3, hu3⟩ : ∃ x, x = u ++ [[44]] := ⟨_, rfl⟩
        rw [← hu3] at hown3
        have hu3l : u3.length = u.length + 1 := by rw [hu3]; simp
        have HU3 := Lib.hid hu3
        have HU3L := Lib.hid hu3l
        have HO3 := Lib.hid hown3
        clear hu3 hu3l
        have HK3 : Hid (OnlyB sb base w2 w3 ∧ StyleAt sb w3 0) := ⟨((HS.out.only.trans (OnlyB.below HBA.out (by omega))).trans (OnlyB.below HBB.out (by have := HSA.out; omega))).trans (OnlyB.grown hgrow3 hsB hgb), ((HS.out.st.below HBA.out).below HBB.out).grown hgrow3 (by omega)⟩
        have hs3 : base ≤ w3.heap.size := Nat.le_trans hsB hgrow3.size
        have HZ3 := Lib.hid hz3
        have HGW3 := Lib.hid hgrow3.size
        have HKG : Hid (wr.heap.size ≠ g3) := by
          show _ ≠ _
          rcases hg3 with h | h
          · omega
          · have := HBB.out.size; have := HSA.out; omega
        clear hown3 hgrow3 hg3 hz3
        have H20 : Hid (B20 sb base wr.heap.size g3 w3) := ⟨hs3, hsbb, by have := HBB.out.size; have := HSA.out; have := HGW3.out; omega, by omega, HKG.out, HO3.out.base, HO3.out.lt⟩
        have C20 : Hid (∀ {wz : World}, R20 sb base wr.heap.size w3 wz → (wz.cell? ⟨w.heap.size, 5, none⟩ = some (.slice (some ⟨bn, offn, none⟩) t.names.length cn) ∧ wz.cell? ⟨bn, offn + m, none⟩ = some (.string (B s))) ∧ ∀ (j : Nat) v, (tcells k (.slice an' k.names.length cn') (.slice ak' k.kids.length ck'))[j]? = some v → wz.cell? ⟨wr.heap.size, j, none⟩ = some v) := fun {wz} h => by
          have hh := CELLS.out (HK3.out.1.trans h.only)
          exact ⟨⟨hh.1 5 _ rfl, NAME.out hh.2⟩, KBX.out (h.kid.trans HZ3.out)⟩
        have TEXT : Hid (∀ {wz : World}, R20 sb base wr.heap.size w3 wz → Calls Tryz.prog 59 #[.pointer (some ⟨w.heap.size + 1, 0, none⟩), .string (B s)] wz fun e w' => e = .returned (.string (B tn)) ∧ R20 sb base wr.heap.size w3 w' ∧ Only sb wz w') := fun {wz} h =>
          (TEXT0.out h.st).mono fun e w' he => ⟨he.1, h.onlyS H20.out he.2.2 he.2.1, he.2.2⟩
        have TOKS : Hid (∀ {wz : World}, R20 sb base wr.heap.size w3 wz → Calls Tryz.prog 50 #[.agg (tcells k (.slice an' k.names.length cn') (.slice ak' k.kids.length ck')).toArray] wz fun e w' => ∃ g4 cap4, e = .returned (.slice (some ⟨g4, 0, none⟩) (hToks d k).length cap4) ∧ R20 sb base wr.heap.size w3 w' ∧ Only sb wz w' ∧ TxtH w3 w' g4 0 (hToks d k)) := fun {wz} h =>
          (HCALL.out (CELLS.out (HK3.out.1.trans h.only)).2).mono fun e w' ⟨g4, cap4, he, ho, hb⟩ => ⟨g4, cap4, he, h.below H20.out hb, Only.below hb, Nat.le_trans h.only.size ho.base, ho.txt⟩
        simp only [tcells] at C20 TOKS
        have HR0 : R20 sb base wr.heap.size w3 w3.drew := (R20.start HK3.out.2).drew
        have HOX : Hid (OwnG base w3.drew g3 cap3 u3) := HO3.out.keep rfl
        have hkg := H20.out.hkg
        go_wp2_with (fail)
        go_region_held_law (fun w' => (w'.cell? ⟨w.heap.size, 5, none⟩ = some (.slice (some ⟨bn, offn, none⟩) t.names.length cn) ∧ w'.cell? ⟨bn, offn + m, none⟩ = some (.string (B s)) ∧ w'.cell? ⟨wr.heap.size, 0, none⟩ = some (.int .u8 k.kind) ∧ w'.cell? ⟨wr.heap.size, 1, none⟩ = some (.bool k.is) ∧ w'.cell? ⟨wr.heap.size, 2, none⟩ = some (.bool k.minus) ∧ w'.cell? ⟨wr.heap.size, 3, none⟩ = some (.int .u64 k.num) ∧ w'.cell? ⟨wr.heap.size, 4, none⟩ = some (.string (B k.text)) ∧ w'.cell? ⟨wr.heap.size, 5, none⟩ = some (.slice an' k.names.length cn') ∧ w'.cell? ⟨wr.heap.size, 6, none⟩ = some (.slice ak' k.kids.length ck')) ∧ R20 sb base wr.heap.size w3 w')
          (first
            | (go_split_ands
               refine (fun hbz => ⟨⟨(C20.out hbz).1.1, (C20.out hbz).1.2, (C20.out hbz).2 0 _ rfl, (C20.out hbz).2 1 _ rfl, (C20.out hbz).2 2 _ rfl, (C20.out hbz).2 3 _ rfl, (C20.out hbz).2 4 _ rfl, (C20.out hbz).2 5 _ rfl, (C20.out hbz).2 6 _ rfl⟩, hbz⟩) ?_
               first
                 | assumption
                 | exact R20.alloc H20.out (by assumption) _))
          (first
            | (refine step_append20 H20.out (by rfl) (.tmp 54) (.tmp 62) (by rfl) (by go_split_ands; assumption) (g := g3) (cap := cap3) (l := u3) (by repeat (first | exact HOX.out | refine OwnG.alloc _ ?_ | refine OwnG.onlyS hsbb (by assumption) ?_)) hkg (u.length + 1) HU3L.out (by rfl) _ 0 2 [tn, [58]] 2 (by rfl) (by rfl) (by repeat (first | (go_split_ands; exact TxtH.two _ _ (by assumption)) | refine TxtH.only H20.out (by assumption) ?_)) (by simp) (by simp only [List.length_cons, List.length_nil]; have := HU3L.out; omega) ?_; intro g7 cap7 w7 hown7 hr7 hgrow7 hkg7)
            | (refine step_append20 H20.out (by rfl) (.tmp 63) (.tmp 65) (by rfl) (by go_split_ands; assumption) (g := g7) (cap := cap7) (l := u3 ++ [tn, [58]]) (by repeat (first | exact hown7 | refine OwnG.alloc _ ?_ | refine OwnG.onlyS hsbb (by assumption) ?_)) hkg7 ((u.length + 1) + 2) (by rw [List.length_append, HU3L.out]; rfl) (by rfl) g4 0 cap4 (hToks d k) _ rfl (by rfl) (by repeat (first | assumption | refine TxtH.grown H20.out (by assumption) ?_ | refine TxtH.alloc _ ?_ | refine TxtH.only H20.out (by assumption) ?_)) HPOS.out (by have := HKL.out; rw [List.length_append]; simp only [List.length_cons, List.length_nil]; have := HU3L.out; omega) ?_; intro g8 cap8 w8 hown8 hr8 hgrow8 hkg8)
            | (go_at_call 59; go_split_ands; refine (TEXT.out (by assumption)).mono ?_; rintro e w6 ⟨rfl, hr6, ho6⟩)
            | (go_at_call 50; go_split_ands; refine (TOKS.out (by assumption)).mono ?_; rintro e w5 ⟨g4, cap4, rfl, hr5, ho5, ht5⟩))
        all_goals
          have HS8 : Hid (TokSt (hToks d) true t.names t.kids (hToks (d + 1) t) [[125]] sb base w2 (m + 1) g8 cap8 (u3 ++ [tn, [58]] ++ hToks d k) w8) := by
            refine HS.out.step' HKID.out ?_ hown8 (HK3.out.1.trans hr8.only) hr8.st
            rw [HU3.out, HCM.out]
            have e : tName true (t.names.drop m) = [tn, [58]] := by unfold tName; rw [if_pos rfl, HDR.out, HTN.out]
            rw [e]
            simp
          clear hown8 hr8 hgrow8 hkg8
          go_wp2
          go_roundw
          case rel => exact ⟨m + 1, g8, cap8, _, HS8, by go_num, by rw [List.length_append, List.length_append, HU3L.out]; rfl⟩
          case measure => simp [intOf]; omega
      · have hcm : tComma m = [] := by unfold tComma; rw [if_pos (by omega)]
        have HCM := Lib.hid hcm
        clear hcm
        have hsA : base ≤ WA.heap.size := by have := HSA.out; omega
        have HOA : Hid (OwnG base WA g cap u) := HS.out.own.below HBA.out
        have HKA : Hid (OnlyB sb base w2 WA ∧ StyleAt sb WA 0) := ⟨HS.out.only.trans (OnlyB.below HBA.out (by omega)), HS.out.st.below HBA.out⟩
        have H20 : Hid (B20 sb base wr.heap.size g WA) := ⟨hsA, hsbb, by have := HSA.out; omega, by omega, by omega, HOA.out.base, HOA.out.lt⟩
        have C20 : Hid (∀ {wz : World}, R20 sb base wr.heap.size WA wz → (wz.cell? ⟨w.heap.size, 5, none⟩ = some (.slice (some ⟨bn, offn, none⟩) t.names.length cn) ∧ wz.cell? ⟨bn, offn + m, none⟩ = some (.string (B s))) ∧ ∀ (j : Nat) v, (tcells k (.slice an' k.names.length cn') (.slice ak' k.kids.length ck'))[j]? = some v → wz.cell? ⟨wr.heap.size, j, none⟩ = some v) := fun {wz} h => by
          have hh := CELLS.out (HKA.out.1.trans h.only)
          exact ⟨⟨hh.1 5 _ rfl, NAME.out hh.2⟩, KBX.out (h.kid.trans rfl)⟩
        have TEXT : Hid (∀ {wz : World}, R20 sb base wr.heap.size WA wz → Calls Tryz.prog 59 #[.pointer (some ⟨w.heap.size + 1, 0, none⟩), .string (B s)] wz fun e w' => e = .returned (.string (B tn)) ∧ R20 sb base wr.heap.size WA w' ∧ Only sb wz w') := fun {wz} h =>
          (TEXT0.out h.st).mono fun e w' he => ⟨he.1, h.onlyS H20.out he.2.2 he.2.1, he.2.2⟩
        have TOKS : Hid (∀ {wz : World}, R20 sb base wr.heap.size WA wz → Calls Tryz.prog 50 #[.agg (tcells k (.slice an' k.names.length cn') (.slice ak' k.kids.length ck')).toArray] wz fun e w' => ∃ g4 cap4, e = .returned (.slice (some ⟨g4, 0, none⟩) (hToks d k).length cap4) ∧ R20 sb base wr.heap.size WA w' ∧ Only sb wz w' ∧ TxtH WA w' g4 0 (hToks d k)) := fun {wz} h =>
          (HCALL.out (CELLS.out (HKA.out.1.trans h.only)).2).mono fun e w' ⟨g4, cap4, he, ho, hb⟩ => ⟨g4, cap4, he, h.below H20.out hb, Only.below hb, Nat.le_trans h.only.size ho.base, ho.txt⟩
        simp only [tcells] at C20 TOKS
        have HR0 : R20 sb base wr.heap.size WA WA.drew := (R20.start HKA.out.2).drew
        have HOX : Hid (OwnG base WA.drew g cap u) := HOA.out.keep rfl
        have hkg := H20.out.hkg
        go_wp2_with (fail)
        rw [← HWA.out]
        go_region_held_law (fun w' => (w'.cell? ⟨w.heap.size, 5, none⟩ = some (.slice (some ⟨bn, offn, none⟩) t.names.length cn) ∧ w'.cell? ⟨bn, offn + m, none⟩ = some (.string (B s)) ∧ w'.cell? ⟨wr.heap.size, 0, none⟩ = some (.int .u8 k.kind) ∧ w'.cell? ⟨wr.heap.size, 1, none⟩ = some (.bool k.is) ∧ w'.cell? ⟨wr.heap.size, 2, none⟩ = some (.bool k.minus) ∧ w'.cell? ⟨wr.heap.size, 3, none⟩ = some (.int .u64 k.num) ∧ w'.cell? ⟨wr.heap.size, 4, none⟩ = some (.string (B k.text)) ∧ w'.cell? ⟨wr.heap.size, 5, none⟩ = some (.slice an' k.names.length cn') ∧ w'.cell? ⟨wr.heap.size, 6, none⟩ = some (.slice ak' k.kids.length ck')) ∧ R20 sb base wr.heap.size WA w')
          (first
            | (go_split_ands
               refine (fun hbz => ⟨⟨(C20.out hbz).1.1, (C20.out hbz).1.2, (C20.out hbz).2 0 _ rfl, (C20.out hbz).2 1 _ rfl, (C20.out hbz).2 2 _ rfl, (C20.out hbz).2 3 _ rfl, (C20.out hbz).2 4 _ rfl, (C20.out hbz).2 5 _ rfl, (C20.out hbz).2 6 _ rfl⟩, hbz⟩) ?_
               first
                 | assumption
                 | exact R20.alloc H20.out (by assumption) _))
          (first
            | (refine step_append20 H20.out (by rfl) (.tmp 54) (.tmp 62) (by rfl) (by go_split_ands; assumption) (g := g) (cap := cap) (l := u) (by repeat (first | exact HOX.out | refine OwnG.alloc _ ?_ | refine OwnG.onlyS hsbb (by assumption) ?_)) hkg u.length rfl (by rfl) _ 0 2 [tn, [58]] 2 (by rfl) (by rfl) (by repeat (first | (go_split_ands; exact TxtH.two _ _ (by assumption)) | refine TxtH.only H20.out (by assumption) ?_)) (by simp) (by simp only [List.length_cons, List.length_nil]; omega) ?_; intro g7 cap7 w7 hown7 hr7 hgrow7 hkg7)
            | (refine step_append20 H20.out (by rfl) (.tmp 63) (.tmp 65) (by rfl) (by go_split_ands; assumption) (g := g7) (cap := cap7) (l := u ++ [tn, [58]]) (by repeat (first | exact hown7 | refine OwnG.alloc _ ?_ | refine OwnG.onlyS hsbb (by assumption) ?_)) hkg7 (u.length + 2) (by rw [List.length_append]; rfl) (by rfl) g4 0 cap4 (hToks d k) _ rfl (by rfl) (by repeat (first | assumption | refine TxtH.grown H20.out (by assumption) ?_ | refine TxtH.alloc _ ?_ | refine TxtH.only H20.out (by assumption) ?_)) HPOS.out (by have := HKL.out; rw [List.length_append]; simp only [List.length_cons, List.length_nil]; omega) ?_; intro g8 cap8 w8 hown8 hr8 hgrow8 hkg8)
            | (go_at_call 59; go_split_ands; refine (TEXT.out (by assumption)).mono ?_; rintro e w6 ⟨rfl, hr6, ho6⟩)
            | (go_at_call 50; go_split_ands; refine (TOKS.out (by assumption)).mono ?_; rintro e w5 ⟨g4, cap4, rfl, hr5, ho5, ht5⟩))
        all_goals
          have HS8 : Hid (TokSt (hToks d) true t.names t.kids (hToks (d + 1) t) [[125]] sb base w2 (m + 1) g8 cap8 (u ++ [tn, [58]] ++ hToks d k) w8) := by
            refine HS.out.step' HKID.out ?_ hown8 (HKA.out.1.trans hr8.only) hr8.st
            rw [HCM.out]
            have e : tName true (t.names.drop m) = [tn, [58]] := by unfold tName; rw [if_pos rfl, HDR.out, HTN.out]
            rw [e]
            simp
          clear hown8 hr8 hgrow8 hkg8
          go_wp2
          go_roundw
          case rel => exact ⟨m + 1, g8, cap8, _, HS8, by go_num, by rw [List.length_append, List.length_append]; rfl⟩
          case measure => simp [intOf]; omega
    · obtain rfl : m = t.kids.length := by have := HS.out.le; omega
      have he := HS.out.eq
      rw [tFrom_end _ _ _ _ _ (Nat.le_refl _), List.nil_append] at he
      have HE2 := Lib.hid he
      clear he
      have hsr : base ≤ wr.heap.size := by omega
      obtain ⟨WB, hWB⟩ : ∃ WB, WB = wr.alloc (.cells #[Value.string (B [125])] 9) := ⟨_, rfl⟩
      have HBB : Hid (Below wr.heap.size wr WB) := by show Below _ _ _; rw [hWB]; exact (Below.refl _ _).alloc (Nat.le_refl _) _
      have HTX : Hid (TxtAt WB wr.heap.size 0 [[125]]) := by rw [hWB]; exact TxtAt.one wr _
      have HOB : Hid (OwnG base WB g cap u) := HS.out.own.below HBB.out
      have hsB : base ≤ WB.heap.size := Nat.le_trans hsr HBB.out.size
      have HWB := Lib.hid hWB
      clear hWB
      go_wp2_with (at_builtin; rw [← HWB.out]; refine wpList_append_texts rfl (.tmp 68) (.tmp 69) rfl HOB.out _ rfl rfl wr.heap.size 0 1 [[125]] 1 rfl rfl HTX.out (by decide) (by show u.length + 1 < 1000000; omega) hsB ?_)
      intro g3 cap3 w3 hown3 hgrow3 hg3
      have HEND : Hid (OwnG w.heap.size w3 g3 cap3 (u ++ [[125]]) ∧ Below w.heap.size w w3) := ⟨hown3.lower HBASE.out, (CELLS.out ((HS.out.only.trans (OnlyB.below HBB.out hsr)).trans (OnlyB.grown hgrow3 hsB hgb))).2⟩
      clear hown3 hgrow3 hg3
      go_wp2
      go_ret
      rw [HE2.out]
      refine ⟨g3, cap3, ?_, HEND.out⟩
      rw [List.length_append]
      rfl
theorem toks_any : ∀ (d : Nat) {t : HT} {nv kv : Value} {deep n B0 : Nat} {w : World}, RepT w B0 d nv kv t → Sized N M d t deep n → n ≤ 1000 → B0 ≤ w.heap.size → Calls Tryz.prog 50 #[.agg (tcells t nv kv).toArray] w (TokR w (hToks d t))
  | 0, _, _, _, _, _, _, _, h, _, _, _ => h.elim
  | d + 1, t, nv, kv, deep, n, B0, w, hr, hz, hn, hB => by
    have ih : ∀ {t : HT} {nv kv : Value} {deep n B0 : Nat} {w : World}, RepT w B0 d nv kv t → Sized N M d t deep n → n ≤ 1000 → B0 ≤ w.heap.size → Calls Tryz.prog 50 #[.agg (tcells t nv kv).toArray] w (TokR w (hToks d t)) := fun a b c e => toks_any d a b c e
    by_cases h4 : t.kind < 4
    · refine toks_scalar hr.1.2.1 h4 (fun h3 => ?_) ⟨?_, ?_⟩
      · have := (hz.2.2.2.2.1 t.text (texts_three h3)).1; omega
      · obtain ⟨a, c, e⟩ := hr.slices.1; exact ⟨a, _, c, e⟩
      · obtain ⟨a, c, e⟩ := hr.slices.2; exact ⟨a, _, c, e⟩
    · by_cases h5 : t.kind = 5
      · exact toks_obj ih hr hz hn hB h5
      · have := hz.1; exact toks_list ih hr hz hn hB (by omega)
end Go.Proofs.YtppkpcijmfdfmaaGreatDoor
