/- What may change while a header is asked; the texts unescaped in place. -/
import Derived.Test.YtppkpcijmfdfmaaGreatDoorC8
import Derived.Test.YtppkpcijmfdfmaaGreatDoorC0
set_option linter.unusedVariables false
set_option linter.unusedSimpArgs false
namespace Go.Proofs.YtppkpcijmfdfmaaGreatDoor
open Go.RowKit
attribute [local go_sem] B_size B_get B_lit B_ext_to B_ext B_toList B_app

theorem index_esc_none (q : Bs) (h : (92 : UInt8) ∉ q) (w : World) :
    Calls Tryz.prog 131 #[.string (B q), .int .u8 92] w fun e w' => e = .returned (.int .i64 (-1)) ∧ w = w' := by
  refine (Tryz.strings_IndexByte (B q) 92 w).mono ?_
  rintro e w' ⟨rfl, rfl⟩
  refine ⟨?_, rfl⟩
  rw [B_data]
  have hge := Lib.indexByte_ge q 92
  rcases Int.lt_or_le (Lib.indexByte q 92) 0 with h1 | h1
  · rw [show (Int.toNat 92).toUInt8 = 92 from rfl, show Lib.indexByte q 92 = -1 by omega]
  · obtain ⟨n, hn⟩ := Int.eq_ofNat_of_zero_le h1
    exact absurd (List.mem_of_getElem? (Lib.indexByte_some hn).1) h
theorem index_esc_some (q : Bs) (h : (92 : UInt8) ∈ q) (w : World) :
    Calls Tryz.prog 131 #[.string (B q), .int .u8 92] w fun e w' => w = w' ∧ ∃ a r, q = a ++ 92 :: r ∧ (92 : UInt8) ∉ a ∧ e = .returned (.int .i64 a.length) := by
  refine (Tryz.strings_IndexByte (B q) 92 w).mono ?_
  rintro e w' ⟨rfl, rfl⟩
  refine ⟨rfl, ?_⟩
  rw [B_data]
  have hge := Lib.indexByte_ge q 92
  rcases Int.lt_or_le (Lib.indexByte q 92) 0 with h1 | h1
  · obtain ⟨n, hn⟩ := List.mem_iff_getElem?.1 h
    exact absurd hn (Lib.indexByte_none (by omega) n)
  · obtain ⟨n, hn⟩ := Int.eq_ofNat_of_zero_le h1
    obtain ⟨h2, h3⟩ := Lib.indexByte_some hn
    have hlt : n < q.length := (List.getElem?_eq_some_iff.1 h2).1
    refine ⟨q.take n, q.drop (n + 1), ?_, ?_, ?_⟩
    · have := List.take_append_drop n q
      rw [List.drop_eq_getElem_cons hlt] at this
      rw [(List.getElem?_eq_some_iff.1 h2).2] at this
      exact this.symm
    · intro hm
      obtain ⟨m, hm1, hm2⟩ := List.mem_iff_getElem.1 hm
      have hm3 : m < n := by simp at hm1; omega
      refine h3 m hm3 ?_
      rw [List.getElem_take] at hm2
      rw [List.getElem?_eq_getElem (by omega), hm2]
    · rw [show (Int.toNat 92).toUInt8 = 92 from rfl, hn, List.length_take, Nat.min_eq_left (by omega)]

set_option maxRecDepth 100000 in
set_option maxHeartbeats 1000000 in
theorem un_plain (q : Bs) (h : (92 : UInt8) ∉ q) (w : World) :
    Calls Tryz.prog 119 #[.string (B q)] w fun e w' => e = .returned (.string (B q)) ∧ w = w' := by
  have H := Lib.hid (index_esc_none q h)
  clear h
  go_enter Tryz.func119, Tryz.ntmps119
  go_wp2_with (go_at_call 131; refine (H.out _).mono ?_; rintro e w' ⟨rfl, rfl⟩)
  go_ret
  exact ⟨rfl, rfl⟩

/-- How raw texts are unescaped: what the walks need to know of it. -/
structure UG (U : Bs → Bs → Prop) : Prop where
  run : ∀ q out, U q out → ∀ w, Calls Tryz.prog 119 #[.string (B q)] w fun e w' => e = .returned (.string (B out)) ∧ Below w.heap.size w w'
  fn : ∀ q a b, U q a → U q b → a = b
  plain : ∀ q, (92 : UInt8) ∉ q → U q q

/-- The cells of what was read. -/
def SQ (w0 : World) (B0 hb : Nat) (k _o : Nat) : Prop := B0 ≤ k ∧ k < w0.heap.size ∧ k ≠ hb

/-- A value's cells as they stand, by what they were: its text may have been unescaped; the root's flag is another matter. -/
structure NodeQ (U : Bs → Bs → Prop) (w0 w : World) (root : Nat × Nat) (k o : Nat) : Prop where
  c0 : w.cell? ⟨k, o, none⟩ = w0.cell? ⟨k, o, none⟩
  c1 : (k, o) ≠ root → w.cell? ⟨k, o + 1, none⟩ = w0.cell? ⟨k, o + 1, none⟩
  c2 : w.cell? ⟨k, o + 2, none⟩ = w0.cell? ⟨k, o + 2, none⟩
  c34 : (w.cell? ⟨k, o + 3, none⟩ = w0.cell? ⟨k, o + 3, none⟩ ∧ w.cell? ⟨k, o + 4, none⟩ = w0.cell? ⟨k, o + 4, none⟩) ∨
    ∃ raw out, w0.cell? ⟨k, o + 3, none⟩ = some (.string (B raw)) ∧ w0.cell? ⟨k, o + 4, none⟩ = some (.int .i64 7) ∧ U raw out ∧
      w.cell? ⟨k, o + 3, none⟩ = some (.string (B out)) ∧ w.cell? ⟨k, o + 4, none⟩ = some (.int .i64 3)

/-- The library's errors lie where they should. -/
def ErrV (w : World) : Prop := (∃ ev, w.cell? ⟨8, 0, none⟩ = some ev ∧ (ev = .nilIface ∨ ∃ te pe, ev = .iface te pe)) ∧ ∃ ev, w.cell? ⟨9, 0, none⟩ = some ev ∧ (ev = .nilIface ∨ ∃ te pe, ev = .iface te pe)
theorem ErrV.below {B0 : Nat} {w w' : World} (h : ErrV w) (hB : 9 < B0) (hb : Below B0 w w') : ErrV w' := by
  obtain ⟨⟨e1, h1, h2⟩, e2, h3, h4⟩ := h
  exact ⟨⟨e1, (hb.cell (p := ⟨8, 0, none⟩) (by show 8 < B0; omega)).trans h1, h2⟩, e2, (hb.cell (p := ⟨9, 0, none⟩) (by show 9 < B0; omega)).trans h3, h4⟩

/-- The powers of ten as numbers of floating point: up to the 16th, and up to the 22nd. -/
def tenTo16 : List Nat := [4607182418800017408, 4621819117588971520, 4636737291354636288, 4652007308841189376, 4666723172467343360, 4681608360884174848, 4696837146684686336, 4711630319722168320, 4726483295884279808, 4741671816366391296, 4756540486875873280, 4771362005757984768, 4786511204640096256, 4801453603149578240, 4816244402031689728, 4831355200913801216, 4846369599423283200]
def tenTo22 : List Nat := [4607182418800017408, 4621819117588971520, 4636737291354636288, 4652007308841189376, 4666723172467343360, 4681608360884174848, 4696837146684686336, 4711630319722168320, 4726483295884279808, 4741671816366391296, 4756540486875873280, 4771362005757984768, 4786511204640096256, 4801453603149578240, 4816244402031689728, 4831355200913801216, 4846369599423283200, 4861130398305394688, 4876203697187506176, 4891288408196988160, 4906019910204099648, 4921056587992461136, 4936209963552724370]
/-- What the library's variables hold, as far as the readers of numbers ask, in blocks below a bound. -/
structure Gd (Bd : Nat) (w : World) : Prop where
  lt : 21 ≤ Bd
  err : ErrV w
  ff : ∀ (i : Nat) v, tenTo16[i]? = some v → w.cell? ⟨2, i, none⟩ = some (.float .f64 v)
  one : w.cell? ⟨5, 0, none⟩ = some (.float .f64 4607182418800017408)
  ten : ∀ (i : Nat) v, tenTo22[i]? = some v → w.cell? ⟨6, i, none⟩ = some (.float .f64 v)
  opt : w.cell? ⟨11, 0, none⟩ = some (.bool true)
  inf0 : w.cell? ⟨12, 0, none⟩ = some (.int .u64 52)
  inf1 : w.cell? ⟨12, 1, none⟩ = some (.int .u64 11)
  inf2 : w.cell? ⟨12, 2, none⟩ = some (.int .i64 (-1023))
  pows : ∃ b off c, b < Bd ∧ w.cell? ⟨14, 0, none⟩ = some (.slice (some ⟨b, off, none⟩) 9 c) ∧ ∀ (i : Nat) (v : Nat), [1, 3, 6, 9, 13, 16, 19, 23, 26][i]? = some v → w.cell? ⟨b, off + i, none⟩ = some (.int .i64 v)
  tab0 : w.cell? ⟨16, 696, none⟩ = some (.int .u64 9223372036854775808) ∧ w.cell? ⟨16, 697, none⟩ = some (.int .u64 0)
  tab1 : w.cell? ⟨16, 698, none⟩ = some (.int .u64 11529215046068469760) ∧ w.cell? ⟨16, 699, none⟩ = some (.int .u64 0)
  cheats : ∃ b off c, b < Bd ∧ w.cell? ⟨18, 0, none⟩ = some (.slice (some ⟨b, off, none⟩) 61 c) ∧ (w.cell? ⟨b, off + 2, none⟩ = some (.int .i64 1) ∧ w.cell? ⟨b, off + 3, none⟩ = some (.string (B [53]))) ∧
    w.cell? ⟨b, off + 106, none⟩ = some (.int .i64 16) ∧ ∃ s : Bs, w.cell? ⟨b, off + 107, none⟩ = some (.string (B (49 :: s)))
theorem Gd.below {Bd : Nat} {w w' : World} (h : Gd Bd w) (hb : Below Bd w w') : Gd Bd w' := by
  have hl := h.lt
  have c : ∀ {k o : Nat} {v : Value}, k < Bd → w.cell? ⟨k, o, none⟩ = some v → w'.cell? ⟨k, o, none⟩ = some v := fun hk hc => (hb.cell (p := ⟨_, _, none⟩) hk).trans hc
  obtain ⟨b1, o1, c1, h1, h2, h3⟩ := h.pows
  obtain ⟨b2, o2, c2, h4, h5, ⟨h6, h7⟩, h8, s, h9⟩ := h.cheats
  exact ⟨hl, h.err.below (by omega) hb, fun i v hi => c (by omega) (h.ff i v hi), c (by omega) h.one, fun i v hi => c (by omega) (h.ten i v hi), c (by omega) h.opt, c (by omega) h.inf0, c (by omega) h.inf1, c (by omega) h.inf2,
    ⟨b1, o1, c1, h1, c (by omega) h2, fun i v hi => c h1 (h3 i v hi)⟩, ⟨c (by omega) h.tab0.1, c (by omega) h.tab0.2⟩, ⟨c (by omega) h.tab1.1, c (by omega) h.tab1.2⟩,
    ⟨b2, o2, c2, h4, c (by omega) h5, ⟨c h4 h6, c h4 h7⟩, c h4 h8, s, c h4 h9⟩⟩
theorem Gd.mono {Bd B' : Nat} {w : World} (h : Gd Bd w) (hB : Bd ≤ B') : Gd B' w := by
  obtain ⟨b1, o1, c1, h1, h2, h3⟩ := h.pows
  obtain ⟨b2, o2, c2, h4, h5⟩ := h.cheats
  exact ⟨Nat.le_trans h.lt hB, h.err, h.ff, h.one, h.ten, h.opt, h.inf0, h.inf1, h.inf2, ⟨b1, o1, c1, by omega, h2, h3⟩, h.tab0, h.tab1, ⟨b2, o2, c2, by omega, h5⟩⟩
/-- The same of a world's own blocks. -/
def Gw (w : World) : Prop := Gd w.heap.size w
theorem Gw.below {w w' : World} (h : Gw w) (hb : Below w.heap.size w w') : Gw w' := (Gd.below h hb).mono hb.size

/-- A world while a header is asked, by the world in which it was read. -/
structure QI (U : Bs → Bs → Prop) (w0 wx : World) (B0 hb : Nat) (root : Nat × Nat) (w : World) : Prop where
  below : Below B0 w0 w
  hdr : ∀ o, w.cell? ⟨hb, o, none⟩ = w0.cell? ⟨hb, o, none⟩
  ptr : ∀ k o, k < w0.heap.size → (w0.shape? k).map (·.1) = some 156 → w.cell? ⟨k, o, none⟩ = w0.cell? ⟨k, o, none⟩
  free : ∀ k o, k < w0.heap.size → w.frozen? ⟨k, o, none⟩ = w0.frozen? ⟨k, o, none⟩
  node : ∀ k o, k < w0.heap.size → (w0.shape? k).map (·.1) = some 185 → o % 5 = 0 → NodeQ U w0 w root k o
  hlt : hb < w0.heap.size
  hshape : (w0.shape? hb).map (·.1) = some 173
  xb : Below B0 wx w
  new : ∀ b, w0.heap.size ≤ b → b < wx.heap.size → w.heap[b]? = wx.heap[b]?
  gnd : Gd B0 w0 ∧ B0 ≤ w0.heap.size
theorem QI.gw {U : Bs → Bs → Prop} {w0 wx : World} {B0 hb : Nat} {root : Nat × Nat} {w : World} (h : QI U w0 wx B0 hb root w) : Gw w := (Gd.below h.gnd.1 h.below).mono (Nat.le_trans h.gnd.2 h.below.size)

theorem QI.start (U : Bs → Bs → Prop) (w0 : World) (B0 hb : Nat) (root : Nat × Nat) (hlt : hb < w0.heap.size) (hs : (w0.shape? hb).map (·.1) = some 173) (hg : Gd B0 w0 ∧ B0 ≤ w0.heap.size) : QI U w0 w0 B0 hb root w0 :=
  ⟨Below.refl _ _, fun _ => rfl, fun _ _ _ _ => rfl, fun _ _ _ => rfl, fun _ _ _ _ _ => ⟨rfl, fun _ => rfl, rfl, Or.inl ⟨rfl, rfl⟩⟩, hlt, hs, Below.refl _ _, fun _ _ _ => rfl, hg⟩
/-- What is kept from here on. -/
theorem QI.reset {U : Bs → Bs → Prop} {w0 wx w : World} {B0 hb : Nat} {root : Nat × Nat} (h : QI U w0 wx B0 hb root w) : QI U w0 w B0 hb root w :=
  ⟨h.below, h.hdr, h.ptr, h.free, h.node, h.hlt, h.hshape, Below.refl _ _, fun _ _ _ => rfl, h.gnd⟩
theorem shape_lt {w : World} {k t : Nat} (h : (w.shape? k).map (·.1) = some t) : k < w.heap.size := by
  rcases Nat.lt_or_ge k w.heap.size with h1 | h1
  · exact h1
  · unfold World.shape? at h; rw [Array.getElem?_eq_none h1] at h; cases h

/-- Steps that leave the blocks that were read alone. -/
theorem QI.later {U : Bs → Bs → Prop} {w0 wx w w' : World} {B0 hb : Nat} {root : Nat × Nat} (h : QI U w0 wx B0 hb root w) (hB : B0 ≤ w0.heap.size) (hb' : Below w.heap.size w w') : QI U w0 wx B0 hb root w' := by
  have hsz := h.below.size
  have hc : ∀ k o, k < w0.heap.size → w'.cell? ⟨k, o, none⟩ = w.cell? ⟨k, o, none⟩ := fun k o hk => hb'.cell (p := ⟨k, o, none⟩) (Nat.lt_of_lt_of_le hk hsz)
  refine ⟨h.below.trans (hb'.mono (Nat.le_trans hB hsz)), fun o => (hc _ _ h.hlt).trans (h.hdr o), fun k o hk hs => (hc _ _ hk).trans (h.ptr k o hk hs),
    fun k o hk => (hb'.frozen (p := ⟨k, o, none⟩) (Nat.lt_of_lt_of_le hk hsz)).trans (h.free k o hk), fun k o hk hs h5 => ?_, h.hlt, h.hshape,
    h.xb.trans (hb'.mono (Nat.le_trans hB hsz)), fun b h1 h2 => (hb'.block b (Nat.lt_of_lt_of_le h2 h.xb.size)).trans (h.new b h1 h2), h.gnd⟩
  have hn := h.node k o hk hs h5
  refine ⟨(hc _ _ hk).trans hn.c0, fun hr => (hc _ _ hk).trans (hn.c1 hr), (hc _ _ hk).trans hn.c2, ?_⟩
  rw [hc _ _ hk, hc _ _ hk]
  exact hn.c34

theorem cell_other (w : World) {k o k' o' : Nat} (v : Value) (h : ¬ (k = k' ∧ o = o')) : (w.setCell ⟨k, o, none⟩ v).cell? ⟨k', o', none⟩ = w.cell? ⟨k', o', none⟩ := (Same.setCell w v h).cell

theorem below_store {B0 : Nat} {w0 w : World} (h : Below B0 w0 w) {k o : Nat} (v : Value) (hk : B0 ≤ k) : Below B0 w0 (w.setCell ⟨k, o, none⟩ v) :=
  ⟨h.os, h.tape, h.output, by simpa using h.size, fun j hj => (Below.heap_setCell _ _ _ _ (by simp; omega)).trans (h.block j hj)⟩

/-- A text is unescaped in place. -/
theorem QI.type {U : Bs → Bs → Prop} {w0 wx w : World} {B0 hb : Nat} {root : Nat × Nat} (h : QI U w0 wx B0 hb root w) {k o : Nat} (hk : B0 ≤ k) (hlt : k < w0.heap.size) (hs : (w0.shape? k).map (·.1) = some 185) (h5 : o % 5 = 0)
    {raw out : Bs} (h3 : w.cell? ⟨k, o + 3, none⟩ = some (.string (B raw))) (h4 : w.cell? ⟨k, o + 4, none⟩ = some (.int .i64 7)) (g3 : w0.cell? ⟨k, o + 3, none⟩ = some (.string (B raw))) (g4 : w0.cell? ⟨k, o + 4, none⟩ = some (.int .i64 7)) (hu : U raw out) :
    QI U w0 wx B0 hb root ((w.setCell ⟨k, o + 3, none⟩ (.string (B out))).setCell ⟨k, o + 4, none⟩ (.int .i64 3)) := by
  have hne : ∀ {k' o' : Nat}, k' ≠ k ∨ (o' ≠ o + 3 ∧ o' ≠ o + 4) → ((w.setCell ⟨k, o + 3, none⟩ (.string (B out))).setCell ⟨k, o + 4, none⟩ (.int .i64 3)).cell? ⟨k', o', none⟩ = w.cell? ⟨k', o', none⟩ := by
    intro k' o' hh
    rw [cell_other _ _ (by omega), cell_other _ _ (by omega)]
  refine ⟨below_store (below_store h.below _ hk) _ hk, fun o' => (hne (Or.inl ?_)).trans (h.hdr o'), fun k' o' hk' hs' => (hne (Or.inl ?_)).trans (h.ptr k' o' hk' hs'),
    fun k' o' hk' => by simpa using h.free k' o' hk', fun k' o' hk' hs' h5' => ?_, h.hlt, h.hshape,
    below_store (below_store h.xb _ hk) _ hk, fun b h1 h2 => (Below.heap_setCell _ _ _ _ (by simp; omega)).trans ((Below.heap_setCell _ _ _ _ (by simp; omega)).trans (h.new b h1 h2)), h.gnd⟩
  · intro e; have := h.hshape; rw [e, hs] at this; cases this
  · intro e; rw [e, hs] at hs'; cases hs'
  · have hn := h.node k' o' hk' hs' h5'
    by_cases he : k' = k ∧ o' = o
    · obtain ⟨rfl, rfl⟩ := he
      refine ⟨(hne (Or.inr (by omega))).trans hn.c0, fun hr => (hne (Or.inr (by omega))).trans (hn.c1 hr), (hne (Or.inr (by omega))).trans hn.c2, Or.inr ⟨raw, out, g3, g4, hu, ?_, ?_⟩⟩
      · rw [cell_other _ _ (by omega)]
        exact World.cell?_setCell_same _ _ _ h3
      · exact World.cell?_setCell_same _ _ _ ((cell_other _ _ (by omega)).trans h4)
    · have hd : ∀ i, i < 5 → (k' ≠ k ∨ (o' + i ≠ o + 3 ∧ o' + i ≠ o + 4)) := by
        intro i hi
        by_cases ek : k' = k
        · refine Or.inr ?_
          have : o' ≠ o := fun e => he ⟨ek, e⟩
          omega
        · exact Or.inl ek
      refine ⟨(hne (hd 0 (by omega))).trans hn.c0, fun hr => (hne (hd 1 (by omega))).trans (hn.c1 hr), (hne (hd 2 (by omega))).trans hn.c2, ?_⟩
      rw [hne (hd 3 (by omega)), hne (hd 4 (by omega))]
      exact hn.c34

/-- A key is unescaped in place. -/
theorem QI.key {U : Bs → Bs → Prop} {w0 wx w : World} {B0 hb : Nat} {root : Nat × Nat} (h : QI U w0 wx B0 hb root w) {g i : Nat} (v : Value) (hk : B0 ≤ g) (hs : (w0.shape? g).map (·.1) = some 218) :
    QI U w0 wx B0 hb root (w.setCell ⟨g, i, none⟩ v) := by
  have hne : ∀ {k' o' : Nat}, k' ≠ g → (w.setCell ⟨g, i, none⟩ v).cell? ⟨k', o', none⟩ = w.cell? ⟨k', o', none⟩ := fun hh => cell_other _ _ (by omega)
  refine ⟨below_store h.below _ hk, fun o' => (hne ?_).trans (h.hdr o'), fun k' o' hk' hs' => (hne ?_).trans (h.ptr k' o' hk' hs'), fun k' o' hk' => by simpa using h.free k' o' hk', fun k' o' hk' hs' h5' => ?_, h.hlt, h.hshape,
    below_store h.xb _ hk, fun b h1 h2 => (Below.heap_setCell _ _ _ _ (by have := shape_lt hs; simp; omega)).trans (h.new b h1 h2), h.gnd⟩
  · intro e; have := h.hshape; rw [e, hs] at this; cases this
  · intro e; rw [e, hs] at hs'; cases hs'
  · have hn := h.node k' o' hk' hs' h5'
    have he : k' ≠ g := by intro e; rw [e, hs] at hs'; cases hs'
    refine ⟨(hne he).trans hn.c0, fun hr => (hne he).trans (hn.c1 hr), (hne he).trans hn.c2, ?_⟩
    rw [hne he, hne he]
    exact hn.c34

/-- The root's flag is set. -/
theorem QI.flag {U : Bs → Bs → Prop} {w0 wx w : World} {B0 hb k o : Nat} (h : QI U w0 wx B0 hb (k, o) w) (v : Value) (hk : B0 ≤ k) (hs : (w0.shape? k).map (·.1) = some 185) (h5 : o % 5 = 0) :
    QI U w0 wx B0 hb (k, o) (w.setCell ⟨k, o + 1, none⟩ v) := by
  have hne : ∀ {k' o' : Nat}, k' ≠ k ∨ o' ≠ o + 1 → (w.setCell ⟨k, o + 1, none⟩ v).cell? ⟨k', o', none⟩ = w.cell? ⟨k', o', none⟩ := fun hh => cell_other _ _ (by omega)
  refine ⟨below_store h.below _ hk, fun o' => (hne (Or.inl ?_)).trans (h.hdr o'), fun k' o' hk' hs' => (hne (Or.inl ?_)).trans (h.ptr k' o' hk' hs'), fun k' o' hk' => by simpa using h.free k' o' hk', fun k' o' hk' hs' h5' => ?_, h.hlt, h.hshape,
    below_store h.xb _ hk, fun b h1 h2 => (Below.heap_setCell _ _ _ _ (by have := shape_lt hs; simp; omega)).trans (h.new b h1 h2), h.gnd⟩
  · intro e; have := h.hshape; rw [e, hs] at this; cases this
  · intro e; rw [e, hs] at hs'; cases hs'
  · have hn := h.node k' o' hk' hs' h5'
    have hd : ∀ i, i < 5 → i ≠ 1 → (k' ≠ k ∨ o' + i ≠ o + 1) := by intro i hi h1; omega
    refine ⟨(hne (hd 0 (by omega) (by omega))).trans hn.c0, fun hr => (hne ?_).trans (hn.c1 hr), (hne (hd 2 (by omega) (by omega))).trans hn.c2, ?_⟩
    · by_cases e : k' = k
      · refine Or.inr fun e2 => hr ?_
        rw [e, show o' = o by omega]
      · exact Or.inl e
    · rw [hne (hd 3 (by omega) (by omega)), hne (hd 4 (by omega) (by omega))]
      exact hn.c34

/-- The kinds of values, as numbers. -/
def J.ty : J → Int
  | .null => 0
  | .obj _ => 1
  | .arr _ => 2
  | .str _ => 3
  | .num _ => 4
  | .tru => 5
  | .fls => 6
end Go.Proofs.YtppkpcijmfdfmaaGreatDoor

/- The walks of a value's kind, and of what a value is taken as. -/
namespace Go.Proofs.YtppkpcijmfdfmaaGreatDoor
open Go.RowKit
attribute [local go_sem] B_size B_get B_lit B_ext_to B_ext B_toList B_app

/-- What an answer leaves as it was: of an object's keys; and all that came behind the reading. -/
structure Kq (w0 : World) (root : Nat × Nat) (w w' : World) : Prop where
  kv : ∀ g i, g < w0.heap.size → (w0.shape? g).map (·.1) = some 218 → w'.cell? ⟨g, i, none⟩ = w.cell? ⟨g, i, none⟩
  flag : w'.cell? ⟨root.1, root.2 + 1, none⟩ = w.cell? ⟨root.1, root.2 + 1, none⟩
  size : w.heap.size ≤ w'.heap.size
  new : ∀ b, w0.heap.size ≤ b → b < w.heap.size → w'.heap[b]? = w.heap[b]?
theorem Kq.refl (w0 : World) (root : Nat × Nat) (w : World) : Kq w0 root w w := ⟨fun _ _ _ _ => rfl, rfl, Nat.le_refl _, fun _ _ _ => rfl⟩
theorem Kq.trans {w0 : World} {root : Nat × Nat} {a b c : World} (h : Kq w0 root a b) (g : Kq w0 root b c) : Kq w0 root a c :=
  ⟨fun k i hk hs => (g.kv k i hk hs).trans (h.kv k i hk hs), g.flag.trans h.flag, Nat.le_trans h.size g.size, fun k h1 h2 => (g.new k h1 (Nat.lt_of_lt_of_le h2 h.size)).trans (h.new k h1 h2)⟩
theorem Kq.below {w0 : World} {root : Nat × Nat} {w w' : World} (hs : w0.heap.size ≤ w.heap.size) (hr : root.1 < w0.heap.size) (h : Below w.heap.size w w') : Kq w0 root w w' :=
  ⟨fun k i hk _ => h.cell (p := ⟨k, i, none⟩) (Nat.lt_of_lt_of_le hk hs), h.cell (p := ⟨root.1, root.2 + 1, none⟩) (Nat.lt_of_lt_of_le hr hs), h.size, fun b _ hb => h.block b hb⟩

/-- What is known of a value that was read: its five cells, where they lie, and its kind. -/
theorem RepV.vn {w : World} {S : Nat → Nat → Prop} {k o : Nat} {j : J} (h : RepV w S k o j) : ∃ a0 a1 a2 a3 t, VN w S k o a0 a1 a2 a3 (.int .i64 t) ∧
    ((∀ s, j ≠ .str s) → t = j.ty ∧ t ≠ 7) ∧ (∀ s, j = .str s → t = 7 ∧ a3 = .string (B s)) ∧ (∀ s, j = .num s → a3 = .string (B s)) := by
  cases h with
  | null h => exact ⟨_, _, _, _, _, h, fun _ => ⟨rfl, by decide⟩, fun _ e => (by cases e), fun _ e => (by cases e)⟩
  | tru h => exact ⟨_, _, _, _, _, h, fun _ => ⟨rfl, by decide⟩, fun _ e => (by cases e), fun _ e => (by cases e)⟩
  | fls h => exact ⟨_, _, _, _, _, h, fun _ => ⟨rfl, by decide⟩, fun _ e => (by cases e), fun _ e => (by cases e)⟩
  | num h => exact ⟨_, _, _, _, _, h, fun _ => ⟨rfl, by decide⟩, fun _ e => (by cases e), fun _ e => (by cases e; rfl)⟩
  | str h => exact ⟨_, _, _, _, _, h, fun e => absurd rfl (e _), fun _ e => (by cases e; exact ⟨rfl, rfl⟩), fun _ e => (by cases e)⟩
  | arr h => exact ⟨_, _, _, _, _, h, fun _ => ⟨rfl, by decide⟩, fun _ e => (by cases e), fun _ e => (by cases e)⟩
  | obj h => exact ⟨_, _, _, _, _, h, fun _ => ⟨rfl, by decide⟩, fun _ e => (by cases e), fun _ e => (by cases e)⟩

/-- What a value's kind was asked leaves. -/
structure Typed (U : Bs → Bs → Prop) (w0 wx : World) (B0 hb : Nat) (root : Nat × Nat) (k o : Nat) (j : J) (w w' : World) : Prop where
  qi : QI U w0 wx B0 hb root w'
  kq : Kq w0 root w w'
  str : ∀ s out, j = .str s → U s out → w'.cell? ⟨k, o + 3, none⟩ = some (.string (B out))
  num : ∀ s, j = .num s → w'.cell? ⟨k, o + 3, none⟩ = some (.string (B s))

theorem type_any {U : Bs → Bs → Prop} (HU : UG U) {w0 wx w : World} {B0 hb : Nat} {root : Nat × Nat} (h : QI U w0 wx B0 hb root w) (hB : B0 ≤ w0.heap.size) (hr : root.1 < w0.heap.size) (hrs : (w0.shape? root.1).map (·.1) = some 185) (hr5 : root.2 % 5 = 0)
    {k o : Nat} {j : J} (hv : RepV w0 (SQ w0 B0 hb) k o j) (hg : ∀ s, j = .str s → ∃ out, U s out) :
    Calls Tryz.prog 108 #[.pointer (some ⟨k, o, none⟩)] w fun e w' => e = .returned (.int .i64 j.ty) ∧ Typed U w0 wx B0 hb root k o j w w' := by
  obtain ⟨a0, a1, a2, a3, t, hvn, ht, hs, hn⟩ := hv.vn
  have hS := hvn.sure 0 (by omega)
  have hno := h.node k o hS.2.1 hvn.shape hvn.five
  have f3 : w.frozen? ⟨k, o + 3, none⟩ = false := (h.free k (o + 3) hS.2.1).trans (hvn.free 3 (by omega))
  have f4 : w.frozen? ⟨k, o + 4, none⟩ = false := (h.free k (o + 4) hS.2.1).trans (hvn.free 4 (by omega))
  have hsz := h.below.size
  by_cases hstr : ∃ s, j = .str s
  · obtain ⟨s, rfl⟩ := hstr
    obtain ⟨rfl, rfl⟩ := hs s rfl
    obtain ⟨out, hu⟩ := hg s rfl
    rcases hno.c34 with ⟨e3, e4⟩ | ⟨raw, out', e3, e4, hu', g3, g4⟩
    · have c3 := e3.trans hvn.c3
      have c4 := e4.trans hvn.c4
      have HX : Hid (∀ w2, Below w.heap.size w w2 → Typed U w0 wx B0 hb root k o (.str s) w ((w2.setCell ⟨k, o + 3, none⟩ (.string (B out))).setCell ⟨k, o + 4, none⟩ (.int .i64 3))) := by
        intro w2 hb2
        have h2 := h.later hB hb2
        have d3 := (hb2.cell (p := ⟨k, o + 3, none⟩) (Nat.lt_of_lt_of_le hS.2.1 hsz)).trans c3
        have d4 := (hb2.cell (p := ⟨k, o + 4, none⟩) (Nat.lt_of_lt_of_le hS.2.1 hsz)).trans c4
        refine ⟨h2.type hS.1 hS.2.1 hvn.shape hvn.five d3 d4 hvn.c3 hvn.c4 hu, ?_, fun s' out' e hu' => ?_, fun s' e => by cases e⟩
        · refine (Kq.below hsz hr hb2).trans ⟨fun g i hg hgs => ?_, ?_, by simp, fun b hb _ => ?_⟩
          · have hne : g ≠ k := by intro e; rw [e, hvn.shape] at hgs; cases hgs
            rw [cell_other _ _ (by omega), cell_other _ _ (by omega)]
          · have h5 := hvn.five
            rw [cell_other _ _ (by omega), cell_other _ _ (by omega)]
          · have hk2 := hS.2.1
            rw [Below.heap_setCell _ _ _ _ (by simp; omega), Below.heap_setCell _ _ _ _ (by simp; omega)]
        · cases e
          rw [cell_other _ _ (by omega), HU.fn _ _ _ hu' hu]
          exact World.cell?_setCell_same _ _ _ d3
      have HUN := Lib.hid (HU.run s out hu w)
      have HB : Hid (∀ w2, Below w.heap.size w w2 → w2.cell? ⟨k, o + 3, none⟩ = some (.string (B s)) ∧ w2.cell? ⟨k, o + 4, none⟩ = some (.int .i64 7) ∧ w2.frozen? ⟨k, o + 3, none⟩ = false ∧ w2.frozen? ⟨k, o + 4, none⟩ = false) := by
        intro w2 hb2
        have hl := Nat.lt_of_lt_of_le hS.2.1 hsz
        exact ⟨(hb2.cell (p := ⟨k, o + 3, none⟩) hl).trans c3, (hb2.cell (p := ⟨k, o + 4, none⟩) hl).trans c4, (hb2.frozen (p := ⟨k, o + 3, none⟩) hl).trans f3, (hb2.frozen (p := ⟨k, o + 4, none⟩) hl).trans f4⟩
      clear hu hg hno hsz f3 f4 ht hs hn hvn hv e3 e4 hS h hr hrs hr5 hB
      go_enter Tryz.func108, Tryz.ntmps108
      go_wp2_with (go_at_call 119; refine HUN.out.mono ?_; rintro e w2 ⟨rfl, hb2⟩; obtain ⟨d3, d4, f3, f4⟩ := HB.out w2 hb2; have HB2 := Lib.hid hb2; clear hb2 c3 c4)
      go_ret
      exact ⟨rfl, HX.out w2 HB2.out⟩
    · have hra : raw = s := by
        have := e3.symm.trans hvn.c3
        simpa [B_inj] using this
      subst hra
      have HX : Hid (Typed U w0 wx B0 hb root k o (.str raw) w w) := ⟨h, Kq.refl _ _ _, fun s' o' e hu2 => by cases e; rw [HU.fn _ _ _ hu2 hu']; exact g3, fun s' e => by cases e⟩
      clear hu hg hno hsz f3 f4 ht hs hn hvn hv e3 e4 hS h hr hrs hr5 hB hu' g3
      go_enter Tryz.func108, Tryz.ntmps108
      go_wp2
      go_ret
      exact ⟨rfl, HX.out⟩
  · obtain ⟨rfl, ht7⟩ := ht fun s e => hstr ⟨s, e⟩
    have hc34 : w.cell? ⟨k, o + 3, none⟩ = w0.cell? ⟨k, o + 3, none⟩ ∧ w.cell? ⟨k, o + 4, none⟩ = w0.cell? ⟨k, o + 4, none⟩ := by
      rcases hno.c34 with h1 | ⟨raw, out', e3, e4, _⟩
      · exact h1
      · have := e4.symm.trans hvn.c4
        exact absurd (by simpa using this.symm) ht7
    have c4 := hc34.2.trans hvn.c4
    have HX : Hid (Typed U w0 wx B0 hb root k o j w w) := ⟨h, Kq.refl _ _ _, fun s' o' e _ => absurd ⟨s', e⟩ hstr, fun s' e => by rw [hc34.1, hvn.c3, hn s' e]⟩
    have z : (j.ty == 7) = false := by rw [beq_eq_false_iff_ne]; exact ht7
    clear hg hno hsz f3 f4 ht hs hn hvn hv hS h hr hrs hr5 hB hc34 hstr
    go_enter Tryz.func108, Tryz.ntmps108
    go_wp2
    go_ret
    exact ⟨rfl, HX.out⟩
end Go.Proofs.YtppkpcijmfdfmaaGreatDoor

/- The walks of what a value is taken as. -/
namespace Go.Proofs.YtppkpcijmfdfmaaGreatDoor
open Go.RowKit
attribute [local go_sem] B_size B_get B_lit B_ext_to B_ext B_toList B_app

/-- What a reader of numbers says: a number and no error, or an error. -/
def NumP (f : Nat) (s : Bs) (z : Value) (r : Option Value) : Prop := ∀ w, Gw w → Calls Tryz.prog f #[.string (B s)] w fun e w' => Below w.heap.size w w' ∧
  match r with
  | some v => e = .returned (.tuple #[v, .nilIface])
  | none => ∃ T t, e = .returned (.tuple #[z, .iface T t])

/-- The same of a value. -/
def NumOr (f : Nat) (z : Value) (j : J) (r : Option Value) : Prop :=
  match j with
  | .num s => NumP f s z r
  | _ => r = none

/-- A value's answer, and what it leaves. -/
def VAns (U : Bs → Bs → Prop) (w0 wx : World) (B0 hb : Nat) (root : Nat × Nat) (w : World) (z : Value) (r : Option Value) (e : Ending) (w' : World) : Prop :=
  QI U w0 wx B0 hb root w' ∧ Kq w0 root w w' ∧
  match r with
  | some v => e = .returned (.tuple #[v, .nilIface])
  | none => ∃ T t, e = .returned (.tuple #[z, .iface T t])

/-- The surroundings of a value that is asked. -/
structure At (U : Bs → Bs → Prop) (w0 wx : World) (B0 hb : Nat) (root : Nat × Nat) (k o : Nat) (j : J) (w : World) : Prop where
  qi : QI U w0 wx B0 hb root w
  hB : B0 ≤ w0.heap.size
  rlt : root.1 < w0.heap.size
  rs : (w0.shape? root.1).map (·.1) = some 185
  r5 : root.2 % 5 = 0
  rep : RepV w0 (SQ w0 B0 hb) k o j
  str : ∀ s, j = .str s → ∃ out, U s out

theorem At.type {U : Bs → Bs → Prop} (HU : UG U) {w0 wx w : World} {B0 hb : Nat} {root : Nat × Nat} {k o : Nat} {j : J} (h : At U w0 wx B0 hb root k o j w) :
    Calls Tryz.prog 108 #[.pointer (some ⟨k, o, none⟩)] w fun e w' => e = .returned (.int .i64 j.ty) ∧ Typed U w0 wx B0 hb root k o j w w' :=
  type_any HU h.qi h.hB h.rlt h.rs h.r5 h.rep h.str
/-- What a step that leaves the blocks alone does to an answer. -/
theorem At.ans {U : Bs → Bs → Prop} {w0 wx w w2 w3 : World} {B0 hb : Nat} {root : Nat × Nat} {k o : Nat} {j : J} (h : At U w0 wx B0 hb root k o j w) (ht : Typed U w0 wx B0 hb root k o j w w2) (hb' : Below w2.heap.size w2 w3) :
    QI U w0 wx B0 hb root w3 ∧ Kq w0 root w w3 :=
  ⟨ht.qi.later h.hB hb', ht.kq.trans (Kq.below ht.qi.below.size h.rlt hb')⟩

theorem float_any {U : Bs → Bs → Prop} (HU : UG U) {w0 wx w : World} {B0 hb : Nat} {root : Nat × Nat} {k o : Nat} {j : J} (h : At U w0 wx B0 hb root k o j w) (r : Option Value) (hr : NumOr 110 (.float .f64 0) j r) :
    Calls Tryz.prog 95 #[.pointer (some ⟨k, o, none⟩)] w (VAns U w0 wx B0 hb root w (.float .f64 0) r) := by
  have HT := Lib.hid (h.type HU)
  have H := Lib.hid h
  clear h
  by_cases hj : ∃ s, j = .num s
  · obtain ⟨s, rfl⟩ := hj
    have HN : Hid (NumP 110 s (.float .f64 0) r) := hr
    clear hr
    cases r with
    | none =>
      go_enter Tryz.func95, Tryz.ntmps95
      go_wp2_with (first
      | (go_at_call 108; refine HT.out.mono ?_; rintro e w2 ⟨rfl, ht⟩; have c3 := ht.num _ rfl; have HTY := Lib.hid ht; clear ht; simp only [J.ty])
      | (go_at_call 110; refine (HN.out _ HTY.out.qi.gw).mono ?_; rintro e w3 ⟨hb3, T, t, rfl⟩; have HB3 := Lib.hid hb3; clear hb3))
      go_ret2
      exact ⟨(H.out.ans HTY.out HB3.out).1, (H.out.ans HTY.out HB3.out).2, _, _, rfl⟩
    | some v =>
      go_enter Tryz.func95, Tryz.ntmps95
      go_wp2_with (first
      | (go_at_call 108; refine HT.out.mono ?_; rintro e w2 ⟨rfl, ht⟩; have c3 := ht.num _ rfl; have HTY := Lib.hid ht; clear ht; simp only [J.ty])
      | (go_at_call 110; refine (HN.out _ HTY.out.qi.gw).mono ?_; rintro e w3 ⟨hb3, rfl⟩; have HB3 := Lib.hid hb3; clear hb3))
      go_ret2
      exact ⟨(H.out.ans HTY.out HB3.out).1, (H.out.ans HTY.out HB3.out).2, rfl⟩
  · have hn : r = none := by
      cases j with
      | num s => exact absurd ⟨s, rfl⟩ hj
      | _ => exact hr
    have z : (j.ty == 4) = false := by
      cases j with
      | num s => exact absurd ⟨s, rfl⟩ hj
      | _ => rfl
    subst hn
    clear hr hj
    go_enter Tryz.func95, Tryz.ntmps95
    go_wp2_with (first
    | (go_at_call 108; refine HT.out.mono ?_; rintro e w2 ⟨rfl, ht⟩; have HTY := Lib.hid ht; clear ht)
    | (go_at_call 109; refine (errorsNew_any _ _).mono ?_; rintro e w' ⟨rfl, rfl⟩))
    go_ret2
    exact ⟨(H.out.ans HTY.out ((Below.refl _ _).alloc (Nat.le_refl _) _)).1, (H.out.ans HTY.out ((Below.refl _ _).alloc (Nat.le_refl _) _)).2, _, _, rfl⟩

/-- The kind as it stands. -/
theorem kind_now {U : Bs → Bs → Prop} {w0 wx w : World} {B0 hb : Nat} {root : Nat × Nat} {k o : Nat} {j : J} (hq : QI U w0 wx B0 hb root w) (hrep : RepV w0 (SQ w0 B0 hb) k o j) :
    ∃ t, w.cell? ⟨k, o + 4, none⟩ = some (.int .i64 t) ∧ (t = j.ty ∨ (t = 7 ∧ ∃ s, j = .str s)) := by
  obtain ⟨a0, a1, a2, a3, t, hvn, ht, hs, hn⟩ := hrep.vn
  have hS := hvn.sure 0 (by omega)
  have hno := hq.node k o hS.2.1 hvn.shape hvn.five
  by_cases hstr : ∃ s, j = .str s
  · obtain ⟨s, rfl⟩ := hstr
    obtain ⟨rfl, rfl⟩ := hs s rfl
    rcases hno.c34 with ⟨_, e4⟩ | ⟨raw, out', _, _, _, _, g4⟩
    · exact ⟨7, e4.trans hvn.c4, Or.inr ⟨rfl, s, rfl⟩⟩
    · exact ⟨3, g4, Or.inl rfl⟩
  · obtain ⟨rfl, ht7⟩ := ht fun s e => hstr ⟨s, e⟩
    rcases hno.c34 with ⟨_, e4⟩ | ⟨raw, out', e3, e4, _⟩
    · exact ⟨_, e4.trans hvn.c4, Or.inl rfl⟩
    · have := e4.symm.trans hvn.c4
      exact absurd (by simpa using this.symm) ht7
theorem At.kind {U : Bs → Bs → Prop} {w0 wx w : World} {B0 hb : Nat} {root : Nat × Nat} {k o : Nat} {j : J} (h : At U w0 wx B0 hb root k o j w) :
    ∃ t, w.cell? ⟨k, o + 4, none⟩ = some (.int .i64 t) ∧ (t = j.ty ∨ (t = 7 ∧ ∃ s, j = .str s)) := kind_now h.qi h.rep
/-- A text's bytes as they are given out. -/
def SAns (U : Bs → Bs → Prop) (w0 wx : World) (B0 hb : Nat) (root : Nat × Nat) (w : World) (r : Option Bs) (e : Ending) (w' : World) : Prop :=
  QI U w0 wx B0 hb root w' ∧ Kq w0 root w w' ∧
  match r with
  | some out => ∃ v, e = .returned (.tuple #[v, .nilIface]) ∧ BA w' v out
  | none => ∃ T t, e = .returned (.tuple #[.slice none 0 0, .iface T t])

theorem s2b_any (w : World) (l : Bs) : Calls Tryz.prog 112 #[.string (B l)] w fun e w' => ∃ v, e = .returned v ∧ BA w' v l ∧ Below w.heap.size w w' := by
  have hr := Lib.run_convert_string_bytes (P := Tryz.prog) w 9 27 5 (B l) Tryz.underlying9 Tryz.underlying27 Tryz.underlying5
  have hX : BA (Lib.bytesWorld w 5 (B l)) (.slice (some ⟨w.heap.size, 0, none⟩) (B l).size (grownCap w (B l).size 0 5)) l ∧ Below w.heap.size w (Lib.bytesWorld w 5 (B l)) := by
    refine ⟨Or.inr ⟨w.heap.size, 0, _, by rw [B_size], by rw [Lib.bytesWorld_size]; omega, fun i u hu => ?_⟩, rfl, rfl, rfl, by rw [Lib.bytesWorld_size]; omega, fun k hk => Lib.bytesWorld_at_old _ _ _ _ hk⟩
    have hlt : i < (B l).size := by rw [B_size]; exact (List.getElem?_eq_some_iff.1 hu).1
    rw [Nat.zero_add, Lib.bytesWorld_cell _ _ _ _ hlt, B_data, List.getD, hu]
    rfl
  have HX := Lib.hid hX
  clear hX
  go_enter Tryz.func112, Tryz.ntmps112
  go_wp2
  go_ret
  exact ⟨_, rfl, HX.out⟩
end Go.Proofs.YtppkpcijmfdfmaaGreatDoor

/- The walks of what a value is taken as: texts, lists, and whole numbers of the machine's width. -/
namespace Go.Proofs.YtppkpcijmfdfmaaGreatDoor
open Go.RowKit
attribute [local go_sem] B_size B_get B_lit B_ext_to B_ext B_toList B_app

/-- A text unescaped. -/
def StrOr (U : Bs → Bs → Prop) (j : J) (r : Option Bs) : Prop :=
  match j with
  | .str s => ∃ out, U s out ∧ r = some out
  | _ => r = none

theorem stringBytes_any {U : Bs → Bs → Prop} (HU : UG U) {w0 wx w : World} {B0 hb : Nat} {root : Nat × Nat} {k o : Nat} {j : J} (h : At U w0 wx B0 hb root k o j w) (r : Option Bs) (hr : StrOr U j r) :
    Calls Tryz.prog 97 #[.pointer (some ⟨k, o, none⟩)] w (SAns U w0 wx B0 hb root w r) := by
  have HT := Lib.hid (h.type HU)
  have H := Lib.hid h
  clear h
  by_cases hj : ∃ s, j = .str s
  · obtain ⟨s, rfl⟩ := hj
    obtain ⟨out, hu, rfl⟩ := hr
    have HU := Lib.hid hu
    clear hu
    go_enter Tryz.func97, Tryz.ntmps97
    go_wp2_with (first
    | (go_at_call 108; refine HT.out.mono ?_; rintro e w2 ⟨rfl, ht⟩; have c3 := ht.str _ _ rfl HU.out; have HTY := Lib.hid ht; clear ht; simp only [J.ty])
    | (go_at_call 112; refine (s2b_any _ _).mono ?_; rintro e w3 ⟨v, rfl, hba, hb3⟩; have HBA := Lib.hid hba; have HB3 := Lib.hid hb3; clear hb3 hba))
    go_ret2
    exact ⟨(H.out.ans HTY.out HB3.out).1, (H.out.ans HTY.out HB3.out).2, _, rfl, HBA.out⟩
  · have hn : r = none := by
      cases j with
      | str s => exact absurd ⟨s, rfl⟩ hj
      | _ => exact hr
    have z : (j.ty == 3) = false := by
      cases j with
      | str s => exact absurd ⟨s, rfl⟩ hj
      | _ => rfl
    subst hn
    clear hr hj
    go_enter Tryz.func97, Tryz.ntmps97
    go_wp2_with (first
    | (go_at_call 108; refine HT.out.mono ?_; rintro e w2 ⟨rfl, ht⟩; have HTY := Lib.hid ht; clear ht)
    | (go_at_call 109; refine (errorsNew_any _ _).mono ?_; rintro e w' ⟨rfl, rfl⟩))
    go_ret2
    exact ⟨(H.out.ans HTY.out ((Below.refl _ _).alloc (Nat.le_refl _) _)).1, (H.out.ans HTY.out ((Below.refl _ _).alloc (Nat.le_refl _) _)).2, _, _, rfl⟩

/-- A list's row of pointers, in every world while the header is asked. -/
def PtrNow (U : Bs → Bs → Prop) (w0 wx : World) (B0 hb : Nat) (root : Nat × Nat) (av : Value) (ps : List (Nat × Nat)) : Prop :=
  (av = .slice none 0 0 ∧ ps = []) ∨
  ∃ g cap, av = .slice (some ⟨g, 0, none⟩) ps.length cap ∧ 1 ≤ ps.length ∧ ∀ w, QI U w0 wx B0 hb root w → ∀ i p, ps[i]? = some p → w.cell? ⟨g, i, none⟩ = some (.pointer (some ⟨p.1, p.2, none⟩))
theorem At.arr {U : Bs → Bs → Prop} {w0 wx w : World} {B0 hb : Nat} {root : Nat × Nat} {k o : Nat} {ts : List J} (h : At U w0 wx B0 hb root k o (.arr ts) w) :
    ∃ av ps, w.cell? ⟨k, o + 2, none⟩ = some av ∧ ps.length = ts.length ∧ PtrNow U w0 wx B0 hb root av ps ∧
      ∀ (i : Nat) p t, ps[i]? = some p → ts[i]? = some t → RepV w0 (SQ w0 B0 hb) p.1 p.2 t := by
  cases h.rep with
  | @arr k o a0 a1 av a3 ps ts hvn hl hr hk =>
    have hS := hvn.sure 0 (by omega)
    have hno := h.qi.node k o hS.2.1 hvn.shape hvn.five
    refine ⟨av, ps, hno.c2.trans hvn.c2, hl, ?_, hk⟩
    rcases hr with hr | ⟨g, cap, h1, h0, h2, h3, h4⟩
    · exact Or.inl hr
    · have hg := (h4 0 ps[0] (List.getElem?_eq_getElem h0)).1
      exact Or.inr ⟨g, cap, h1, h0, fun w' hq i p hi => (hq.ptr g i hg.2.1 h3).trans (h4 i p hi).2⟩

end Go.Proofs.YtppkpcijmfdfmaaGreatDoor

/- The walks of an object's keys: unescaped in place, and found. -/
namespace Go.Proofs.YtppkpcijmfdfmaaGreatDoor
open Go.RowKit
attribute [local go_sem] B_size B_get B_lit B_ext_to B_ext B_toList B_app

/-- An object that was read, with at least one member: where it lies; its keys raw and unescaped. -/
structure ObjR (U : Bs → Bs → Prop) (w0 : World) (B0 hb k o g cap : Nat) (rs cs : List Bs) (ps : List (Nat × Nat)) : Prop where
  hB : B0 ≤ w0.heap.size
  klo : B0 ≤ k
  khi : k < w0.heap.size
  ks : (w0.shape? k).map (·.1) = some 185
  k5 : o % 5 = 0
  c0 : w0.cell? ⟨k, o, none⟩ = some (.slice (some ⟨g, 0, none⟩) ps.length cap)
  glo : B0 ≤ g
  ghi : g < w0.heap.size
  gs : (w0.shape? g).map (·.1) = some 218
  rlen : rs.length = ps.length
  clen : cs.length = ps.length
  cook : ∀ (i : Nat) r c, rs[i]? = some r → cs[i]? = some c → U r c
  gfree : ∀ i, i < ps.length → w0.frozen? ⟨g, i * 2, none⟩ = false
  ffree : w0.frozen? ⟨k, o + 1, none⟩ = false
  len : ps.length < 4294967296

theorem ObjR.ne {U : Bs → Bs → Prop} {w0 : World} {B0 hb k o g cap : Nat} {rs cs : List Bs} {ps : List (Nat × Nat)} (h : ObjR U w0 B0 hb k o g cap rs cs ps) : k ≠ g := by
  intro e; have := h.ks; rw [e, h.gs] at this; cases this

/-- Its keys and its flag as they stand. -/
structure ObjN (k o g : Nat) (u : Bool) (ks : List Bs) (ps : List (Nat × Nat)) (w : World) : Prop where
  flag : w.cell? ⟨k, o + 1, none⟩ = some (.bool u)
  key : ∀ (i : Nat) s, ks[i]? = some s → w.cell? ⟨g, i * 2, none⟩ = some (.string (B s))
  ptr : ∀ (i : Nat) p, ps[i]? = some p → w.cell? ⟨g, i * 2 + 1, none⟩ = some (.pointer (some ⟨p.1, p.2, none⟩))

theorem ObjN.below {k o g : Nat} {u : Bool} {ks : List Bs} {ps : List (Nat × Nat)} {w w' : World} (h : ObjN k o g u ks ps w) (hb : Below w.heap.size w w') (hk : k < w.heap.size) (hg : g < w.heap.size) : ObjN k o g u ks ps w' :=
  ⟨(hb.cell (p := ⟨k, o + 1, none⟩) hk).trans h.flag, fun i s hi => (hb.cell (p := ⟨g, i * 2, none⟩) hg).trans (h.key i s hi), fun i p hi => (hb.cell (p := ⟨g, i * 2 + 1, none⟩) hg).trans (h.ptr i p hi)⟩
theorem ObjN.kq {k o g : Nat} {u : Bool} {ks : List Bs} {ps : List (Nat × Nat)} {w0 w w' : World} (h : ObjN k o g u ks ps w) (hq : Kq w0 (k, o) w w') (hg : g < w0.heap.size) (gs : (w0.shape? g).map (·.1) = some 218) : ObjN k o g u ks ps w' :=
  ⟨hq.flag.trans h.flag, fun i s hi => (hq.kv g (i * 2) hg gs).trans (h.key i s hi), fun i p hi => (hq.kv g (i * 2 + 1) hg gs).trans (h.ptr i p hi)⟩
theorem ObjN.set {k o g : Nat} {u : Bool} {rs cs : List Bs} {ps : List (Nat × Nat)} {w : World} {n : Nat} {c : Bs} (h : ObjN k o g u (cs.take n ++ rs.drop n) ps w) (hne : k ≠ g) (hr : n < rs.length) (hc : cs[n]? = some c) :
    ObjN k o g u (cs.take (n + 1) ++ rs.drop (n + 1)) ps (w.setCell ⟨g, n * 2, none⟩ (.string (B c))) := by
  have hnc : n < cs.length := (List.getElem?_eq_some_iff.1 hc).1
  have hn : (cs.take n ++ rs.drop n)[n]? = some rs[n] := by
    rw [List.getElem?_append_right (by simp; omega)]
    simp [Nat.min_eq_left (Nat.le_of_lt hnc), List.getElem?_eq_getElem hr]
  refine ⟨(cell_other _ _ (by omega)).trans h.flag, fun i s hi => ?_, fun i p hi => (cell_other _ _ (by omega)).trans (h.ptr i p hi)⟩
  by_cases e : i = n
  · subst e
    rw [World.cell?_setCell_same _ _ _ (h.key i _ hn)]
    rw [List.getElem?_append_left (by simp; omega), List.getElem?_take_of_lt (by omega), hc] at hi
    cases hi; rfl
  · refine (cell_other _ _ (by omega)).trans (h.key i s ?_)
    rw [← hi]
    by_cases hlt : i < n
    · rw [List.getElem?_append_left (by simp; omega), List.getElem?_append_left (by simp; omega), List.getElem?_take_of_lt hlt, List.getElem?_take_of_lt (by omega)]
    · rw [List.getElem?_append_right (by simp; omega), List.getElem?_append_right (by simp; omega), List.getElem?_drop, List.getElem?_drop]
      congr 1
      simp
      omega

set_option maxHeartbeats 1000000 in
theorem unescapeKeys_any {U : Bs → Bs → Prop} (HU : UG U) {w0 wx w : World} {B0 hb k o g cap : Nat} {rs cs : List Bs} {ps : List (Nat × Nat)} (hR : ObjR U w0 B0 hb k o g cap rs cs ps) (hQ : QI U w0 wx B0 hb (k, o) w) (hN : ObjN k o g false rs ps w) :
    Calls Tryz.prog 132 #[.pointer (some ⟨k, o, none⟩)] w fun e w' => e = .returned (.tuple #[]) ∧ QI U w0 wx B0 hb (k, o) w' ∧ ObjN k o g true cs ps w' := by
  have c0 : w.cell? ⟨k, o, none⟩ = some (.slice (some ⟨g, 0, none⟩) ps.length cap) := ((hQ.node k o hR.khi hR.ks hR.k5).c0).trans hR.c0
  have c1 := hN.flag
  have HR := Lib.hid hR
  have HQ := Lib.hid hQ
  have HN := Lib.hid hN
  have hlen := hR.len
  clear hR hQ hN
  go_enter Tryz.func132, Tryz.ntmps132
  go_wp2
  go_loopw [15] (fun q wr => ∃ n : Nat, n ≤ ps.length ∧ Hid (QI U w0 wx B0 hb (k, o) wr ∧ ObjN k o g false (cs.take n ++ rs.drop n) ps wr) ∧ q = .int .i64 n) (fun q _ => ps.length - (intOf q).toNat)
  case atStart => exact ⟨0, by omega, ⟨HQ.out, by simpa using HN.out⟩, rfl⟩
  case round =>
    clear c0 c1
    obtain ⟨n, hn, HS, rfl⟩ := hrel
    have hsz := HS.out.1.below.size
    by_cases hlt : n < ps.length
    · have hnr : n < rs.length := by have := HR.out.rlen; omega
      have hnc : n < cs.length := by have := HR.out.clen; omega
      have hk := HS.out.2.key n rs[n] (by rw [List.getElem?_append_right (by simp; omega)]; simp [Nat.min_eq_left (Nat.le_of_lt hnc), List.getElem?_eq_getElem hnr])
      have hf : wr.frozen? ⟨g, n * 2, none⟩ = false := (HS.out.1.free g (n * 2) HR.out.ghi).trans (HR.out.gfree n hlt)
      have HUN := Lib.hid (HU.run _ _ (HR.out.cook n rs[n] cs[n] (List.getElem?_eq_getElem hnr) (List.getElem?_eq_getElem hnc)) wr)
      have HB : Hid (∀ w2, Below wr.heap.size wr w2 → w2.cell? ⟨g, n * 2, none⟩ = some (.string (B rs[n])) ∧ w2.frozen? ⟨g, n * 2, none⟩ = false) := by
        intro w2 hb2
        have hl := Nat.lt_of_lt_of_le HR.out.ghi hsz
        exact ⟨(hb2.cell (p := ⟨g, n * 2, none⟩) hl).trans hk, (hb2.frozen (p := ⟨g, n * 2, none⟩) hl).trans hf⟩
      clear hsz
      go_wp2_with (go_at_call 119; refine HUN.out.mono ?_; rintro e w2 ⟨rfl, hb2⟩; obtain ⟨d3, f3⟩ := HB.out w2 hb2; have HB2 := Lib.hid hb2; clear hb2 hk hf)
      go_roundw
      case rel =>
        refine ⟨n + 1, by omega, ⟨(HS.out.1.later HR.out.hB HB2.out).key _ HR.out.glo HR.out.gs, (HS.out.2.below HB2.out (Nat.lt_of_lt_of_le HR.out.khi HS.out.1.below.size) (Nat.lt_of_lt_of_le HR.out.ghi HS.out.1.below.size)).set HR.out.ne hnr (List.getElem?_eq_getElem hnc)⟩, by go_num⟩
      case measure => simp [intOf]; omega
    · obtain rfl : n = ps.length := by omega
      have c1 := HS.out.2.flag
      have f1 : wr.frozen? ⟨k, o + 1, none⟩ = false := (HS.out.1.free k (o + 1) HR.out.khi).trans HR.out.ffree
      clear hsz
      go_wp2
      go_end0
      have hne := HR.out.ne
      have hk5 := HR.out.k5
      have h2 := HS.out.2
      rw [List.take_of_length_le (by have := HR.out.clen; omega), List.drop_of_length_le (by have := HR.out.rlen; omega), List.append_nil] at h2
      refine ⟨rfl, HS.out.1.flag _ HR.out.klo HR.out.ks HR.out.k5, World.cell?_setCell_same _ _ _ h2.flag, fun i s hi => (cell_other _ _ (by omega)).trans (h2.key i s hi), fun i p hi => (cell_other _ _ (by omega)).trans (h2.ptr i p hi)⟩
end Go.Proofs.YtppkpcijmfdfmaaGreatDoor
