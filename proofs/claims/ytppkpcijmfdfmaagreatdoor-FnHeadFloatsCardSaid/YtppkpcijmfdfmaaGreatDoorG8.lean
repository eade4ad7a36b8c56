/- The walks of HeadFloat over a text that reads as an object, of HeadString and HeadHas over two small texts, and headLive. -/
import Derived.Test.YtppkpcijmfdfmaaGreatDoorW189
import Derived.BigQuiet
import Derived.Deep.QuietTactic
import Derived.Test.YtppkpcijmfdfmaaGreatDoorW200
import Derived.Test.YtppkpcijmfdfmaaGreatDoorD4
import Derived.Test.YtppkpcijmfdfmaaGreatDoorG2
import Derived.Test.YtppkpcijmfdfmaaGreatDoorH1
import Derived.Handy
set_option linter.unusedVariables false
set_option linter.unusedSimpArgs false
set_option linter.unusedVariables false
set_option linter.unusedSimpArgs false
namespace Go.Proofs.YtppkpcijmfdfmaaGreatDoor
open Go.RowKit
attribute [local go_sem] B_size B_get B_lit B_ext_to B_ext B_toList B_app

set_option maxRecDepth 100000 in
theorem floatRd_any {P : Bs} {t : HT} (h : RdT P t) {v : Value} {s : Bs} {w : World} (hv : BA w v P) (hG : Gw w) (hs : s.length < 4294967290) :
    Calls Tryz.prog 28 #[v, .string (B s)] w fun e w' => e = .returned (.tuple #[.float .f64 (tell t (6, s)).fl, .bool (tell t (6, s)).ok]) ∧ Below w.heap.size w w' := by
  obtain ⟨d', ms, hR, hm, hl⟩ := rdReady h hv hG
  have hkn0 := h.kids
  have HR := Lib.hid hR
  have HM := Lib.hid (And.intro hm hl)
  have HK := Lib.hid hkn0
  clear hR hm hl h hv hG hkn0
  go_enter Tryz.func28, Tryz.ntmps28
  go_wp2_with (fail)
  refine HR.out.mono ?_
  rintro e w2 ⟨hb, rfl, hb2, hq2⟩
  have HB2 := Lib.hid hb2
  have HF := Lib.hid (getFloat_any env1_ok hq2 s hs (fun j hj hno => by cases hj; exact absurd rfl (hno _)) (fun j n hf hj => by
    obtain ⟨k, hk, hmt⟩ := finds_kid HM.out.1 HM.out.2 (s := s) (r := some j) hf
    cases k with
    | none => exact hmt.elim
    | some c =>
      obtain ⟨i, _, hc, _⟩ := id hk
      rcases mt_num hmt.1 with ⟨_, e⟩ | ⟨_, e⟩
      · rw [hj] at e
        cases e
        exact ⟨_, _, (HK.out c (List.mem_of_getElem? hc)).1, rfl⟩
      · exact absurd hj (e n)))
  clear hb2 hq2
  go_wp2_with (fail)
  refine HF.out.mono ?_
  rintro e w3 h3
  obtain ⟨hq3, r, hf, hres⟩ := h3.or
  have HB3 := Lib.hid (HB2.out.trans (hq3.kept.1))
  obtain ⟨k, hk, hmt⟩ := finds_kid HM.out.1 HM.out.2 (s := s) (r := r) hf
  have hnum : ∀ c, k = some c → c.num < 18446744073709551616 := fun c hc => by
    subst hc
    obtain ⟨i, _, hc, _⟩ := id hk
    exact (HK.out c (List.mem_of_getElem? hc)).1
  have ht : ∀ a, AnsK env1 r 6 a → a = tell t (6, s) := fun a ha => by
    unfold tell
    rw [hk.fn]
    exact ans_told ha hmt hnum (by show 6 < 10; decide)
  rcases hres with ⟨hn, T, tv, rfl⟩ | ⟨x, hx, rfl⟩
  · have e1 := ht Told.zero (by show Told.zero = _; rw [hn])
    have HE := Lib.hid e1
    clear h3 hq3 hf hn hk hmt hnum ht e1
    go_wp2_with (fail)
    go_quiet (fail)
    go_wp2_with (fail)
    go_ret2
    exact ⟨by rw [← HE.out]; rfl, below_draws HB3.out _⟩
  · have e1 := ht { Told.zero with ok := true, fl := x } (by show _ = _; rw [hx])
    have HE := Lib.hid e1
    clear h3 hq3 hf hx hk hmt hnum ht e1
    go_wp2_with (fail)
    go_quiet (fail)
    go_wp2_with (fail)
    go_ret2
    exact ⟨by rw [← HE.out]; rfl, below_draws HB3.out _⟩

/-! ### headLive -/
def algText : Bs := [123, 34, 97, 108, 103, 34, 58, 34, 110, 111, 110, 101, 34, 125]
def algMs : List (Bs × J) := [([97, 108, 103], .str [110, 111, 110, 101])]
theorem alg_parse : jParse algText = some (.obj algMs) := by kernel_rfl
def nulText : Bs := [123, 34, 97, 34, 58, 110, 117, 108, 108, 125]
def nulMs : List (Bs × J) := [([97], .null)]
theorem nul_parse : jParse nulText = some (.obj nulMs) := by kernel_rfl
theorem alg_good : Good env0.U (.obj algMs) := by
  refine ⟨fun ms e m hm => ?_, fun ms e m hm => ?_, fun ms e m hm m' hm' c h1 h2 => h1.1.trans h2.1.symm, fun ms e => ?_⟩
  · cases e
    simp [algMs] at hm
    subst hm
    exact ⟨[97, 108, 103], rfl, by decide⟩
  · cases e
    simp [algMs] at hm
    subst hm
    exact ⟨fun s e => (by cases e; exact ⟨_, rfl, by decide⟩), fun ts e => (by cases e)⟩
  · cases e; decide
theorem nul_good : Good env0.U (.obj nulMs) := by
  refine ⟨fun ms e m hm => ?_, fun ms e m hm => ?_, fun ms e m hm m' hm' c h1 h2 => h1.1.trans h2.1.symm, fun ms e => ?_⟩
  · cases e
    simp [nulMs] at hm
    subst hm
    exact ⟨[97], rfl, by decide⟩
  · cases e
    simp [nulMs] at hm
    subst hm
    exact ⟨fun s e => (by cases e), fun ts e => (by cases e)⟩
  · cases e; decide
theorem one_found {k : Bs} {j : J} (hk : (92 : UInt8) ∉ k) {t : Option J} (h : FindsR env0.U (some (.obj [(k, j)])) k t) : t = some j := by
  have hm : ((k, j) : Bs × J) ∈ [(k, j)] := by simp
  cases t with
  | none => exact absurd (⟨rfl, hk⟩ : env0.U k k) (h _ hm)
  | some t =>
    obtain ⟨i, m, hi, hu, rfl, _⟩ := h
    have h2 := List.mem_of_getElem? hi
    simp at h2
    rw [h2]
set_option maxRecDepth 100000 in
theorem algString (w : World) (v : Value) (hv : BA w v algText) (hG : Gw w) : Calls Tryz.prog 57 #[v, .string (B [97, 108, 103])] w fun e w' => e = .returned (.tuple #[.string (B [110, 111, 110, 101]), .bool true]) ∧ Below w.heap.size w w' := by
  have hR := ready_any (G := env0) v algText w hv (by decide) hG (fun j hj => by rw [alg_parse] at hj; cases hj; exact alg_good)
  rw [alg_parse] at hR
  have HR := Lib.hid hR
  clear hR hv hG
  go_enter Tryz.func57, Tryz.ntmps57
  go_wp2_with (fail)
  refine HR.out.mono ?_
  rintro e w2 ⟨hb, rfl, hb2, hq2⟩
  have HB2 := Lib.hid hb2
  have HF := Lib.hid (getString_any env0_ok hq2 [97, 108, 103] (by decide) (fun j hj hno => by cases hj; exact absurd rfl (hno _)))
  clear hb2 hq2
  go_wp2_with (fail)
  refine HF.out.mono ?_
  rintro e w3 ⟨t, rr, hf, hq3, htx, hae⟩
  have HB3 := Lib.hid (HB2.out.trans (hq3.kept.1))
  obtain rfl := one_found (by decide) hf
  obtain ⟨out, ho, rfl⟩ : ∃ out, env0.U [110, 111, 110, 101] out ∧ rr = some out := htx
  obtain rfl : [110, 111, 110, 101] = out := ho.1
  have he : e = .returned (.tuple #[.string (B [110, 111, 110, 101]), .nilIface]) := hae
  subst he
  clear hf hq3 hae ho
  go_wp2_with (fail)
  go_quiet (fail)
  go_wp2_with (fail)
  go_ret2
  exact ⟨rfl, below_draws HB3.out _⟩
set_option maxRecDepth 100000 in
theorem nulHas (w : World) (v : Value) (hv : BA w v nulText) (hG : Gw w) : Calls Tryz.prog 47 #[v, .string (B [97])] w fun e w' => e = .returned (.bool true) ∧ Below w.heap.size w w' := by
  have hR := ready_any (G := env0) v nulText w hv (by decide) hG (fun j hj => by rw [nul_parse] at hj; cases hj; exact nul_good)
  rw [nul_parse] at hR
  have HR := Lib.hid hR
  clear hR hv hG
  go_enter Tryz.func47, Tryz.ntmps47
  go_wp2_with (fail)
  refine HR.out.mono ?_
  rintro e w2 ⟨hb, rfl, hb2, hq2⟩
  have HB2 := Lib.hid hb2
  have HF := Lib.hid (has_any env0_ok hq2 [97] (by decide) (fun j hj hno => by cases hj; exact absurd rfl (hno _)))
  clear hb2 hq2
  go_wp2_with (fail)
  refine HF.out.mono ?_
  rintro e w3 ⟨r, hf, hq3, rfl⟩
  have HB3 := Lib.hid (HB2.out.trans hq3.kept.1)
  obtain rfl := one_found (by decide) hf
  clear hf hq3
  go_wp2
  go_ret
  exact ⟨rfl, HB3.out⟩
def algBytes : Array Value := #[.int .u8 123, .int .u8 34, .int .u8 97, .int .u8 108, .int .u8 103, .int .u8 34, .int .u8 58, .int .u8 34, .int .u8 110, .int .u8 111, .int .u8 110, .int .u8 101, .int .u8 34, .int .u8 125]
def nulBytes : Array Value := #[.int .u8 123, .int .u8 34, .int .u8 97, .int .u8 34, .int .u8 58, .int .u8 110, .int .u8 117, .int .u8 108, .int .u8 108, .int .u8 125]
def litW (w : World) (a : Array Value) (n : Nat) : World := (w.alloc (.cells a 5)).freeze ⟨w.heap.size, n, none⟩ 1
theorem litW_size (w : World) (a : Array Value) (n : Nat) : (litW w a n).heap.size = w.heap.size + 1 := by unfold litW; rw [freeze_heap]; simp
theorem lit_pre (w : World) (a : Array Value) (n : Nat) (l : Bs) (hl : l.length = n) (e : a = (l.map fun u => Value.int .u8 u.toNat).toArray) : Below w.heap.size w (litW w a n) ∧ BA (litW w a n) (.slice (some ⟨w.heap.size, 0, none⟩) n n) l := by
  have h1 : Below w.heap.size w (litW w a n) := freeze_below ((Below.refl _ _).alloc (Nat.le_refl _) _) (Nat.le_refl _)
  refine ⟨h1, Or.inr ⟨w.heap.size, 0, n, by rw [hl], by rw [litW_size]; omega, fun i u hu => ?_⟩⟩
  unfold litW
  rw [freeze_cell]
  have hc := cell_new w a 5 i
  rw [Addr.add_lit] at hc
  rw [hc, e, List.getElem?_toArray, List.getElem?_map, hu]
  rfl
theorem lit_conv (w : World) (a : Array Value) (n : Nat) (hn : a.size = n) : (convert 27 27 (.slice (some ⟨w.heap.size, 0, none⟩) n n)).run Tryz.prog (w.alloc (.cells a 5)) = .ok (.slice (some ⟨w.heap.size, 0, none⟩) n n) (litW w a n) :=
  conv_mark w.heap.size n n n 5 (w.alloc (.cells a 5)) (by unfold World.shape?; rw [show (w.alloc (.cells a 5)).heap[w.heap.size]? = some (.cells a 5) from heap_alloc_new w _]; rw [← hn])
set_option maxHeartbeats 4000000 in
set_option maxRecDepth 100000 in
theorem headLive_any (w : World) (hB : Gw w) : Calls Tryz.prog 24 #[] w fun e w' => e = .returned (.bool true) ∧ Below w.heap.size w w' := by
  have hc1 : (convert 27 27 (.slice (some ⟨w.heap.size, 0, none⟩) 14 14)).run Tryz.prog (w.alloc (.cells #[.int .u8 123, .int .u8 34, .int .u8 97, .int .u8 108, .int .u8 103, .int .u8 34, .int .u8 58, .int .u8 34, .int .u8 110, .int .u8 111, .int .u8 110, .int .u8 101, .int .u8 34, .int .u8 125] 5)) = .ok (.slice (some ⟨w.heap.size, 0, none⟩) 14 14) (litW w algBytes 14) := lit_conv w algBytes 14 rfl
  have h1 := lit_pre w algBytes 14 algText rfl rfl
  have HR := Lib.hid (algString (litW w algBytes 14) _ h1.2 (Gw.below hB h1.1))
  have HB1 := Lib.hid h1.1
  have HG := Lib.hid hB
  clear hB h1
  go_enter Tryz.func24, Tryz.ntmps24
  go_wp2_with (fail)
  refine HR.out.mono ?_
  rintro e w2 ⟨rfl, hb2⟩
  have HB2 := Lib.hid (HB1.out.trans (hb2.mono HB1.out.size))
  clear hb2 hc1
  have hc2 : (convert 27 27 (.slice (some ⟨w2.heap.size, 0, none⟩) 10 10)).run Tryz.prog (w2.alloc (.cells #[.int .u8 123, .int .u8 34, .int .u8 97, .int .u8 34, .int .u8 58, .int .u8 110, .int .u8 117, .int .u8 108, .int .u8 108, .int .u8 125] 5)) = .ok (.slice (some ⟨w2.heap.size, 0, none⟩) 10 10) (litW w2 nulBytes 10) := lit_conv w2 nulBytes 10 rfl
  have h2 := lit_pre w2 nulBytes 10 nulText rfl rfl
  have HH := Lib.hid (nulHas (litW w2 nulBytes 10) _ h2.2 (Gw.below HG.out (HB2.out.trans (h2.1.mono HB2.out.size))))
  have HB3 := Lib.hid (HB2.out.trans (h2.1.mono HB2.out.size))
  clear h2
  go_wp2_with (fail)
  refine HH.out.mono ?_
  rintro e w3 ⟨rfl, hb3⟩
  have HB4 := Lib.hid (HB3.out.trans (hb3.mono HB3.out.size))
  clear hb3 hc2
  go_wp2
  go_ret
  exact ⟨rfl, HB4.out⟩
end Go.Proofs.YtppkpcijmfdfmaaGreatDoor

/- The walks of zzFits10, zzFits9, HeadFind, headNames and HeadInt over fields. -/
set_option linter.unusedVariables false
set_option linter.unusedSimpArgs false
namespace Go.Proofs.YtppkpcijmfdfmaaGreatDoor
open Go.RowKit
attribute [local go_sem] B_size B_get B_lit B_ext_to B_ext B_toList B_app

set_option maxRecDepth 100000 in
set_option maxHeartbeats 2000000 in
theorem fits10_any {B0 : Nat} {f : HF} {lv : Value} {w : World} (hn : NSB w B0 lv f.list) (hB : B0 ≤ w.heap.size) (hl : f.list.length ≤ 9223372036854775807) :
    Calls Tryz.prog 54 #[.agg (fcells f lv).toArray] w fun e w' => (∃ b, e = .returned (.bool b)) ∧ Below w.heap.size w w' := by
  obtain ⟨la, lc, rfl⟩ := hn.slice
  have hb1 : Below w.heap.size w (w.alloc (.cells (fcells f (.slice la f.list.length lc)).toArray 32)) := (Below.refl _ _).alloc (Nat.le_refl _) _
  have HF := Lib.hid (fits2_any (w.alloc (.cells (fcells f (.slice la f.list.length lc)).toArray 32)) (hn.below (hb1.mono hB)) hl)
  have HB1 := Lib.hid hb1
  clear hb1 hn
  simp only [fcells] at HF HB1 ⊢
  by_cases ht : f.name.length > 2147483647
  · have ht1 : decide ((2147483647 : Int) < f.name.length) = true := by simp; omega
    go_enter Tryz.func54, Tryz.ntmps54
    go_wp2
    go_ret
    exact ⟨⟨_, rfl⟩, HB1.out⟩
  · have ht1 : decide ((2147483647 : Int) < f.name.length) = false := by simp; omega
    by_cases hx : f.text.length > 2147483647
    · have hx1 : decide ((2147483647 : Int) < f.text.length) = true := by simp; omega
      go_enter Tryz.func54, Tryz.ntmps54
      go_wp2
      go_ret
      exact ⟨⟨_, rfl⟩, HB1.out⟩
    · have hx1 : decide ((2147483647 : Int) < f.text.length) = false := by simp; omega
      go_enter Tryz.func54, Tryz.ntmps54
      go_wp2_with (fail)
      refine HF.out.mono ?_
      rintro e w2 ⟨⟨b, rfl⟩, rfl⟩
      cases b
      · go_wp2
        go_ret
        exact ⟨⟨_, rfl⟩, HB1.out⟩
      · go_wp2
        go_ret
        exact ⟨⟨_, rfl⟩, HB1.out⟩

/-- A field's row in the memory of a loop. -/
theorem FRow.at {w : World} {B0 : Nat} {va : Option Addr} {vc : Nat} {l : List HF} (h : FRow w B0 (.slice va l.length vc) l) {i : Nat} {f : HF} (hf : l[i]? = some f) :
    ∃ b off la lc, va = some ⟨b, off, none⟩ ∧ b < B0 ∧ (∀ (j : Nat) u, (fcells f (.slice la f.list.length lc))[j]? = some u → w.cell? ⟨b, off + i * 7 + j, none⟩ = some u) ∧ NSB w B0 (.slice la f.list.length lc) f.list ∧ f.kind < 256 ∧ f.num < 18446744073709551616 ∧ f.list.length ≤ 9223372036854775807 := by
  rcases h with ⟨a, c, e, hnil⟩ | ⟨b, off, c, e, h1, h2⟩
  · rw [hnil] at hf; simp at hf
  · cases e
    obtain ⟨lv, h3, h4, h5⟩ := h2 i f hf
    obtain ⟨la, lc, rfl⟩ := h4.slice
    exact ⟨b, off, la, lc, rfl, h1, h3, h4, h5⟩
theorem FRow.slice {w : World} {B0 : Nat} {v : Value} {l : List HF} (h : FRow w B0 v l) : ∃ a c, v = .slice a l.length c := by
  rcases h with ⟨a, c, e, rfl⟩ | ⟨b, off, c, e, _⟩
  · exact ⟨a, c, e⟩
  · exact ⟨_, c, e⟩
set_option maxRecDepth 100000 in
set_option maxHeartbeats 2000000 in
theorem fits9_any {B0 : Nat} {v : Value} {l : List HF} {w : World} (hr : FRow w B0 v l) (hB : B0 ≤ w.heap.size) (hl : l.length ≤ 9223372036854775807) :
    Calls Tryz.prog 21 #[v] w fun e w' => (∃ b, e = .returned (.bool b)) ∧ Below w.heap.size w w' := by
  obtain ⟨va, vc, rfl⟩ := hr.slice
  have HR := Lib.hid hr
  clear hr
  by_cases hbig : l.length > 2147483647
  · have hb : decide ((2147483647 : Int) < l.length) = true := by simp; omega
    go_enter Tryz.func21, Tryz.ntmps21
    go_wp2
    go_ret
    exact ⟨⟨_, rfl⟩, Below.refl _ _⟩
  · have hb : decide ((2147483647 : Int) < l.length) = false := by simp; omega
    go_enter Tryz.func21, Tryz.ntmps21
    go_wp2
    go_loopw [10] (fun i wr => ∃ k : Nat, k ≤ l.length ∧ i = .int .i64 k ∧ Hid (Below w.heap.size w wr)) (fun i _ => l.length - (intOf i).toNat)
    case atStart => exact ⟨0, by omega, rfl, Lib.hid (Below.refl _ _)⟩
    case round =>
      obtain ⟨k, hk, rfl, HBR⟩ := hrel
      by_cases hlt : k < l.length
      · obtain ⟨f, hf⟩ : ∃ f, l[k]? = some f := ⟨_, List.getElem?_eq_getElem hlt⟩
        obtain ⟨b, off, la, lc, rfl, hbB, hc, hnb, _, _, hll⟩ := HR.out.at hf
        have pc : ∀ (j : Nat) u, (fcells f (.slice la f.list.length lc))[j]? = some u → wr.cell? ⟨b, off + k * 7 + j, none⟩ = some u := fun j u hu => (HBR.out.cell (p := ⟨b, off + k * 7 + j, none⟩) (by show b < _; omega)).trans (hc j u hu)
        have p0 := pc 0 _ rfl
        have p1 := pc 1 _ rfl
        have p2 := pc 2 _ rfl
        have p3 := pc 3 _ rfl
        have p4 := pc 4 _ rfl
        have p5 := pc 5 _ rfl
        have p6 := pc 6 _ rfl
        rw [Nat.add_zero] at p0
        have HFT : Hid (∀ {wz : World}, Below w.heap.size w wz → Calls Tryz.prog 54 #[.agg (fcells f (.slice la f.list.length lc)).toArray] wz fun e w' => (∃ b, e = .returned (.bool b)) ∧ Below wz.heap.size wz w') := fun h => fits10_any (hnb.below (h.mono hB)) (Nat.le_trans hB h.size) hll
        have il : (k : Int) < (l.length : Int) := by omega
        clear pc hc hnb hf
        simp only [fcells] at HFT
        go_wp2_with (fail)
        refine (HFT.out (Below.to_alloc HBR.out _)).mono ?_
        rintro e w2 ⟨⟨b2, rfl⟩, hb2⟩
        have HB2 := Lib.hid (Below.to_next (Below.to_alloc HBR.out _) hb2)
        clear hb2 p0 p1 p2 p3 p4 p5 p6
        cases b2
        · go_wp2
          go_ret
          exact ⟨⟨_, rfl⟩, HB2.out⟩
        · go_wp2
          go_roundw
          case rel => exact ⟨k + 1, by omega, by go_num, HB2⟩
          case measure => simp [intOf]; omega
      · go_wp2
        go_ret
        exact ⟨⟨_, rfl⟩, HBR.out⟩

/-- The names that are asked. -/
def askNames (l : List HF) (name : Bs) : List Bs := name :: l.map (·.name)
set_option maxRecDepth 100000 in
set_option maxHeartbeats 4000000 in
theorem headNames_any {B0 : Nat} {v : Value} {l : List HF} {name : Bs} {w : World} (hr : FRow w B0 v l) (hB : B0 ≤ w.heap.size) (hl : l.length ≤ 30) :
    Calls Tryz.prog 26 #[v, .string (B name)] w fun e w' => ∃ g cap, e = .returned (.slice (some ⟨g, 0, none⟩) (askNames l name).length cap) ∧ OwnG w.heap.size w' g cap (askNames l name) ∧ Below w.heap.size w w' := by
  obtain ⟨va, vc, rfl⟩ := hr.slice
  have HR := Lib.hid hr
  have HO0 := Lib.hid (OwnG.one w name (Nat.le_refl w.heap.size))
  clear hr
  go_enter Tryz.func26, Tryz.ntmps26
  go_wp2
  go_loopw [5, 12] (fun o i wr => ∃ (k g cap : Nat) (ns : List Bs), k ≤ l.length ∧ i = .int .i64 k ∧ o = .slice (some ⟨g, 0, none⟩) ns.length cap ∧ Hid (ns = name :: (l.take k).map (·.name) ∧ OwnG w.heap.size wr g cap ns ∧ Below w.heap.size w wr)) (fun _ i _ => l.length - (intOf i).toNat)
  case atStart => exact ⟨0, _, 1, [name], by omega, rfl, rfl, Lib.hid ⟨rfl, HO0.out, Below.to_alloc (Below.refl _ _) _⟩⟩
  case round =>
    obtain ⟨k, g, cap, ns, hk, rfl, rfl, HS⟩ := hrel
    by_cases hlt : k < l.length
    · obtain ⟨f, hf⟩ : ∃ f, l[k]? = some f := ⟨_, List.getElem?_eq_getElem hlt⟩
      obtain ⟨b, off, la, lc, rfl, hbB, hc, hnb, _, _, hll⟩ := HR.out.at hf
      have pc : ∀ (j : Nat) u, (fcells f (.slice la f.list.length lc))[j]? = some u → wr.cell? ⟨b, off + k * 7 + j, none⟩ = some u := fun j u hu => (HS.out.2.2.cell (p := ⟨b, off + k * 7 + j, none⟩) (by show b < _; omega)).trans (hc j u hu)
      have p0 := pc 0 _ rfl
      have p1 := pc 1 _ rfl
      have p2 := pc 2 _ rfl
      have p3 := pc 3 _ rfl
      have p4 := pc 4 _ rfl
      have p5 := pc 5 _ rfl
      have p6 := pc 6 _ rfl
      rw [Nat.add_zero] at p0
      have il : (k : Int) < (l.length : Int) := by omega
      have hnl : ns.length ≤ 31 := by rw [HS.out.1, List.length_cons, List.length_map, List.length_take]; omega
      obtain ⟨wx, hwx⟩ : ∃ wx, wx = (wr.alloc (.cells #[.string (B f.name), .int .u8 f.kind, .bool f.is, .bool f.minus, .int .u64 f.num, .string (B f.text), .slice la f.list.length lc] 32)).alloc (.cells #[Value.string (B f.name)] 9) := ⟨_, rfl⟩
      have hbx : Below wr.heap.size wr wx := by rw [hwx]; exact Below.to_alloc (Below.to_alloc (Below.refl _ _) _) _
      have hcx : wx.cell? ⟨wr.heap.size + 1, 0, none⟩ = some (.string (B f.name)) := by
        rw [hwx]
        have := oneBox (wr.alloc (.cells #[.string (B f.name), .int .u8 f.kind, .bool f.is, .bool f.minus, .int .u64 f.num, .string (B f.text), .slice la f.list.length lc] 32)) f.name
        rw [size_of_alloc] at this
        exact this
      obtain ⟨g', cap', w', happ, hown, hgr⟩ := append_oneN 29 (HS.out.2.1.below hbx) hcx (by omega) (Nat.le_trans HS.out.2.2.size hbx.size)
      rw [hwx] at happ
      have HAPP := Lib.hid happ
      have HB5 := Lib.hid (Below.grown (Below.to_next HS.out.2.2 hbx) hgr (Nat.le_trans HS.out.2.2.size hbx.size) (fun g0 e => by
        obtain rfl : g = g0 := Option.some.inj e
        exact HS.out.2.1.base))
      have HN5 : Hid (ns ++ [f.name] = name :: (l.take (k + 1)).map (·.name)) := Lib.hid (by rw [HS.out.1, List.take_add_one, hf]; simp)
      have HO5 := Lib.hid hown
      clear pc hc hnb hf hwx hbx hcx happ hown hgr
      go_wp2_with (at_builtin; refine Lib.wpList_append_run _ rfl (.tmp 16) (.tmp 19) 29 29 rfl _ _ rfl rfl _ _ HAPP.out ?_)
      clear p0 p1 p2 p3 p4 p5 p6
      go_wp2
      go_roundw
      case rel => exact ⟨k + 1, g', cap', ns ++ [f.name], by omega, by go_num, by simp, Lib.hid ⟨HN5.out, HO5.out, HB5.out⟩⟩
      case measure => simp [intOf]; omega
    · obtain rfl : k = l.length := by omega
      have hns : ns = askNames l name := by rw [HS.out.1, List.take_length]; rfl
      subst hns
      go_wp2
      go_ret
      exact ⟨g, cap, rfl, HS.out.2.1, HS.out.2.2⟩
end Go.Proofs.YtppkpcijmfdfmaaGreatDoor

/- The walks of HeadInt and HeadFind over fields. -/
set_option linter.unusedVariables false
set_option linter.unusedSimpArgs false
namespace Go.Proofs.YtppkpcijmfdfmaaGreatDoor
open Go.RowKit
attribute [local go_sem] B_size B_get B_lit B_ext_to B_ext B_toList B_app

/-- A field's whole number with a sign. -/
def wholeI (k : Nat) (m : Bool) (n : Nat) : Option Int := if k = 2 then hInt m n else none
set_option maxRecDepth 100000 in
set_option maxHeartbeats 2000000 in
theorem headIntF (w : World) (name text : Bs) (k : Nat) (is m : Bool) (n ln lc : Nat) (la : Option Addr) (hn : n < 18446744073709551616) : Calls Tryz.prog 30 #[.agg #[.string (B name), .int .u8 k, .bool is, .bool m, .int .u64 n, .string (B text), .slice la ln lc]] w fun e w' => e = .returned (.tuple #[.int .i64 ((wholeI k m n).getD 0), .bool (wholeI k m n).isSome]) ∧ Below w.heap.size w w' := by
  have HB : Hid (∀ o : Obj, Below w.heap.size w (w.alloc o)) := fun o => (Below.refl _ _).alloc (Nat.le_refl _) _
  by_cases hk : k = 2
  · subst hk
    have e0 : wholeI 2 m n = hInt m n := if_pos rfl
    rw [e0]
    by_cases h1 : 9223372036854775808 < n
    · have e1 : hInt m n = none := by
        unfold hInt
        by_cases hm : m = true ∧ 0 < n
        · rw [if_pos hm, if_pos h1]
        · rw [if_neg hm, if_pos (by omega)]
      rw [e1]
      have f1 : decide ((9223372036854775808 : Int) < n) = true := by simp; omega
      go_enter Tryz.func30, Tryz.ntmps30
      go_wp2
      go_ret2
      exact ⟨rfl, by go_grown⟩
    · have f1 : decide ((9223372036854775808 : Int) < n) = false := by simp; omega
      by_cases h2 : n = 9223372036854775808
      · have f2 : ((n : Int) == 9223372036854775808) = true := by simp [h2]
        cases m
        · have e1 : hInt false n = none := by unfold hInt; rw [if_neg (by simp), if_pos (by omega)]
          rw [e1]
          go_enter Tryz.func30, Tryz.ntmps30
          go_wp2
          go_ret2
          exact ⟨rfl, by go_grown⟩
        · have e1 : hInt true n = some (-(n : Int)) := by unfold hInt; rw [if_pos ⟨rfl, by omega⟩, if_neg (by omega)]
          rw [e1]
          have f3 : IntKind.i64.wrap (n : Int) = -(n : Int) := by rw [IntKind.wrap_i64]; omega
          have f4 : IntKind.i64.wrap (-(-(n : Int))) = -(n : Int) := by rw [IntKind.wrap_i64]; omega
          have f5 : IntKind.i64.wrap (- IntKind.i64.wrap (n : Int)) = -(n : Int) := by rw [f3, f4]
          clear h2
          go_enter Tryz.func30, Tryz.ntmps30
          go_wp2
          go_ret2
          exact ⟨by first | rfl | simp_all, by go_grown⟩
      · have f2 : ((n : Int) == 9223372036854775808) = false := by simp; omega
        have f3 : IntKind.i64.wrap (n : Int) = (n : Int) := by rw [IntKind.wrap_i64]; omega
        have f4 : IntKind.i64.wrap (-(n : Int)) = -(n : Int) := by rw [IntKind.wrap_i64]; omega
        cases m
        · have e1 : hInt false n = some (n : Int) := by unfold hInt; rw [if_neg (by simp), if_neg (by omega)]
          rw [e1]
          go_enter Tryz.func30, Tryz.ntmps30
          go_wp2
          go_ret2
          exact ⟨by first | rfl | simp_all, by go_grown⟩
        · have e1 : hInt true n = some (-(n : Int)) := by
            unfold hInt
            by_cases h0 : 0 < n
            · rw [if_pos ⟨rfl, h0⟩, if_neg h1]
            · rw [if_neg (by simp [h0]), if_neg (by omega)]
              have : n = 0 := by omega
              subst this; rfl
          rw [e1]
          go_enter Tryz.func30, Tryz.ntmps30
          go_wp2
          go_ret2
          exact ⟨by first | rfl | simp_all, by go_grown⟩
  · have e0 : wholeI k m n = none := if_neg hk
    rw [e0]
    have f0 : ((k : Int) == 2) = false := by rw [beq_eq_false_iff_ne]; omega
    go_enter Tryz.func30, Tryz.ntmps30
    go_wp2
    go_ret2
    exact ⟨rfl, by go_grown⟩
theorem letterG {P : Program} {fn : Func} {R : Ending → World → Prop} {ex : Exit} {a : Act} {X : World} (h : ∀ x, x = X → bodyPost P fn R ex a x) : bodyPost P fn R ex a X := h X rfl
theorem cell_set {y : World} {b i : Nat} {u : Value} (h : (y.cell? ⟨b, i, none⟩).isSome = true) (k : Nat) : (y.setCell ⟨b, i, none⟩ u).cell? ⟨b, k, none⟩ = if k = i then some u else y.cell? ⟨b, k, none⟩ := by
  by_cases e : k = i
  · subst e
    obtain ⟨v, hv⟩ := Option.isSome_iff_exists.1 h
    rw [if_pos rfl]
    exact World.cell?_setCell_same _ _ _ hv
  · rw [if_neg e]
    exact World.cell?_setCell_other _ _ _ _ (by intro e'; cases e'; exact e rfl)
theorem set7 {x : World} {b : Nat} {c0 c1 c2 c3 c4 c5 c6 : Value} (h : ∀ j, j < 7 → (x.cell? ⟨b, j, none⟩).isSome = true) :
    ∀ (j : Nat) u, [c0, c1, c2, c3, c4, c5, c6][j]? = some u → (((((((x.setCell ⟨b, 0, none⟩ c0).setCell ⟨b, 1, none⟩ c1).setCell ⟨b, 2, none⟩ c2).setCell ⟨b, 3, none⟩ c3).setCell ⟨b, 4, none⟩ c4).setCell ⟨b, 5, none⟩ c5).setCell ⟨b, 6, none⟩ c6).cell? ⟨b, j, none⟩ = some u := by
  have g : ∀ (y : World) i u, (∀ j, j < 7 → (y.cell? ⟨b, j, none⟩).isSome = true) → i < 7 → ∀ j, j < 7 → ((y.setCell ⟨b, i, none⟩ u).cell? ⟨b, j, none⟩).isSome = true := by
    intro y i u hy hi j hj
    rw [cell_set (hy i hi)]
    split
    · rfl
    · exact hy j hj
  have h1 := g x 0 c0 h (by decide)
  have h2 := g _ 1 c1 h1 (by decide)
  have h3 := g _ 2 c2 h2 (by decide)
  have h4 := g _ 3 c3 h3 (by decide)
  have h5 := g _ 4 c4 h4 (by decide)
  have h6 := g _ 5 c5 h5 (by decide)
  intro j u hu
  have hj : j < 7 := (List.getElem?_eq_some_iff.1 hu).1
  rw [cell_set (h6 6 (by decide)), cell_set (h5 5 (by decide)), cell_set (h4 4 (by decide)), cell_set (h3 3 (by decide)), cell_set (h2 2 (by decide)), cell_set (h1 1 (by decide)), cell_set (h 0 (by decide))]
  obtain e | e | e | e | e | e | e : j = 0 ∨ j = 1 ∨ j = 2 ∨ j = 3 ∨ j = 4 ∨ j = 5 ∨ j = 6 := by omega
  all_goals
    subst e
    cases hu
    rfl
theorem seven {x : World} {b : Nat} {c0 c1 c2 c3 c4 c5 c6 : Value} (h : ∀ (j : Nat) u, [c0, c1, c2, c3, c4, c5, c6][j]? = some u → x.cell? ⟨b, j, none⟩ = some u) :
    x.cell? ⟨b, 0, none⟩ = some c0 ∧ x.cell? ⟨b, 1, none⟩ = some c1 ∧ x.cell? ⟨b, 2, none⟩ = some c2 ∧ x.cell? ⟨b, 3, none⟩ = some c3 ∧ x.cell? ⟨b, 4, none⟩ = some c4 ∧ x.cell? ⟨b, 5, none⟩ = some c5 ∧ x.cell? ⟨b, 6, none⟩ = some c6 :=
  ⟨h 0 _ rfl, h 1 _ rfl, h 2 _ rfl, h 3 _ rfl, h 4 _ rfl, h 5 _ rfl, h 6 _ rfl⟩
theorem sevenF {x : World} {b : Nat} {l : Array Value} {ty : TypeId} (h : x.heap[b]? = some (.cells l ty (0, 0))) :
    x.frozen? ⟨b, 0, none⟩ = false ∧ x.frozen? ⟨b, 1, none⟩ = false ∧ x.frozen? ⟨b, 2, none⟩ = false ∧ x.frozen? ⟨b, 3, none⟩ = false ∧ x.frozen? ⟨b, 4, none⟩ = false ∧ x.frozen? ⟨b, 5, none⟩ = false ∧ x.frozen? ⟨b, 6, none⟩ = false :=
  ⟨blk_free h 0, blk_free h 1, blk_free h 2, blk_free h 3, blk_free h 4, blk_free h 5, blk_free h 6⟩
theorem some_seven {x : World} {b : Nat} {l : List Value} (hl : l.length = 7) (h : ∀ (j : Nat) u, l[j]? = some u → x.cell? ⟨b, j, none⟩ = some u) : ∀ j, j < 7 → (x.cell? ⟨b, j, none⟩).isSome = true := by
  intro j hj
  rw [h j l[j] (List.getElem?_eq_getElem (by omega))]
  rfl

abbrev ZeroF : List Value := [Value.string (B []), .int .u8 0, .bool false, .bool false, .int .u64 0, .string (B []), .slice none 0 0]
/-- What HeadFind gives. -/
def FindR (o : Option HF) (e : Ending) : Prop :=
  match o with
  | none => e = .returned (.tuple #[.agg ZeroF.toArray, .bool false])
  | some f => ∃ la lc, e = .returned (.tuple #[.agg #[.string (B f.name), .int .u8 f.kind, .bool f.is, .bool f.minus, .int .u64 f.num, .string (B f.text), .slice la f.list.length lc], .bool true])
set_option maxRecDepth 100000 in
set_option maxHeartbeats 4000000 in
theorem find_any {B0 : Nat} {v : Value} {l : List HF} {s : Bs} {w : World} (hr : FRow w B0 v l) (hB : B0 ≤ w.heap.size) (hl : l.length ≤ 30) :
    Calls Tryz.prog 27 #[v, .string (B s)] w fun e w' => FindR (findF l s) e ∧ Below w.heap.size w w' := by
  obtain ⟨va, vc, rfl⟩ := hr.slice
  have HR := Lib.hid hr
  clear hr
  obtain ⟨w1, hw1⟩ : ∃ w1, w1 = w.alloc (.cells ZeroF.toArray 32) := ⟨_, rfl⟩
  have hb1 : Below w.heap.size w w1 := by rw [hw1]; exact Below.to_alloc (Below.refl _ _) _
  have hz1 : w1.heap[w.heap.size]? = some (.cells ZeroF.toArray 32 (0, 0)) := by rw [hw1]; exact heap_alloc_new _ _
  have HB1 := Lib.hid hb1
  have HZ1 := Lib.hid hz1
  have HW1 := Lib.hid hw1
  obtain ⟨rb, hrb⟩ : ∃ b, b = w.heap.size := ⟨_, rfl⟩
  have HRB := Lib.hid hrb
  clear hb1 hz1 hw1
  go_enter Tryz.func27, Tryz.ntmps27
  go_upto_region 2 with (fail)
  rw [← HW1.out]
  try rw [← HRB.out]
  clear hrb
  go_loopw [10] (fun i wr => ∃ k : Nat, k ≤ l.length ∧ i = .int .i64 k ∧ Hid (findF l s = findF (l.drop k) s ∧ Below w1.heap.size w1 wr)) (fun i _ => l.length - (intOf i).toNat)
  case atStart => exact ⟨0, by omega, rfl, Lib.hid ⟨rfl, Below.refl _ _⟩⟩
  case round =>
    obtain ⟨k, hk, rfl, HS⟩ := hrel
    have HZR : Hid (wr.heap[rb]? = some (.cells ZeroF.toArray 32 (0, 0))) := Lib.hid (by rw [HRB.out]; exact blk_below HS.out.2 HZ1.out)
    have HBR : Hid (Below w.heap.size w wr) := Lib.hid (Below.to_next HB1.out HS.out.2)
    have HLE : Hid (w.heap.size ≤ rb) := Lib.hid (by rw [HRB.out]; omega)
    by_cases hlt : k < l.length
    · obtain ⟨f, hf⟩ : ∃ f, l[k]? = some f := ⟨_, List.getElem?_eq_getElem hlt⟩
      obtain ⟨b, off, la, lc, rfl, hbB, hc, hnb, _, _, hll⟩ := HR.out.at hf
      have pc : ∀ (j : Nat) u, (fcells f (.slice la f.list.length lc))[j]? = some u → wr.cell? ⟨b, off + k * 7 + j, none⟩ = some u := fun j u hu => (HBR.out.cell (p := ⟨b, off + k * 7 + j, none⟩) (by show b < _; omega)).trans (hc j u hu)
      have p0 := pc 0 _ rfl
      have p1 := pc 1 _ rfl
      have p2 := pc 2 _ rfl
      have p3 := pc 3 _ rfl
      have p4 := pc 4 _ rfl
      have p5 := pc 5 _ rfl
      have p6 := pc 6 _ rfl
      rw [Nat.add_zero] at p0
      have il : (k : Int) < (l.length : Int) := by omega
      have hdk : l.drop k = f :: l.drop (k + 1) := by
        obtain ⟨h1, h2⟩ := List.getElem?_eq_some_iff.1 hf
        rw [List.drop_eq_getElem_cons h1, h2]
      have HDK := Lib.hid hdk
      clear pc hc hnb hf hdk
      by_cases hs : f.name = s
      · have HF : Hid (findF l s = some f) := Lib.hid (by
          rw [HS.out.1, HDK.out]
          unfold findF
          rw [List.find?_cons, show (f.name == s) = true by rw [hs]; exact beq_self_eq_true s])
        subst hs
        go_upto_region 4 with (fail)
        obtain ⟨wx, hwx⟩ : ∃ wx, wx = wr.alloc (.cells #[.string (B f.name), .int .u8 f.kind, .bool f.is, .bool f.minus, .int .u64 f.num, .string (B f.text), .slice la f.list.length lc] 32) := ⟨_, rfl⟩
        rw [← hwx]
        have hbx : wx.heap[wr.heap.size]? = some (.cells ([.string (B f.name), .int .u8 f.kind, .bool f.is, .bool f.minus, .int .u64 f.num, .string (B f.text), .slice la f.list.length lc] : List Value).toArray 32 (0, 0)) := by rw [hwx]; exact heap_alloc_new _ _
        have hzx : wx.heap[rb]? = some (.cells ZeroF.toArray 32 (0, 0)) := by rw [hwx]; exact blk_alloc HZR.out
        have HX : Hid (Below w.heap.size w wx) := Lib.hid (by rw [hwx]; exact Below.to_alloc HBR.out _)
        obtain ⟨q0, q1, q2, q3, q4, q5, q6⟩ := seven (blk_cell (l := [.string (B f.name), .int .u8 f.kind, .bool f.is, .bool f.minus, .int .u64 f.num, .string (B f.text), .slice la f.list.length lc]) hbx)
        obtain ⟨rc0, rc1, rc2, rc3, rc4, rc5, rc6⟩ := seven (blk_cell (l := ZeroF) hzx)
        obtain ⟨rf0, rf1, rf2, rf3, rf4, rf5, rf6⟩ := sevenF hzx
        have R7 : Hid (∀ j, j < 7 → (wx.cell? ⟨rb, j, none⟩).isSome = true) := Lib.hid (some_seven (l := ZeroF) rfl (blk_cell hzx))
        clear hwx hbx hzx p0 p1 p2 p3 p4 p5 p6
        generalize wr.heap.size = qb at *
        go_wp2
        refine letterG ?_
        intro z hz
        have hz7 : ∀ (j : Nat) u, ([.string (B f.name), .int .u8 f.kind, .bool f.is, .bool f.minus, .int .u64 f.num, .string (B f.text), .slice la f.list.length lc] : List Value)[j]? = some u → z.cell? ⟨rb, j, none⟩ = some u := by rw [hz]; with_reducible exact set7 R7.out
        have HZ : Hid (Below w.heap.size w z) := Lib.hid (by
          rw [hz]
          have hx0 := HX.out
          have hle := HLE.out
          repeat (first | with_reducible exact hx0 | with_reducible refine Below.setCell ?_ hle _))
        clear hz q0 q1 q2 q3 q4 q5 q6 rc0 rc1 rc2 rc3 rc4 rc5 rc6 rf0 rf1 rf2 rf3 rf4 rf5 rf6
        obtain ⟨z0, z1, z2, z3, z4, z5, z6⟩ := seven hz7
        clear hz7
        refine bodyPost_ret (by simp [results, Tryz.results27, go_sem, z0, z1, z2, z3, z4, z5, z6]; try rfl) rfl ?_
        rw [HF.out]
        exact ⟨⟨la, lc, rfl⟩, HZ.out⟩
      · have HNF : Hid (findF l s = findF (l.drop (k + 1)) s) := Lib.hid (by
          rw [HS.out.1, HDK.out]
          unfold findF
          rw [List.find?_cons, show (f.name == s) = false by rw [beq_eq_false_iff_ne]; exact hs])
        have e0 : (f.name == s) = false := by rw [beq_eq_false_iff_ne]; exact hs
        clear hs
        go_wp2
        go_roundw
        case rel => exact ⟨k + 1, by omega, by go_num, Lib.hid ⟨HNF.out, Below.to_alloc HS.out.2 _⟩⟩
        case measure => simp [intOf]; omega
    · obtain rfl : k = l.length := by omega
      have HF : Hid (findF l s = none) := Lib.hid (by rw [HS.out.1, List.drop_length]; rfl)
      have hzx := HZR.out
      obtain ⟨rc0, rc1, rc2, rc3, rc4, rc5, rc6⟩ := seven (blk_cell (l := ZeroF) hzx)
      obtain ⟨rf0, rf1, rf2, rf3, rf4, rf5, rf6⟩ := sevenF hzx
      have R7 : Hid (∀ j, j < 7 → (wr.cell? ⟨rb, j, none⟩).isSome = true) := Lib.hid (some_seven (l := ZeroF) rfl (blk_cell hzx))
      clear hzx
      go_wp2
      refine letterG ?_
      intro z hz
      have hz7 : ∀ (j : Nat) u, (ZeroF : List Value)[j]? = some u → z.cell? ⟨rb, j, none⟩ = some u := by rw [hz]; with_reducible exact set7 R7.out
      have HZ : Hid (Below w.heap.size w z) := Lib.hid (by
        rw [hz]
        have hx0 := HBR.out
        have hle := HLE.out
        repeat (first | with_reducible exact hx0 | with_reducible refine Below.setCell ?_ hle _))
      clear hz rc0 rc1 rc2 rc3 rc4 rc5 rc6 rf0 rf1 rf2 rf3 rf4 rf5 rf6
      obtain ⟨z0, z1, z2, z3, z4, z5, z6⟩ := seven hz7
      clear hz7
      refine bodyPost_ret (by simp [results, Tryz.results27, go_sem, z0, z1, z2, z3, z4, z5, z6]; try rfl) rfl ?_
      rw [HF.out]
      exact ⟨rfl, HZ.out⟩
end Go.Proofs.YtppkpcijmfdfmaaGreatDoor

/- The walk of headFits. -/
set_option linter.unusedVariables false
set_option linter.unusedSimpArgs false
namespace Go.Proofs.YtppkpcijmfdfmaaGreatDoor
open Go.RowKit
attribute [local go_sem] B_size B_get B_lit B_ext_to B_ext B_toList B_app

theorem RowN.ownF {base : Nat} {w : World} {v : Value} {l : List Bs} (h : RowN base w v l) : ∀ g, v.ownBlock = some g → base ≤ g := by
  intro g e
  rcases h.form with ⟨rfl, rfl⟩ | ⟨g', cap, rfl, ho⟩
  · cases e
  · obtain rfl : g' = g := Option.some.inj e
    exact ho.base
theorem containsRow {base : Nat} {w : World} {v : Value} {l : List Bs} (h : RowN base w v l) (hl : l.length ≤ 1000) (s : Bs) : Calls Tryz.prog 55 #[v, .string (B s)] w fun e w' => e = .returned (.bool (decide (s ∈ l))) ∧ w = w' := by
  rcases h.form with ⟨rfl, rfl⟩ | ⟨g, cap, rfl, ho⟩
  · refine (Any.slices_Contains_string_empty Tryz.lays110 none 0 (B s) w).mono ?_
    rintro e w' ⟨rfl, rfl⟩
    exact ⟨by simp, rfl⟩
  · refine (contains_any g 0 cap l.length l s w (Nat.le_refl _) (by omega) (fun i s' hi => by rw [Nat.zero_add]; exact ho.cells i s' hi)).mono ?_
    rintro e w' ⟨rfl, rfl⟩
    exact ⟨by rw [List.take_length], rfl⟩
theorem OwnG.two (w : World) (s t : Bs) : OwnG w.heap.size (w.alloc (.cells #[Value.string (B s), Value.string (B t)] 9)) w.heap.size 2 [s, t] := OwnG.new w [s, t] (Nat.le_refl _) (by simp)
set_option maxRecDepth 100000 in
set_option maxHeartbeats 8000000 in
theorem headFits_any {B0 : Nat} {v : Value} {l : List HF} {w : World} (hr : FRow w B0 v l) (hB : B0 ≤ w.heap.size) (hG : Ground w) (hl : l.length ≤ 9223372036854775807) :
    Calls Tryz.prog 22 #[v] w fun e w' => ∃ ok, e = .returned (.bool ok) ∧ (ok = true → (∀ f ∈ l, f.Ok) ∧ l.length ≤ 30 ∧ (l.map (·.name)).Nodup) ∧ Below w.heap.size w w' := by
  obtain ⟨va, vc, rfl⟩ := hr.slice
  have HR := Lib.hid hr
  have HG := Lib.hid hG
  clear hr hG
  by_cases hbig : 30 < l.length
  · have hb : decide ((30 : Int) < l.length) = true := by simp; omega
    go_enter Tryz.func22, Tryz.ntmps22
    go_wp2
    go_ret
    exact ⟨_, rfl, fun h => (by cases h), Below.refl _ _⟩
  have hb : decide ((30 : Int) < l.length) = false := by simp; omega
  go_enter Tryz.func22, Tryz.ntmps22
  go_upto_region 5 with (fail)
  go_loopw [3, 13] (fun o i wr => ∃ (k : Nat) (ns : List Bs) (oa : Option Addr) (oc : Nat), k ≤ l.length ∧ i = .int .i64 k ∧ o = .slice oa ns.length oc ∧ Hid (ns = (l.take k).map (·.name) ∧ RowN w.heap.size wr (.slice oa ns.length oc) ns ∧ Below w.heap.size w wr ∧ (∀ f ∈ l.take k, f.Ok) ∧ ns.Nodup)) (fun _ i _ => l.length - (intOf i).toNat)
  case atStart => exact ⟨0, [], none, 0, by omega, rfl, rfl, Lib.hid ⟨rfl, ⟨rfl, Or.inl ⟨rfl, rfl⟩⟩, Below.refl _ _, fun f hf => by simp at hf, by simp⟩⟩
  case round =>
    obtain ⟨k, ns, oa, oc, hk, rfl, rfl, HS⟩ := hrel
    by_cases hlt : k < l.length
    · obtain ⟨f, hf⟩ : ∃ f, l[k]? = some f := ⟨_, List.getElem?_eq_getElem hlt⟩
      obtain ⟨b, off, la, lc, rfl, hbB, hc, hnb, hk256, hnum, hll⟩ := HR.out.at hf
      have pc : ∀ (j : Nat) u, (fcells f (.slice la f.list.length lc))[j]? = some u → wr.cell? ⟨b, off + k * 7 + j, none⟩ = some u := fun j u hu => (HS.out.2.2.1.cell (p := ⟨b, off + k * 7 + j, none⟩) (by show b < _; omega)).trans (hc j u hu)
      have p0 := pc 0 _ rfl
      have p1 := pc 1 _ rfl
      have p2 := pc 2 _ rfl
      have p3 := pc 3 _ rfl
      have p4 := pc 4 _ rfl
      have p5 := pc 5 _ rfl
      have p6 := pc 6 _ rfl
      rw [Nat.add_zero] at p0
      have il : (k : Int) < (l.length : Int) := by omega
      have hnl : ns.length ≤ 30 := by rw [HS.out.1, List.length_map, List.length_take]; omega
      have HNB := Lib.hid (And.intro hnb (And.intro hnum hll))
      have HLK := Lib.hid hf
      go_upto_region 7 with (fail)
      obtain ⟨wx, hwx⟩ : ∃ wx, wx = wr.alloc (.cells #[.string (B f.name), .int .u8 f.kind, .bool f.is, .bool f.minus, .int .u64 f.num, .string (B f.text), .slice la f.list.length lc] 32) := ⟨_, rfl⟩
      rw [← hwx]
      have hbx : wx.heap[wr.heap.size]? = some (.cells ([.string (B f.name), .int .u8 f.kind, .bool f.is, .bool f.minus, .int .u64 f.num, .string (B f.text), .slice la f.list.length lc] : List Value).toArray 32 (0, 0)) := by rw [hwx]; exact heap_alloc_new _ _
      have hbw : Below wr.heap.size wr wx := by rw [hwx]; exact Below.to_alloc (Below.refl _ _) _
      have HBX : Hid (∀ {wz : World}, Below wx.heap.size wx wz → ∀ (j : Nat) u, ([.string (B f.name), .int .u8 f.kind, .bool f.is, .bool f.minus, .int .u64 f.num, .string (B f.text), .slice la f.list.length lc] : List Value)[j]? = some u → wz.cell? ⟨wr.heap.size, j, none⟩ = some u) := fun h j u hu => blk_cell (blk_below h hbx) j u hu
      have HWX := Lib.hid (Below.to_next HS.out.2.2.1 hbw)
      have HROW := Lib.hid (HS.out.2.1.below hbw)
      have HRB : Hid (wr.heap.size < wx.heap.size) := Lib.hid (by rw [hwx]; simp)
      have q0 := HBX.out (Below.refl _ _) 0 _ rfl
      have q1 := HBX.out (Below.refl _ _) 1 _ rfl
      have q6 := HBX.out (Below.refl _ _) 6 _ rfl
      clear pc hc hnb hf hwx hbx hbw p0 p1 p2 p3 p4 p5 p6 hnum hll
      generalize wr.heap.size = qb at *
      by_cases hk6 : 6 < f.kind
      · have hk1 : decide ((6 : Int) < f.kind) = true := by simp; omega
        go_wp2
        go_ret
        exact ⟨_, rfl, fun h => (by cases h), HWX.out⟩
      have hk1 : decide ((6 : Int) < f.kind) = false := by simp; omega
      by_cases hl30 : 30 < f.list.length
      · have hl1 : decide ((30 : Int) < f.list.length) = true := by simp; omega
        go_wp2
        go_ret
        exact ⟨_, rfl, fun h => (by cases h), HWX.out⟩
      have hl1 : decide ((30 : Int) < f.list.length) = false := by simp; omega
      go_wp2_with (fail)
      refine (containsRow HROW.out (by omega) f.name).mono ?_
      rintro e w2 ⟨rfl, rfl⟩
      by_cases hin : f.name ∈ ns
      · rw [decide_eq_true hin]
        go_wp2
        go_ret
        exact ⟨_, rfl, fun h => (by cases h), HWX.out⟩
      rw [decide_eq_false hin]
      have HIN := Lib.hid hin
      clear hin q1
      have q5 := HBX.out (Below.refl _ _) 5 _ rfl
      obtain ⟨wy, hwy⟩ : ∃ wy, wy = wx.alloc (.cells #[Value.string (B f.name), Value.string (B f.text)] 9) := ⟨_, rfl⟩
      have hby : Below wx.heap.size wx wy := by rw [hwy]; exact Below.to_alloc (Below.refl _ _) _
      have hnsl : NS wy (.slice la f.list.length lc) f.list := (HNB.out.1.below (((HWX.out.trans (hby.mono HWX.out.size))).mono hB)).ns (Nat.le_trans hB (Nat.le_trans HWX.out.size hby.size))
      obtain ⟨g', cap', w', happ, hown, hgr⟩ := append_part 29 (by rw [hwy]; exact OwnG.two wx f.name f.text : OwnG wx.heap.size wy wx.heap.size 2 [f.name, f.text]) hnsl (by simp; omega) hby.size
      rw [hwy] at happ
      have HAPP := Lib.hid happ
      have HBW : Hid (Below wx.heap.size wx w') := Lib.hid (Below.grown hby hgr hby.size (fun g e => by cases e; exact Nat.le_refl _))
      obtain ⟨S2, hS2⟩ : ∃ S, S = [f.name, f.text] ++ f.list := ⟨_, rfl⟩
      rw [← hS2] at HAPP hown
      have HS2 := Lib.hid hS2
      have HOWN := Lib.hid hown
      have hs2 : S2.length ≤ 32 := by rw [hS2]; simp; omega
      clear happ hown hgr hwy hby hnsl hS2
      have hqb := HRB.out
      go_wp2_with (at_builtin; refine Lib.wpList_append_run _ rfl (.tmp 36) (.tmp 38) 29 29 rfl _ _ rfl rfl _ _ HAPP.out ?_)
      go_wp2_with (fail)
      go_loopw [41] (fun i wr => ∃ j : Nat, j ≤ S2.length ∧ i = .int .i64 j ∧ Hid (Below w'.heap.size w' wr ∧ ∀ s ∈ S2.take j, s.length ≤ 200 ∧ Lib.validD s = true)) (fun i _ => S2.length - (intOf i).toNat)
      case atStart => exact ⟨0, by omega, rfl, Lib.hid ⟨Below.refl _ _, fun s hs => by simp at hs⟩⟩
      case round =>
        obtain ⟨j, hj, rfl, HT⟩ := hrel
        have HB2 : Hid (Below wx.heap.size wx wr) := Lib.hid (Below.to_next HBW.out HT.out.1)
        have HBR : Hid (Below w.heap.size w wr) := Lib.hid (HWX.out.trans (HB2.out.mono HWX.out.size))
        by_cases hjl : j < S2.length
        · obtain ⟨s, hs⟩ : ∃ s, S2[j]? = some s := ⟨_, List.getElem?_eq_getElem hjl⟩
          have c0 : wr.cell? ⟨g', j, none⟩ = some (.string (B s)) := (HT.out.1.cell (p := ⟨g', j, none⟩) HOWN.out.lt).trans (HOWN.out.cells j s hs)
          have ij : (j : Int) < (S2.length : Int) := by omega
          have HSJ := Lib.hid hs
          clear hs
          by_cases h200 : 200 < s.length
          · have hx1 : decide ((200 : Int) < s.length) = true := by simp; omega
            go_wp2
            go_ret
            exact ⟨_, rfl, fun h => (by cases h), HBR.out⟩
          have hx1 : decide ((200 : Int) < s.length) = false := by simp; omega
          have HTV := Lib.hid (HG.out.below HBR.out).2
          go_wp2_with (fail)
          refine (valid_any s wr HTV.out (by omega)).mono ?_
          rintro e w5 ⟨rfl, hb5⟩
          have HB5 := Lib.hid hb5
          clear hb5 c0
          cases hv : Lib.validD s
          · clear hv
            go_wp2
            go_ret
            exact ⟨_, rfl, fun h => (by cases h), Below.to_next HBR.out HB5.out⟩
          have HV := Lib.hid hv
          clear hv
          go_wp2
          go_roundw
          case rel => exact ⟨j + 1, by omega, by go_num, Lib.hid ⟨Below.to_next HT.out.1 HB5.out, fun s' hs' => by
            rw [List.take_add_one, HSJ.out] at hs'
            rcases List.mem_append.1 hs' with h | h
            · exact HT.out.2 s' h
            · simp at h; subst h; exact ⟨by omega, HV.out⟩⟩⟩
          case measure => simp [intOf]; omega
        · obtain rfl : j = S2.length := by omega
          have HOK : Hid (f.Ok) := Lib.hid ⟨by omega, HNB.out.2.1, by omega, fun s hs => HT.out.2 s (by rw [List.take_length, HS2.out]; simpa using hs)⟩
          have hwz : Below wx.heap.size wx wr := HB2.out
          have q0 := HBX.out hwz 0 _ rfl
          obtain ⟨wz, hwz2⟩ : ∃ wz, wz = wr.alloc (.cells #[Value.string (B f.name)] 9) := ⟨_, rfl⟩
          have hbz : Below wr.heap.size wr wz := by rw [hwz2]; exact Below.to_alloc (Below.refl _ _) _
          obtain ⟨g3, cap3, w3, happ3, hown3, hgr3⟩ := append_oneN (b := wr.heap.size) (s := f.name) 29 ((HROW.out.below hwz).below hbz) (by rw [hwz2]; exact oneBox wr f.name) (by omega) (Nat.le_trans HBR.out.size hbz.size)
          rw [hwz2] at happ3
          have HAPP3 := Lib.hid happ3
          have HB6 : Hid (Below w.heap.size w w3) := Lib.hid (Below.grown (Below.to_next HBR.out hbz) hgr3 (Nat.le_trans HBR.out.size hbz.size) (fun g e => RowN.ownF HROW.out g e))
          have HO3 := Lib.hid hown3
          clear happ3 hown3 hgr3 hwz2 hbz hwz
          go_wp2_with (at_builtin; refine Lib.wpList_append_run _ rfl (.tmp 54) (.tmp 57) 29 29 rfl _ _ rfl rfl _ _ HAPP3.out ?_)
          clear q0
          go_wp2
          go_roundw
          case rel =>
            refine ⟨k + 1, ns ++ [f.name], some ⟨g3, 0, none⟩, cap3, by omega, by go_num, by simp, Lib.hid ⟨by rw [HS.out.1, List.take_add_one, HLK.out]; simp, HO3.out, HB6.out, fun f' hf' => ?_, ?_⟩⟩
            · rw [List.take_add_one, HLK.out] at hf'
              rcases List.mem_append.1 hf' with h | h
              · exact HS.out.2.2.2.1 f' h
              · simp at h; subst h; exact HOK.out
            · exact List.nodup_append.2 ⟨HS.out.2.2.2.2, by simp, fun a ha b hb e => by rw [List.mem_singleton.1 hb] at e; exact HIN.out (e ▸ ha)⟩
          case measure => simp [intOf]; omega
    · obtain rfl : k = l.length := by omega
      go_wp2
      go_ret
      refine ⟨_, rfl, fun _ => ⟨fun f hf => HS.out.2.2.2.1 f (by rw [List.take_length]; exact hf), by omega, ?_⟩, HS.out.2.2.1⟩
      have h1 := HS.out.2.2.2.2
      rw [HS.out.1, List.take_length] at h1
      exact h1
end Go.Proofs.YtppkpcijmfdfmaaGreatDoor
