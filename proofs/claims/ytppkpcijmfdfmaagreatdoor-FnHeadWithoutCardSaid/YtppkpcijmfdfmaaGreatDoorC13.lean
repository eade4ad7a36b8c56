/- The walk of HeadRun. -/
import Derived.Test.YtppkpcijmfdfmaaGreatDoorC12
import Derived.Deep.RegionWith
set_option linter.unusedVariables false
set_option linter.unusedSimpArgs false
namespace Go.Proofs.YtppkpcijmfdfmaaGreatDoor
open Go.RowKit
attribute [local go_sem] B_size B_get B_lit B_ext_to B_ext B_toList B_app

@[local go_sem] theorem run_store_float {P : Program} {w : World} {a : Addr} {m : Mode} (k : FloatKind) (n : Nat) : (store a (.float k n) m).run P w = stored P w a (.float k n) m := run_store P w a _ m rfl

theorem info51 : (Tryz.prog.info? 51).map (fun i => (i.zero, i.size, i.bytes)) = some (some (.agg zero51), 7, 80) := by kernel_rfl

/-- What the walk needs of a header that was just read. -/
def Ready (G : Env) (r : Option J) (w : World) (e : Ending) (w' : World) : Prop :=
  ∃ hb, e = .returned (.iface 171 (.pointer (some ⟨hb, 0, none⟩))) ∧ Below w.heap.size w w' ∧ HQ G.U w.heap.size w'.heap.size r hb w' w'

theorem HAns.or {G : Env} {B0 B1 : Nat} {r : Option J} {hb : Nat} {wx : World} {key : Bs} {z : Value} {α : Type} {f : J → Option α} {g : α → Value} {e : Ending} {w' : World} (h : HAns G B0 B1 r hb wx key z (fun j => (f j).map g) e w') :
    HQ G.U B0 B1 r hb wx w' ∧ ∃ t, FindsR G.U r key t ∧ ((t.bind f = none ∧ ∃ T v, e = .returned (.tuple #[z, .iface T v])) ∨ ∃ x, t.bind f = some x ∧ e = .returned (.tuple #[g x, .nilIface])) := by
  obtain ⟨t, hf, hq, ha⟩ := h
  have e1 : (t.bind fun j => (f j).map g) = (t.bind f).map g := by cases t <;> rfl
  rw [e1] at ha
  refine ⟨hq, t, hf, ?_⟩
  cases hx : t.bind f with
  | none => rw [hx] at ha; exact Or.inl ⟨rfl, ha⟩
  | some x => rw [hx] at ha; exact Or.inr ⟨x, rfl, ha⟩
theorem AnsE.or {z : Value} {α : Type} {g : α → Value} {rr : Option α} {e : Ending} (h : AnsE z (rr.map g) e) : (rr = none ∧ ∃ T v, e = .returned (.tuple #[z, .iface T v])) ∨ ∃ x, rr = some x ∧ e = .returned (.tuple #[g x, .nilIface]) := by
  cases rr with
  | none => exact Or.inl ⟨rfl, h⟩
  | some x => exact Or.inr ⟨x, rfl, h⟩

theorem blk1 (w : World) (p i : Nat) (v : Value) (o : Obj) (b : Nat) (h1 : b < w.heap.size) (h2 : b ≠ p) : ((w.setCell ⟨p, i, none⟩ v).alloc o).heap[b]? = w.heap[b]? := by
  rw [(((Below.refl (w.heap.size) (w.setCell ⟨p, i, none⟩ v)).alloc (by simp) o).block b h1), Below.heap_setCell _ _ _ _ (by simpa using h2)]
theorem blk2 (w : World) (p i i' : Nat) (v v' : Value) (o : Obj) (b : Nat) (h1 : b < w.heap.size) (h2 : b ≠ p) : (((w.setCell ⟨p, i, none⟩ v).setCell ⟨p, i', none⟩ v').alloc o).heap[b]? = w.heap[b]? := by
  rw [blk1 _ _ _ _ _ _ (by simpa using h1) h2, Below.heap_setCell _ _ _ _ (by simpa using h2)]

theorem cell_newk (W : World) (zs : Array Value) (e : TypeId) (j k : Nat) (hk : k = W.heap.size) : (W.alloc (.cells zs e)).cell? ((⟨k, 0, none⟩ : Addr).add j) = zs[j]? := by
  subst hk; exact cell_new W zs e j

theorem Asked.rowAt {G : Env} {B0 B1 : Nat} {r : Option J} {hb : Nat} {wS : World} {asks : Asks} {ov : Value} {l : List (Told × Value)} {w wq w2 w4 : World} (h : Asked G B0 B1 r hb wS asks ov l wq w2) (hs : RunSt G B0 B1 r hb wS asks ov l w) (hblk : ∀ b, b < w2.heap.size → b ≠ w.heap.size + 1 → w4.heap[b]? = w2.heap[b]?) :
    RowZ w4 51 zero51 ov l.length (flatT l) := h.row.keep fun g hg => hblk g (h.row.lt g hg) (by have := hs.row.lt g hg; omega)
theorem RowZ.slice {w : World} {e : TypeId} {z : Array Value} {sv : Value} {n : Nat} {xs : List Value} (h : RowZ w e z sv n xs) : ∃ a m c, sv = .slice a m c := by
  rcases h with ⟨rfl, _⟩ | ⟨g, cap, cur, rfl, _⟩
  · exact ⟨_, _, _, rfl⟩
  · exact ⟨_, _, _, rfl⟩

set_option maxHeartbeats 20000000 in
set_option maxRecDepth 100000 in
theorem headRun_any {G : Env} (hG : G.OK) (tv av : Value) (asks : Asks) (r : Option J) (w : World) (hH : Calls Tryz.prog 62 #[tv] w (Ready G r w)) (hA : AskRow w av asks) (hlen : asks.length < 4294967296) (hn : ∀ q ∈ asks, Named r q.2) (hkl : ∀ q ∈ asks, q.2.length < 4294967290) (hkk : ∀ q ∈ asks, q.1 < 10)
    (hN : ∀ q ∈ asks, ∀ t s, FindsR G.U r q.2 (some t) → t = .num s → G.NK q.1 s) :
    Calls Tryz.prog 32 #[tv, av] w fun e w' => ∃ ov l hb B1, e = .returned ov ∧ l.length = asks.length ∧ RunSt G w.heap.size B1 r hb w asks ov l w' := by
  obtain ⟨i51, hi, hz0, hz1, hz2⟩ := info_parts info51
  have HI := Lib.hid (⟨hi, hz0, hz1, hz2⟩ : _ ∧ _ ∧ _ ∧ _)
  clear hi hz0 hz1 hz2
  have HH := Lib.hid hH
  have HA := Lib.hid hA
  have HN := Lib.hid (⟨hn, hkl, hkk, hN⟩ : _ ∧ _ ∧ _ ∧ _)
  obtain ⟨aa, ac, rfl⟩ : ∃ aa ac, av = .slice aa asks.length ac := by
    rcases hA with ⟨h, h2⟩ | ⟨b, c, h, _⟩
    · subst h2; exact ⟨none, 0, h⟩
    · exact ⟨_, _, h⟩
  clear hH hA hn hkl hkk hN
  go_enter Tryz.func32, Tryz.ntmps32
  go_wp2_with (go_at_call 62; refine HH.out.mono ?_; rintro e w1 ⟨hb, rfl, hb1, hq1⟩; have HB1 := Lib.hid hb1; have HQ1 := Lib.hid hq1; clear hb1 hq1)
  go_loopw [6, 18] (fun ov q wr => ∃ (n : Nat) (l : List (Told × Value)), n ≤ asks.length ∧ l.length = n ∧ Hid (RunSt G w.heap.size w1.heap.size r hb w asks ov l wr ∧ w1.heap.size ≤ wr.heap.size) ∧ q = .int .i64 n) (fun _ q _ => asks.length - (intOf q).toNat)
  case atStart => exact ⟨0, [], by omega, rfl, ⟨⟨HQ1.out, HB1.out, Or.inl ⟨rfl, rfl, rfl⟩, fun k hk => (by cases hk), fun p hp => (by cases hp), fun i q p _ hp => (by simp at hp), fun p hp => (by cases hp)⟩, Nat.le_refl _⟩, rfl⟩
  case round =>
    obtain ⟨n, l, hn, hl, HS, rfl⟩ := hrel
    by_cases hlt : n < asks.length
    · obtain ⟨b, hb0⟩ : ∃ b, aa = some ⟨b, 0, none⟩ ∧ b < w.heap.size ∧ ∀ (i : Nat) q, asks[i]? = some q → w.cell? ⟨b, i * 2, none⟩ = some (.int .i64 q.1) ∧ w.cell? ⟨b, i * 2 + 1, none⟩ = some (.string (B q.2)) := by
        rcases HA.out with ⟨_, h2⟩ | ⟨b, c, h, h1, h2⟩
        · subst h2; simp at hlt
        · cases h; exact ⟨b, rfl, h1, h2⟩
      obtain ⟨rfl, hbs, hcells⟩ := hb0
      obtain ⟨k0, k1⟩ := hcells n asks[n] (List.getElem?_eq_getElem hlt)
      have hmem := List.getElem_mem hlt
      have k0 := (HS.out.1.below.cell (p := ⟨b, n * 2, none⟩) hbs).trans k0
      have k1 := (HS.out.1.below.cell (p := ⟨b, n * 2 + 1, none⟩) hbs).trans k1
      have hBB : w.heap.size ≤ w1.heap.size := HB1.out.size
      rcases hq : asks[n] with ⟨kind, key⟩
      simp only [hq] at k0 k1 hmem
      have hk10 := HN.out.2.2.1 _ hmem
      have HNK := Lib.hid (⟨HN.out.1 _ hmem, HN.out.2.1 _ hmem, HN.out.2.2.2 _ hmem⟩ : Named r key ∧ key.length < 4294967290 ∧ ∀ t s, FindsR G.U r key (some t) → t = .num s → G.NK kind s)
      have hqq : asks[l.length]? = some (kind, key) := by rw [hl, List.getElem?_eq_getElem hlt, hq]
      have HQQ := Lib.hid hqq
      clear hcells hmem hq hbs hqq
      have hsz := HS.out.2
      have HQW : Hid (HQ G.U w.heap.size w1.heap.size r hb (qWorld wr kind key) (qWorld wr kind key)) := (HS.out.1.hq.later (qWorld_below wr kind key)).reset
      obtain ⟨oa, om, oc, hov⟩ := HS.out.1.row.slice
      subst hov
      have HASK : Hid (∀ w2, HQ G.U w.heap.size w1.heap.size r hb (qWorld wr kind key) w2 → Asked G w.heap.size w1.heap.size r hb w asks (.slice oa om oc) l (qWorld wr kind key) w2) := fun w2 h2 => HS.out.1.ask hBB hsz (qWorld_below wr kind key) h2
      have HSZ := Lib.hid hsz
      have HBB := Lib.hid hBB
      clear hsz hBB
      obtain h | h | h | h | h | h | h | h | h | h : kind = 0 ∨ kind = 1 ∨ kind = 2 ∨ kind = 3 ∨ kind = 4 ∨ kind = 5 ∨ kind = 6 ∨ kind = 7 ∨ kind = 8 ∨ kind = 9 := by omega
      · subst h
        go_wp2_with (fail)
        refine (has_any hG HQW.out key HNK.out.2.1 HNK.out.1).mono ?_
        rintro e w2 ⟨t, hf, hq2, rfl⟩
        have HAS := Lib.hid (HASK.out w2 hq2); have HF := Lib.hid hf; obtain ⟨x0, x1, ha, hfz⟩ := HAS.out.cells HSZ.out; have a0 : w2.cell? ⟨wr.heap.size + 1, 0, none⟩ = some (.bool false) := ha 0 (by omega); have a1 : w2.cell? ⟨wr.heap.size + 1, 1, none⟩ = some (.string (B [])) := ha 1 (by omega); have a2 : w2.cell? ⟨wr.heap.size + 1, 2, none⟩ = some (.bool false) := ha 2 (by omega); have a3 : w2.cell? ⟨wr.heap.size + 1, 3, none⟩ = some (.int .i64 0) := ha 3 (by omega); have a4 : w2.cell? ⟨wr.heap.size + 1, 4, none⟩ = some (.int .u64 0) := ha 4 (by omega); have a5 : w2.cell? ⟨wr.heap.size + 1, 5, none⟩ = some (.float .f64 0) := ha 5 (by omega); have a6 : w2.cell? ⟨wr.heap.size + 1, 6, none⟩ = some (.slice none 0 0) := ha 6 (by omega); have f0 := hfz 0 (by omega); have fx := hfz 0 (by omega); clear hq2 hf ha hfz
        go_wp2_with (at_builtin; have hi := HI.out.1; have hz0 := HI.out.2.1; have hz1 := HI.out.2.2.1; refine wpList_append_push _ rfl (.tmp 136) (.tmp 138) 46 rfl 51 i51 (.agg zero51) Tryz.underlying46 hi hz0 hz1 (.slice oa om oc) l.length (flatT l) rfl ?hrow _ rfl (Told.cells { Told.zero with ok := t.isSome } (.slice none 0 0)) rfl ?hnews ?hone ?hbytes ?hmax ?_)
        case hrow => exact HAS.out.rowAt HS.out.1 fun b h1 h2 => blk1 w2 (wr.heap.size + 1) 0 _ _ b h1 h2
        case hnews => intro j u hu; rw [← hu]; first | rfl | (refine (cell_newk _ _ 51 j _ (by simp)).trans ?_; rw [← Array.getElem?_toList]; rfl)
        case hone => intro u hu; simp [Told.cells] at hu; rcases hu with rfl | rfl | rfl | rfl | rfl | rfl | rfl <;> rfl
        case hbytes => rw [HI.out.2.2.2]; omega
        case hmax => unfold maxLen; omega
        intro g2 cap2 w5 hg2 hgb hrow2
        rw [← hl] at hrow2
        have hsz5 := hgb.size
        have hsz2 := HAS.out.size
        rw [qWorld_size] at hsz2
        have HPU := Lib.hid (HS.out.1.push HBB.out HSZ.out HAS.out (by rfl) (by rfl) (by rfl) (by simp) (by intro b h1 h2; exact blk1 w2 (wr.heap.size + 1) 0 _ _ b h1 h2) (by simpa using hg2) hgb hrow2 (Or.inl ⟨rfl, rfl⟩) (fun b e => by cases e) (fun q hq => (by obtain rfl : _ = q := Option.some.inj (HQQ.out.symm.trans hq); exact ⟨t, HF.out, rfl⟩)))
        have HZ : Hid (w1.heap.size ≤ w5.heap.size) := by
          have := HSZ.out
          simp at hsz5
          show w1.heap.size ≤ w5.heap.size
          omega
        clear hg2 hgb hrow2 hsz5 hsz2 a0 a1 a2 a3 a4 a5 a6 f0 fx x0 x1
        go_wp2
        go_roundw
        case rel => exact ⟨n + 1, l ++ [({ Told.zero with ok := t.isSome }, (.slice none 0 0))], by omega, by simp [hl], ⟨by rw [← hl]; exact HPU.out, HZ.out⟩, by go_num⟩
        case measure => simp [intOf]; omega
      · subst h
        go_wp2_with (fail)
        refine (getString_any hG HQW.out key HNK.out.2.1 HNK.out.1).mono ?_
        rintro e w2 ⟨t, rr, hf, hq2, htx, he⟩
        have HTX := Lib.hid htx
        have hx := he.or
        clear htx he
        have HAS := Lib.hid (HASK.out w2 hq2); have HF := Lib.hid hf; obtain ⟨x0, x1, ha, hfz⟩ := HAS.out.cells HSZ.out; have a0 : w2.cell? ⟨wr.heap.size + 1, 0, none⟩ = some (.bool false) := ha 0 (by omega); have a1 : w2.cell? ⟨wr.heap.size + 1, 1, none⟩ = some (.string (B [])) := ha 1 (by omega); have a2 : w2.cell? ⟨wr.heap.size + 1, 2, none⟩ = some (.bool false) := ha 2 (by omega); have a3 : w2.cell? ⟨wr.heap.size + 1, 3, none⟩ = some (.int .i64 0) := ha 3 (by omega); have a4 : w2.cell? ⟨wr.heap.size + 1, 4, none⟩ = some (.int .u64 0) := ha 4 (by omega); have a5 : w2.cell? ⟨wr.heap.size + 1, 5, none⟩ = some (.float .f64 0) := ha 5 (by omega); have a6 : w2.cell? ⟨wr.heap.size + 1, 6, none⟩ = some (.slice none 0 0) := ha 6 (by omega); have f0 := hfz 0 (by omega); have fx := hfz 1 (by omega); clear hq2 hf ha hfz
        rcases hx with ⟨rfl, T, tv2, rfl⟩ | ⟨x, rfl, rfl⟩
        · go_wp2_with (at_builtin; have hi := HI.out.1; have hz0 := HI.out.2.1; have hz1 := HI.out.2.2.1; refine wpList_append_push _ rfl (.tmp 136) (.tmp 138) 46 rfl 51 i51 (.agg zero51) Tryz.underlying46 hi hz0 hz1 (.slice oa om oc) l.length (flatT l) rfl ?hrow _ rfl (Told.cells Told.zero (.slice none 0 0)) rfl ?hnews ?hone ?hbytes ?hmax ?_)
          case hrow => exact HAS.out.rowAt HS.out.1 fun b h1 h2 => blk2 w2 (wr.heap.size + 1) 1 0 _ _ _ b h1 h2
          case hnews => intro j u hu; rw [← hu]; first | rfl | (refine (cell_newk _ _ 51 j _ (by simp)).trans ?_; rw [← Array.getElem?_toList]; rfl)
          case hone => intro u hu; simp [Told.cells] at hu; rcases hu with rfl | rfl | rfl | rfl | rfl | rfl | rfl <;> rfl
          case hbytes => rw [HI.out.2.2.2]; omega
          case hmax => unfold maxLen; omega
          intro g2 cap2 w5 hg2 hgb hrow2
          rw [← hl] at hrow2
          have hsz5 := hgb.size
          have hsz2 := HAS.out.size
          rw [qWorld_size] at hsz2
          have HPU := Lib.hid (HS.out.1.push HBB.out HSZ.out HAS.out (by rfl) (by rfl) (by rfl) (by simp) (by intro b h1 h2; exact blk2 w2 (wr.heap.size + 1) 1 0 _ _ _ b h1 h2) (by simpa using hg2) hgb hrow2 (Or.inl ⟨rfl, rfl⟩) (fun b e => by cases e) (fun q hq => (by obtain rfl : _ = q := Option.some.inj (HQQ.out.symm.trans hq); exact ⟨t, HF.out, none, HTX.out, rfl⟩)))
          have HZ : Hid (w1.heap.size ≤ w5.heap.size) := by
            have := HSZ.out
            simp at hsz5
            show w1.heap.size ≤ w5.heap.size
            omega
          clear hg2 hgb hrow2 hsz5 hsz2 a0 a1 a2 a3 a4 a5 a6 f0 fx x0 x1
          go_wp2
          go_roundw
          case rel => exact ⟨n + 1, l ++ [(Told.zero, (.slice none 0 0))], by omega, by simp [hl], ⟨by rw [← hl]; exact HPU.out, HZ.out⟩, by go_num⟩
          case measure => simp [intOf]; omega
        · go_wp2_with (at_builtin; have hi := HI.out.1; have hz0 := HI.out.2.1; have hz1 := HI.out.2.2.1; refine wpList_append_push _ rfl (.tmp 136) (.tmp 138) 46 rfl 51 i51 (.agg zero51) Tryz.underlying46 hi hz0 hz1 (.slice oa om oc) l.length (flatT l) rfl ?hrow _ rfl (Told.cells { Told.zero with ok := true, text := x } (.slice none 0 0)) rfl ?hnews ?hone ?hbytes ?hmax ?_)
          case hrow => exact HAS.out.rowAt HS.out.1 fun b h1 h2 => blk2 w2 (wr.heap.size + 1) 1 0 _ _ _ b h1 h2
          case hnews => intro j u hu; rw [← hu]; first | rfl | (refine (cell_newk _ _ 51 j _ (by simp)).trans ?_; rw [← Array.getElem?_toList]; rfl)
          case hone => intro u hu; simp [Told.cells] at hu; rcases hu with rfl | rfl | rfl | rfl | rfl | rfl | rfl <;> rfl
          case hbytes => rw [HI.out.2.2.2]; omega
          case hmax => unfold maxLen; omega
          intro g2 cap2 w5 hg2 hgb hrow2
          rw [← hl] at hrow2
          have hsz5 := hgb.size
          have hsz2 := HAS.out.size
          rw [qWorld_size] at hsz2
          have HPU := Lib.hid (HS.out.1.push HBB.out HSZ.out HAS.out (by rfl) (by rfl) (by rfl) (by simp) (by intro b h1 h2; exact blk2 w2 (wr.heap.size + 1) 1 0 _ _ _ b h1 h2) (by simpa using hg2) hgb hrow2 (Or.inl ⟨rfl, rfl⟩) (fun b e => by cases e) (fun q hq => (by obtain rfl : _ = q := Option.some.inj (HQQ.out.symm.trans hq); exact ⟨t, HF.out, some x, HTX.out, rfl⟩)))
          have HZ : Hid (w1.heap.size ≤ w5.heap.size) := by
            have := HSZ.out
            simp at hsz5
            show w1.heap.size ≤ w5.heap.size
            omega
          clear hg2 hgb hrow2 hsz5 hsz2 a0 a1 a2 a3 a4 a5 a6 f0 fx x0 x1
          go_wp2
          go_roundw
          case rel => exact ⟨n + 1, l ++ [({ Told.zero with ok := true, text := x }, (.slice none 0 0))], by omega, by simp [hl], ⟨by rw [← hl]; exact HPU.out, HZ.out⟩, by go_num⟩
          case measure => simp [intOf]; omega
      · subst h
        go_wp2_with (fail)
        refine (getBytes_any hG HQW.out key HNK.out.2.1 HNK.out.1).mono ?_
        rintro e w2 ⟨t, rr, hf, hq2, htx, hx⟩
        have HTX := Lib.hid htx
        clear htx
        have HAS := Lib.hid (HASK.out w2 hq2); have HF := Lib.hid hf; obtain ⟨x0, x1, ha, hfz⟩ := HAS.out.cells HSZ.out; have a0 : w2.cell? ⟨wr.heap.size + 1, 0, none⟩ = some (.bool false) := ha 0 (by omega); have a1 : w2.cell? ⟨wr.heap.size + 1, 1, none⟩ = some (.string (B [])) := ha 1 (by omega); have a2 : w2.cell? ⟨wr.heap.size + 1, 2, none⟩ = some (.bool false) := ha 2 (by omega); have a3 : w2.cell? ⟨wr.heap.size + 1, 3, none⟩ = some (.int .i64 0) := ha 3 (by omega); have a4 : w2.cell? ⟨wr.heap.size + 1, 4, none⟩ = some (.int .u64 0) := ha 4 (by omega); have a5 : w2.cell? ⟨wr.heap.size + 1, 5, none⟩ = some (.float .f64 0) := ha 5 (by omega); have a6 : w2.cell? ⟨wr.heap.size + 1, 6, none⟩ = some (.slice none 0 0) := ha 6 (by omega); have f0 := hfz 0 (by omega); have fx := hfz 1 (by omega); clear hq2 hf ha hfz
        have hcn : (convert 27 9 (.slice none 0 0)).run Tryz.prog w2 = .ok (.string (B [])) w2 := BA.conv (Or.inl ⟨rfl, rfl⟩)
        have hcv : ∀ v x, BA w2 v x → (convert 27 9 v).run Tryz.prog w2 = .ok (.string (B x)) w2 := fun v x h => BA.conv h
        rcases hx with ⟨x, v, rfl, rfl, hba⟩ | ⟨rfl, T, tv2, rfl⟩
        rotate_left
        rotate_left
        all_goals try (have hcv := hcv _ _ hba)
        rotate_left
        · go_wp2_with (at_builtin; have hi := HI.out.1; have hz0 := HI.out.2.1; have hz1 := HI.out.2.2.1; refine wpList_append_push _ rfl (.tmp 136) (.tmp 138) 46 rfl 51 i51 (.agg zero51) Tryz.underlying46 hi hz0 hz1 (.slice oa om oc) l.length (flatT l) rfl ?hrow _ rfl (Told.cells Told.zero (.slice none 0 0)) rfl ?hnews ?hone ?hbytes ?hmax ?_)
          case hrow => exact HAS.out.rowAt HS.out.1 fun b h1 h2 => blk2 w2 (wr.heap.size + 1) 1 0 _ _ _ b h1 h2
          case hnews => intro j u hu; rw [← hu]; first | rfl | (refine (cell_newk _ _ 51 j _ (by simp)).trans ?_; rw [← Array.getElem?_toList]; rfl)
          case hone => intro u hu; simp [Told.cells] at hu; rcases hu with rfl | rfl | rfl | rfl | rfl | rfl | rfl <;> rfl
          case hbytes => rw [HI.out.2.2.2]; omega
          case hmax => unfold maxLen; omega
          intro g2 cap2 w5 hg2 hgb hrow2
          rw [← hl] at hrow2
          have hsz5 := hgb.size
          have hsz2 := HAS.out.size
          rw [qWorld_size] at hsz2
          have HPU := Lib.hid (HS.out.1.push HBB.out HSZ.out HAS.out (by rfl) (by rfl) (by rfl) (by simp) (by intro b h1 h2; exact blk2 w2 (wr.heap.size + 1) 1 0 _ _ _ b h1 h2) (by simpa using hg2) hgb hrow2 (Or.inl ⟨rfl, rfl⟩) (fun b e => by cases e) (fun q hq => (by obtain rfl : _ = q := Option.some.inj (HQQ.out.symm.trans hq); exact ⟨t, HF.out, none, HTX.out, rfl⟩)))
          have HZ : Hid (w1.heap.size ≤ w5.heap.size) := by
            have := HSZ.out
            simp at hsz5
            show w1.heap.size ≤ w5.heap.size
            omega
          clear hg2 hgb hrow2 hsz5 hsz2 a0 a1 a2 a3 a4 a5 a6 f0 fx x0 x1
          go_wp2
          go_roundw
          case rel => exact ⟨n + 1, l ++ [(Told.zero, (.slice none 0 0))], by omega, by simp [hl], ⟨by rw [← hl]; exact HPU.out, HZ.out⟩, by go_num⟩
          case measure => simp [intOf]; omega
        · go_wp2_with (at_builtin; have hi := HI.out.1; have hz0 := HI.out.2.1; have hz1 := HI.out.2.2.1; refine wpList_append_push _ rfl (.tmp 136) (.tmp 138) 46 rfl 51 i51 (.agg zero51) Tryz.underlying46 hi hz0 hz1 (.slice oa om oc) l.length (flatT l) rfl ?hrow _ rfl (Told.cells { Told.zero with ok := true, text := x } (.slice none 0 0)) rfl ?hnews ?hone ?hbytes ?hmax ?_)
          case hrow => exact HAS.out.rowAt HS.out.1 fun b h1 h2 => blk2 w2 (wr.heap.size + 1) 1 0 _ _ _ b h1 h2
          case hnews => intro j u hu; rw [← hu]; first | rfl | (refine (cell_newk _ _ 51 j _ (by simp)).trans ?_; rw [← Array.getElem?_toList]; rfl)
          case hone => intro u hu; simp [Told.cells] at hu; rcases hu with rfl | rfl | rfl | rfl | rfl | rfl | rfl <;> rfl
          case hbytes => rw [HI.out.2.2.2]; omega
          case hmax => unfold maxLen; omega
          intro g2 cap2 w5 hg2 hgb hrow2
          rw [← hl] at hrow2
          have hsz5 := hgb.size
          have hsz2 := HAS.out.size
          rw [qWorld_size] at hsz2
          have HPU := Lib.hid (HS.out.1.push HBB.out HSZ.out HAS.out (by rfl) (by rfl) (by rfl) (by simp) (by intro b h1 h2; exact blk2 w2 (wr.heap.size + 1) 1 0 _ _ _ b h1 h2) (by simpa using hg2) hgb hrow2 (Or.inl ⟨rfl, rfl⟩) (fun b e => by cases e) (fun q hq => (by obtain rfl : _ = q := Option.some.inj (HQQ.out.symm.trans hq); exact ⟨t, HF.out, some x, HTX.out, rfl⟩)))
          have HZ : Hid (w1.heap.size ≤ w5.heap.size) := by
            have := HSZ.out
            simp at hsz5
            show w1.heap.size ≤ w5.heap.size
            omega
          clear hg2 hgb hrow2 hsz5 hsz2 a0 a1 a2 a3 a4 a5 a6 f0 fx x0 x1
          go_wp2
          go_roundw
          case rel => exact ⟨n + 1, l ++ [({ Told.zero with ok := true, text := x }, (.slice none 0 0))], by omega, by simp [hl], ⟨by rw [← hl]; exact HPU.out, HZ.out⟩, by go_num⟩
          case measure => simp [intOf]; omega
      · subst h
        go_wp2_with (fail)
        refine (getBool_any hG HQW.out key HNK.out.2.1 HNK.out.1 HNK.out.2.2).mono ?_
        intro e w2 hx
        obtain ⟨hq2, t, hf, hx⟩ := hx.or
        have HAS := Lib.hid (HASK.out w2 hq2); have HF := Lib.hid hf; obtain ⟨x0, x1, ha, hfz⟩ := HAS.out.cells HSZ.out; have a0 : w2.cell? ⟨wr.heap.size + 1, 0, none⟩ = some (.bool false) := ha 0 (by omega); have a1 : w2.cell? ⟨wr.heap.size + 1, 1, none⟩ = some (.string (B [])) := ha 1 (by omega); have a2 : w2.cell? ⟨wr.heap.size + 1, 2, none⟩ = some (.bool false) := ha 2 (by omega); have a3 : w2.cell? ⟨wr.heap.size + 1, 3, none⟩ = some (.int .i64 0) := ha 3 (by omega); have a4 : w2.cell? ⟨wr.heap.size + 1, 4, none⟩ = some (.int .u64 0) := ha 4 (by omega); have a5 : w2.cell? ⟨wr.heap.size + 1, 5, none⟩ = some (.float .f64 0) := ha 5 (by omega); have a6 : w2.cell? ⟨wr.heap.size + 1, 6, none⟩ = some (.slice none 0 0) := ha 6 (by omega); have f0 := hfz 0 (by omega); have fx := hfz 2 (by omega); clear hq2 hf ha hfz
        rcases hx with ⟨hn0, T, tv2, rfl⟩ | ⟨x, hn0, rfl⟩
        all_goals (have HN0 := Lib.hid hn0; clear hn0)
        · go_wp2_with (at_builtin; have hi := HI.out.1; have hz0 := HI.out.2.1; have hz1 := HI.out.2.2.1; refine wpList_append_push _ rfl (.tmp 136) (.tmp 138) 46 rfl 51 i51 (.agg zero51) Tryz.underlying46 hi hz0 hz1 (.slice oa om oc) l.length (flatT l) rfl ?hrow _ rfl (Told.cells Told.zero (.slice none 0 0)) rfl ?hnews ?hone ?hbytes ?hmax ?_)
          case hrow => exact HAS.out.rowAt HS.out.1 fun b h1 h2 => blk2 w2 (wr.heap.size + 1) 2 0 _ _ _ b h1 h2
          case hnews => intro j u hu; rw [← hu]; first | rfl | (refine (cell_newk _ _ 51 j _ (by simp)).trans ?_; rw [← Array.getElem?_toList]; rfl)
          case hone => intro u hu; simp [Told.cells] at hu; rcases hu with rfl | rfl | rfl | rfl | rfl | rfl | rfl <;> rfl
          case hbytes => rw [HI.out.2.2.2]; omega
          case hmax => unfold maxLen; omega
          intro g2 cap2 w5 hg2 hgb hrow2
          rw [← hl] at hrow2
          have hsz5 := hgb.size
          have hsz2 := HAS.out.size
          rw [qWorld_size] at hsz2
          have HPU := Lib.hid (HS.out.1.push HBB.out HSZ.out HAS.out (by rfl) (by rfl) (by rfl) (by simp) (by intro b h1 h2; exact blk2 w2 (wr.heap.size + 1) 2 0 _ _ _ b h1 h2) (by simpa using hg2) hgb hrow2 (Or.inl ⟨rfl, rfl⟩) (fun b e => by cases e) (fun q hq => (by obtain rfl : _ = q := Option.some.inj (HQQ.out.symm.trans hq); exact ⟨t, HF.out, by simp only [AnsK]; rw [HN0.out]⟩)))
          have HZ : Hid (w1.heap.size ≤ w5.heap.size) := by
            have := HSZ.out
            simp at hsz5
            show w1.heap.size ≤ w5.heap.size
            omega
          clear hg2 hgb hrow2 hsz5 hsz2 a0 a1 a2 a3 a4 a5 a6 f0 fx x0 x1
          go_wp2
          go_roundw
          case rel => exact ⟨n + 1, l ++ [(Told.zero, (.slice none 0 0))], by omega, by simp [hl], ⟨by rw [← hl]; exact HPU.out, HZ.out⟩, by go_num⟩
          case measure => simp [intOf]; omega
        · go_wp2_with (at_builtin; have hi := HI.out.1; have hz0 := HI.out.2.1; have hz1 := HI.out.2.2.1; refine wpList_append_push _ rfl (.tmp 136) (.tmp 138) 46 rfl 51 i51 (.agg zero51) Tryz.underlying46 hi hz0 hz1 (.slice oa om oc) l.length (flatT l) rfl ?hrow _ rfl (Told.cells { Told.zero with ok := true, is := x } (.slice none 0 0)) rfl ?hnews ?hone ?hbytes ?hmax ?_)
          case hrow => exact HAS.out.rowAt HS.out.1 fun b h1 h2 => blk2 w2 (wr.heap.size + 1) 2 0 _ _ _ b h1 h2
          case hnews => intro j u hu; rw [← hu]; first | rfl | (refine (cell_newk _ _ 51 j _ (by simp)).trans ?_; rw [← Array.getElem?_toList]; rfl)
          case hone => intro u hu; simp [Told.cells] at hu; rcases hu with rfl | rfl | rfl | rfl | rfl | rfl | rfl <;> rfl
          case hbytes => rw [HI.out.2.2.2]; omega
          case hmax => unfold maxLen; omega
          intro g2 cap2 w5 hg2 hgb hrow2
          rw [← hl] at hrow2
          have hsz5 := hgb.size
          have hsz2 := HAS.out.size
          rw [qWorld_size] at hsz2
          have HPU := Lib.hid (HS.out.1.push HBB.out HSZ.out HAS.out (by rfl) (by rfl) (by rfl) (by simp) (by intro b h1 h2; exact blk2 w2 (wr.heap.size + 1) 2 0 _ _ _ b h1 h2) (by simpa using hg2) hgb hrow2 (Or.inl ⟨rfl, rfl⟩) (fun b e => by cases e) (fun q hq => (by obtain rfl : _ = q := Option.some.inj (HQQ.out.symm.trans hq); exact ⟨t, HF.out, by simp only [AnsK]; rw [HN0.out]⟩)))
          have HZ : Hid (w1.heap.size ≤ w5.heap.size) := by
            have := HSZ.out
            simp at hsz5
            show w1.heap.size ≤ w5.heap.size
            omega
          clear hg2 hgb hrow2 hsz5 hsz2 a0 a1 a2 a3 a4 a5 a6 f0 fx x0 x1
          go_wp2
          go_roundw
          case rel => exact ⟨n + 1, l ++ [({ Told.zero with ok := true, is := x }, (.slice none 0 0))], by omega, by simp [hl], ⟨by rw [← hl]; exact HPU.out, HZ.out⟩, by go_num⟩
          case measure => simp [intOf]; omega
      · subst h
        go_wp2_with (fail)
        refine (getInt64_any hG HQW.out key HNK.out.2.1 HNK.out.1 HNK.out.2.2).mono ?_
        intro e w2 hx
        obtain ⟨hq2, t, hf, hx⟩ := hx.or
        have HAS := Lib.hid (HASK.out w2 hq2); have HF := Lib.hid hf; obtain ⟨x0, x1, ha, hfz⟩ := HAS.out.cells HSZ.out; have a0 : w2.cell? ⟨wr.heap.size + 1, 0, none⟩ = some (.bool false) := ha 0 (by omega); have a1 : w2.cell? ⟨wr.heap.size + 1, 1, none⟩ = some (.string (B [])) := ha 1 (by omega); have a2 : w2.cell? ⟨wr.heap.size + 1, 2, none⟩ = some (.bool false) := ha 2 (by omega); have a3 : w2.cell? ⟨wr.heap.size + 1, 3, none⟩ = some (.int .i64 0) := ha 3 (by omega); have a4 : w2.cell? ⟨wr.heap.size + 1, 4, none⟩ = some (.int .u64 0) := ha 4 (by omega); have a5 : w2.cell? ⟨wr.heap.size + 1, 5, none⟩ = some (.float .f64 0) := ha 5 (by omega); have a6 : w2.cell? ⟨wr.heap.size + 1, 6, none⟩ = some (.slice none 0 0) := ha 6 (by omega); have f0 := hfz 0 (by omega); have fx := hfz 3 (by omega); clear hq2 hf ha hfz
        rcases hx with ⟨hn0, T, tv2, rfl⟩ | ⟨x, hn0, rfl⟩
        all_goals (have HN0 := Lib.hid hn0; clear hn0)
        · go_wp2_with (at_builtin; have hi := HI.out.1; have hz0 := HI.out.2.1; have hz1 := HI.out.2.2.1; refine wpList_append_push _ rfl (.tmp 136) (.tmp 138) 46 rfl 51 i51 (.agg zero51) Tryz.underlying46 hi hz0 hz1 (.slice oa om oc) l.length (flatT l) rfl ?hrow _ rfl (Told.cells Told.zero (.slice none 0 0)) rfl ?hnews ?hone ?hbytes ?hmax ?_)
          case hrow => exact HAS.out.rowAt HS.out.1 fun b h1 h2 => blk2 w2 (wr.heap.size + 1) 3 0 _ _ _ b h1 h2
          case hnews => intro j u hu; rw [← hu]; first | rfl | (refine (cell_newk _ _ 51 j _ (by simp)).trans ?_; rw [← Array.getElem?_toList]; rfl)
          case hone => intro u hu; simp [Told.cells] at hu; rcases hu with rfl | rfl | rfl | rfl | rfl | rfl | rfl <;> rfl
          case hbytes => rw [HI.out.2.2.2]; omega
          case hmax => unfold maxLen; omega
          intro g2 cap2 w5 hg2 hgb hrow2
          rw [← hl] at hrow2
          have hsz5 := hgb.size
          have hsz2 := HAS.out.size
          rw [qWorld_size] at hsz2
          have HPU := Lib.hid (HS.out.1.push HBB.out HSZ.out HAS.out (by rfl) (by rfl) (by rfl) (by simp) (by intro b h1 h2; exact blk2 w2 (wr.heap.size + 1) 3 0 _ _ _ b h1 h2) (by simpa using hg2) hgb hrow2 (Or.inl ⟨rfl, rfl⟩) (fun b e => by cases e) (fun q hq => (by obtain rfl : _ = q := Option.some.inj (HQQ.out.symm.trans hq); exact ⟨t, HF.out, by simp only [AnsK]; rw [HN0.out]⟩)))
          have HZ : Hid (w1.heap.size ≤ w5.heap.size) := by
            have := HSZ.out
            simp at hsz5
            show w1.heap.size ≤ w5.heap.size
            omega
          clear hg2 hgb hrow2 hsz5 hsz2 a0 a1 a2 a3 a4 a5 a6 f0 fx x0 x1
          go_wp2
          go_roundw
          case rel => exact ⟨n + 1, l ++ [(Told.zero, (.slice none 0 0))], by omega, by simp [hl], ⟨by rw [← hl]; exact HPU.out, HZ.out⟩, by go_num⟩
          case measure => simp [intOf]; omega
        · go_wp2_with (at_builtin; have hi := HI.out.1; have hz0 := HI.out.2.1; have hz1 := HI.out.2.2.1; refine wpList_append_push _ rfl (.tmp 136) (.tmp 138) 46 rfl 51 i51 (.agg zero51) Tryz.underlying46 hi hz0 hz1 (.slice oa om oc) l.length (flatT l) rfl ?hrow _ rfl (Told.cells { Told.zero with ok := true, int := x } (.slice none 0 0)) rfl ?hnews ?hone ?hbytes ?hmax ?_)
          case hrow => exact HAS.out.rowAt HS.out.1 fun b h1 h2 => blk2 w2 (wr.heap.size + 1) 3 0 _ _ _ b h1 h2
          case hnews => intro j u hu; rw [← hu]; first | rfl | (refine (cell_newk _ _ 51 j _ (by simp)).trans ?_; rw [← Array.getElem?_toList]; rfl)
          case hone => intro u hu; simp [Told.cells] at hu; rcases hu with rfl | rfl | rfl | rfl | rfl | rfl | rfl <;> rfl
          case hbytes => rw [HI.out.2.2.2]; omega
          case hmax => unfold maxLen; omega
          intro g2 cap2 w5 hg2 hgb hrow2
          rw [← hl] at hrow2
          have hsz5 := hgb.size
          have hsz2 := HAS.out.size
          rw [qWorld_size] at hsz2
          have HPU := Lib.hid (HS.out.1.push HBB.out HSZ.out HAS.out (by rfl) (by rfl) (by rfl) (by simp) (by intro b h1 h2; exact blk2 w2 (wr.heap.size + 1) 3 0 _ _ _ b h1 h2) (by simpa using hg2) hgb hrow2 (Or.inl ⟨rfl, rfl⟩) (fun b e => by cases e) (fun q hq => (by obtain rfl : _ = q := Option.some.inj (HQQ.out.symm.trans hq); exact ⟨t, HF.out, by simp only [AnsK]; rw [HN0.out]⟩)))
          have HZ : Hid (w1.heap.size ≤ w5.heap.size) := by
            have := HSZ.out
            simp at hsz5
            show w1.heap.size ≤ w5.heap.size
            omega
          clear hg2 hgb hrow2 hsz5 hsz2 a0 a1 a2 a3 a4 a5 a6 f0 fx x0 x1
          go_wp2
          go_roundw
          case rel => exact ⟨n + 1, l ++ [({ Told.zero with ok := true, int := x }, (.slice none 0 0))], by omega, by simp [hl], ⟨by rw [← hl]; exact HPU.out, HZ.out⟩, by go_num⟩
          case measure => simp [intOf]; omega
      · subst h
        go_wp2_with (fail)
        refine (getUint64_any hG HQW.out key HNK.out.2.1 HNK.out.1 HNK.out.2.2).mono ?_
        intro e w2 hx
        obtain ⟨hq2, t, hf, hx⟩ := hx.or
        have HAS := Lib.hid (HASK.out w2 hq2); have HF := Lib.hid hf; obtain ⟨x0, x1, ha, hfz⟩ := HAS.out.cells HSZ.out; have a0 : w2.cell? ⟨wr.heap.size + 1, 0, none⟩ = some (.bool false) := ha 0 (by omega); have a1 : w2.cell? ⟨wr.heap.size + 1, 1, none⟩ = some (.string (B [])) := ha 1 (by omega); have a2 : w2.cell? ⟨wr.heap.size + 1, 2, none⟩ = some (.bool false) := ha 2 (by omega); have a3 : w2.cell? ⟨wr.heap.size + 1, 3, none⟩ = some (.int .i64 0) := ha 3 (by omega); have a4 : w2.cell? ⟨wr.heap.size + 1, 4, none⟩ = some (.int .u64 0) := ha 4 (by omega); have a5 : w2.cell? ⟨wr.heap.size + 1, 5, none⟩ = some (.float .f64 0) := ha 5 (by omega); have a6 : w2.cell? ⟨wr.heap.size + 1, 6, none⟩ = some (.slice none 0 0) := ha 6 (by omega); have f0 := hfz 0 (by omega); have fx := hfz 4 (by omega); clear hq2 hf ha hfz
        rcases hx with ⟨hn0, T, tv2, rfl⟩ | ⟨x, hn0, rfl⟩
        all_goals (have HN0 := Lib.hid hn0; clear hn0)
        · go_wp2_with (at_builtin; have hi := HI.out.1; have hz0 := HI.out.2.1; have hz1 := HI.out.2.2.1; refine wpList_append_push _ rfl (.tmp 136) (.tmp 138) 46 rfl 51 i51 (.agg zero51) Tryz.underlying46 hi hz0 hz1 (.slice oa om oc) l.length (flatT l) rfl ?hrow _ rfl (Told.cells Told.zero (.slice none 0 0)) rfl ?hnews ?hone ?hbytes ?hmax ?_)
          case hrow => exact HAS.out.rowAt HS.out.1 fun b h1 h2 => blk2 w2 (wr.heap.size + 1) 4 0 _ _ _ b h1 h2
          case hnews => intro j u hu; rw [← hu]; first | rfl | (refine (cell_newk _ _ 51 j _ (by simp)).trans ?_; rw [← Array.getElem?_toList]; rfl)
          case hone => intro u hu; simp [Told.cells] at hu; rcases hu with rfl | rfl | rfl | rfl | rfl | rfl | rfl <;> rfl
          case hbytes => rw [HI.out.2.2.2]; omega
          case hmax => unfold maxLen; omega
          intro g2 cap2 w5 hg2 hgb hrow2
          rw [← hl] at hrow2
          have hsz5 := hgb.size
          have hsz2 := HAS.out.size
          rw [qWorld_size] at hsz2
          have HPU := Lib.hid (HS.out.1.push HBB.out HSZ.out HAS.out (by rfl) (by rfl) (by rfl) (by simp) (by intro b h1 h2; exact blk2 w2 (wr.heap.size + 1) 4 0 _ _ _ b h1 h2) (by simpa using hg2) hgb hrow2 (Or.inl ⟨rfl, rfl⟩) (fun b e => by cases e) (fun q hq => (by obtain rfl : _ = q := Option.some.inj (HQQ.out.symm.trans hq); exact ⟨t, HF.out, by simp only [AnsK]; rw [HN0.out]⟩)))
          have HZ : Hid (w1.heap.size ≤ w5.heap.size) := by
            have := HSZ.out
            simp at hsz5
            show w1.heap.size ≤ w5.heap.size
            omega
          clear hg2 hgb hrow2 hsz5 hsz2 a0 a1 a2 a3 a4 a5 a6 f0 fx x0 x1
          go_wp2
          go_roundw
          case rel => exact ⟨n + 1, l ++ [(Told.zero, (.slice none 0 0))], by omega, by simp [hl], ⟨by rw [← hl]; exact HPU.out, HZ.out⟩, by go_num⟩
          case measure => simp [intOf]; omega
        · go_wp2_with (at_builtin; have hi := HI.out.1; have hz0 := HI.out.2.1; have hz1 := HI.out.2.2.1; refine wpList_append_push _ rfl (.tmp 136) (.tmp 138) 46 rfl 51 i51 (.agg zero51) Tryz.underlying46 hi hz0 hz1 (.slice oa om oc) l.length (flatT l) rfl ?hrow _ rfl (Told.cells { Told.zero with ok := true, uint := x } (.slice none 0 0)) rfl ?hnews ?hone ?hbytes ?hmax ?_)
          case hrow => exact HAS.out.rowAt HS.out.1 fun b h1 h2 => blk2 w2 (wr.heap.size + 1) 4 0 _ _ _ b h1 h2
          case hnews => intro j u hu; rw [← hu]; first | rfl | (refine (cell_newk _ _ 51 j _ (by simp)).trans ?_; rw [← Array.getElem?_toList]; rfl)
          case hone => intro u hu; simp [Told.cells] at hu; rcases hu with rfl | rfl | rfl | rfl | rfl | rfl | rfl <;> rfl
          case hbytes => rw [HI.out.2.2.2]; omega
          case hmax => unfold maxLen; omega
          intro g2 cap2 w5 hg2 hgb hrow2
          rw [← hl] at hrow2
          have hsz5 := hgb.size
          have hsz2 := HAS.out.size
          rw [qWorld_size] at hsz2
          have HPU := Lib.hid (HS.out.1.push HBB.out HSZ.out HAS.out (by rfl) (by rfl) (by rfl) (by simp) (by intro b h1 h2; exact blk2 w2 (wr.heap.size + 1) 4 0 _ _ _ b h1 h2) (by simpa using hg2) hgb hrow2 (Or.inl ⟨rfl, rfl⟩) (fun b e => by cases e) (fun q hq => (by obtain rfl : _ = q := Option.some.inj (HQQ.out.symm.trans hq); exact ⟨t, HF.out, by simp only [AnsK]; rw [HN0.out]⟩)))
          have HZ : Hid (w1.heap.size ≤ w5.heap.size) := by
            have := HSZ.out
            simp at hsz5
            show w1.heap.size ≤ w5.heap.size
            omega
          clear hg2 hgb hrow2 hsz5 hsz2 a0 a1 a2 a3 a4 a5 a6 f0 fx x0 x1
          go_wp2
          go_roundw
          case rel => exact ⟨n + 1, l ++ [({ Told.zero with ok := true, uint := x }, (.slice none 0 0))], by omega, by simp [hl], ⟨by rw [← hl]; exact HPU.out, HZ.out⟩, by go_num⟩
          case measure => simp [intOf]; omega
      · subst h
        go_wp2_with (fail)
        refine (getFloat_any hG HQW.out key HNK.out.2.1 HNK.out.1 HNK.out.2.2).mono ?_
        intro e w2 hx
        obtain ⟨hq2, t, hf, hx⟩ := hx.or
        have HAS := Lib.hid (HASK.out w2 hq2); have HF := Lib.hid hf; obtain ⟨x0, x1, ha, hfz⟩ := HAS.out.cells HSZ.out; have a0 : w2.cell? ⟨wr.heap.size + 1, 0, none⟩ = some (.bool false) := ha 0 (by omega); have a1 : w2.cell? ⟨wr.heap.size + 1, 1, none⟩ = some (.string (B [])) := ha 1 (by omega); have a2 : w2.cell? ⟨wr.heap.size + 1, 2, none⟩ = some (.bool false) := ha 2 (by omega); have a3 : w2.cell? ⟨wr.heap.size + 1, 3, none⟩ = some (.int .i64 0) := ha 3 (by omega); have a4 : w2.cell? ⟨wr.heap.size + 1, 4, none⟩ = some (.int .u64 0) := ha 4 (by omega); have a5 : w2.cell? ⟨wr.heap.size + 1, 5, none⟩ = some (.float .f64 0) := ha 5 (by omega); have a6 : w2.cell? ⟨wr.heap.size + 1, 6, none⟩ = some (.slice none 0 0) := ha 6 (by omega); have f0 := hfz 0 (by omega); have fx := hfz 5 (by omega); clear hq2 hf ha hfz
        rcases hx with ⟨hn0, T, tv2, rfl⟩ | ⟨x, hn0, rfl⟩
        all_goals (have HN0 := Lib.hid hn0; clear hn0)
        · go_wp2_with (at_builtin; have hi := HI.out.1; have hz0 := HI.out.2.1; have hz1 := HI.out.2.2.1; refine wpList_append_push _ rfl (.tmp 136) (.tmp 138) 46 rfl 51 i51 (.agg zero51) Tryz.underlying46 hi hz0 hz1 (.slice oa om oc) l.length (flatT l) rfl ?hrow _ rfl (Told.cells Told.zero (.slice none 0 0)) rfl ?hnews ?hone ?hbytes ?hmax ?_)
          case hrow => exact HAS.out.rowAt HS.out.1 fun b h1 h2 => blk2 w2 (wr.heap.size + 1) 5 0 _ _ _ b h1 h2
          case hnews => intro j u hu; rw [← hu]; first | rfl | (refine (cell_newk _ _ 51 j _ (by simp)).trans ?_; rw [← Array.getElem?_toList]; rfl)
          case hone => intro u hu; simp [Told.cells] at hu; rcases hu with rfl | rfl | rfl | rfl | rfl | rfl | rfl <;> rfl
          case hbytes => rw [HI.out.2.2.2]; omega
          case hmax => unfold maxLen; omega
          intro g2 cap2 w5 hg2 hgb hrow2
          rw [← hl] at hrow2
          have hsz5 := hgb.size
          have hsz2 := HAS.out.size
          rw [qWorld_size] at hsz2
          have HPU := Lib.hid (HS.out.1.push HBB.out HSZ.out HAS.out (by rfl) (by rfl) (by rfl) (by simp) (by intro b h1 h2; exact blk2 w2 (wr.heap.size + 1) 5 0 _ _ _ b h1 h2) (by simpa using hg2) hgb hrow2 (Or.inl ⟨rfl, rfl⟩) (fun b e => by cases e) (fun q hq => (by obtain rfl : _ = q := Option.some.inj (HQQ.out.symm.trans hq); exact ⟨t, HF.out, by simp only [AnsK]; rw [HN0.out]⟩)))
          have HZ : Hid (w1.heap.size ≤ w5.heap.size) := by
            have := HSZ.out
            simp at hsz5
            show w1.heap.size ≤ w5.heap.size
            omega
          clear hg2 hgb hrow2 hsz5 hsz2 a0 a1 a2 a3 a4 a5 a6 f0 fx x0 x1
          go_wp2
          go_roundw
          case rel => exact ⟨n + 1, l ++ [(Told.zero, (.slice none 0 0))], by omega, by simp [hl], ⟨by rw [← hl]; exact HPU.out, HZ.out⟩, by go_num⟩
          case measure => simp [intOf]; omega
        · go_wp2_with (at_builtin; have hi := HI.out.1; have hz0 := HI.out.2.1; have hz1 := HI.out.2.2.1; refine wpList_append_push _ rfl (.tmp 136) (.tmp 138) 46 rfl 51 i51 (.agg zero51) Tryz.underlying46 hi hz0 hz1 (.slice oa om oc) l.length (flatT l) rfl ?hrow _ rfl (Told.cells { Told.zero with ok := true, fl := x } (.slice none 0 0)) rfl ?hnews ?hone ?hbytes ?hmax ?_)
          case hrow => exact HAS.out.rowAt HS.out.1 fun b h1 h2 => blk2 w2 (wr.heap.size + 1) 5 0 _ _ _ b h1 h2
          case hnews => intro j u hu; rw [← hu]; first | rfl | (refine (cell_newk _ _ 51 j _ (by simp)).trans ?_; rw [← Array.getElem?_toList]; rfl)
          case hone => intro u hu; simp [Told.cells] at hu; rcases hu with rfl | rfl | rfl | rfl | rfl | rfl | rfl <;> rfl
          case hbytes => rw [HI.out.2.2.2]; omega
          case hmax => unfold maxLen; omega
          intro g2 cap2 w5 hg2 hgb hrow2
          rw [← hl] at hrow2
          have hsz5 := hgb.size
          have hsz2 := HAS.out.size
          rw [qWorld_size] at hsz2
          have HPU := Lib.hid (HS.out.1.push HBB.out HSZ.out HAS.out (by rfl) (by rfl) (by rfl) (by simp) (by intro b h1 h2; exact blk2 w2 (wr.heap.size + 1) 5 0 _ _ _ b h1 h2) (by simpa using hg2) hgb hrow2 (Or.inl ⟨rfl, rfl⟩) (fun b e => by cases e) (fun q hq => (by obtain rfl : _ = q := Option.some.inj (HQQ.out.symm.trans hq); exact ⟨t, HF.out, by simp only [AnsK]; rw [HN0.out]⟩)))
          have HZ : Hid (w1.heap.size ≤ w5.heap.size) := by
            have := HSZ.out
            simp at hsz5
            show w1.heap.size ≤ w5.heap.size
            omega
          clear hg2 hgb hrow2 hsz5 hsz2 a0 a1 a2 a3 a4 a5 a6 f0 fx x0 x1
          go_wp2
          go_roundw
          case rel => exact ⟨n + 1, l ++ [({ Told.zero with ok := true, fl := x }, (.slice none 0 0))], by omega, by simp [hl], ⟨by rw [← hl]; exact HPU.out, HZ.out⟩, by go_num⟩
          case measure => simp [intOf]; omega
      · subst h
        go_wp2_with (fail)
        refine (getList_any hG HQW.out key HNK.out.2.1 HNK.out.1).mono ?_
        rintro e w2 ⟨t, rr, hf, hq2, htx, hx⟩
        have HTX := Lib.hid htx
        clear htx
        have HAS := Lib.hid (HASK.out w2 hq2); have HF := Lib.hid hf; obtain ⟨x0, x1, ha, hfz⟩ := HAS.out.cells HSZ.out; have a0 : w2.cell? ⟨wr.heap.size + 1, 0, none⟩ = some (.bool false) := ha 0 (by omega); have a1 : w2.cell? ⟨wr.heap.size + 1, 1, none⟩ = some (.string (B [])) := ha 1 (by omega); have a2 : w2.cell? ⟨wr.heap.size + 1, 2, none⟩ = some (.bool false) := ha 2 (by omega); have a3 : w2.cell? ⟨wr.heap.size + 1, 3, none⟩ = some (.int .i64 0) := ha 3 (by omega); have a4 : w2.cell? ⟨wr.heap.size + 1, 4, none⟩ = some (.int .u64 0) := ha 4 (by omega); have a5 : w2.cell? ⟨wr.heap.size + 1, 5, none⟩ = some (.float .f64 0) := ha 5 (by omega); have a6 : w2.cell? ⟨wr.heap.size + 1, 6, none⟩ = some (.slice none 0 0) := ha 6 (by omega); have f0 := hfz 0 (by omega); have fx := hfz 6 (by omega); clear hq2 hf ha hfz
        have hx : (rr = none ∧ ∃ T v, e = .returned (.tuple #[.slice none 0 0, .iface T v])) ∨ ∃ x va vm vc, rr = some x ∧ e = .returned (.tuple #[.slice va vm vc, .nilIface]) ∧ SL w2 (.slice va vm vc) x ∧ ∀ b, (Value.slice va vm vc).ownBlock = some b → wr.heap.size + 2 ≤ b := by
          rcases hx with ⟨x, v, h1, h2, h3, h4⟩ | h
          · rw [qWorld_size] at h4
            rcases h3 with ⟨rfl, rfl⟩ | ⟨b, c, rfl, h5, h6⟩
            · exact Or.inr ⟨[], none, 0, 0, h1, h2, Or.inl ⟨rfl, rfl⟩, h4⟩
            · exact Or.inr ⟨x, _, _, c, h1, h2, Or.inr ⟨b, c, rfl, h5, h6⟩, h4⟩
          · exact Or.inl h
        rcases hx with ⟨rfl, T, tv2, rfl⟩ | ⟨x, va, vm, vc, rfl, rfl, hsl, hfr⟩
        all_goals try (have HSL := Lib.hid (And.intro hsl hfr); clear hsl hfr)
        · go_wp2_with (at_builtin; have hi := HI.out.1; have hz0 := HI.out.2.1; have hz1 := HI.out.2.2.1; refine wpList_append_push _ rfl (.tmp 136) (.tmp 138) 46 rfl 51 i51 (.agg zero51) Tryz.underlying46 hi hz0 hz1 (.slice oa om oc) l.length (flatT l) rfl ?hrow _ rfl (Told.cells Told.zero (.slice none 0 0)) rfl ?hnews ?hone ?hbytes ?hmax ?_)
          case hrow => exact HAS.out.rowAt HS.out.1 fun b h1 h2 => blk2 w2 (wr.heap.size + 1) 6 0 _ _ _ b h1 h2
          case hnews => intro j u hu; rw [← hu]; first | rfl | (refine (cell_newk _ _ 51 j _ (by simp)).trans ?_; rw [← Array.getElem?_toList]; rfl)
          case hone => intro u hu; simp [Told.cells] at hu; rcases hu with rfl | rfl | rfl | rfl | rfl | rfl | rfl <;> rfl
          case hbytes => rw [HI.out.2.2.2]; omega
          case hmax => unfold maxLen; omega
          intro g2 cap2 w5 hg2 hgb hrow2
          rw [← hl] at hrow2
          have hsz5 := hgb.size
          have hsz2 := HAS.out.size
          rw [qWorld_size] at hsz2
          have HPU := Lib.hid (HS.out.1.push HBB.out HSZ.out HAS.out (by rfl) (by rfl) (by rfl) (by simp) (by intro b h1 h2; exact blk2 w2 (wr.heap.size + 1) 6 0 _ _ _ b h1 h2) (by simpa using hg2) hgb hrow2 (Or.inl ⟨rfl, rfl⟩) (fun b e => by cases e) (fun q hq => (by obtain rfl : _ = q := Option.some.inj (HQQ.out.symm.trans hq); exact ⟨t, HF.out, none, HTX.out, rfl⟩)))
          have HZ : Hid (w1.heap.size ≤ w5.heap.size) := by
            have := HSZ.out
            simp at hsz5
            show w1.heap.size ≤ w5.heap.size
            omega
          clear hg2 hgb hrow2 hsz5 hsz2 a0 a1 a2 a3 a4 a5 a6 f0 fx x0 x1
          go_wp2
          go_roundw
          case rel => exact ⟨n + 1, l ++ [(Told.zero, (.slice none 0 0))], by omega, by simp [hl], ⟨by rw [← hl]; exact HPU.out, HZ.out⟩, by go_num⟩
          case measure => simp [intOf]; omega
        · go_wp2_with (at_builtin; have hi := HI.out.1; have hz0 := HI.out.2.1; have hz1 := HI.out.2.2.1; refine wpList_append_push _ rfl (.tmp 136) (.tmp 138) 46 rfl 51 i51 (.agg zero51) Tryz.underlying46 hi hz0 hz1 (.slice oa om oc) l.length (flatT l) rfl ?hrow _ rfl (Told.cells { Told.zero with ok := true, list := x } (.slice va vm vc)) rfl ?hnews ?hone ?hbytes ?hmax ?_)
          case hrow => exact HAS.out.rowAt HS.out.1 fun b h1 h2 => blk2 w2 (wr.heap.size + 1) 6 0 _ _ _ b h1 h2
          case hnews => intro j u hu; rw [← hu]; first | rfl | (refine (cell_newk _ _ 51 j _ (by simp)).trans ?_; rw [← Array.getElem?_toList]; rfl)
          case hone => intro u hu; simp [Told.cells] at hu; rcases hu with rfl | rfl | rfl | rfl | rfl | rfl | rfl <;> rfl
          case hbytes => rw [HI.out.2.2.2]; omega
          case hmax => unfold maxLen; omega
          intro g2 cap2 w5 hg2 hgb hrow2
          rw [← hl] at hrow2
          have hsz5 := hgb.size
          have hsz2 := HAS.out.size
          rw [qWorld_size] at hsz2
          have HPU := Lib.hid (HS.out.1.push HBB.out HSZ.out HAS.out (by rfl) (by rfl) (by rfl) (by simp) (by intro b h1 h2; exact blk2 w2 (wr.heap.size + 1) 6 0 _ _ _ b h1 h2) (by simpa using hg2) hgb hrow2 (HSL.out.1) HSL.out.2 (fun q hq => (by obtain rfl : _ = q := Option.some.inj (HQQ.out.symm.trans hq); exact ⟨t, HF.out, some x, HTX.out, rfl⟩)))
          have HZ : Hid (w1.heap.size ≤ w5.heap.size) := by
            have := HSZ.out
            simp at hsz5
            show w1.heap.size ≤ w5.heap.size
            omega
          clear hg2 hgb hrow2 hsz5 hsz2 a0 a1 a2 a3 a4 a5 a6 f0 fx x0 x1
          go_wp2
          go_roundw
          case rel => exact ⟨n + 1, l ++ [({ Told.zero with ok := true, list := x }, (.slice va vm vc))], by omega, by simp [hl], ⟨by rw [← hl]; exact HPU.out, HZ.out⟩, by go_num⟩
          case measure => simp [intOf]; omega
      · subst h
        go_wp2_with (fail)
        refine (getInt_any hG HQW.out key HNK.out.2.1 HNK.out.1 HNK.out.2.2).mono ?_
        intro e w2 hx
        obtain ⟨hq2, t, hf, hx⟩ := hx.or
        have HAS := Lib.hid (HASK.out w2 hq2); have HF := Lib.hid hf; obtain ⟨x0, x1, ha, hfz⟩ := HAS.out.cells HSZ.out; have a0 : w2.cell? ⟨wr.heap.size + 1, 0, none⟩ = some (.bool false) := ha 0 (by omega); have a1 : w2.cell? ⟨wr.heap.size + 1, 1, none⟩ = some (.string (B [])) := ha 1 (by omega); have a2 : w2.cell? ⟨wr.heap.size + 1, 2, none⟩ = some (.bool false) := ha 2 (by omega); have a3 : w2.cell? ⟨wr.heap.size + 1, 3, none⟩ = some (.int .i64 0) := ha 3 (by omega); have a4 : w2.cell? ⟨wr.heap.size + 1, 4, none⟩ = some (.int .u64 0) := ha 4 (by omega); have a5 : w2.cell? ⟨wr.heap.size + 1, 5, none⟩ = some (.float .f64 0) := ha 5 (by omega); have a6 : w2.cell? ⟨wr.heap.size + 1, 6, none⟩ = some (.slice none 0 0) := ha 6 (by omega); have f0 := hfz 0 (by omega); have fx := hfz 3 (by omega); clear hq2 hf ha hfz
        rcases hx with ⟨hn0, T, tv2, rfl⟩ | ⟨x, hn0, rfl⟩
        all_goals (have HN0 := Lib.hid hn0; clear hn0)
        · go_wp2_with (at_builtin; have hi := HI.out.1; have hz0 := HI.out.2.1; have hz1 := HI.out.2.2.1; refine wpList_append_push _ rfl (.tmp 136) (.tmp 138) 46 rfl 51 i51 (.agg zero51) Tryz.underlying46 hi hz0 hz1 (.slice oa om oc) l.length (flatT l) rfl ?hrow _ rfl (Told.cells Told.zero (.slice none 0 0)) rfl ?hnews ?hone ?hbytes ?hmax ?_)
          case hrow => exact HAS.out.rowAt HS.out.1 fun b h1 h2 => blk2 w2 (wr.heap.size + 1) 3 0 _ _ _ b h1 h2
          case hnews => intro j u hu; rw [← hu]; first | rfl | (refine (cell_newk _ _ 51 j _ (by simp)).trans ?_; rw [← Array.getElem?_toList]; rfl)
          case hone => intro u hu; simp [Told.cells] at hu; rcases hu with rfl | rfl | rfl | rfl | rfl | rfl | rfl <;> rfl
          case hbytes => rw [HI.out.2.2.2]; omega
          case hmax => unfold maxLen; omega
          intro g2 cap2 w5 hg2 hgb hrow2
          rw [← hl] at hrow2
          have hsz5 := hgb.size
          have hsz2 := HAS.out.size
          rw [qWorld_size] at hsz2
          have HPU := Lib.hid (HS.out.1.push HBB.out HSZ.out HAS.out (by rfl) (by rfl) (by rfl) (by simp) (by intro b h1 h2; exact blk2 w2 (wr.heap.size + 1) 3 0 _ _ _ b h1 h2) (by simpa using hg2) hgb hrow2 (Or.inl ⟨rfl, rfl⟩) (fun b e => by cases e) (fun q hq => (by obtain rfl : _ = q := Option.some.inj (HQQ.out.symm.trans hq); exact ⟨t, HF.out, by simp only [AnsK]; rw [HN0.out]⟩)))
          have HZ : Hid (w1.heap.size ≤ w5.heap.size) := by
            have := HSZ.out
            simp at hsz5
            show w1.heap.size ≤ w5.heap.size
            omega
          clear hg2 hgb hrow2 hsz5 hsz2 a0 a1 a2 a3 a4 a5 a6 f0 fx x0 x1
          go_wp2
          go_roundw
          case rel => exact ⟨n + 1, l ++ [(Told.zero, (.slice none 0 0))], by omega, by simp [hl], ⟨by rw [← hl]; exact HPU.out, HZ.out⟩, by go_num⟩
          case measure => simp [intOf]; omega
        · go_wp2_with (at_builtin; have hi := HI.out.1; have hz0 := HI.out.2.1; have hz1 := HI.out.2.2.1; refine wpList_append_push _ rfl (.tmp 136) (.tmp 138) 46 rfl 51 i51 (.agg zero51) Tryz.underlying46 hi hz0 hz1 (.slice oa om oc) l.length (flatT l) rfl ?hrow _ rfl (Told.cells { Told.zero with ok := true, int := x } (.slice none 0 0)) rfl ?hnews ?hone ?hbytes ?hmax ?_)
          case hrow => exact HAS.out.rowAt HS.out.1 fun b h1 h2 => blk2 w2 (wr.heap.size + 1) 3 0 _ _ _ b h1 h2
          case hnews => intro j u hu; rw [← hu]; first | rfl | (refine (cell_newk _ _ 51 j _ (by simp)).trans ?_; rw [← Array.getElem?_toList]; rfl)
          case hone => intro u hu; simp [Told.cells] at hu; rcases hu with rfl | rfl | rfl | rfl | rfl | rfl | rfl <;> rfl
          case hbytes => rw [HI.out.2.2.2]; omega
          case hmax => unfold maxLen; omega
          intro g2 cap2 w5 hg2 hgb hrow2
          rw [← hl] at hrow2
          have hsz5 := hgb.size
          have hsz2 := HAS.out.size
          rw [qWorld_size] at hsz2
          have HPU := Lib.hid (HS.out.1.push HBB.out HSZ.out HAS.out (by rfl) (by rfl) (by rfl) (by simp) (by intro b h1 h2; exact blk2 w2 (wr.heap.size + 1) 3 0 _ _ _ b h1 h2) (by simpa using hg2) hgb hrow2 (Or.inl ⟨rfl, rfl⟩) (fun b e => by cases e) (fun q hq => (by obtain rfl : _ = q := Option.some.inj (HQQ.out.symm.trans hq); exact ⟨t, HF.out, by simp only [AnsK]; rw [HN0.out]⟩)))
          have HZ : Hid (w1.heap.size ≤ w5.heap.size) := by
            have := HSZ.out
            simp at hsz5
            show w1.heap.size ≤ w5.heap.size
            omega
          clear hg2 hgb hrow2 hsz5 hsz2 a0 a1 a2 a3 a4 a5 a6 f0 fx x0 x1
          go_wp2
          go_roundw
          case rel => exact ⟨n + 1, l ++ [({ Told.zero with ok := true, int := x }, (.slice none 0 0))], by omega, by simp [hl], ⟨by rw [← hl]; exact HPU.out, HZ.out⟩, by go_num⟩
          case measure => simp [intOf]; omega
      · subst h
        go_wp2_with (fail)
        refine (getUint_any hG HQW.out key HNK.out.2.1 HNK.out.1 HNK.out.2.2).mono ?_
        intro e w2 hx
        obtain ⟨hq2, t, hf, hx⟩ := hx.or
        have HAS := Lib.hid (HASK.out w2 hq2); have HF := Lib.hid hf; obtain ⟨x0, x1, ha, hfz⟩ := HAS.out.cells HSZ.out; have a0 : w2.cell? ⟨wr.heap.size + 1, 0, none⟩ = some (.bool false) := ha 0 (by omega); have a1 : w2.cell? ⟨wr.heap.size + 1, 1, none⟩ = some (.string (B [])) := ha 1 (by omega); have a2 : w2.cell? ⟨wr.heap.size + 1, 2, none⟩ = some (.bool false) := ha 2 (by omega); have a3 : w2.cell? ⟨wr.heap.size + 1, 3, none⟩ = some (.int .i64 0) := ha 3 (by omega); have a4 : w2.cell? ⟨wr.heap.size + 1, 4, none⟩ = some (.int .u64 0) := ha 4 (by omega); have a5 : w2.cell? ⟨wr.heap.size + 1, 5, none⟩ = some (.float .f64 0) := ha 5 (by omega); have a6 : w2.cell? ⟨wr.heap.size + 1, 6, none⟩ = some (.slice none 0 0) := ha 6 (by omega); have f0 := hfz 0 (by omega); have fx := hfz 4 (by omega); clear hq2 hf ha hfz
        rcases hx with ⟨hn0, T, tv2, rfl⟩ | ⟨x, hn0, rfl⟩
        all_goals (have HN0 := Lib.hid hn0; clear hn0)
        · go_wp2_with (at_builtin; have hi := HI.out.1; have hz0 := HI.out.2.1; have hz1 := HI.out.2.2.1; refine wpList_append_push _ rfl (.tmp 136) (.tmp 138) 46 rfl 51 i51 (.agg zero51) Tryz.underlying46 hi hz0 hz1 (.slice oa om oc) l.length (flatT l) rfl ?hrow _ rfl (Told.cells Told.zero (.slice none 0 0)) rfl ?hnews ?hone ?hbytes ?hmax ?_)
          case hrow => exact HAS.out.rowAt HS.out.1 fun b h1 h2 => blk2 w2 (wr.heap.size + 1) 4 0 _ _ _ b h1 h2
          case hnews => intro j u hu; rw [← hu]; first | rfl | (refine (cell_newk _ _ 51 j _ (by simp)).trans ?_; rw [← Array.getElem?_toList]; rfl)
          case hone => intro u hu; simp [Told.cells] at hu; rcases hu with rfl | rfl | rfl | rfl | rfl | rfl | rfl <;> rfl
          case hbytes => rw [HI.out.2.2.2]; omega
          case hmax => unfold maxLen; omega
          intro g2 cap2 w5 hg2 hgb hrow2
          rw [← hl] at hrow2
          have hsz5 := hgb.size
          have hsz2 := HAS.out.size
          rw [qWorld_size] at hsz2
          have HPU := Lib.hid (HS.out.1.push HBB.out HSZ.out HAS.out (by rfl) (by rfl) (by rfl) (by simp) (by intro b h1 h2; exact blk2 w2 (wr.heap.size + 1) 4 0 _ _ _ b h1 h2) (by simpa using hg2) hgb hrow2 (Or.inl ⟨rfl, rfl⟩) (fun b e => by cases e) (fun q hq => (by obtain rfl : _ = q := Option.some.inj (HQQ.out.symm.trans hq); exact ⟨t, HF.out, by simp only [AnsK]; rw [HN0.out]⟩)))
          have HZ : Hid (w1.heap.size ≤ w5.heap.size) := by
            have := HSZ.out
            simp at hsz5
            show w1.heap.size ≤ w5.heap.size
            omega
          clear hg2 hgb hrow2 hsz5 hsz2 a0 a1 a2 a3 a4 a5 a6 f0 fx x0 x1
          go_wp2
          go_roundw
          case rel => exact ⟨n + 1, l ++ [(Told.zero, (.slice none 0 0))], by omega, by simp [hl], ⟨by rw [← hl]; exact HPU.out, HZ.out⟩, by go_num⟩
          case measure => simp [intOf]; omega
        · go_wp2_with (at_builtin; have hi := HI.out.1; have hz0 := HI.out.2.1; have hz1 := HI.out.2.2.1; refine wpList_append_push _ rfl (.tmp 136) (.tmp 138) 46 rfl 51 i51 (.agg zero51) Tryz.underlying46 hi hz0 hz1 (.slice oa om oc) l.length (flatT l) rfl ?hrow _ rfl (Told.cells { Told.zero with ok := true, uint := x } (.slice none 0 0)) rfl ?hnews ?hone ?hbytes ?hmax ?_)
          case hrow => exact HAS.out.rowAt HS.out.1 fun b h1 h2 => blk2 w2 (wr.heap.size + 1) 4 0 _ _ _ b h1 h2
          case hnews => intro j u hu; rw [← hu]; first | rfl | (refine (cell_newk _ _ 51 j _ (by simp)).trans ?_; rw [← Array.getElem?_toList]; rfl)
          case hone => intro u hu; simp [Told.cells] at hu; rcases hu with rfl | rfl | rfl | rfl | rfl | rfl | rfl <;> rfl
          case hbytes => rw [HI.out.2.2.2]; omega
          case hmax => unfold maxLen; omega
          intro g2 cap2 w5 hg2 hgb hrow2
          rw [← hl] at hrow2
          have hsz5 := hgb.size
          have hsz2 := HAS.out.size
          rw [qWorld_size] at hsz2
          have HPU := Lib.hid (HS.out.1.push HBB.out HSZ.out HAS.out (by rfl) (by rfl) (by rfl) (by simp) (by intro b h1 h2; exact blk2 w2 (wr.heap.size + 1) 4 0 _ _ _ b h1 h2) (by simpa using hg2) hgb hrow2 (Or.inl ⟨rfl, rfl⟩) (fun b e => by cases e) (fun q hq => (by obtain rfl : _ = q := Option.some.inj (HQQ.out.symm.trans hq); exact ⟨t, HF.out, by simp only [AnsK]; rw [HN0.out]⟩)))
          have HZ : Hid (w1.heap.size ≤ w5.heap.size) := by
            have := HSZ.out
            simp at hsz5
            show w1.heap.size ≤ w5.heap.size
            omega
          clear hg2 hgb hrow2 hsz5 hsz2 a0 a1 a2 a3 a4 a5 a6 f0 fx x0 x1
          go_wp2
          go_roundw
          case rel => exact ⟨n + 1, l ++ [({ Told.zero with ok := true, uint := x }, (.slice none 0 0))], by omega, by simp [hl], ⟨by rw [← hl]; exact HPU.out, HZ.out⟩, by go_num⟩
          case measure => simp [intOf]; omega
    · obtain rfl : n = asks.length := by omega
      go_wp2
      go_ret
      exact ⟨_, l, hb, w1.heap.size, rfl, hl, HS.out.1⟩
end Go.Proofs.YtppkpcijmfdfmaaGreatDoor

