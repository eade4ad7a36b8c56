/- The walks of HeaderGet..: a value, or an error. -/
import Derived.Test.YtppkpcijmfdfmaaGreatDoorC10
set_option linter.unusedVariables false
set_option linter.unusedSimpArgs false
namespace Go.Proofs.YtppkpcijmfdfmaaGreatDoor
open Go.RowKit
attribute [local go_sem] B_size B_get B_lit B_ext_to B_ext B_toList B_app

/-- How texts and numbers are read: what the walks of questions are about. -/
structure Env where
  U : Bs → Bs → Prop
  NI : Bs → Prop
  NU : Bs → Prop
  NF : Bs → Prop
  i64 : Bs → Option Int
  u64 : Bs → Option Int
  f64 : Bs → Option Nat
structure Env.OK (G : Env) : Prop where
  ug : UG G.U
  i : ∀ s, G.NI s → NumP 113 s (.int .i64 0) ((G.i64 s).map (.int .i64))
  u : ∀ s, G.NU s → NumP 114 s (.int .u64 0) ((G.u64 s).map (.int .u64))
  f : ∀ s, G.NF s → NumP 110 s (.float .f64 0) ((G.f64 s).map (.float .f64))

def J.i64 (G : Env) : J → Option Int
  | .num s => G.i64 s
  | _ => none
def J.u64 (G : Env) : J → Option Int
  | .num s => G.u64 s
  | _ => none
def J.f64 (G : Env) : J → Option Nat
  | .num s => G.f64 s
  | _ => none
theorem Env.OK.fOr {G : Env} (hG : G.OK) (j : J) (h : ∀ s, j = .num s → G.NF s) : NumOr 110 (.float .f64 0) j ((j.f64 G).map (.float .f64)) := by
  cases j with
  | num s => exact hG.f s (h s rfl)
  | _ => rfl

def J.tf : J → Option Bool
  | .tru => some true
  | .fls => some false
  | _ => none
/-- What the header's own get says, told by cases. -/
def HOr (G : Env) (B0 B1 : Nat) (r : Option J) (hb : Nat) (wx : World) (key : Bs) (e : Ending) (w' : World) : Prop :=
  (∃ T v, e = .returned (.tuple #[.pointer none, .iface T v]) ∧ FindsR G.U r key none ∧ HQ G.U B0 B1 r hb wx w') ∨
  ∃ (p : Nat × Nat) (t : J) (w0 : World) (k o : Nat) (j : J), e = .returned (.tuple #[.pointer (some ⟨p.1, p.2, none⟩), .nilIface]) ∧ FindsR G.U r key (some t) ∧ w0.heap.size ≤ B1 ∧ r = some j ∧ HS G.U w0 wx B0 hb k o j w' ∧ RepV w0 (SQ w0 B0 hb) p.1 p.2 t ∧ GoodT G.U t
theorem headerGet_or {G : Env} (hG : G.OK) {B0 B1 hb : Nat} {r : Option J} {wx w : World} (h : HQ G.U B0 B1 r hb wx w) (key : Bs) (hkl : key.length < 4294967290) (hn : Named r key) :
    Calls Tryz.prog 94 #[.iface 171 (.pointer (some ⟨hb, 0, none⟩)), .string (B key)] w (HOr G B0 B1 r hb wx key) := by
  refine (headerGet_any hG.ug h key hkl hn).mono ?_
  rintro e w' ⟨t, hf, hh⟩
  cases t with
  | none =>
    obtain ⟨hq, T, v, rfl⟩ := hh
    exact Or.inl ⟨T, v, rfl, hf, hq⟩
  | some t =>
    obtain ⟨w0, k, o, j, hB1, hr, hs, p, rfl, hrep, hg⟩ := hh
    exact Or.inr ⟨p, t, w0, k, o, j, rfl, hf, hB1, hr, hs, hrep, hg⟩

/-- A question's answer: a value and no error, or an error. -/
def AnsE (z : Value) (rr : Option Value) (e : Ending) : Prop :=
  match rr with
  | some v => e = .returned (.tuple #[v, .nilIface])
  | none => ∃ T t, e = .returned (.tuple #[z, .iface T t])
def HAns (G : Env) (B0 B1 : Nat) (r : Option J) (hb : Nat) (wx : World) (key : Bs) (z : Value) (f : J → Option Value) (e : Ending) (w' : World) : Prop :=
  ∃ t, FindsR G.U r key t ∧ HQ G.U B0 B1 r hb wx w' ∧ AnsE z (t.bind f) e

set_option maxRecDepth 100000 in
theorem getFloat_any {G : Env} (hG : G.OK) {B0 B1 hb : Nat} {r : Option J} {wx w : World} (h : HQ G.U B0 B1 r hb wx w) (key : Bs) (hkl : key.length < 4294967290) (hn : Named r key) (hN : ∀ t s, FindsR G.U r key (some t) → t = .num s → G.NF s) :
    Calls Tryz.prog 61 #[.iface 171 (.pointer (some ⟨hb, 0, none⟩)), .string (B key)] w (HAns G B0 B1 r hb wx key (.float .f64 0) fun j => (j.f64 G).map (Value.float .f64)) := by
  have HG := Lib.hid (headerGet_or hG h key hkl hn)
  have HN := Lib.hid hN
  clear h hn hN
  go_enter Tryz.func61, Tryz.ntmps61
  go_wp2_with (go_at_call 94; refine HG.out.mono ?_; rintro e w2 (⟨T, v, rfl, hf, hq⟩ | ⟨p, t, w0, k, o, j, rfl, hf, hB1, rfl, hs, hrep, hg⟩))
  · go_ret2
    exact ⟨none, hf, hq, T, v, rfl⟩
  · have HC : Hid (Calls Tryz.prog 95 #[.pointer (some ⟨p.1, p.2, none⟩)] w2 (VAns G.U w0 wx B0 hb (k, o) w2 (.float .f64 0) ((t.f64 G).map (Value.float .f64)))) := float_any hG.ug (hs.at hrep hg.1) _ (hG.fOr t fun s e => HN.out t s hf e)
    have HS2 := Lib.hid hs
    have HF := Lib.hid hf
    clear hs hrep hg hf
    cases hv : (t.f64 G).map (Value.float .f64) with
    | none =>
      rw [hv] at HC
      have HV := Lib.hid hv
      clear hv
      go_wp2_with (go_at_call 95; refine HC.out.mono ?_; rintro e w3 ⟨hq, hk, T, tv, rfl⟩; have HQ3 := Lib.hid (And.intro hq hk); clear hq hk)
      go_ret2
      refine ⟨some t, HF.out, ⟨w0, k, o, hB1, HS2.out.next HQ3.out.1 HQ3.out.2⟩, ?_⟩
      rw [Option.bind_some, HV.out]
      exact ⟨T, tv, rfl⟩
    | some x =>
      rw [hv] at HC
      have HV := Lib.hid hv
      clear hv
      go_wp2_with (go_at_call 95; refine HC.out.mono ?_; rintro e w3 ⟨hq, hk, rfl⟩; have HQ3 := Lib.hid (And.intro hq hk); clear hq hk)
      go_ret2
      refine ⟨some t, HF.out, ⟨w0, k, o, hB1, HS2.out.next HQ3.out.1 HQ3.out.2⟩, ?_⟩
      rw [Option.bind_some, HV.out]
      rfl

end Go.Proofs.YtppkpcijmfdfmaaGreatDoor

/- The walks of HeaderHas, HeaderGetString, HeaderGetStringBytes. -/
namespace Go.Proofs.YtppkpcijmfdfmaaGreatDoor
open Go.RowKit
attribute [local go_sem] B_size B_get B_lit B_ext_to B_ext B_toList B_app

set_option maxRecDepth 100000 in
theorem has_any {G : Env} (hG : G.OK) {B0 B1 hb : Nat} {r : Option J} {wx w : World} (h : HQ G.U B0 B1 r hb wx w) (key : Bs) (hkl : key.length < 4294967290) (hn : Named r key) :
    Calls Tryz.prog 64 #[.iface 171 (.pointer (some ⟨hb, 0, none⟩)), .string (B key)] w fun e w' => ∃ t, FindsR G.U r key t ∧ HQ G.U B0 B1 r hb wx w' ∧ e = .returned (.bool t.isSome) := by
  have HG := Lib.hid (headerGet_or hG h key hkl hn)
  clear h hn
  go_enter Tryz.func64, Tryz.ntmps64
  go_wp2_with (go_at_call 94; refine HG.out.mono ?_; rintro e w2 (⟨T, v, rfl, hf, hq⟩ | ⟨p, t, w0, k, o, j, rfl, hf, hB1, rfl, hs, hrep, hg⟩))
  · go_ret
    exact ⟨none, hf, hq, rfl⟩
  · go_ret
    exact ⟨some t, hf, ⟨w0, k, o, hB1, hs⟩, rfl⟩

/-- The text that a value is. -/
def TxtR (U : Bs → Bs → Prop) (t : Option J) (rr : Option Bs) : Prop :=
  match t with
  | none => rr = none
  | some j => StrOr U j rr
theorem GoodT.txt {U : Bs → Bs → Prop} {j : J} (h : GoodT U j) : ∃ rr, StrOr U j rr := by
  cases j with
  | str s => obtain ⟨out, ho⟩ := h.1 s rfl; exact ⟨some out, out, ho, rfl⟩
  | _ => exact ⟨none, rfl⟩

theorem BA.conv {w : World} {v : Value} {l : Bs} (h : BA w v l) : (convert 27 9 v).run Tryz.prog w = .ok (.string (B l)) w := by
  rcases h with ⟨rfl, rfl⟩ | ⟨b, off, c, rfl, hlt, hc⟩
  · exact run_convert_bytes_nil (P := Tryz.prog) w 27 5 Tryz.underlying27 Tryz.underlying5 0 0 9 Tryz.underlying9
  · have hr := run_convert_bytes_arg (P := Tryz.prog) w 27 5 Tryz.underlying27 Tryz.underlying5 b off l.length c (nums l) (by simp [nums]) (fun i hi => by
      rw [nums_getD l i l[i] (List.getElem?_eq_getElem hi)]; exact hc i _ (List.getElem?_eq_getElem hi)) 9 Tryz.underlying9
    rw [strOfNums_nums] at hr
    exact hr

set_option maxRecDepth 100000 in
theorem getString_any {G : Env} (hG : G.OK) {B0 B1 hb : Nat} {r : Option J} {wx w : World} (h : HQ G.U B0 B1 r hb wx w) (key : Bs) (hkl : key.length < 4294967290) (hn : Named r key) :
    Calls Tryz.prog 65 #[.iface 171 (.pointer (some ⟨hb, 0, none⟩)), .string (B key)] w fun e w' => ∃ t rr, FindsR G.U r key t ∧ HQ G.U B0 B1 r hb wx w' ∧ TxtR G.U t rr ∧
      AnsE (.string (B [])) (rr.map fun out => .string (B out)) e := by
  have HG := Lib.hid (headerGet_or hG h key hkl hn)
  clear h hn
  go_enter Tryz.func65, Tryz.ntmps65
  go_wp2_with (go_at_call 94; refine HG.out.mono ?_; rintro e w2 (⟨T, v, rfl, hf, hq⟩ | ⟨p, t, w0, k, o, j, rfl, hf, hB1, rfl, hs, hrep, hg⟩))
  · go_ret2
    exact ⟨none, none, hf, hq, rfl, T, v, rfl⟩
  · obtain ⟨rr, hrr⟩ := hg.txt
    have HC := Lib.hid (stringBytes_any hG.ug (hs.at hrep hg.1) rr hrr)
    have HS2 := Lib.hid hs
    have HF := Lib.hid (And.intro hf hrr)
    clear hs hrep hg hf hrr
    cases rr with
    | none =>
      go_wp2_with (go_at_call 97; refine HC.out.mono ?_; rintro e w3 ⟨hq, hk, T, tv, rfl⟩; have HQ3 := Lib.hid (And.intro hq hk); clear hq hk)
      go_ret2
      exact ⟨some t, none, HF.out.1, ⟨w0, k, o, hB1, HS2.out.next HQ3.out.1 HQ3.out.2⟩, HF.out.2, T, tv, rfl⟩
    | some out =>
      go_wp2_with (go_at_call 97; refine HC.out.mono ?_; rintro e w3 ⟨hq, hk, v, rfl, hv⟩; have HQ3 := Lib.hid (And.intro hq hk); have hcv := hv.conv; clear hq hk hv)
      go_ret2
      exact ⟨some t, some out, HF.out.1, ⟨w0, k, o, hB1, HS2.out.next HQ3.out.1 HQ3.out.2⟩, HF.out.2, rfl⟩
end Go.Proofs.YtppkpcijmfdfmaaGreatDoor

/- The walk of HeaderGetStringArray. -/
namespace Go.Proofs.YtppkpcijmfdfmaaGreatDoor
open Go.RowKit
attribute [local go_sem] B_size B_get B_lit B_ext_to B_ext B_toList B_app

theorem QI.fresh {U : Bs → Bs → Prop} {w0 wx w : World} {B0 hb : Nat} {root : Nat × Nat} (h : QI U w0 wx B0 hb root w) (hB : B0 ≤ w0.heap.size) {b i : Nat} (v : Value) (hb2 : w0.heap.size ≤ b) (hbx : wx.heap.size ≤ b) : QI U w0 wx B0 hb root (w.setCell ⟨b, i, none⟩ v) := by
  have hne : ∀ {k' o' : Nat}, k' < w0.heap.size → (w.setCell ⟨b, i, none⟩ v).cell? ⟨k', o', none⟩ = w.cell? ⟨k', o', none⟩ := fun hh => cell_other _ _ (by omega)
  refine ⟨below_store h.below _ (by omega), fun o' => (hne h.hlt).trans (h.hdr o'), fun k' o' hk' hs' => (hne hk').trans (h.ptr k' o' hk' hs'), fun k' o' hk' => by simpa using h.free k' o' hk', fun k' o' hk' hs' h5' => ?_, h.hlt, h.hshape,
    below_store h.xb _ (by omega), fun b' h1 h2 => (Below.heap_setCell _ _ _ _ (by simp; omega)).trans (h.new b' h1 h2), h.gnd⟩
  have hn := h.node k' o' hk' hs' h5'
  refine ⟨(hne hk').trans hn.c0, fun hr => (hne hk').trans (hn.c1 hr), (hne hk').trans hn.c2, ?_⟩
  rw [hne hk', hne hk']
  exact hn.c34
theorem HS.new {U : Bs → Bs → Prop} {w0 wx : World} {B0 hb k o : Nat} {j : J} {w : World} (h : HS U w0 wx B0 hb k o j w) {b i : Nat} (v : Value) (hb2 : w0.heap.size ≤ b) (hbx : wx.heap.size ≤ b) : HS U w0 wx B0 hb k o j (w.setCell ⟨b, i, none⟩ v) := by
  refine ⟨h.qi.fresh h.hB v hb2 hbx, h.hB, h.B9, h.err, h.rep, h.h0, h.h1, h.good, fun ms e => ?_⟩
  have hk := h.root.1
  rcases h.obj ms e with ⟨h1, h2, h3, u, h4⟩ | ⟨g, cap, cs, ps, hR, hk, u, hN⟩
  · exact Or.inl ⟨h1, h2, h3, u, (cell_other _ _ (by omega)).trans h4⟩
  · have hg := hR.ghi
    exact Or.inr ⟨g, cap, cs, ps, hR, hk, u, (cell_other _ _ (by omega)).trans hN.flag, fun i s hi => (cell_other _ _ (by omega)).trans (hN.key i s hi), fun i p hi => (cell_other _ _ (by omega)).trans (hN.ptr i p hi)⟩

/-- The list of texts that a value is. -/
def LOr (U : Bs → Bs → Prop) (j : J) (rr : Option (List Bs)) : Prop :=
  match j with
  | .arr ts => (∃ outs, rr = some outs ∧ outs.length = ts.length ∧ ∀ (i : Nat) t o, ts[i]? = some t → outs[i]? = some o → ∃ s, t = .str s ∧ U s o) ∨ (rr = none ∧ ∃ t ∈ ts, ∀ s, t ≠ .str s)
  | _ => rr = none
def LstR (U : Bs → Bs → Prop) (t : Option J) (rr : Option (List Bs)) : Prop :=
  match t with
  | none => rr = none
  | some j => LOr U j rr
/-- A slice of texts. -/
def SL (w : World) (v : Value) (l : List Bs) : Prop :=
  (v = .slice none 0 0 ∧ l = []) ∨ ∃ b c, v = .slice (some ⟨b, 0, none⟩) l.length c ∧ b < w.heap.size ∧ ∀ (i : Nat) s, l[i]? = some s → w.cell? ⟨b, i, none⟩ = some (.string (B s))
theorem info9 : (Tryz.prog.info? 9).map (fun i => (i.zero, i.size, i.bytes)) = some (some (.string ⟨#[]⟩), 1, 16) := by kernel_rfl

end Go.Proofs.YtppkpcijmfdfmaaGreatDoor
