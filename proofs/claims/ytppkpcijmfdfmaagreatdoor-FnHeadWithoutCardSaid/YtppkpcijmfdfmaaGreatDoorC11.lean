/- The walks of HeaderGet..: a value, or an error. -/
import Derived.Test.YtppkpcijmfdfmaaGreatDoorC10
set_option linter.unusedVariables false
set_option linter.unusedSimpArgs false
namespace Go.Proofs.YtppkpcijmfdfmaaGreatDoor
open Go.RowKit
attribute [local go_sem] B_size B_get B_lit B_ext_to B_ext B_toList B_app

/-- How texts and numbers are read: what the walks of questions are about. -/
structure Env where
  U : Bs → Bs → Prop
  NI : Bs → Prop
  NU : Bs → Prop
  NF : Bs → Prop
  i64 : Bs → Option Int
  u64 : Bs → Option Int
  f64 : Bs → Option Nat
structure Env.OK (G : Env) : Prop where
  ug : UG G.U
  i : ∀ s, G.NI s → NumP 113 s (.int .i64 0) ((G.i64 s).map (.int .i64))
  u : ∀ s, G.NU s → NumP 114 s (.int .u64 0) ((G.u64 s).map (.int .u64))
  f : ∀ s, G.NF s → NumP 110 s (.float .f64 0) ((G.f64 s).map (.float .f64))

def J.i64 (G : Env) : J → Option Int
  | .num s => G.i64 s
  | _ => none
def J.u64 (G : Env) : J → Option Int
  | .num s => G.u64 s
  | _ => none
def J.f64 (G : Env) : J → Option Nat
  | .num s => G.f64 s
  | _ => none
theorem Env.OK.iOr {G : Env} (hG : G.OK) (j : J) (h : ∀ s, j = .num s → G.NI s) : NumOr 113 (.int .i64 0) j ((j.i64 G).map (.int .i64)) := by
  cases j with
  | num s => exact hG.i s (h s rfl)
  | _ => rfl
theorem Env.OK.uOr {G : Env} (hG : G.OK) (j : J) (h : ∀ s, j = .num s → G.NU s) : NumOr 114 (.int .u64 0) j ((j.u64 G).map (.int .u64)) := by
  cases j with
  | num s => exact hG.u s (h s rfl)
  | _ => rfl
theorem Env.OK.fOr {G : Env} (hG : G.OK) (j : J) (h : ∀ s, j = .num s → G.NF s) : NumOr 110 (.float .f64 0) j ((j.f64 G).map (.float .f64)) := by
  cases j with
  | num s => exact hG.f s (h s rfl)
  | _ => rfl

def J.tf : J → Option Bool
  | .tru => some true
  | .fls => some false
  | _ => none
theorem J.bool_tf (j : J) : j.bool? = j.tf.map Value.bool := by cases j <;> rfl

/-- What the header's own get says, told by cases. -/
def HOr (G : Env) (B0 B1 : Nat) (r : Option J) (hb : Nat) (wx : World) (key : Bs) (e : Ending) (w' : World) : Prop :=
  (∃ T v, e = .returned (.tuple #[.pointer none, .iface T v]) ∧ FindsR G.U r key none ∧ HQ G.U B0 B1 r hb wx w') ∨
  ∃ (p : Nat × Nat) (t : J) (w0 : World) (k o : Nat) (j : J), e = .returned (.tuple #[.pointer (some ⟨p.1, p.2, none⟩), .nilIface]) ∧ FindsR G.U r key (some t) ∧ w0.heap.size ≤ B1 ∧ r = some j ∧ HS G.U w0 wx B0 hb k o j w' ∧ RepV w0 (SQ w0 B0 hb) p.1 p.2 t ∧ GoodT G.U t
theorem headerGet_or {G : Env} (hG : G.OK) {B0 B1 hb : Nat} {r : Option J} {wx w : World} (h : HQ G.U B0 B1 r hb wx w) (key : Bs) (hkl : key.length < 4294967290) (hn : Named r key) :
    Calls Tryz.prog 94 #[.iface 171 (.pointer (some ⟨hb, 0, none⟩)), .string (B key)] w (HOr G B0 B1 r hb wx key) := by
  refine (headerGet_any hG.ug h key hkl hn).mono ?_
  rintro e w' ⟨t, hf, hh⟩
  cases t with
  | none =>
    obtain ⟨hq, T, v, rfl⟩ := hh
    exact Or.inl ⟨T, v, rfl, hf, hq⟩
  | some t =>
    obtain ⟨w0, k, o, j, hB1, hr, hs, p, rfl, hrep, hg⟩ := hh
    exact Or.inr ⟨p, t, w0, k, o, j, rfl, hf, hB1, hr, hs, hrep, hg⟩

/-- A question's answer: a value and no error, or an error. -/
def AnsE (z : Value) (rr : Option Value) (e : Ending) : Prop :=
  match rr with
  | some v => e = .returned (.tuple #[v, .nilIface])
  | none => ∃ T t, e = .returned (.tuple #[z, .iface T t])
def HAns (G : Env) (B0 B1 : Nat) (r : Option J) (hb : Nat) (wx : World) (key : Bs) (z : Value) (f : J → Option Value) (e : Ending) (w' : World) : Prop :=
  ∃ t, FindsR G.U r key t ∧ HQ G.U B0 B1 r hb wx w' ∧ AnsE z (t.bind f) e

set_option maxRecDepth 100000 in
theorem getInt64_any {G : Env} (hG : G.OK) {B0 B1 hb : Nat} {r : Option J} {wx w : World} (h : HQ G.U B0 B1 r hb wx w) (key : Bs) (hkl : key.length < 4294967290) (hn : Named r key) (hN : ∀ t s, FindsR G.U r key (some t) → t = .num s → G.NI s) :
    Calls Tryz.prog 68 #[.iface 171 (.pointer (some ⟨hb, 0, none⟩)), .string (B key)] w (HAns G B0 B1 r hb wx key (.int .i64 0) fun j => (j.i64 G).map (Value.int .i64)) := by
  have HG := Lib.hid (headerGet_or hG h key hkl hn)
  have HN := Lib.hid hN
  clear h hn hN
  go_enter Tryz.func68, Tryz.ntmps68
  go_wp2_with (go_at_call 94; refine HG.out.mono ?_; rintro e w2 (⟨T, v, rfl, hf, hq⟩ | ⟨p, t, w0, k, o, j, rfl, hf, hB1, rfl, hs, hrep, hg⟩))
  · go_ret2
    exact ⟨none, hf, hq, T, v, rfl⟩
  · have HC : Hid (Calls Tryz.prog 99 #[.pointer (some ⟨p.1, p.2, none⟩)] w2 (VAns G.U w0 wx B0 hb (k, o) w2 (.int .i64 0) ((t.i64 G).map (Value.int .i64)))) := int64_any hG.ug (hs.at hrep hg.1) _ (hG.iOr t fun s e => HN.out t s hf e)
    have HS2 := Lib.hid hs
    have HF := Lib.hid hf
    clear hs hrep hg hf
    cases hv : (t.i64 G).map (Value.int .i64) with
    | none =>
      rw [hv] at HC
      have HV := Lib.hid hv
      clear hv
      go_wp2_with (go_at_call 99; refine HC.out.mono ?_; rintro e w3 ⟨hq, hk, T, tv, rfl⟩; have HQ3 := Lib.hid (And.intro hq hk); clear hq hk)
      go_ret2
      refine ⟨some t, HF.out, ⟨w0, k, o, hB1, HS2.out.next HQ3.out.1 HQ3.out.2⟩, ?_⟩
      rw [Option.bind_some, HV.out]
      exact ⟨T, tv, rfl⟩
    | some x =>
      rw [hv] at HC
      have HV := Lib.hid hv
      clear hv
      go_wp2_with (go_at_call 99; refine HC.out.mono ?_; rintro e w3 ⟨hq, hk, rfl⟩; have HQ3 := Lib.hid (And.intro hq hk); clear hq hk)
      go_ret2
      refine ⟨some t, HF.out, ⟨w0, k, o, hB1, HS2.out.next HQ3.out.1 HQ3.out.2⟩, ?_⟩
      rw [Option.bind_some, HV.out]
      rfl

set_option maxRecDepth 100000 in
theorem getUint64_any {G : Env} (hG : G.OK) {B0 B1 hb : Nat} {r : Option J} {wx w : World} (h : HQ G.U B0 B1 r hb wx w) (key : Bs) (hkl : key.length < 4294967290) (hn : Named r key) (hN : ∀ t s, FindsR G.U r key (some t) → t = .num s → G.NU s) :
    Calls Tryz.prog 69 #[.iface 171 (.pointer (some ⟨hb, 0, none⟩)), .string (B key)] w (HAns G B0 B1 r hb wx key (.int .u64 0) fun j => (j.u64 G).map (Value.int .u64)) := by
  have HG := Lib.hid (headerGet_or hG h key hkl hn)
  have HN := Lib.hid hN
  clear h hn hN
  go_enter Tryz.func69, Tryz.ntmps69
  go_wp2_with (go_at_call 94; refine HG.out.mono ?_; rintro e w2 (⟨T, v, rfl, hf, hq⟩ | ⟨p, t, w0, k, o, j, rfl, hf, hB1, rfl, hs, hrep, hg⟩))
  · go_ret2
    exact ⟨none, hf, hq, T, v, rfl⟩
  · have HC : Hid (Calls Tryz.prog 100 #[.pointer (some ⟨p.1, p.2, none⟩)] w2 (VAns G.U w0 wx B0 hb (k, o) w2 (.int .u64 0) ((t.u64 G).map (Value.int .u64)))) := uint64_any hG.ug (hs.at hrep hg.1) _ (hG.uOr t fun s e => HN.out t s hf e)
    have HS2 := Lib.hid hs
    have HF := Lib.hid hf
    clear hs hrep hg hf
    cases hv : (t.u64 G).map (Value.int .u64) with
    | none =>
      rw [hv] at HC
      have HV := Lib.hid hv
      clear hv
      go_wp2_with (go_at_call 100; refine HC.out.mono ?_; rintro e w3 ⟨hq, hk, T, tv, rfl⟩; have HQ3 := Lib.hid (And.intro hq hk); clear hq hk)
      go_ret2
      refine ⟨some t, HF.out, ⟨w0, k, o, hB1, HS2.out.next HQ3.out.1 HQ3.out.2⟩, ?_⟩
      rw [Option.bind_some, HV.out]
      exact ⟨T, tv, rfl⟩
    | some x =>
      rw [hv] at HC
      have HV := Lib.hid hv
      clear hv
      go_wp2_with (go_at_call 100; refine HC.out.mono ?_; rintro e w3 ⟨hq, hk, rfl⟩; have HQ3 := Lib.hid (And.intro hq hk); clear hq hk)
      go_ret2
      refine ⟨some t, HF.out, ⟨w0, k, o, hB1, HS2.out.next HQ3.out.1 HQ3.out.2⟩, ?_⟩
      rw [Option.bind_some, HV.out]
      rfl

set_option maxRecDepth 100000 in
theorem getFloat_any {G : Env} (hG : G.OK) {B0 B1 hb : Nat} {r : Option J} {wx w : World} (h : HQ G.U B0 B1 r hb wx w) (key : Bs) (hkl : key.length < 4294967290) (hn : Named r key) (hN : ∀ t s, FindsR G.U r key (some t) → t = .num s → G.NF s) :
    Calls Tryz.prog 61 #[.iface 171 (.pointer (some ⟨hb, 0, none⟩)), .string (B key)] w (HAns G B0 B1 r hb wx key (.float .f64 0) fun j => (j.f64 G).map (Value.float .f64)) := by
  have HG := Lib.hid (headerGet_or hG h key hkl hn)
  have HN := Lib.hid hN
  clear h hn hN
  go_enter Tryz.func61, Tryz.ntmps61
  go_wp2_with (go_at_call 94; refine HG.out.mono ?_; rintro e w2 (⟨T, v, rfl, hf, hq⟩ | ⟨p, t, w0, k, o, j, rfl, hf, hB1, rfl, hs, hrep, hg⟩))
  · go_ret2
    exact ⟨none, hf, hq, T, v, rfl⟩
  · have HC : Hid (Calls Tryz.prog 95 #[.pointer (some ⟨p.1, p.2, none⟩)] w2 (VAns G.U w0 wx B0 hb (k, o) w2 (.float .f64 0) ((t.f64 G).map (Value.float .f64)))) := float_any hG.ug (hs.at hrep hg.1) _ (hG.fOr t fun s e => HN.out t s hf e)
    have HS2 := Lib.hid hs
    have HF := Lib.hid hf
    clear hs hrep hg hf
    cases hv : (t.f64 G).map (Value.float .f64) with
    | none =>
      rw [hv] at HC
      have HV := Lib.hid hv
      clear hv
      go_wp2_with (go_at_call 95; refine HC.out.mono ?_; rintro e w3 ⟨hq, hk, T, tv, rfl⟩; have HQ3 := Lib.hid (And.intro hq hk); clear hq hk)
      go_ret2
      refine ⟨some t, HF.out, ⟨w0, k, o, hB1, HS2.out.next HQ3.out.1 HQ3.out.2⟩, ?_⟩
      rw [Option.bind_some, HV.out]
      exact ⟨T, tv, rfl⟩
    | some x =>
      rw [hv] at HC
      have HV := Lib.hid hv
      clear hv
      go_wp2_with (go_at_call 95; refine HC.out.mono ?_; rintro e w3 ⟨hq, hk, rfl⟩; have HQ3 := Lib.hid (And.intro hq hk); clear hq hk)
      go_ret2
      refine ⟨some t, HF.out, ⟨w0, k, o, hB1, HS2.out.next HQ3.out.1 HQ3.out.2⟩, ?_⟩
      rw [Option.bind_some, HV.out]
      rfl

set_option maxRecDepth 100000 in
theorem getInt_any {G : Env} (hG : G.OK) {B0 B1 hb : Nat} {r : Option J} {wx w : World} (h : HQ G.U B0 B1 r hb wx w) (key : Bs) (hkl : key.length < 4294967290) (hn : Named r key) (hN : ∀ t s, FindsR G.U r key (some t) → t = .num s → G.NI s) :
    Calls Tryz.prog 71 #[.iface 171 (.pointer (some ⟨hb, 0, none⟩)), .string (B key)] w (HAns G B0 B1 r hb wx key (.int .i64 0) fun j => (j.i64 G).map (Value.int .i64)) := by
  have HG := Lib.hid (headerGet_or hG h key hkl hn)
  have HN := Lib.hid hN
  clear h hn hN
  go_enter Tryz.func71, Tryz.ntmps71
  go_wp2_with (go_at_call 94; refine HG.out.mono ?_; rintro e w2 (⟨T, v, rfl, hf, hq⟩ | ⟨p, t, w0, k, o, j, rfl, hf, hB1, rfl, hs, hrep, hg⟩))
  · go_ret2
    exact ⟨none, hf, hq, T, v, rfl⟩
  · have HC : Hid (Calls Tryz.prog 102 #[.pointer (some ⟨p.1, p.2, none⟩)] w2 (VAns G.U w0 wx B0 hb (k, o) w2 (.int .i64 0) ((t.i64 G).map (Value.int .i64)))) := int_any hG.ug (hs.at hrep hg.1) _ (hG.iOr t fun s e => HN.out t s hf e)
    have HS2 := Lib.hid hs
    have HF := Lib.hid hf
    clear hs hrep hg hf
    cases hv : (t.i64 G).map (Value.int .i64) with
    | none =>
      rw [hv] at HC
      have HV := Lib.hid hv
      clear hv
      go_wp2_with (go_at_call 102; refine HC.out.mono ?_; rintro e w3 ⟨hq, hk, T, tv, rfl⟩; have HQ3 := Lib.hid (And.intro hq hk); clear hq hk)
      go_ret2
      refine ⟨some t, HF.out, ⟨w0, k, o, hB1, HS2.out.next HQ3.out.1 HQ3.out.2⟩, ?_⟩
      rw [Option.bind_some, HV.out]
      exact ⟨T, tv, rfl⟩
    | some x =>
      rw [hv] at HC
      have HV := Lib.hid hv
      clear hv
      go_wp2_with (go_at_call 102; refine HC.out.mono ?_; rintro e w3 ⟨hq, hk, rfl⟩; have HQ3 := Lib.hid (And.intro hq hk); clear hq hk)
      go_ret2
      refine ⟨some t, HF.out, ⟨w0, k, o, hB1, HS2.out.next HQ3.out.1 HQ3.out.2⟩, ?_⟩
      rw [Option.bind_some, HV.out]
      rfl

set_option maxRecDepth 100000 in
theorem getUint_any {G : Env} (hG : G.OK) {B0 B1 hb : Nat} {r : Option J} {wx w : World} (h : HQ G.U B0 B1 r hb wx w) (key : Bs) (hkl : key.length < 4294967290) (hn : Named r key) (hN : ∀ t s, FindsR G.U r key (some t) → t = .num s → G.NU s) :
    Calls Tryz.prog 72 #[.iface 171 (.pointer (some ⟨hb, 0, none⟩)), .string (B key)] w (HAns G B0 B1 r hb wx key (.int .u64 0) fun j => (j.u64 G).map (Value.int .u64)) := by
  have HG := Lib.hid (headerGet_or hG h key hkl hn)
  have HN := Lib.hid hN
  clear h hn hN
  go_enter Tryz.func72, Tryz.ntmps72
  go_wp2_with (go_at_call 94; refine HG.out.mono ?_; rintro e w2 (⟨T, v, rfl, hf, hq⟩ | ⟨p, t, w0, k, o, j, rfl, hf, hB1, rfl, hs, hrep, hg⟩))
  · go_ret2
    exact ⟨none, hf, hq, T, v, rfl⟩
  · have HC : Hid (Calls Tryz.prog 103 #[.pointer (some ⟨p.1, p.2, none⟩)] w2 (VAns G.U w0 wx B0 hb (k, o) w2 (.int .u64 0) ((t.u64 G).map (Value.int .u64)))) := uint_any hG.ug (hs.at hrep hg.1) _ (hG.uOr t fun s e => HN.out t s hf e)
    have HS2 := Lib.hid hs
    have HF := Lib.hid hf
    clear hs hrep hg hf
    cases hv : (t.u64 G).map (Value.int .u64) with
    | none =>
      rw [hv] at HC
      have HV := Lib.hid hv
      clear hv
      go_wp2_with (go_at_call 103; refine HC.out.mono ?_; rintro e w3 ⟨hq, hk, T, tv, rfl⟩; have HQ3 := Lib.hid (And.intro hq hk); clear hq hk)
      go_ret2
      refine ⟨some t, HF.out, ⟨w0, k, o, hB1, HS2.out.next HQ3.out.1 HQ3.out.2⟩, ?_⟩
      rw [Option.bind_some, HV.out]
      exact ⟨T, tv, rfl⟩
    | some x =>
      rw [hv] at HC
      have HV := Lib.hid hv
      clear hv
      go_wp2_with (go_at_call 103; refine HC.out.mono ?_; rintro e w3 ⟨hq, hk, rfl⟩; have HQ3 := Lib.hid (And.intro hq hk); clear hq hk)
      go_ret2
      refine ⟨some t, HF.out, ⟨w0, k, o, hB1, HS2.out.next HQ3.out.1 HQ3.out.2⟩, ?_⟩
      rw [Option.bind_some, HV.out]
      rfl

set_option maxRecDepth 100000 in
theorem getBool_any {G : Env} (hG : G.OK) {B0 B1 hb : Nat} {r : Option J} {wx w : World} (h : HQ G.U B0 B1 r hb wx w) (key : Bs) (hkl : key.length < 4294967290) (hn : Named r key) (hN : ∀ t s, FindsR G.U r key (some t) → t = .num s → True) :
    Calls Tryz.prog 67 #[.iface 171 (.pointer (some ⟨hb, 0, none⟩)), .string (B key)] w (HAns G B0 B1 r hb wx key (.bool false) fun j => (j.tf).map Value.bool) := by
  have HG := Lib.hid (headerGet_or hG h key hkl hn)
  have HN := Lib.hid hN
  clear h hn hN
  go_enter Tryz.func67, Tryz.ntmps67
  go_wp2_with (go_at_call 94; refine HG.out.mono ?_; rintro e w2 (⟨T, v, rfl, hf, hq⟩ | ⟨p, t, w0, k, o, j, rfl, hf, hB1, rfl, hs, hrep, hg⟩))
  · go_ret2
    exact ⟨none, hf, hq, T, v, rfl⟩
  · have HC : Hid (Calls Tryz.prog 98 #[.pointer (some ⟨p.1, p.2, none⟩)] w2 (VAns G.U w0 wx B0 hb (k, o) w2 (.bool false) ((t.tf).map Value.bool))) := J.bool_tf t ▸ bool_any (hs.at hrep hg.1)
    have HS2 := Lib.hid hs
    have HF := Lib.hid hf
    clear hs hrep hg hf
    cases hv : (t.tf).map Value.bool with
    | none =>
      rw [hv] at HC
      have HV := Lib.hid hv
      clear hv
      go_wp2_with (go_at_call 98; refine HC.out.mono ?_; rintro e w3 ⟨hq, hk, T, tv, rfl⟩; have HQ3 := Lib.hid (And.intro hq hk); clear hq hk)
      go_ret2
      refine ⟨some t, HF.out, ⟨w0, k, o, hB1, HS2.out.next HQ3.out.1 HQ3.out.2⟩, ?_⟩
      rw [Option.bind_some, HV.out]
      exact ⟨T, tv, rfl⟩
    | some x =>
      rw [hv] at HC
      have HV := Lib.hid hv
      clear hv
      go_wp2_with (go_at_call 98; refine HC.out.mono ?_; rintro e w3 ⟨hq, hk, rfl⟩; have HQ3 := Lib.hid (And.intro hq hk); clear hq hk)
      go_ret2
      refine ⟨some t, HF.out, ⟨w0, k, o, hB1, HS2.out.next HQ3.out.1 HQ3.out.2⟩, ?_⟩
      rw [Option.bind_some, HV.out]
      rfl

end Go.Proofs.YtppkpcijmfdfmaaGreatDoor

/- The walks of HeaderHas, HeaderGetString, HeaderGetStringBytes. -/
namespace Go.Proofs.YtppkpcijmfdfmaaGreatDoor
open Go.RowKit
attribute [local go_sem] B_size B_get B_lit B_ext_to B_ext B_toList B_app

set_option maxRecDepth 100000 in
theorem has_any {G : Env} (hG : G.OK) {B0 B1 hb : Nat} {r : Option J} {wx w : World} (h : HQ G.U B0 B1 r hb wx w) (key : Bs) (hkl : key.length < 4294967290) (hn : Named r key) :
    Calls Tryz.prog 64 #[.iface 171 (.pointer (some ⟨hb, 0, none⟩)), .string (B key)] w fun e w' => ∃ t, FindsR G.U r key t ∧ HQ G.U B0 B1 r hb wx w' ∧ e = .returned (.bool t.isSome) := by
  have HG := Lib.hid (headerGet_or hG h key hkl hn)
  clear h hn
  go_enter Tryz.func64, Tryz.ntmps64
  go_wp2_with (go_at_call 94; refine HG.out.mono ?_; rintro e w2 (⟨T, v, rfl, hf, hq⟩ | ⟨p, t, w0, k, o, j, rfl, hf, hB1, rfl, hs, hrep, hg⟩))
  · go_ret
    exact ⟨none, hf, hq, rfl⟩
  · go_ret
    exact ⟨some t, hf, ⟨w0, k, o, hB1, hs⟩, rfl⟩

/-- The text that a value is. -/
def TxtR (U : Bs → Bs → Prop) (t : Option J) (rr : Option Bs) : Prop :=
  match t with
  | none => rr = none
  | some j => StrOr U j rr
theorem GoodT.txt {U : Bs → Bs → Prop} {j : J} (h : GoodT U j) : ∃ rr, StrOr U j rr := by
  cases j with
  | str s => obtain ⟨out, ho⟩ := h.1 s rfl; exact ⟨some out, out, ho, rfl⟩
  | _ => exact ⟨none, rfl⟩

set_option maxRecDepth 100000 in
theorem getBytes_any {G : Env} (hG : G.OK) {B0 B1 hb : Nat} {r : Option J} {wx w : World} (h : HQ G.U B0 B1 r hb wx w) (key : Bs) (hkl : key.length < 4294967290) (hn : Named r key) :
    Calls Tryz.prog 66 #[.iface 171 (.pointer (some ⟨hb, 0, none⟩)), .string (B key)] w fun e w' => ∃ t rr, FindsR G.U r key t ∧ HQ G.U B0 B1 r hb wx w' ∧ TxtR G.U t rr ∧
      ((∃ out v, rr = some out ∧ e = .returned (.tuple #[v, .nilIface]) ∧ BA w' v out) ∨ (rr = none ∧ ∃ T v, e = .returned (.tuple #[.slice none 0 0, .iface T v]))) := by
  have HG := Lib.hid (headerGet_or hG h key hkl hn)
  clear h hn
  go_enter Tryz.func66, Tryz.ntmps66
  go_wp2_with (go_at_call 94; refine HG.out.mono ?_; rintro e w2 (⟨T, v, rfl, hf, hq⟩ | ⟨p, t, w0, k, o, j, rfl, hf, hB1, rfl, hs, hrep, hg⟩))
  · go_ret2
    exact ⟨none, none, hf, hq, rfl, Or.inr ⟨rfl, _, _, rfl⟩⟩
  · obtain ⟨rr, hrr⟩ := hg.txt
    have HC := Lib.hid (stringBytes_any hG.ug (hs.at hrep hg.1) rr hrr)
    have HS2 := Lib.hid hs
    have HF := Lib.hid (And.intro hf hrr)
    clear hs hrep hg hf hrr
    cases rr with
    | none =>
      go_wp2_with (go_at_call 97; refine HC.out.mono ?_; rintro e w3 ⟨hq, hk, T, tv, rfl⟩; have HQ3 := Lib.hid (And.intro hq hk); clear hq hk)
      go_ret2
      exact ⟨some t, none, HF.out.1, ⟨w0, k, o, hB1, HS2.out.next HQ3.out.1 HQ3.out.2⟩, HF.out.2, Or.inr ⟨rfl, _, _, rfl⟩⟩
    | some out =>
      go_wp2_with (go_at_call 97; refine HC.out.mono ?_; rintro e w3 ⟨hq, hk, v, rfl, hv⟩; have HQ3 := Lib.hid (And.intro hq hk); have HV := Lib.hid hv; clear hq hk hv)
      go_ret2
      exact ⟨some t, some out, HF.out.1, ⟨w0, k, o, hB1, HS2.out.next HQ3.out.1 HQ3.out.2⟩, HF.out.2, Or.inl ⟨out, v, rfl, rfl, HV.out⟩⟩

theorem BA.conv {w : World} {v : Value} {l : Bs} (h : BA w v l) : (convert 27 9 v).run Tryz.prog w = .ok (.string (B l)) w := by
  rcases h with ⟨rfl, rfl⟩ | ⟨b, off, c, rfl, hlt, hc⟩
  · exact run_convert_bytes_nil (P := Tryz.prog) w 27 5 Tryz.underlying27 Tryz.underlying5 0 0 9 Tryz.underlying9
  · have hr := run_convert_bytes_arg (P := Tryz.prog) w 27 5 Tryz.underlying27 Tryz.underlying5 b off l.length c (nums l) (by simp [nums]) (fun i hi => by
      rw [nums_getD l i l[i] (List.getElem?_eq_getElem hi)]; exact hc i _ (List.getElem?_eq_getElem hi)) 9 Tryz.underlying9
    rw [strOfNums_nums] at hr
    exact hr

set_option maxRecDepth 100000 in
theorem getString_any {G : Env} (hG : G.OK) {B0 B1 hb : Nat} {r : Option J} {wx w : World} (h : HQ G.U B0 B1 r hb wx w) (key : Bs) (hkl : key.length < 4294967290) (hn : Named r key) :
    Calls Tryz.prog 65 #[.iface 171 (.pointer (some ⟨hb, 0, none⟩)), .string (B key)] w fun e w' => ∃ t rr, FindsR G.U r key t ∧ HQ G.U B0 B1 r hb wx w' ∧ TxtR G.U t rr ∧
      AnsE (.string (B [])) (rr.map fun out => .string (B out)) e := by
  have HG := Lib.hid (headerGet_or hG h key hkl hn)
  clear h hn
  go_enter Tryz.func65, Tryz.ntmps65
  go_wp2_with (go_at_call 94; refine HG.out.mono ?_; rintro e w2 (⟨T, v, rfl, hf, hq⟩ | ⟨p, t, w0, k, o, j, rfl, hf, hB1, rfl, hs, hrep, hg⟩))
  · go_ret2
    exact ⟨none, none, hf, hq, rfl, T, v, rfl⟩
  · obtain ⟨rr, hrr⟩ := hg.txt
    have HC := Lib.hid (stringBytes_any hG.ug (hs.at hrep hg.1) rr hrr)
    have HS2 := Lib.hid hs
    have HF := Lib.hid (And.intro hf hrr)
    clear hs hrep hg hf hrr
    cases rr with
    | none =>
      go_wp2_with (go_at_call 97; refine HC.out.mono ?_; rintro e w3 ⟨hq, hk, T, tv, rfl⟩; have HQ3 := Lib.hid (And.intro hq hk); clear hq hk)
      go_ret2
      exact ⟨some t, none, HF.out.1, ⟨w0, k, o, hB1, HS2.out.next HQ3.out.1 HQ3.out.2⟩, HF.out.2, T, tv, rfl⟩
    | some out =>
      go_wp2_with (go_at_call 97; refine HC.out.mono ?_; rintro e w3 ⟨hq, hk, v, rfl, hv⟩; have HQ3 := Lib.hid (And.intro hq hk); have hcv := hv.conv; clear hq hk hv)
      go_ret2
      exact ⟨some t, some out, HF.out.1, ⟨w0, k, o, hB1, HS2.out.next HQ3.out.1 HQ3.out.2⟩, HF.out.2, rfl⟩
end Go.Proofs.YtppkpcijmfdfmaaGreatDoor

/- The walk of HeaderGetStringArray. -/
namespace Go.Proofs.YtppkpcijmfdfmaaGreatDoor
open Go.RowKit
attribute [local go_sem] B_size B_get B_lit B_ext_to B_ext B_toList B_app

theorem QI.fresh {U : Bs → Bs → Prop} {w0 wx w : World} {B0 hb : Nat} {root : Nat × Nat} (h : QI U w0 wx B0 hb root w) (hB : B0 ≤ w0.heap.size) {b i : Nat} (v : Value) (hb2 : w0.heap.size ≤ b) (hbx : wx.heap.size ≤ b) : QI U w0 wx B0 hb root (w.setCell ⟨b, i, none⟩ v) := by
  have hne : ∀ {k' o' : Nat}, k' < w0.heap.size → (w.setCell ⟨b, i, none⟩ v).cell? ⟨k', o', none⟩ = w.cell? ⟨k', o', none⟩ := fun hh => cell_other _ _ (by omega)
  refine ⟨below_store h.below _ (by omega), fun o' => (hne h.hlt).trans (h.hdr o'), fun k' o' hk' hs' => (hne hk').trans (h.ptr k' o' hk' hs'), fun k' o' hk' => by simpa using h.free k' o' hk', fun k' o' hk' hs' h5' => ?_, h.hlt, h.hshape,
    below_store h.xb _ (by omega), fun b' h1 h2 => (Below.heap_setCell _ _ _ _ (by simp; omega)).trans (h.new b' h1 h2), h.gnd⟩
  have hn := h.node k' o' hk' hs' h5'
  refine ⟨(hne hk').trans hn.c0, fun hr => (hne hk').trans (hn.c1 hr), (hne hk').trans hn.c2, ?_⟩
  rw [hne hk', hne hk']
  exact hn.c34
theorem HS.new {U : Bs → Bs → Prop} {w0 wx : World} {B0 hb k o : Nat} {j : J} {w : World} (h : HS U w0 wx B0 hb k o j w) {b i : Nat} (v : Value) (hb2 : w0.heap.size ≤ b) (hbx : wx.heap.size ≤ b) : HS U w0 wx B0 hb k o j (w.setCell ⟨b, i, none⟩ v) := by
  refine ⟨h.qi.fresh h.hB v hb2 hbx, h.hB, h.B9, h.err, h.rep, h.h0, h.h1, h.good, fun ms e => ?_⟩
  have hk := h.root.1
  rcases h.obj ms e with ⟨h1, h2, h3, u, h4⟩ | ⟨g, cap, cs, ps, hR, hk, u, hN⟩
  · exact Or.inl ⟨h1, h2, h3, u, (cell_other _ _ (by omega)).trans h4⟩
  · have hg := hR.ghi
    exact Or.inr ⟨g, cap, cs, ps, hR, hk, u, (cell_other _ _ (by omega)).trans hN.flag, fun i s hi => (cell_other _ _ (by omega)).trans (hN.key i s hi), fun i p hi => (cell_other _ _ (by omega)).trans (hN.ptr i p hi)⟩

/-- The list of texts that a value is. -/
def LOr (U : Bs → Bs → Prop) (j : J) (rr : Option (List Bs)) : Prop :=
  match j with
  | .arr ts => (∃ outs, rr = some outs ∧ outs.length = ts.length ∧ ∀ (i : Nat) t o, ts[i]? = some t → outs[i]? = some o → ∃ s, t = .str s ∧ U s o) ∨ (rr = none ∧ ∃ t ∈ ts, ∀ s, t ≠ .str s)
  | _ => rr = none
def LstR (U : Bs → Bs → Prop) (t : Option J) (rr : Option (List Bs)) : Prop :=
  match t with
  | none => rr = none
  | some j => LOr U j rr
/-- A slice of texts. -/
def SL (w : World) (v : Value) (l : List Bs) : Prop :=
  (v = .slice none 0 0 ∧ l = []) ∨ ∃ b c, v = .slice (some ⟨b, 0, none⟩) l.length c ∧ b < w.heap.size ∧ ∀ (i : Nat) s, l[i]? = some s → w.cell? ⟨b, i, none⟩ = some (.string (B s))
def LAns (G : Env) (B0 B1 : Nat) (r : Option J) (hb : Nat) (wx : World) (key : Bs) (e : Ending) (w' : World) : Prop :=
  ∃ t rr, FindsR G.U r key t ∧ HQ G.U B0 B1 r hb wx w' ∧ LstR G.U t rr ∧
    ((∃ outs v, rr = some outs ∧ e = .returned (.tuple #[v, .nilIface]) ∧ SL w' v outs ∧ ∀ k, v.ownBlock = some k → wx.heap.size ≤ k) ∨ (rr = none ∧ ∃ T v, e = .returned (.tuple #[.slice none 0 0, .iface T v])))

theorem info9 : (Tryz.prog.info? 9).map (fun i => (i.zero, i.size, i.bytes)) = some (some (.string ⟨#[]⟩), 1, 16) := by kernel_rfl

/-- The state of the loop. -/
structure LSt (U : Bs → Bs → Prop) (w0 wx : World) (B0 hb k o : Nat) (j : J) (b m : Nat) (ts : List J) (outs : List Bs) (w : World) : Prop where
  hs : HS U w0 wx B0 hb k o j w
  lo : w0.heap.size ≤ b
  xlo : wx.heap.size ≤ b
  hi : b < w.heap.size
  ok : ∀ (i : Nat) t o, ts[i]? = some t → outs[i]? = some o → ∃ s, t = .str s ∧ U s o
  row : ∀ (i : Nat) s, outs[i]? = some s → w.cell? ⟨b, i, none⟩ = some (.string (B s))
  any : ∀ i, i < m → ∃ v, w.cell? ⟨b, i, none⟩ = some v ∧ w.frozen? ⟨b, i, none⟩ = false

set_option maxHeartbeats 2000000 in
set_option maxRecDepth 100000 in
theorem getList_any {G : Env} (hG : G.OK) {B0 B1 hb : Nat} {r : Option J} {wx w : World} (h : HQ G.U B0 B1 r hb wx w) (key : Bs) (hkl : key.length < 4294967290) (hn : Named r key) :
    Calls Tryz.prog 70 #[.iface 171 (.pointer (some ⟨hb, 0, none⟩)), .string (B key)] w (LAns G B0 B1 r hb wx key) := by
  have HG := Lib.hid (headerGet_or hG h key hkl hn)
  clear h hn
  go_enter Tryz.func70, Tryz.ntmps70
  go_wp2_with (go_at_call 94; refine HG.out.mono ?_; rintro e w2 (⟨T, v, rfl, hf, hq⟩ | ⟨p, t, w0, k, o, j, rfl, hf, hB1, rfl, hs, hrep, hg⟩))
  · go_ret2
    exact ⟨none, none, hf, hq, rfl, Or.inr ⟨rfl, _, _, rfl⟩⟩
  · have HC := Lib.hid (array_any (hs.at hrep hg.1))
    have HS2 := Lib.hid hs
    have HF := Lib.hid hf
    have HGT := Lib.hid hg
    clear hs hrep hg hf
    by_cases ha : ∃ ts, t = .arr ts
    · obtain ⟨ts, rfl⟩ := ha
      have HC2 : Hid (Calls Tryz.prog 101 #[.pointer (some ⟨p.1, p.2, none⟩)] w2 fun e w' => ∃ (ad : Option Addr) (c : Nat) (ps : List (Nat × Nat)), e = .returned (.tuple #[.slice ad ps.length c, .nilIface]) ∧ HS G.U w0 wx B0 hb k o j w' ∧ ps.length = ts.length ∧
          (∀ (i : Nat) p, ps[i]? = some p → ∃ g, ad = some ⟨g, 0, none⟩ ∧ ∀ w, QI G.U w0 wx B0 hb (k, o) w → w.cell? ⟨g, i, none⟩ = some (.pointer (some ⟨p.1, p.2, none⟩))) ∧
          ∀ (i : Nat) p t, ps[i]? = some p → ts[i]? = some t → RepV w0 (SQ w0 B0 hb) p.1 p.2 t) := by
        refine HC.out.mono ?_
        rintro e w3 ⟨hq, hk, av, ps, he, hl, hp, hkid⟩
        rcases hp with ⟨rfl, rfl⟩ | ⟨g, cap, rfl, h1, hp⟩
        · exact ⟨none, 0, [], he, HS2.out.next hq hk, hl, fun i p hi => by simp at hi, hkid⟩
        · exact ⟨some ⟨g, 0, none⟩, cap, ps, he, HS2.out.next hq hk, hl, fun i p hi => ⟨g, rfl, fun w hw => hp w hw i p hi⟩, hkid⟩
      have HTL := Lib.hid (HGT.out.2 ts rfl).1
      have HTS := Lib.hid (HGT.out.2 ts rfl).2
      obtain ⟨i9, hi, hz0, hz1, hz2⟩ := info_parts info9
      have HMK : Hid (∀ (n : Nat) w, n < 4294967296 → (Instr.makeSlice 29 (.int .i64 n) (.int .i64 n)).run Tryz.prog w = .ok (.slice (some ⟨w.heap.size, 0, none⟩) n n) (w.alloc (.cells (madeCells (Value.string (B [])).cells n) 9))) := by
        intro n w hn
        have := run_make (P := Tryz.prog) w 29 9 i9 (.string (B [])) Tryz.underlying29 hi hz0 .i64 .i64 n n (by omega) (Int.le_refl _) (by rw [hz2]; omega) (by omega)
        rw [hz1] at this
        simpa using this
      clear HC hi hz0 hz1 hz2 HGT
      go_wp2_with (go_at_call 101; refine HC2.out.mono ?_; rintro e w3 ⟨ad, c, ps, rfl, hs3, hl, hp, hkid⟩; have HS3 := Lib.hid hs3; have HL := Lib.hid hl; have HP := Lib.hid hp; have HKID := Lib.hid hkid; have hmk := HMK.out ps.length w3 (by rw [hl]; exact HTL.out); clear hs3 hl hp hkid)
      clear hmk
      have hlen : ps.length < 4294967296 := by rw [HL.out]; exact HTL.out
      go_loopw [36] (fun q wr => ∃ (n : Nat) (outs : List Bs), n ≤ ps.length ∧ outs.length = n ∧ Hid (LSt G.U w0 wx B0 hb k o j w3.heap.size ps.length ts outs wr) ∧ q = .int .i64 n) (fun q _ => ps.length - (intOf q).toNat)
      case atStart =>
        have hb : Below w3.heap.size w3 (w3.alloc (.cells (madeCells (Value.string (B [])).cells ps.length) 9)) := (Below.refl _ _).alloc (Nat.le_refl _) _
        refine ⟨0, [], by omega, rfl, ⟨HS3.out.later hb, HS3.out.qi.below.size, HS3.out.qi.xb.size, by simp, fun i t o _ h => by simp at h, fun i s h => by simp at h, fun i hi => ?_⟩, rfl⟩
        have hsz : i < (madeCells (Value.string (B [])).cells ps.length).size := by rw [size_madeCells]; exact hi
        have hc := cell_new w3 (madeCells (Value.string (B [])).cells ps.length) 9 i
        rw [Addr.add_lit, Nat.zero_add, Array.getElem?_eq_getElem hsz] at hc
        exact ⟨_, hc, by simp⟩
      case round =>
        obtain ⟨n, outs, hn, ho, HS, rfl⟩ := hrel
        by_cases hlt : n < ps.length
        · obtain ⟨g, rfl, hg⟩ := HP.out n ps[n] (List.getElem?_eq_getElem hlt)
          have hpc := hg wr HS.out.hs.qi
          obtain ⟨v, hvc, hvf⟩ := HS.out.any n hlt
          have hnt : n < ts.length := by have := HL.out; omega
          clear hg
          have hr := HKID.out n ps[n] ts[n] (List.getElem?_eq_getElem hlt) (List.getElem?_eq_getElem hnt)
          have hat := HS.out.hs.at hr (fun s' e => HTS.out s' (e ▸ List.getElem_mem hnt))
          by_cases hst : ∃ s, ts[n] = .str s
          · obtain ⟨s, hst⟩ := hst
            obtain ⟨out, hu⟩ := HTS.out s (hst ▸ List.getElem_mem hnt)
            have HC : Hid (Calls Tryz.prog 97 #[.pointer (some ⟨ps[n].1, ps[n].2, none⟩)] wr fun e w' => ∃ v, e = .returned (.tuple #[v, .nilIface]) ∧ BA w' v out ∧ LSt G.U w0 wx B0 hb k o j w3.heap.size ps.length ts outs w') := by
              refine (stringBytes_any hG.ug hat (some out) (by rw [hst]; exact ⟨out, hu, rfl⟩)).mono ?_
              rintro e w4 ⟨hq, hk, v, he, hba⟩
              have hblk := hk.new w3.heap.size HS.out.lo HS.out.hi
              refine ⟨v, he, hba, HS.out.hs.next hq hk, HS.out.lo, HS.out.xlo, Nat.lt_of_lt_of_le HS.out.hi hk.size, HS.out.ok, fun i s hi => (World.cell?_of_block (a := ⟨w3.heap.size, i, none⟩) hblk).trans (HS.out.row i s hi), fun i hi => ?_⟩
              obtain ⟨v, h1, h2⟩ := HS.out.any i hi
              exact ⟨v, (World.cell?_of_block (a := ⟨w3.heap.size, i, none⟩) hblk).trans h1, (World.frozen?_of_block (a := ⟨w3.heap.size, i, none⟩) hblk).trans h2⟩
            have HU2 : Hid (∀ w', LSt G.U w0 wx B0 hb k o j w3.heap.size ps.length ts outs w' → LSt G.U w0 wx B0 hb k o j w3.heap.size ps.length ts (outs ++ [out]) (w'.setCell ⟨w3.heap.size, n, none⟩ (.string (B out)))) := by
              intro w' h
              obtain ⟨v0, h1, h2⟩ := h.any n hlt
              refine ⟨h.hs.new _ h.lo h.xlo, h.lo, h.xlo, by simpa using h.hi, fun i t o' ht' ho' => ?_, fun i s' hi => ?_, fun i hi => ?_⟩
              · by_cases e : i < n
                · rw [List.getElem?_append_left (by omega)] at ho'
                  exact h.ok i t o' ht' ho'
                · rw [List.getElem?_append_right (by omega)] at ho'
                  obtain rfl : i = n := by
                    have := (List.getElem?_eq_some_iff.1 ho').1
                    simp at this; omega
                  simp [ho] at ho'
                  subst ho'
                  rw [List.getElem?_eq_getElem hnt] at ht'
                  cases ht'
                  exact ⟨s, hst, hu⟩
              · by_cases e : i < n
                · rw [List.getElem?_append_left (by omega)] at hi
                  exact (cell_other _ _ (by omega)).trans (h.row i s' hi)
                · rw [List.getElem?_append_right (by omega)] at hi
                  obtain rfl : i = n := by
                    have := (List.getElem?_eq_some_iff.1 hi).1
                    simp at this; omega
                  simp [ho] at hi
                  subst hi
                  exact World.cell?_setCell_same _ _ _ h1
              · by_cases e : i = n
                · subst e
                  exact ⟨_, World.cell?_setCell_same _ _ _ h1, by simpa using h2⟩
                · obtain ⟨v1, h3, h4⟩ := h.any i hi
                  exact ⟨v1, (cell_other _ _ (by omega)).trans h3, by simpa using h4⟩
            clear hr hu hst hat
            go_wp2_with (go_at_call 97; refine HC.out.mono ?_; rintro e w4 ⟨v4, rfl, hba, hls⟩; have hcv := hba.conv; obtain ⟨v5, hvc4, hvf4⟩ := hls.any n hlt; have HLS := Lib.hid hls; clear hba hls)
            go_roundw
            case rel => exact ⟨n + 1, outs ++ [out], by omega, by simp [ho], HU2.out _ HLS.out, by go_num⟩
            case measure => simp [intOf]; omega
          · have HC := Lib.hid (stringBytes_any hG.ug hat none (by cases h : ts[n] with | str s => exact absurd ⟨s, h⟩ hst | _ => rfl))
            clear hr hat
            go_wp2_with (go_at_call 97; refine HC.out.mono ?_; rintro e w4 ⟨hq, hk, T, tv, rfl⟩; have HQ4 := Lib.hid (And.intro hq hk); clear hq hk)
            go_ret2
            exact ⟨some (.arr ts), none, HF.out, ⟨w0, k, o, hB1, HS.out.hs.next HQ4.out.1 HQ4.out.2⟩, Or.inr ⟨rfl, ts[n], List.getElem_mem hnt, fun s e => hst ⟨s, e⟩⟩, Or.inr ⟨rfl, _, _, rfl⟩⟩
        · obtain rfl : n = ps.length := by omega
          go_wp2
          go_ret2
          refine ⟨some (.arr ts), some outs, HF.out, ⟨w0, k, o, hB1, HS.out.hs⟩, Or.inl ⟨outs, rfl, by rw [ho, HL.out], HS.out.ok⟩, Or.inl ⟨outs, .slice (some ⟨w3.heap.size, 0, none⟩) ps.length ps.length, rfl, rfl, Or.inr ⟨w3.heap.size, ps.length, by rw [ho], HS.out.hi, HS.out.row⟩, fun k hk => by cases hk; exact HS.out.xlo⟩⟩
    · have HN : Hid (∀ ts, t ≠ .arr ts) := fun ts e => ha ⟨ts, e⟩
      have HC2 : Hid (Calls Tryz.prog 101 #[.pointer (some ⟨p.1, p.2, none⟩)] w2 fun e w' => HS G.U w0 wx B0 hb k o j w' ∧ LOr G.U t none ∧ ∃ T v, e = .returned (.tuple #[.slice none 0 0, .iface T v])) := by
        refine HC.out.mono ?_
        rintro e w3 ⟨hq, hk, he⟩
        cases t with
        | arr ts => exact absurd rfl (HN.out ts)
        | _ => exact ⟨HS2.out.next hq hk, rfl, he⟩
      clear HC ha
      go_wp2_with (go_at_call 101; refine HC2.out.mono ?_; rintro e w3 ⟨hs3, hl, T, v, rfl⟩)
      go_ret2
      exact ⟨some t, none, HF.out, ⟨w0, k, o, hB1, hs3⟩, hl, Or.inr ⟨rfl, _, _, rfl⟩⟩
end Go.Proofs.YtppkpcijmfdfmaaGreatDoor
