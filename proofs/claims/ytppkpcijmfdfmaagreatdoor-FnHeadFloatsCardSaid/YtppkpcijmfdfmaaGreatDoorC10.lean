/- The walk of Object.Get. -/
import Derived.Test.YtppkpcijmfdfmaaGreatDoorC9
set_option linter.unusedVariables false
set_option linter.unusedSimpArgs false
namespace Go.Proofs.YtppkpcijmfdfmaaGreatDoor
open Go.RowKit
attribute [local go_sem] B_size B_get B_lit B_ext_to B_ext B_toList B_app

theorem unescapeKeys_done {k o : Nat} {w : World} (c1 : w.cell? ⟨k, o + 1, none⟩ = some (.bool true)) :
    Calls Tryz.prog 132 #[.pointer (some ⟨k, o, none⟩)] w fun e w' => e = .returned (.tuple #[]) ∧ w = w' := by
  go_enter Tryz.func132, Tryz.ntmps132
  go_wp2
  (try simp only [Exit.inBlock, Exit.then]); refine bodyPost_ret (results_none rfl _ _ _) rfl ?_
  exact ⟨rfl, rfl⟩

/-- Where a key stands first. -/
def kFind (cs : List Bs) (key : Bs) : Option Nat := cs.findIdx? (· == key)
def ptrAt (ps : List (Nat × Nat)) : Option Nat → Option Addr
  | some i => (ps[i]?).map fun p => ⟨p.1, p.2, none⟩
  | none => none

theorem kFind_some {cs : List Bs} {key : Bs} {n : Nat} (h : cs[n]? = some key) (hm : ∀ m, m < n → cs[m]? ≠ some key) : kFind cs key = some n := by
  unfold kFind
  rw [List.findIdx?_eq_some_iff_getElem]
  obtain ⟨hlt, he⟩ := List.getElem?_eq_some_iff.1 h
  refine ⟨hlt, by simp [he], fun j hj => ?_⟩
  have := hm j hj
  rw [List.getElem?_eq_getElem (by omega)] at this
  simpa using this
theorem kFind_none {cs : List Bs} {key : Bs} (h : ∀ m : Nat, cs[m]? ≠ some key) : kFind cs key = none := by
  unfold kFind
  rw [List.findIdx?_eq_none_iff]
  intro x hx
  obtain ⟨m, hm⟩ := List.mem_iff_getElem?.1 hx
  have := h m
  rw [hm] at this
  simpa using this

/-- What Object.Get says. -/
def GetP (U : Bs → Bs → Prop) (w0 wx : World) (B0 hb k o g : Nat) (rs cs : List Bs) (ps : List (Nat × Nat)) (key : Bs) (e : Ending) (w' : World) : Prop :=
  e = .returned (.pointer (ptrAt ps (kFind cs key))) ∧ QI U w0 wx B0 hb (k, o) w' ∧ ∃ u, ObjN k o g u (if u then cs else rs) ps w'

set_option maxHeartbeats 2000000 in
set_option maxRecDepth 100000 in
theorem get_done {U : Bs → Bs → Prop} {w0 wx w : World} {B0 hb k o g cap : Nat} {rs cs : List Bs} {ps : List (Nat × Nat)} (hR : ObjR U w0 B0 hb k o g cap rs cs ps) (hQ : QI U w0 wx B0 hb (k, o) w) (hN : ObjN k o g true cs ps w) (key : Bs) (hk : key.length < 4294967296) :
    Calls Tryz.prog 117 #[.pointer (some ⟨k, o, none⟩), .string (B key)] w (GetP U w0 wx B0 hb k o g rs cs ps key) := by
  have c0 : w.cell? ⟨k, o, none⟩ = some (.slice (some ⟨g, 0, none⟩) ps.length cap) := ((hQ.node k o hR.khi hR.ks hR.k5).c0).trans hR.c0
  have c1 := hN.flag
  have HD := Lib.hid (unescapeKeys_done (w := w) c1)
  have HR := Lib.hid hR
  have HQ := Lib.hid hQ
  have HN := Lib.hid hN
  have hlen := hR.len
  clear hR hQ hN
  go_enter Tryz.func117, Tryz.ntmps117
  go_wp2_with (go_at_call 132; refine HD.out.mono ?_; rintro e w' ⟨rfl, rfl⟩)
  go_loop [52] (fun q => ∃ n : Nat, n ≤ ps.length ∧ Hid (∀ m, m < n → cs[m]? ≠ some key) ∧ q = .int .i64 n) (fun q => ps.length - (intOf q).toNat)
  case atStart => exact ⟨0, by omega, fun m hm => by omega, rfl⟩
  case round =>
    obtain ⟨n, hn, HS, rfl⟩ := hrel
    by_cases hlt : n < ps.length
    · have hnc : n < cs.length := by have := HR.out.clen; omega
      have hkey := HN.out.key n cs[n] (List.getElem?_eq_getElem hnc)
      have hptr := HN.out.ptr n ps[n] (List.getElem?_eq_getElem hlt)
      by_cases he : cs[n] = key
      · have HF : Hid (kFind cs key = some n) := kFind_some (by rw [List.getElem?_eq_getElem hnc, he]) HS.out
        rw [he] at hkey
        clear he
        go_wp2
        go_ret
        refine ⟨by rw [HF.out]; simp [ptrAt, List.getElem?_eq_getElem hlt], HQ.out, true, by simpa using HN.out⟩
      · have HF : Hid (∀ m, m < n + 1 → cs[m]? ≠ some key) := by
          intro m hm
          by_cases e : m = n
          · subst e; rw [List.getElem?_eq_getElem hnc]; simpa using he
          · exact HS.out m (by omega)
        have hb : (cs[n] == key) = false := by rw [beq_eq_false_iff_ne]; exact he
        clear HS
        go_wp2
        go_round
        case rel => exact ⟨n + 1, by omega, HF, by go_num⟩
        case measure => simp [intOf]; omega
    · obtain rfl : n = ps.length := by omega
      have HF : Hid (kFind cs key = none) := by
        refine kFind_none fun m hm => ?_
        have := HR.out.clen
        exact HS.out m (by have := (List.getElem?_eq_some_iff.1 hm).1; omega) hm
      clear HS
      go_wp2
      go_ret
      exact ⟨by rw [HF.out]; rfl, HQ.out, true, by simpa using HN.out⟩

set_option maxHeartbeats 2000000 in
set_option maxRecDepth 100000 in
theorem get_esc {U : Bs → Bs → Prop} (HU : UG U) {w0 wx w : World} {B0 hb k o g cap : Nat} {rs cs : List Bs} {ps : List (Nat × Nat)} (hR : ObjR U w0 B0 hb k o g cap rs cs ps) (hQ : QI U w0 wx B0 hb (k, o) w) (hN : ObjN k o g false rs ps w) (key : Bs) (hk : key.length < 4294967296)
    (hesc : (92 : UInt8) ∈ key) :
    Calls Tryz.prog 117 #[.pointer (some ⟨k, o, none⟩), .string (B key)] w (GetP U w0 wx B0 hb k o g rs cs ps key) := by
  have c0 : w.cell? ⟨k, o, none⟩ = some (.slice (some ⟨g, 0, none⟩) ps.length cap) := ((hQ.node k o hR.khi hR.ks hR.k5).c0).trans hR.c0
  have c1 := hN.flag
  have HD := Lib.hid (unescapeKeys_any HU hR hQ hN)
  have HI := Lib.hid (index_esc_some key hesc w)
  have HR := Lib.hid hR
  have hlen := hR.len
  clear hR hQ hN hesc
  go_enter Tryz.func117, Tryz.ntmps117
  go_wp2_with (first
  | (go_at_call 131; refine HI.out.mono ?_; rintro e w' ⟨rfl, a, r, ha, hb, rfl⟩; clear ha hb; have hnn : (((a.length : Nat) : Int) < 0) = False := by simp)
  | (go_at_call 132; refine HD.out.mono ?_; rintro e w2 ⟨rfl, hQ2, hN2⟩; have c0 : w2.cell? ⟨k, o, none⟩ = some (.slice (some ⟨g, 0, none⟩) ps.length cap) := ((hQ2.node k o HR.out.khi HR.out.ks HR.out.k5).c0).trans HR.out.c0; have HQ2 := Lib.hid hQ2; have HN2 := Lib.hid hN2; clear hQ2 hN2))
  go_loop [52] (fun q => ∃ n : Nat, n ≤ ps.length ∧ Hid (∀ m, m < n → cs[m]? ≠ some key) ∧ q = .int .i64 n) (fun q => ps.length - (intOf q).toNat)
  case atStart => exact ⟨0, by omega, fun m hm => by omega, rfl⟩
  case round =>
    obtain ⟨n, hn, HS, rfl⟩ := hrel
    by_cases hlt : n < ps.length
    · have hnc : n < cs.length := by have := HR.out.clen; omega
      have hkey := HN2.out.key n cs[n] (List.getElem?_eq_getElem hnc)
      have hptr := HN2.out.ptr n ps[n] (List.getElem?_eq_getElem hlt)
      by_cases he : cs[n] = key
      · have HF : Hid (kFind cs key = some n) := kFind_some (by rw [List.getElem?_eq_getElem hnc, he]) HS.out
        rw [he] at hkey
        clear he
        go_wp2
        go_ret
        refine ⟨by rw [HF.out]; simp [ptrAt, List.getElem?_eq_getElem hlt], HQ2.out, true, by simpa using HN2.out⟩
      · have HF : Hid (∀ m, m < n + 1 → cs[m]? ≠ some key) := by
          intro m hm
          by_cases e : m = n
          · subst e; rw [List.getElem?_eq_getElem hnc]; simpa using he
          · exact HS.out m (by omega)
        have hb : (cs[n] == key) = false := by rw [beq_eq_false_iff_ne]; exact he
        clear HS
        go_wp2
        go_round
        case rel => exact ⟨n + 1, by omega, HF, by go_num⟩
        case measure => simp [intOf]; omega
    · obtain rfl : n = ps.length := by omega
      have HF : Hid (kFind cs key = none) := by
        refine kFind_none fun m hm => ?_
        have := HR.out.clen
        exact HS.out m (by have := (List.getElem?_eq_some_iff.1 hm).1; omega) hm
      clear HS
      go_wp2
      go_ret
      exact ⟨by rw [HF.out]; rfl, HQ2.out, true, by simpa using HN2.out⟩

set_option maxHeartbeats 4000000 in
set_option maxRecDepth 100000 in
theorem get_raw {U : Bs → Bs → Prop} (HU : UG U) {w0 wx w : World} {B0 hb k o g cap : Nat} {rs cs : List Bs} {ps : List (Nat × Nat)} (hR : ObjR U w0 B0 hb k o g cap rs cs ps) (hQ : QI U w0 wx B0 hb (k, o) w) (hN : ObjN k o g false rs ps w) (key : Bs) (hk : key.length < 4294967296)
    (hesc : (92 : UInt8) ∉ key) (hal : ∀ (i j : Nat) c, cs[i]? = some c → cs[j]? = some c → rs[i]? = rs[j]?) :
    Calls Tryz.prog 117 #[.pointer (some ⟨k, o, none⟩), .string (B key)] w (GetP U w0 wx B0 hb k o g rs cs ps key) := by
  have c0 : w.cell? ⟨k, o, none⟩ = some (.slice (some ⟨g, 0, none⟩) ps.length cap) := ((hQ.node k o hR.khi hR.ks hR.k5).c0).trans hR.c0
  have c1 := hN.flag
  have HD := Lib.hid (unescapeKeys_any HU hR hQ hN)
  have HI := Lib.hid (index_esc_none key hesc w)
  have HP := Lib.hid (HU.plain key hesc)
  have HAL := Lib.hid hal
  have HR := Lib.hid hR
  have HQ := Lib.hid hQ
  have HN := Lib.hid hN
  have hlen := hR.len
  clear hR hQ hN hesc hal
  go_enter Tryz.func117, Tryz.ntmps117
  go_wp2_with (go_at_call 131; refine HI.out.mono ?_; rintro e w' ⟨rfl, rfl⟩)
  go_loop [27] (fun q => ∃ n : Nat, n ≤ ps.length ∧ Hid (∀ m, m < n → rs[m]? ≠ some key) ∧ q = .int .i64 n) (fun q => ps.length - (intOf q).toNat)
  case atStart => exact ⟨0, by omega, fun m hm => by omega, rfl⟩
  case round =>
    obtain ⟨n, hn, HS, rfl⟩ := hrel
    by_cases hlt : n < ps.length
    · have hnc : n < rs.length := by have := HR.out.rlen; omega
      have hkey := HN.out.key n rs[n] (List.getElem?_eq_getElem hnc)
      have hptr := HN.out.ptr n ps[n] (List.getElem?_eq_getElem hlt)
      by_cases he : rs[n] = key
      · have HF : Hid (kFind cs key = some n) := by
          have hc : n < cs.length := by have := HR.out.clen; omega
          have h1 : cs[n] = key := HU.fn _ _ _ (HR.out.cook n rs[n] cs[n] (List.getElem?_eq_getElem hnc) (List.getElem?_eq_getElem hc)) (by rw [he]; exact HP.out)
          refine kFind_some (by rw [List.getElem?_eq_getElem hc, h1]) fun m hm hm2 => ?_
          have := HAL.out m n key hm2 (by rw [List.getElem?_eq_getElem hc, h1])
          rw [List.getElem?_eq_getElem hnc, he] at this
          exact HS.out m hm this
        rw [he] at hkey
        clear he HS
        go_wp2
        go_ret
        refine ⟨by rw [HF.out]; simp [ptrAt, List.getElem?_eq_getElem hlt], HQ.out, false, by simpa using HN.out⟩
      · have HF : Hid (∀ m, m < n + 1 → rs[m]? ≠ some key) := by
          intro m hm
          by_cases e : m = n
          · subst e; rw [List.getElem?_eq_getElem hnc]; simpa using he
          · exact HS.out m (by omega)
        have hb : (rs[n] == key) = false := by rw [beq_eq_false_iff_ne]; exact he
        clear HS
        go_wp2
        go_round
        case rel => exact ⟨n + 1, by omega, HF, by go_num⟩
        case measure => simp [intOf]; omega
    · clear HS
      go_wp2_with (go_at_call 132; refine HD.out.mono ?_; rintro e w2 ⟨rfl, hQ2, hN2⟩; have c0 : w2.cell? ⟨k, o, none⟩ = some (.slice (some ⟨g, 0, none⟩) ps.length cap) := ((hQ2.node k o HR.out.khi HR.out.ks HR.out.k5).c0).trans HR.out.c0; have HQ2 := Lib.hid hQ2; have HN2 := Lib.hid hN2; clear hQ2 hN2)
      go_loop [52] (fun q => ∃ n : Nat, n ≤ ps.length ∧ Hid (∀ m, m < n → cs[m]? ≠ some key) ∧ q = .int .i64 n) (fun q => ps.length - (intOf q).toNat)
      case atStart => exact ⟨0, by omega, fun m hm => by omega, rfl⟩
      case round =>
        obtain ⟨n, hn, HS, rfl⟩ := hrel
        by_cases hlt : n < ps.length
        · have hnc : n < cs.length := by have := HR.out.clen; omega
          have hkey := HN2.out.key n cs[n] (List.getElem?_eq_getElem hnc)
          have hptr := HN2.out.ptr n ps[n] (List.getElem?_eq_getElem hlt)
          by_cases he : cs[n] = key
          · have HF : Hid (kFind cs key = some n) := kFind_some (by rw [List.getElem?_eq_getElem hnc, he]) HS.out
            rw [he] at hkey
            clear he
            go_wp2
            go_ret
            refine ⟨by rw [HF.out]; simp [ptrAt, List.getElem?_eq_getElem hlt], HQ2.out, true, by simpa using HN2.out⟩
          · have HF : Hid (∀ m, m < n + 1 → cs[m]? ≠ some key) := by
              intro m hm
              by_cases e : m = n
              · subst e; rw [List.getElem?_eq_getElem hnc]; simpa using he
              · exact HS.out m (by omega)
            have hb : (cs[n] == key) = false := by rw [beq_eq_false_iff_ne]; exact he
            clear HS
            go_wp2
            go_round
            case rel => exact ⟨n + 1, by omega, HF, by go_num⟩
            case measure => simp [intOf]; omega
        · obtain rfl : n = ps.length := by omega
          have HF : Hid (kFind cs key = none) := by
            refine kFind_none fun m hm => ?_
            have := HR.out.clen
            exact HS.out m (by have := (List.getElem?_eq_some_iff.1 hm).1; omega) hm
          clear HS
          go_wp2
          go_ret
          exact ⟨by rw [HF.out]; rfl, HQ2.out, true, by simpa using HN2.out⟩
end Go.Proofs.YtppkpcijmfdfmaaGreatDoor

/- The walks of Value.Get and of the header's own get. -/
namespace Go.Proofs.YtppkpcijmfdfmaaGreatDoor
open Go.RowKit
attribute [local go_sem] B_size B_get B_lit B_ext_to B_ext B_toList B_app

/-- The raw texts that may be asked for can be unescaped. -/
def GoodT (U : Bs → Bs → Prop) (j : J) : Prop := (∀ s, j = .str s → ∃ out, U s out) ∧ ∀ ts, j = .arr ts → ts.length < 4294967296 ∧ ∀ s, J.str s ∈ ts → ∃ out, U s out
/-- The same of an object's members; keys that are one when unescaped are one. -/
structure Good (U : Bs → Bs → Prop) (j : J) : Prop where
  keys : ∀ ms, j = .obj ms → ∀ m ∈ ms, ∃ c, U m.1 c
  kids : ∀ ms, j = .obj ms → ∀ m ∈ ms, GoodT U m.2
  alike : ∀ ms, j = .obj ms → ∀ m ∈ ms, ∀ m' ∈ ms, ∀ c, U m.1 c → U m'.1 c → m.1 = m'.1
  few : ∀ ms, j = .obj ms → ms.length < 4294967296

/-- The member with a name. -/
def Finds (U : Bs → Bs → Prop) (ms : List (Bs × J)) (key : Bs) (r : Option J) : Prop :=
  match r with
  | some t => ∃ (i : Nat) (m : Bs × J), ms[i]? = some m ∧ U m.1 key ∧ m.2 = t ∧ ∀ (i' : Nat) (m' : Bs × J), i' < i → ms[i']? = some m' → ¬ U m'.1 key
  | none => ∀ m ∈ ms, ¬ U m.1 key

/-- An object's state. -/
def ObjS (U : Bs → Bs → Prop) (w0 : World) (B0 hb k o : Nat) (ms : List (Bs × J)) (w : World) : Prop :=
  (ms = [] ∧ w0.cell? ⟨k, o, none⟩ = some (.slice none 0 0) ∧ w0.frozen? ⟨k, o + 1, none⟩ = false ∧ ∃ u, w.cell? ⟨k, o + 1, none⟩ = some (.bool u)) ∨
  ∃ g cap cs ps, ObjR U w0 B0 hb k o g cap (ms.map (·.1)) cs ps ∧ (∀ (i : Nat) p m, ps[i]? = some p → ms[i]? = some m → RepV w0 (SQ w0 B0 hb) p.1 p.2 m.2) ∧
    ∃ u, ObjN k o g u (if u then cs else ms.map (·.1)) ps w

/-- A header that is asked: what it was read as, and what is the matter with it now. -/
structure HS (U : Bs → Bs → Prop) (w0 wx : World) (B0 hb k o : Nat) (j : J) (w : World) : Prop where
  qi : QI U w0 wx B0 hb (k, o) w
  hB : B0 ≤ w0.heap.size
  B9 : 9 < B0
  err : ErrV w0
  rep : RepV w0 (SQ w0 B0 hb) k o j
  h0 : w0.cell? ⟨hb, 0, none⟩ = some (.pointer (some ⟨k, o, none⟩))
  h1 : w0.cell? ⟨hb, 1, none⟩ = some .nilIface
  good : Good U j
  obj : ∀ ms, j = .obj ms → ObjS U w0 B0 hb k o ms w

theorem ObjS.kq {U : Bs → Bs → Prop} {w0 : World} {B0 hb k o : Nat} {ms : List (Bs × J)} {w w' : World} (h : ObjS U w0 B0 hb k o ms w) (hq : Kq w0 (k, o) w w') : ObjS U w0 B0 hb k o ms w' := by
  rcases h with ⟨h1, h2, h3, u, h4⟩ | ⟨g, cap, cs, ps, hR, hk, u, hN⟩
  · exact Or.inl ⟨h1, h2, h3, u, hq.flag.trans h4⟩
  · exact Or.inr ⟨g, cap, cs, ps, hR, hk, u, hN.kq hq hR.ghi hR.gs⟩
theorem HS.next {U : Bs → Bs → Prop} {w0 wx : World} {B0 hb k o : Nat} {j : J} {w w' : World} (h : HS U w0 wx B0 hb k o j w) (hq : QI U w0 wx B0 hb (k, o) w') (hk : Kq w0 (k, o) w w') : HS U w0 wx B0 hb k o j w' :=
  ⟨hq, h.hB, h.B9, h.err, h.rep, h.h0, h.h1, h.good, fun ms e => (h.obj ms e).kq hk⟩
theorem HS.root {U : Bs → Bs → Prop} {w0 wx : World} {B0 hb k o : Nat} {j : J} {w : World} (h : HS U w0 wx B0 hb k o j w) : k < w0.heap.size ∧ (w0.shape? k).map (·.1) = some 185 ∧ o % 5 = 0 ∧ B0 ≤ k := by
  obtain ⟨a0, a1, a2, a3, t, hvn, _⟩ := h.rep.vn
  exact ⟨(hvn.sure 0 (by omega)).2.1, hvn.shape, hvn.five, (hvn.sure 0 (by omega)).1⟩
theorem HS.later {U : Bs → Bs → Prop} {w0 wx : World} {B0 hb k o : Nat} {j : J} {w w' : World} (h : HS U w0 wx B0 hb k o j w) (hb' : Below w.heap.size w w') : HS U w0 wx B0 hb k o j w' :=
  h.next (h.qi.later h.hB hb') (Kq.below h.qi.below.size h.root.1 hb')
theorem HS.at {U : Bs → Bs → Prop} {w0 wx : World} {B0 hb k o : Nat} {j : J} {w : World} (h : HS U w0 wx B0 hb k o j w) {k' o' : Nat} {t : J} (ht : RepV w0 (SQ w0 B0 hb) k' o' t) (hs : ∀ s, t = .str s → ∃ out, U s out) : At U w0 wx B0 hb (k, o) k' o' t w :=
  ⟨h.qi, h.hB, h.root.1, h.root.2.1, h.root.2.2.1, ht, hs⟩

/-- What Object.Get says. -/
def OGet (U : Bs → Bs → Prop) (w0 wx : World) (B0 hb k o : Nat) (ms : List (Bs × J)) (key : Bs) (e : Ending) (w' : World) : Prop :=
  HS U w0 wx B0 hb k o (.obj ms) w' ∧
    ((e = .returned (.pointer none) ∧ Finds U ms key none) ∨ ∃ (p : Nat × Nat) (t : J), e = .returned (.pointer (some ⟨p.1, p.2, none⟩)) ∧ Finds U ms key (some t) ∧ RepV w0 (SQ w0 B0 hb) p.1 p.2 t ∧ GoodT U t)

/-- An empty object's keys. -/
theorem unescape_empty {k o : Nat} {w : World} {u : Bool} (c0 : w.cell? ⟨k, o, none⟩ = some (.slice none 0 0)) (c1 : w.cell? ⟨k, o + 1, none⟩ = some (.bool u)) (f1 : w.frozen? ⟨k, o + 1, none⟩ = false) :
    Calls Tryz.prog 132 #[.pointer (some ⟨k, o, none⟩)] w fun e w' => e = .returned (.tuple #[]) ∧ (w = w' ∨ w.setCell ⟨k, o + 1, none⟩ (.bool true) = w') := by
  cases u with
  | true => exact (unescapeKeys_done c1).mono fun e w' h => ⟨h.1, Or.inl h.2⟩
  | false =>
    go_enter Tryz.func132, Tryz.ntmps132
    go_wp2
    refine wp_loop_once ?_
    go_wp2
    go_end0
    exact ⟨rfl, Or.inr rfl⟩

set_option maxHeartbeats 2000000 in
set_option maxRecDepth 100000 in
theorem get_empty {k o : Nat} {w : World} {u : Bool} (c0 : w.cell? ⟨k, o, none⟩ = some (.slice none 0 0)) (c1 : w.cell? ⟨k, o + 1, none⟩ = some (.bool u)) (f1 : w.frozen? ⟨k, o + 1, none⟩ = false) (key : Bs) :
    Calls Tryz.prog 117 #[.pointer (some ⟨k, o, none⟩), .string (B key)] w fun e w' => e = .returned (.pointer none) ∧ (w = w' ∨ w.setCell ⟨k, o + 1, none⟩ (.bool true) = w') := by
  have HD := Lib.hid (unescape_empty c0 c1 f1)
  have d0 : ∀ w', (w = w' ∨ w.setCell ⟨k, o + 1, none⟩ (.bool true) = w') → w'.cell? ⟨k, o, none⟩ = some (.slice none 0 0) := by
    rintro w' (rfl | rfl)
    · exact c0
    · rw [cell_other _ _ (by omega)]; exact c0
  have D0 := Lib.hid d0
  clear d0 f1
  cases u with
  | true =>
    go_enter Tryz.func117, Tryz.ntmps117
    go_wp2_with (go_at_call 132; refine HD.out.mono ?_; rintro e w2 ⟨rfl, hw⟩; have c0' := D0.out _ hw; have HW := Lib.hid hw; clear hw)
    refine wp_loop_once ?_
    go_wp2
    go_ret
    exact ⟨rfl, HW.out⟩
  | false =>
    by_cases hesc : (92 : UInt8) ∈ key
    · have HI := Lib.hid (index_esc_some key hesc w)
      clear hesc
      go_enter Tryz.func117, Tryz.ntmps117
      go_wp2_with (first
      | (go_at_call 131; refine HI.out.mono ?_; rintro e w' ⟨rfl, a, r, ha, hb, rfl⟩; clear ha hb; have hnn : (((a.length : Nat) : Int) < 0) = False := by simp)
      | (go_at_call 132; refine HD.out.mono ?_; rintro e w2 ⟨rfl, hw⟩; have c0' := D0.out _ hw; have HW := Lib.hid hw; clear hw))
      refine wp_loop_once ?_
      go_wp2
      go_ret
      exact ⟨rfl, HW.out⟩
    · have HI := Lib.hid (index_esc_none key hesc w)
      clear hesc
      go_enter Tryz.func117, Tryz.ntmps117
      go_wp2_with (go_at_call 131; refine HI.out.mono ?_; rintro e w' ⟨rfl, rfl⟩)
      refine wp_loop_once ?_
      go_wp2_with (go_at_call 132; refine HD.out.mono ?_; rintro e w2 ⟨rfl, hw⟩; have c0' := D0.out _ hw; have HW := Lib.hid hw; clear hw)
      refine wp_loop_once ?_
      go_wp2
      go_ret
      exact ⟨rfl, HW.out⟩

/-- Object.Get, by the object's state. -/
theorem objGet_any {U : Bs → Bs → Prop} (HU : UG U) {w0 wx : World} {B0 hb k o : Nat} {ms : List (Bs × J)} {w : World} (h : HS U w0 wx B0 hb k o (.obj ms) w) (key : Bs) (hkl : key.length < 4294967296) :
    Calls Tryz.prog 117 #[.pointer (some ⟨k, o, none⟩), .string (B key)] w (OGet U w0 wx B0 hb k o ms key) := by
  rcases h.obj ms rfl with ⟨rfl, c0, f1, u, c1⟩ | ⟨g, cap, cs, ps, hR, hk, u, hN⟩
  · obtain ⟨hk, hs, h5, hlo⟩ := h.root
    have d0 := ((h.qi.node k o hk hs h5).c0).trans c0
    have d1 := (h.qi.free k (o + 1) hk).trans f1
    refine (get_empty d0 c1 d1 key).mono ?_
    rintro e w' ⟨rfl, rfl | rfl⟩
    · exact ⟨h, Or.inl ⟨rfl, fun m hm => by cases hm⟩⟩
    · refine ⟨⟨h.qi.flag _ hlo hs h5, h.hB, h.B9, h.err, h.rep, h.h0, h.h1, h.good, fun ms e => ?_⟩, Or.inl ⟨rfl, fun m hm => by cases hm⟩⟩
      cases e
      exact Or.inl ⟨rfl, c0, f1, true, World.cell?_setCell_same _ _ _ c1⟩
  · have hcook : ∀ (i : Nat) m c, ms[i]? = some m → cs[i]? = some c → U m.1 c := fun i m c hm hc => hR.cook i m.1 c (by simp [hm]) hc
    have hml : ms.length = ps.length := by have := hR.rlen; simpa using this
    have hfin : ∀ e w', GetP U w0 wx B0 hb k o g (ms.map (·.1)) cs ps key e w' → OGet U w0 wx B0 hb k o ms key e w' := by
      rintro e w' ⟨he, hq, hn⟩
      refine ⟨⟨hq, h.hB, h.B9, h.err, h.rep, h.h0, h.h1, h.good, fun ms' e' => ?_⟩, ?_⟩
      · cases e'
        exact Or.inr ⟨g, cap, cs, ps, hR, hk, hn⟩
      · cases hf : kFind cs key with
        | none =>
          rw [hf] at he
          refine Or.inl ⟨he, fun m hm hu => ?_⟩
          obtain ⟨i, hi⟩ := List.mem_iff_getElem?.1 hm
          have hic : i < cs.length := by have := (List.getElem?_eq_some_iff.1 hi).1; have := hR.clen; omega
          have h1 := hcook i m cs[i] hi (List.getElem?_eq_getElem hic)
          have h2 := HU.fn _ _ _ h1 hu
          unfold kFind at hf
          rw [List.findIdx?_eq_none_iff] at hf
          have := hf cs[i] (List.getElem_mem hic)
          simp [h2] at this
        | some n =>
          rw [hf] at he
          unfold kFind at hf
          rw [List.findIdx?_eq_some_iff_getElem] at hf
          obtain ⟨hnc, h1, h2⟩ := hf
          have hnp : n < ps.length := by have := hR.clen; omega
          have hnm : n < ms.length := by omega
          have e1 : cs[n] = key := by simpa using h1
          refine Or.inr ⟨ps[n], ms[n].2, by rw [he]; simp [ptrAt, List.getElem?_eq_getElem hnp], ⟨n, ms[n], List.getElem?_eq_getElem hnm, ?_, rfl, fun i' m' hi hm hu => ?_⟩, hk n ps[n] ms[n] (List.getElem?_eq_getElem hnp) (List.getElem?_eq_getElem hnm), h.good.kids ms rfl _ (List.getElem_mem hnm)⟩
          · rw [← e1]; exact hcook n ms[n] cs[n] (List.getElem?_eq_getElem hnm) (List.getElem?_eq_getElem hnc)
          · have h3 := HU.fn _ _ _ (hcook i' m' cs[i'] hm (List.getElem?_eq_getElem (by omega))) hu
            have := h2 i' hi
            simp [h3] at this
    cases u with
    | true => exact (get_done hR h.qi (by simpa using hN) key hkl).mono hfin
    | false =>
      by_cases hesc : (92 : UInt8) ∈ key
      · exact (get_esc HU hR h.qi (by simpa using hN) key hkl hesc).mono hfin
      · refine (get_raw HU hR h.qi (by simpa using hN) key hkl hesc fun i i' c hi hi' => ?_).mono hfin
        have him : i < ms.length := by have := (List.getElem?_eq_some_iff.1 hi).1; have := hR.clen; omega
        have him' : i' < ms.length := by have := (List.getElem?_eq_some_iff.1 hi').1; have := hR.clen; omega
        have := h.good.alike ms rfl ms[i] (List.getElem_mem him) ms[i'] (List.getElem_mem him') c (hcook i _ c (List.getElem?_eq_getElem him) hi) (hcook i' _ c (List.getElem?_eq_getElem him') hi')
        simp [List.getElem?_eq_getElem him, List.getElem?_eq_getElem him', this]
end Go.Proofs.YtppkpcijmfdfmaaGreatDoor

/- The walk of Value.Get and of the header's own get. -/
namespace Go.Proofs.YtppkpcijmfdfmaaGreatDoor
open Go.RowKit
attribute [local go_sem] B_size B_get B_lit B_ext_to B_ext B_toList B_app

/-- What Value.Get says of an object. -/
def VGet (U : Bs → Bs → Prop) (w0 wx : World) (B0 hb k o : Nat) (j : J) (r : Option J) (e : Ending) (w' : World) : Prop :=
  HS U w0 wx B0 hb k o j w' ∧
    match r with
    | none => e = .returned (.pointer none)
    | some t => ∃ p : Nat × Nat, e = .returned (.pointer (some ⟨p.1, p.2, none⟩)) ∧ RepV w0 (SQ w0 B0 hb) p.1 p.2 t ∧ GoodT U t

set_option maxHeartbeats 2000000 in
set_option maxRecDepth 100000 in
theorem valueGet_obj {U : Bs → Bs → Prop} (HU : UG U) {w0 wx : World} {B0 hb k o : Nat} {ms : List (Bs × J)} {w : World} (h : HS U w0 wx B0 hb k o (.obj ms) w) (key : Bs) (hkl : key.length < 4294967296) (q : Nat) (hq : w.cell? ⟨q, 0, none⟩ = some (.string (B key))) :
    Calls Tryz.prog 107 #[.pointer (some ⟨k, o, none⟩), .slice (some ⟨q, 0, none⟩) 1 1] w fun e w' => ∃ r, Finds U ms key r ∧ VGet U w0 wx B0 hb k o (.obj ms) r e w' := by
  have HG := Lib.hid (objGet_any HU h key hkl)
  have c4 : w.cell? ⟨k, o + 4, none⟩ = some (.int .i64 1) := by
    obtain ⟨t, ht, h1⟩ := (h.at h.rep (fun s e => by cases e)).kind
    rcases h1 with h1 | ⟨_, s, h1⟩
    · rw [ht, h1]; rfl
    · cases h1
  have H := Lib.hid h
  clear h
  go_enter Tryz.func107, Tryz.ntmps107
  go_wp2
  go_loopw [0, 13] (fun v i wr => (v = .pointer (some ⟨k, o, none⟩) ∧ i = .int .i64 0 ∧ wr = w) ∨ (i = .int .i64 1 ∧ ∃ (p : Nat × Nat) (t : J), v = .pointer (some ⟨p.1, p.2, none⟩) ∧ Hid (HS U w0 wx B0 hb k o (.obj ms) wr ∧ Finds U ms key (some t) ∧ RepV w0 (SQ w0 B0 hb) p.1 p.2 t ∧ GoodT U t))) (fun v i _ => 1 - (intOf i).toNat)
  case atStart => exact Or.inl ⟨rfl, rfl, rfl⟩
  case round =>
    rcases hrel with ⟨rfl, rfl, rfl⟩ | ⟨rfl, p, t, rfl, HX⟩
    · go_wp2_with (go_at_call 117; refine HG.out.mono ?_; rintro e w2 ⟨hh, ⟨rfl, hf⟩ | ⟨p, t, rfl, hf, hr, hg⟩⟩)
      · go_ret
        exact ⟨none, hf, hh, rfl⟩
      · refine ⟨Or.inr ⟨rfl, p, t, rfl, hh, hf, hr, hg⟩, by simp [intOf]⟩
    · go_wp2
      go_ret
      exact ⟨some t, HX.out.2.1, HX.out.1, p, rfl, HX.out.2.2⟩

/-- A name that begins with the small letter a is no number. -/
theorem atoi_letter (key : Bs) (w : World) (hE : ErrV w) (hkl : key.length < 4294967290) :
    Calls Tryz.prog 118 #[.string (B (97 :: key))] w fun e w' => Below w.heap.size w w' ∧ ∃ T t, e = .returned (.tuple #[.int .i64 0, .iface T t]) := by
  obtain ⟨⟨ev, h1, h2⟩, _⟩ := hE
  refine (Tryz.strconv_Atoi_syntax (B (97 :: key)) (by rw [B_size, List.length_cons]; omega) ?_ ev w h1 h2).mono ?_
  · rw [B_data]
    simp [Lib.atoiAll, Lib.parseMag, Lib.parseUint10]
  · rintro e w' ⟨N, rfl, _, _, hb⟩
    exact ⟨hb, _, _, rfl⟩

set_option maxHeartbeats 2000000 in
set_option maxRecDepth 100000 in
theorem valueGet_no {U : Bs → Bs → Prop} {w0 wx : World} {B0 hb k o : Nat} {j : J} {w : World} (h : HS U w0 wx B0 hb k o j w) (hj : ∀ ms, j ≠ .obj ms) (key : Bs) (hkl : key.length < 4294967290) (q : Nat) (hq : w.cell? ⟨q, 0, none⟩ = some (.string (B (97 :: key)))) :
    Calls Tryz.prog 107 #[.pointer (some ⟨k, o, none⟩), .slice (some ⟨q, 0, none⟩) 1 1] w (VGet U w0 wx B0 hb k o j none) := by
  have HE := Lib.hid (atoi_letter key w (h.err.below h.B9 h.qi.below) hkl)
  obtain ⟨t, c4, ht⟩ := kind_now h.qi h.rep
  have H := Lib.hid h
  have z1 : (t == 1) = false := by
    rw [beq_eq_false_iff_ne]
    rintro rfl
    rcases ht with h | ⟨h, _⟩
    · cases j <;> simp [J.ty] at h; exact hj _ rfl
    · omega
  clear h hj
  by_cases h2 : t = 2
  · subst h2
    clear ht
    go_enter Tryz.func107, Tryz.ntmps107
    go_wp2
    go_loopw [0, 13] (fun v i wr => v = .pointer (some ⟨k, o, none⟩) ∧ i = .int .i64 0 ∧ wr = w) (fun v i _ => 1 - (intOf i).toNat)
    case atStart => exact ⟨rfl, rfl, rfl⟩
    case round =>
      obtain ⟨rfl, rfl, rfl⟩ := hrel
      go_wp2_with (go_at_call 118; refine HE.out.mono ?_; rintro e w2 ⟨hb2, T, tv, rfl⟩; have HB2 := Lib.hid hb2; clear hb2)
      go_ret
      exact ⟨H.out.later HB2.out, rfl⟩
  · have z2 : (t == 2) = false := by rw [beq_eq_false_iff_ne]; exact h2
    clear ht h2
    go_enter Tryz.func107, Tryz.ntmps107
    go_wp2
    go_loopw [0, 13] (fun v i wr => v = .pointer (some ⟨k, o, none⟩) ∧ i = .int .i64 0 ∧ wr = w) (fun v i _ => 1 - (intOf i).toNat)
    case atStart => exact ⟨rfl, rfl, rfl⟩
    case round =>
      obtain ⟨rfl, rfl, rfl⟩ := hrel
      go_wp2
      go_ret
      exact ⟨H.out, rfl⟩
end Go.Proofs.YtppkpcijmfdfmaaGreatDoor

/- The walk of the header's own get. -/
namespace Go.Proofs.YtppkpcijmfdfmaaGreatDoor
open Go.RowKit
attribute [local go_sem] B_size B_get B_lit B_ext_to B_ext B_toList B_app

@[local go_sem] theorem as_header (v : Value) (w : World) : (Instr.typeAssert (.iface 171 v) 108 171 false).run Tryz.prog w = .ok v w := by
  unfold Instr.typeAssert
  simp [run_underlying Tryz.underlying171]

/-- A header, as it is asked: a text that was none; or a value, with its state. -/
def HQ (U : Bs → Bs → Prop) (B0 B1 : Nat) (r : Option J) (hb : Nat) (wx w : World) : Prop :=
  match r with
  | none => (B0 ≤ hb ∧ hb < B1 ∧ B1 ≤ wx.heap.size ∧ B0 ≤ B1) ∧ Below wx.heap.size wx w ∧ ∃ T v, wx.cell? ⟨hb, 0, none⟩ = some (.pointer none) ∧ wx.cell? ⟨hb, 1, none⟩ = some (.iface T v)
  | some j => ∃ w0 k o, w0.heap.size ≤ B1 ∧ HS U w0 wx B0 hb k o j w

/-- What stands under a name in a header; of what is no object, under a name that begins with a letter. -/
def FindsR (U : Bs → Bs → Prop) (r : Option J) (key : Bs) (t : Option J) : Prop :=
  match r with
  | none => t = none
  | some (.obj ms) => Finds U ms key t
  | some _ => t = none
def Named (r : Option J) (key : Bs) : Prop := ∀ j, r = some j → (∀ ms, j ≠ .obj ms) → ∃ key', key = 97 :: key'

/-- What is kept from here on. -/
theorem HQ.reset {U : Bs → Bs → Prop} {B0 B1 : Nat} {r : Option J} {hb : Nat} {wx w : World} (h : HQ U B0 B1 r hb wx w) : HQ U B0 B1 r hb w w := by
  cases r with
  | none =>
    obtain ⟨h1, hx, T, v, h3, h4⟩ := h
    have h2 : hb < wx.heap.size := by omega
    exact ⟨⟨h1.1, h1.2.1, Nat.le_trans h1.2.2.1 hx.size, h1.2.2.2⟩, Below.refl _ _, T, v, (hx.cell (p := ⟨hb, 0, none⟩) h2).trans h3, (hx.cell (p := ⟨hb, 1, none⟩) h2).trans h4⟩
  | some j =>
    obtain ⟨w0, k, o, h1, h⟩ := h
    exact ⟨w0, k, o, h1, h.qi.reset, h.hB, h.B9, h.err, h.rep, h.h0, h.h1, h.good, h.obj⟩
/-- What a question leaves as it was. -/
theorem HQ.kept {U : Bs → Bs → Prop} {B0 B1 : Nat} {r : Option J} {hb : Nat} {wx w : World} (h : HQ U B0 B1 r hb wx w) : Below B0 wx w ∧ ∀ b, B1 ≤ b → b < wx.heap.size → w.heap[b]? = wx.heap[b]? := by
  cases r with
  | none =>
    obtain ⟨h1, hx, T, v, h3, h4⟩ := h
    exact ⟨hx.mono (by omega), fun b _ hb => hx.block b hb⟩
  | some j =>
    obtain ⟨w0, k, o, h1, h⟩ := h
    exact ⟨h.qi.xb, fun b hb hx => h.qi.new b (Nat.le_trans h1 hb) hx⟩
theorem same_cells {w w' : World} {k : Nat} (h : w'.heap[k]? = w.heap[k]?) (o : Nat) : w'.cell? ⟨k, o, none⟩ = w.cell? ⟨k, o, none⟩ ∧ w'.frozen? ⟨k, o, none⟩ = w.frozen? ⟨k, o, none⟩ :=
  ⟨World.cell?_of_block (a := ⟨k, o, none⟩) h, World.frozen?_of_block (a := ⟨k, o, none⟩) h⟩
/-- Steps behind a question that leave what was there ahead of the first one alone. -/
theorem HQ.step {U : Bs → Bs → Prop} {B0 B1 : Nat} {r : Option J} {hb : Nat} {wx w w' : World} (h : HQ U B0 B1 r hb wx w) (hb' : Below B1 w w') : HQ U B0 B1 r hb w' w' := by
  cases r with
  | none =>
    obtain ⟨h1, hx, T, v, h3, h4⟩ := h.reset
    exact ⟨⟨h1.1, h1.2.1, Nat.le_trans h1.2.2.1 hb'.size, h1.2.2.2⟩, Below.refl _ _, T, v, (hb'.cell (p := ⟨hb, 0, none⟩) h1.2.1).trans h3, (hb'.cell (p := ⟨hb, 1, none⟩) h1.2.1).trans h4⟩
  | some j =>
    obtain ⟨w0, k, o, h1, h⟩ := h
    have hc : ∀ k o, k < w0.heap.size → w'.cell? ⟨k, o, none⟩ = w.cell? ⟨k, o, none⟩ := fun k o hk => (same_cells (hb'.block k (by omega)) o).1
    refine ⟨w0, k, o, h1, ⟨h.qi.below.trans (hb'.mono (Nat.le_trans h.hB h1)), fun o => (hc _ _ h.qi.hlt).trans (h.qi.hdr o), fun k o hk hs => (hc _ _ hk).trans (h.qi.ptr k o hk hs),
      fun k o hk => ((same_cells (hb'.block k (by omega)) o).2).trans (h.qi.free k o hk), fun k o hk hs h5 => ?_, h.qi.hlt, h.qi.hshape, Below.refl _ _, fun _ _ _ => rfl, h.qi.gnd⟩, h.hB, h.B9, h.err, h.rep, h.h0, h.h1, h.good, fun ms e => ?_⟩
    · have hn := h.qi.node k o hk hs h5
      refine ⟨(hc _ _ hk).trans hn.c0, fun hr => (hc _ _ hk).trans (hn.c1 hr), (hc _ _ hk).trans hn.c2, ?_⟩
      rw [hc _ _ hk, hc _ _ hk]
      exact hn.c34
    · have hk := h.root.1
      rcases h.obj ms e with ⟨h1, h2, h3, u, h4⟩ | ⟨g, cap, cs, ps, hR, hkid, u, hN⟩
      · exact Or.inl ⟨h1, h2, h3, u, (hc _ _ hk).trans h4⟩
      · have hg := hR.ghi
        exact Or.inr ⟨g, cap, cs, ps, hR, hkid, u, (hc _ _ hk).trans hN.flag, fun i s hi => (hc _ _ hg).trans (hN.key i s hi), fun i p hi => (hc _ _ hg).trans (hN.ptr i p hi)⟩

/-- What the header's own get says. -/
def HGet (U : Bs → Bs → Prop) (B0 B1 : Nat) (r : Option J) (hb : Nat) (wx : World) (t : Option J) (e : Ending) (w' : World) : Prop :=
  match t with
  | none => HQ U B0 B1 r hb wx w' ∧ ∃ T v, e = .returned (.tuple #[.pointer none, .iface T v])
  | some t => ∃ w0 k o j, w0.heap.size ≤ B1 ∧ r = some j ∧ HS U w0 wx B0 hb k o j w' ∧ ∃ p : Nat × Nat, e = .returned (.tuple #[.pointer (some ⟨p.1, p.2, none⟩), .nilIface]) ∧ RepV w0 (SQ w0 B0 hb) p.1 p.2 t ∧ GoodT U t

theorem HQ.later {U : Bs → Bs → Prop} {B0 B1 : Nat} {r : Option J} {hb : Nat} {wx w w' : World} (h : HQ U B0 B1 r hb wx w) (hb' : Below w.heap.size w w') : HQ U B0 B1 r hb wx w' := by
  cases r with
  | none =>
    obtain ⟨h1, hx, T, v, h3, h4⟩ := h
    exact ⟨h1, hx.trans (hb'.mono hx.size), T, v, h3, h4⟩
  | some j =>
    obtain ⟨w0, k, o, h1, h⟩ := h
    exact ⟨w0, k, o, h1, h.later hb'⟩

set_option maxHeartbeats 1000000 in
set_option maxRecDepth 100000 in
theorem headerGet_none {U : Bs → Bs → Prop} {B0 B1 hb : Nat} {wx w : World} (h : HQ U B0 B1 none hb wx w) (key : Bs) :
    Calls Tryz.prog 94 #[.iface 171 (.pointer (some ⟨hb, 0, none⟩)), .string (B key)] w fun e w' => HGet U B0 B1 none hb wx none e w' := by
  have HH := Lib.hid h
  obtain ⟨h1, hx, T, v, h3, h4⟩ := h
  have h2 : hb < wx.heap.size := by omega
  have c0 := (hx.cell (p := ⟨hb, 0, none⟩) h2).trans h3
  have c1 := (hx.cell (p := ⟨hb, 1, none⟩) h2).trans h4
  clear h1 h2 hx h3 h4
  go_enter Tryz.func94, Tryz.ntmps94
  go_wp2
  go_quiet (fail)
  go_wp2
  go_ret2
  refine ⟨HH.out.later ?_, _, _, rfl⟩
  exact below_draws (Below.refl _ _) _

set_option maxHeartbeats 1000000 in
set_option maxRecDepth 100000 in
theorem headerGet_some {U : Bs → Bs → Prop} (HU : UG U) {w0 wx : World} {B0 B1 hb k o : Nat} {j : J} {w : World} (h : HS U w0 wx B0 hb k o j w) (hB1 : w0.heap.size ≤ B1) (key : Bs) (hkl : key.length < 4294967290) (hn : Named (some j) key) :
    Calls Tryz.prog 94 #[.iface 171 (.pointer (some ⟨hb, 0, none⟩)), .string (B key)] w fun e w' => ∃ t, FindsR U (some j) key t ∧ HGet U B0 B1 (some j) hb wx t e w' := by
  have c0 : w.cell? ⟨hb, 0, none⟩ = some (.pointer (some ⟨k, o, none⟩)) := (h.qi.hdr 0).trans h.h0
  have c1 : w.cell? ⟨hb, 1, none⟩ = some .nilIface := (h.qi.hdr 1).trans h.h1
  have h2 : HS U w0 wx B0 hb k o j (w.alloc (.cells #[.string (B key)] 9)) := h.later ((Below.refl _ _).alloc (Nat.le_refl _) _)
  have HV : Hid (Calls Tryz.prog 107 #[.pointer (some ⟨k, o, none⟩), .slice (some ⟨w.heap.size, 0, none⟩) 1 1] (w.alloc (.cells #[.string (B key)] 9)) fun e w' => (e = .returned (.pointer none) ∧ FindsR U (some j) key none ∧ HS U w0 wx B0 hb k o j w') ∨ ∃ (p : Nat × Nat) (t : J), e = .returned (.pointer (some ⟨p.1, p.2, none⟩)) ∧ FindsR U (some j) key (some t) ∧ HS U w0 wx B0 hb k o j w' ∧ RepV w0 (SQ w0 B0 hb) p.1 p.2 t ∧ GoodT U t) := by
    by_cases hj : ∃ ms, j = .obj ms
    · obtain ⟨ms, rfl⟩ := hj
      refine (valueGet_obj HU h2 key (by omega) w.heap.size (by simp)).mono ?_
      rintro e w' ⟨r, hf, hs, hr⟩
      cases r with
      | none => exact Or.inl ⟨hr, hf, hs⟩
      | some t =>
        obtain ⟨p, he, hr⟩ := hr
        exact Or.inr ⟨p, t, he, hf, hs, hr⟩
    · have hno : ∀ ms, j ≠ .obj ms := fun ms e => hj ⟨ms, e⟩
      obtain ⟨key', rfl⟩ := hn j rfl hno
      refine (valueGet_no h2 hno key' (by simp at hkl; omega) w.heap.size (by simp)).mono fun e w' hv => Or.inl ⟨hv.2, ?_, hv.1⟩
      cases j with
      | obj ms => exact absurd rfl (hno ms)
      | _ => rfl
  clear h h2 hn
  go_enter Tryz.func94, Tryz.ntmps94
  go_wp2_with (go_at_call 107; refine HV.out.mono ?_; rintro e w2 (⟨rfl, hf, hs⟩ | ⟨p, t, rfl, hf, hs, hr⟩))
  · go_ret2
    exact ⟨none, hf, ⟨w0, k, o, hB1, hs⟩, _, _, rfl⟩
  · go_ret2
    exact ⟨some t, hf, w0, k, o, j, hB1, rfl, hs, p, rfl, hr⟩

/-- The header's own get, of any header. -/
theorem headerGet_any {U : Bs → Bs → Prop} (HU : UG U) {B0 B1 hb : Nat} {r : Option J} {wx w : World} (h : HQ U B0 B1 r hb wx w) (key : Bs) (hkl : key.length < 4294967290) (hn : Named r key) :
    Calls Tryz.prog 94 #[.iface 171 (.pointer (some ⟨hb, 0, none⟩)), .string (B key)] w fun e w' => ∃ t, FindsR U r key t ∧ HGet U B0 B1 r hb wx t e w' := by
  cases r with
  | none => exact (headerGet_none h key).mono fun e w' he => ⟨none, rfl, he⟩
  | some j =>
    obtain ⟨w0, k, o, hB1, h⟩ := h
    exact headerGet_some HU h hB1 key hkl hn
end Go.Proofs.YtppkpcijmfdfmaaGreatDoor
