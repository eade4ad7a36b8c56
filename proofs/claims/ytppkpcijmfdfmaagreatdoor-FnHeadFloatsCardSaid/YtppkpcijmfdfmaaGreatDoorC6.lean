/- The walk of parseArray. -/
import Derived.Test.YtppkpcijmfdfmaaGreatDoorC5
import Derived.Test.YtppkpcijmfdfmaaGreatDoorC0
set_option linter.unusedVariables false
set_option linter.unusedSimpArgs false
namespace Go.Proofs.YtppkpcijmfdfmaaGreatDoor
open Go.RowKit
attribute [local go_sem] B_size B_get B_lit B_ext_to B_ext B_toList B_app

/-- What the reader of values does, with `d` levels left: for texts up to a length. -/
def ReadsV (cb co d L : Nat) (dp : Int) : Prop := ∀ (s : Bs) (w : World) (sv : Value) (n : Nat), CI w cb co sv n → n + s.length ≤ L →
  Calls Tryz.prog 144 #[.pointer (some ⟨cb, co, none⟩), .string (B s), .int .i64 dp] w (PV cb co w sv n (jVal d s) (n + s.length))

/-- The state of parseArray's loop. -/
def ArrSt (cb co d L : Nat) (s : Bs) (w0 : World) (sv0 : Value) (n0 k o : Nat) (u : Bs) (w : World) : Prop :=
  ∃ sv n av ps ts N, ArrAt cb co w0 sv0 n0 k o ts w sv n av ps ∧ ArrPure d s ts N u ∧ n + u.length ≤ n0 + s.length + 1 ∧ ts.length + u.length ≤ s.length

set_option maxRecDepth 100000 in
set_option maxHeartbeats 4000000 in
theorem arr_loop (cb co d L : Nat) (dp : Int) (s u : Bs) (c : UInt8) (w : World) (sv : Value) (n : Nat) (h : CI w cb co sv n) (hs : jSkip s = c :: u) (hc : c ≠ 93) (hL : L < 4294967296) (hl : n + s.length + 1 ≤ L)
    (hV : ReadsV cb co d L dp) :
    Calls Tryz.prog 158 #[.pointer (some ⟨cb, co, none⟩), .string (B s), .int .i64 dp] w (PV cb co w sv n (parr d s) (n + s.length + 1)) := by
  obtain ⟨i156, hi, hz0, hz1, hz2⟩ := info_parts info156
  have HI := Lib.hid hi
  have HZ0 := Lib.hid hz0
  have HZ1 := Lib.hid hz1
  have HZ2 := Lib.hid hz2
  clear hi hz0 hz1 hz2
  have HA := Lib.hid (ArrPure.start (d := d) hs hc)
  have HL : Hid (u.length + 1 ≤ s.length) := by
    have := jSkip_len s
    rw [hs] at this; exact this
  have HS := Lib.hid (skip_any s w (by omega))
  rw [hs] at HS
  have HG := Lib.hid (getValue_ci cb co w sv n h (by omega))
  have HCB := Lib.hid h.lt
  have HV := Lib.hid hV
  have hu : u.length < 4294967296 := by have := HL.out; omega
  have h0 : ((u.length : Int) + 1 == 0) = false := by rw [beq_eq_false_iff_ne]; omega
  have h93 : ((c.toNat : Int) == 93) = false := (u8_facts 93 hc).1
  clear hs h hc hV
  go_enter Tryz.func158, Tryz.ntmps158
  go_wp2_with (first | (go_at_call 142; refine HS.out.mono ?_; rintro e w' ⟨rfl, rfl⟩) | (go_at_call 160; refine HG.out.mono ?_; rintro e w1 ⟨g, sv1, rfl, hN⟩; have HN := Lib.hid hN; have k2 := hN.vn.c2; have k4 := hN.vn.c4; have f2 := hN.vn.free 2 (by omega); have f4 := hN.vn.free 4 (by omega); clear hN))
  go_loopw [1] (fun q wr => ∃ u, Hid (ArrSt cb co d L s w sv n g (n * 5) u wr) ∧ q = .string (B u)) (fun q _ => strLen q)
  case atStart =>
    have hN := (HN.out.set4 (.int .i64 2)).set2 (.slice none 0 0)
    exact ⟨c :: u, ⟨sv1, n + 1, .slice none 0 0, [], [], _, ⟨hN, Or.inl ⟨rfl, rfl, rfl⟩, fun g hg => (by cases hg), rfl, fun i p t hp => by simp at hp⟩, HA.out, by have := HL.out; simp; omega, by have := HL.out; simp; omega⟩, rfl⟩
  case round =>
    clear HA HL HS HG HN k2 k4 f2 f4 h0 h93 hu
    obtain ⟨q, HR, rfl⟩ := hrel
    obtain ⟨svi, ni, av, ps, ts, N, hA, hP, hlen, hlen2⟩ := HR.out
    have HLT := Lib.hid hlen2
    clear HR
    have HP := Lib.hid hP
    have HA := Lib.hid hA
    have HLE := Lib.hid hlen
    have HQ := Lib.hid (jSkip_length q)
    have hq : q.length < 4294967296 := by omega
    have HK := Lib.hid (skip_any q)
    clear hA hP hlen hlen2
    cases hv : jVal d (jSkip q) with
    | none =>
      have HE := Lib.hid (HP.out.bad hv)
      have HC : Hid (Calls Tryz.prog 144 #[.pointer (some ⟨cb, co, none⟩), .string (B (jSkip q)), .int .i64 dp] wr (PVerr cb co wr svi ni)) := by
        have := HV.out (jSkip q) wr svi ni HA.out.node.ci (by have := HQ.out; have := HLE.out; omega)
        rw [hv] at this
        exact this
      clear hv
      go_wp2_with (first | (go_at_call 142; refine (HK.out _ hq).mono ?_; rintro e w' ⟨rfl, rfl⟩) | (go_at_call 144; refine HC.out.mono ?_; rintro e w' ⟨p, x, T, v, sv', n', rfl, hf⟩; have HF := Lib.hid hf; clear hf) | (go_at_call 109; refine (errorsNew_any _ _).mono ?_; rintro e w' ⟨rfl, rfl⟩))
      go_ret3
      exact PV.err none _ _ _ _ _ HE.out (frame_err (HA.out.node.fr.trans HF.out) _)
    | some r =>
      obtain ⟨v, t⟩ := r
      have HC : Hid (Calls Tryz.prog 144 #[.pointer (some ⟨cb, co, none⟩), .string (B (jSkip q)), .int .i64 dp] wr (PVok cb co wr svi ni (ni + (jSkip q).length) v t)) := by
        have := HV.out (jSkip q) wr svi ni HA.out.node.ci (by have := HQ.out; have := HLE.out; omega)
        rw [hv] at this
        exact this
      have HVV := Lib.hid hv
      have ht : t.length < 4294967296 := by have := jVal_len d _ _ _ hv; have := HQ.out; omega
      have HT := Lib.hid (skip_any t)
      clear hv
      cases hx : jSkip t with
      | nil =>
        have HE := Lib.hid (HP.out.stop HVV.out hx)
        rw [hx] at HT
        clear hx
        go_wp2_with (first
        | (go_at_call 142; refine (HK.out _ hq).mono ?_; rintro e w' ⟨rfl, rfl⟩)
        | (go_at_call 144; refine HC.out.mono ?_; rintro e w2 ⟨k1, o1, sv2, n2, rfl, hci, hfr, hle, hrep⟩; have hA2 := HA.out.later HCB.out hfr hci; have hB2 := hA2.below ((Below.refl w2.heap.size w2).alloc (Nat.le_refl _) (.cells #[ptrV (k1, o1)] 156)); have HRP := Lib.hid (hrep.mono fun k2 o2 hs => (HA.out.kid hs).below ((Below.refl w2.heap.size w2).alloc (Nat.le_refl _) (.cells #[ptrV (k1, o1)] 156))); have k2 := hA2.node.vn.c2; have f2 := hA2.node.vn.free 2 (by omega); have HA2 := Lib.hid hA2; have HB2 := Lib.hid hB2; have HN2 := Lib.hid hle; clear hA2 hB2 hrep hle hci hfr)
        | (at_builtin; have hi := HI.out; have hz0 := HZ0.out; have hz1 := HZ1.out; refine wpList_append_push _ rfl (.tmp 70) (.tmp 72) 164 rfl 156 i156 (.pointer none) Tryz.underlying164 hi hz0 hz1 av ps.length (ps.map ptrV) rfl ?hrow _ rfl [ptrV (k1, o1)] rfl ?hnews ?hone ?hbytes ?hmax ?_)
        | (go_at_call 109; refine (errorsNew_any _ _).mono ?_; rintro e w' ⟨rfl, rfl⟩))
        case hrow => exact HB2.out.row
        case hnews => intro j u hu; rw [← hu]; exact (cell_new w2 #[ptrV (k1, o1)] 156 j).trans (by simp)
        case hone => intro u hu; simp at hu; subst hu; rfl
        case hbytes => rw [HZ2.out]; have := HLT.out; have := HA.out.len; omega
        case hmax => unfold maxLen; have := HLT.out; have := HA.out.len; omega
        intro g2 cap2 w3 hg2 hgb hrow2
        have hc2 := HB2.out.cell2 hgb
        have HPU := Lib.hid (HB2.out.push HCB.out HRP.out hgb (by simpa using hg2) hrow2)
        obtain ⟨k3, f3⟩ := hc2
        clear hg2 hgb hrow2 k2 f2 HB2 HRP
        go_wp2_with (first | (go_at_call 142; refine (HT.out _ ht).mono ?_; rintro e w' ⟨rfl, rfl⟩) | (go_at_call 109; refine (errorsNew_any _ _).mono ?_; rintro e w' ⟨rfl, rfl⟩))
        go_ret3
        exact PV.err none _ _ _ _ _ HE.out (frame_err HPU.out.node.fr _)
      | cons c x =>
        rw [hx] at HT
        have hxl : x.length < 4294967296 := by have := jSkip_length t; rw [hx] at this; simp at this; omega
        have z0 : ((x.length : Int) + 1 == 0) = false := by rw [beq_eq_false_iff_ne]; omega
        by_cases h44 : c = 44
        · subst h44
          have HE := Lib.hid (HP.out.comma HVV.out hx)
          clear hx
          go_wp2_with (first
          | (go_at_call 142; refine (HK.out _ hq).mono ?_; rintro e w' ⟨rfl, rfl⟩)
          | (go_at_call 144; refine HC.out.mono ?_; rintro e w2 ⟨k1, o1, sv2, n2, rfl, hci, hfr, hle, hrep⟩; have hA2 := HA.out.later HCB.out hfr hci; have hB2 := hA2.below ((Below.refl w2.heap.size w2).alloc (Nat.le_refl _) (.cells #[ptrV (k1, o1)] 156)); have HRP := Lib.hid (hrep.mono fun k2 o2 hs => (HA.out.kid hs).below ((Below.refl w2.heap.size w2).alloc (Nat.le_refl _) (.cells #[ptrV (k1, o1)] 156))); have k2 := hA2.node.vn.c2; have f2 := hA2.node.vn.free 2 (by omega); have HA2 := Lib.hid hA2; have HB2 := Lib.hid hB2; have HN2 := Lib.hid hle; clear hA2 hB2 hrep hle hci hfr)
          | (at_builtin; have hi := HI.out; have hz0 := HZ0.out; have hz1 := HZ1.out; refine wpList_append_push _ rfl (.tmp 70) (.tmp 72) 164 rfl 156 i156 (.pointer none) Tryz.underlying164 hi hz0 hz1 av ps.length (ps.map ptrV) rfl ?hrow _ rfl [ptrV (k1, o1)] rfl ?hnews ?hone ?hbytes ?hmax ?_)
          | (go_at_call 109; refine (errorsNew_any _ _).mono ?_; rintro e w' ⟨rfl, rfl⟩))
          case hrow => exact HB2.out.row
          case hnews => intro j u hu; rw [← hu]; exact (cell_new w2 #[ptrV (k1, o1)] 156 j).trans (by simp)
          case hone => intro u hu; simp at hu; subst hu; rfl
          case hbytes => rw [HZ2.out]; have := HLT.out; have := HA.out.len; omega
          case hmax => unfold maxLen; have := HLT.out; have := HA.out.len; omega
          intro g2 cap2 w3 hg2 hgb hrow2
          have hc2 := HB2.out.cell2 hgb
          have HPU := Lib.hid (HB2.out.push HCB.out HRP.out hgb (by simpa using hg2) hrow2)
          obtain ⟨k3, f3⟩ := hc2
          clear hg2 hgb hrow2 k2 f2 HB2 HRP
          go_wp2_with (first | (go_at_call 142; refine (HT.out _ ht).mono ?_; rintro e w' ⟨rfl, rfl⟩) | (go_at_call 109; refine (errorsNew_any _ _).mono ?_; rintro e w' ⟨rfl, rfl⟩))
          go_roundw
          case rel => exact ⟨x, ⟨sv2, n2, _, _, _, N - 1, HPU.out, HE.out.1, by have := HN2.out; have := HE.out.2; have := HQ.out; have := HLE.out; omega, by have := HE.out.2; have := HLT.out; simp; omega⟩, rfl⟩
          case measure => simp only [strLen, B_size]; exact HE.out.2.1
        · by_cases h93 : c = 93
          · subst h93
            have HE := Lib.hid (HP.out.close HVV.out hx)
            clear hx h44
            go_wp2_with (first
            | (go_at_call 142; refine (HK.out _ hq).mono ?_; rintro e w' ⟨rfl, rfl⟩)
            | (go_at_call 144; refine HC.out.mono ?_; rintro e w2 ⟨k1, o1, sv2, n2, rfl, hci, hfr, hle, hrep⟩; have hA2 := HA.out.later HCB.out hfr hci; have hB2 := hA2.below ((Below.refl w2.heap.size w2).alloc (Nat.le_refl _) (.cells #[ptrV (k1, o1)] 156)); have HRP := Lib.hid (hrep.mono fun k2 o2 hs => (HA.out.kid hs).below ((Below.refl w2.heap.size w2).alloc (Nat.le_refl _) (.cells #[ptrV (k1, o1)] 156))); have k2 := hA2.node.vn.c2; have f2 := hA2.node.vn.free 2 (by omega); have HA2 := Lib.hid hA2; have HB2 := Lib.hid hB2; have HN2 := Lib.hid hle; clear hA2 hB2 hrep hle hci hfr)
            | (at_builtin; have hi := HI.out; have hz0 := HZ0.out; have hz1 := HZ1.out; refine wpList_append_push _ rfl (.tmp 70) (.tmp 72) 164 rfl 156 i156 (.pointer none) Tryz.underlying164 hi hz0 hz1 av ps.length (ps.map ptrV) rfl ?hrow _ rfl [ptrV (k1, o1)] rfl ?hnews ?hone ?hbytes ?hmax ?_)
            | (go_at_call 109; refine (errorsNew_any _ _).mono ?_; rintro e w' ⟨rfl, rfl⟩))
            case hrow => exact HB2.out.row
            case hnews => intro j u hu; rw [← hu]; exact (cell_new w2 #[ptrV (k1, o1)] 156 j).trans (by simp)
            case hone => intro u hu; simp at hu; subst hu; rfl
            case hbytes => rw [HZ2.out]; have := HLT.out; have := HA.out.len; omega
            case hmax => unfold maxLen; have := HLT.out; have := HA.out.len; omega
            intro g2 cap2 w3 hg2 hgb hrow2
            have hc2 := HB2.out.cell2 hgb
            have HPU := Lib.hid (HB2.out.push HCB.out HRP.out hgb (by simpa using hg2) hrow2)
            obtain ⟨k3, f3⟩ := hc2
            clear hg2 hgb hrow2 k2 f2 HB2 HRP
            go_wp2_with (first | (go_at_call 142; refine (HT.out _ ht).mono ?_; rintro e w' ⟨rfl, rfl⟩) | (go_at_call 109; refine (errorsNew_any _ _).mono ?_; rintro e w' ⟨rfl, rfl⟩))
            go_ret3
            rw [HE.out.1]
            exact ⟨g, n * 5, sv2, n2, rfl, HPU.out.node.ci, HPU.out.node.fr, by have := HN2.out; have := HE.out.2; have := HQ.out; have := HLE.out; omega, HPU.out.rep HCB.out (by simp)⟩
          · have HE := Lib.hid (HP.out.other HVV.out hx h44 h93)
            have g1 : ((c.toNat : Int) == 44) = false := (u8_facts 44 h44).1
            have g2 : ((c.toNat : Int) == 93) = false := (u8_facts 93 h93).1
            clear hx h44 h93
            go_wp2_with (first
            | (go_at_call 142; refine (HK.out _ hq).mono ?_; rintro e w' ⟨rfl, rfl⟩)
            | (go_at_call 144; refine HC.out.mono ?_; rintro e w2 ⟨k1, o1, sv2, n2, rfl, hci, hfr, hle, hrep⟩; have hA2 := HA.out.later HCB.out hfr hci; have hB2 := hA2.below ((Below.refl w2.heap.size w2).alloc (Nat.le_refl _) (.cells #[ptrV (k1, o1)] 156)); have HRP := Lib.hid (hrep.mono fun k2 o2 hs => (HA.out.kid hs).below ((Below.refl w2.heap.size w2).alloc (Nat.le_refl _) (.cells #[ptrV (k1, o1)] 156))); have k2 := hA2.node.vn.c2; have f2 := hA2.node.vn.free 2 (by omega); have HA2 := Lib.hid hA2; have HB2 := Lib.hid hB2; have HN2 := Lib.hid hle; clear hA2 hB2 hrep hle hci hfr)
            | (at_builtin; have hi := HI.out; have hz0 := HZ0.out; have hz1 := HZ1.out; refine wpList_append_push _ rfl (.tmp 70) (.tmp 72) 164 rfl 156 i156 (.pointer none) Tryz.underlying164 hi hz0 hz1 av ps.length (ps.map ptrV) rfl ?hrow _ rfl [ptrV (k1, o1)] rfl ?hnews ?hone ?hbytes ?hmax ?_)
            | (go_at_call 109; refine (errorsNew_any _ _).mono ?_; rintro e w' ⟨rfl, rfl⟩))
            case hrow => exact HB2.out.row
            case hnews => intro j u hu; rw [← hu]; exact (cell_new w2 #[ptrV (k1, o1)] 156 j).trans (by simp)
            case hone => intro u hu; simp at hu; subst hu; rfl
            case hbytes => rw [HZ2.out]; have := HLT.out; have := HA.out.len; omega
            case hmax => unfold maxLen; have := HLT.out; have := HA.out.len; omega
            intro g2 cap2 w3 hg2 hgb hrow2
            have hc2 := HB2.out.cell2 hgb
            have HPU := Lib.hid (HB2.out.push HCB.out HRP.out hgb (by simpa using hg2) hrow2)
            obtain ⟨k3, f3⟩ := hc2
            clear hg2 hgb hrow2 k2 f2 HB2 HRP
            go_wp2_with (first | (go_at_call 142; refine (HT.out _ ht).mono ?_; rintro e w' ⟨rfl, rfl⟩) | (go_at_call 109; refine (errorsNew_any _ _).mono ?_; rintro e w' ⟨rfl, rfl⟩))
            go_ret3
            exact PV.err none _ _ _ _ _ HE.out (frame_err HPU.out.node.fr _)
end Go.Proofs.YtppkpcijmfdfmaaGreatDoor

/- The reader's memory while an object is read: no walk. -/
namespace Go.Proofs.YtppkpcijmfdfmaaGreatDoor
open Go.RowKit

/-- The cells of keys and pointers, one behind the other. -/
def flatKV : List (Bs × (Nat × Nat)) → List Value
  | [] => []
  | (s, p) :: l => .string (B s) :: ptrV p :: flatKV l
theorem flatKV_length (l : List (Bs × (Nat × Nat))) : (flatKV l).length = l.length * 2 := by
  induction l with
  | nil => rfl
  | cons x l ih => obtain ⟨s, p⟩ := x; simp [flatKV, ih]; omega
theorem flatKV_append (l : List (Bs × (Nat × Nat))) (s : Bs) (p : Nat × Nat) : flatKV (l ++ [(s, p)]) = flatKV l ++ [.string (B s), ptrV p] := by
  induction l with
  | nil => rfl
  | cons x l ih => obtain ⟨s, p⟩ := x; simp [flatKV, ih]
theorem flatKV_get (l : List (Bs × (Nat × Nat))) (i : Nat) (s : Bs) (p : Nat × Nat) (h : l[i]? = some (s, p)) : (flatKV l)[i * 2]? = some (.string (B s)) ∧ (flatKV l)[i * 2 + 1]? = some (ptrV p) := by
  induction l generalizing i with
  | nil => simp at h
  | cons x l ih =>
    obtain ⟨s', p'⟩ := x
    cases i with
    | zero => simp at h; obtain ⟨rfl, rfl⟩ := h; simp [flatKV]
    | succ i =>
      have := ih i (by simpa using h)
      rw [show (i + 1) * 2 = i * 2 + 2 by omega]
      simpa [flatKV] using this

theorem RowZ.set {w : World} {e : TypeId} {z : Array Value} {g n cap : Nat} {xs : List Value} (h : RowZ w e z (.slice (some ⟨g, 0, none⟩) n cap) n xs) (j : Nat) (v : Value) (hj : j < n * z.size) :
    RowZ (w.setCell ⟨g, j, none⟩ v) e z (.slice (some ⟨g, 0, none⟩) n cap) n (xs.set j v) := by
  rcases h with ⟨h0, _⟩ | ⟨g', cap', cur, h0, hg, hnc, hcm, hcs, htake, hsp⟩
  · cases h0
  · cases h0
    refine Or.inr ⟨g, cap, cur.setIfInBounds j v, rfl, ?_, hnc, hcm, by simpa using hcs, ?_, fun i h1 h2 => ?_⟩
    · simp [World.setCell, Array.getElem?_modify, hg]
    · rw [← htake, Array.toList_setIfInBounds, List.take_set]
    · rw [Array.getElem?_setIfInBounds_ne (by omega)]; exact hsp i h1 h2

/-- An object of which some members have been read; `pend`: the cells of one that is being read. -/
structure ObjAt (cb co : Nat) (w0 : World) (sv0 : Value) (n0 k o : Nat) (ms : List (Bs × J)) (w : World) (sv : Value) (n : Nat) (ov : Value) (l : List (Bs × (Nat × Nat))) (m : Nat) (pend : List Value) : Prop where
  node : Node cb co w0 sv0 n0 w sv n k o ov (.bool false) (.slice none 0 0) (.string (B [])) (.int .i64 1)
  row : RowZ w 218 zero218 ov m (flatKV l ++ pend)
  cnt : m * 2 = l.length * 2 + pend.length
  new : ∀ g, ov.ownBlock = some g → w0.heap.size ≤ g
  keys : l.map (·.1) = ms.map (·.1)
  kids : ∀ (i : Nat) p t, l[i]? = some p → ms[i]? = some t → RepV w (Kid cb co w0 sv0 n0 w sv n k o ov) p.2.1 p.2.2 t.2

section
variable {cb co : Nat} {w0 : World} {sv0 : Value} {n0 k o : Nat} {ms : List (Bs × J)} {w : World} {sv : Value} {n : Nat} {ov : Value} {l : List (Bs × (Nat × Nat))} {m : Nat} {pend : List Value}
theorem ObjAt.ne_vs (h : ObjAt cb co w0 sv0 n0 k o ms w sv n ov l m pend) {g : Nat} (hg : ov.ownBlock = some g) : sv.ownBlock ≠ some g := by
  intro e
  have h1 := h.row.shape g hg
  rw [h.node.ci.shape g e] at h1; cases h1
theorem ObjAt.ne_node (h : ObjAt cb co w0 sv0 n0 k o ms w sv n ov l m pend) : ov.ownBlock ≠ some k := by
  intro e
  have h1 := h.row.shape k e
  rw [h.node.vn.shape] at h1; cases h1
theorem ObjAt.ne_cb (h : ObjAt cb co w0 sv0 n0 k o ms w sv n ov l m pend) {g : Nat} (hg : ov.ownBlock = some g) (hcb : cb < w0.heap.size) : g ≠ cb := by
  have := h.new g hg; omega
theorem ObjAt.later (hcb : cb < w0.heap.size) (h : ObjAt cb co w0 sv0 n0 k o ms w sv n ov l m pend) {w' : World} {sv' : Value} {n' : Nat} (f : Fr cb co w sv n w' sv' n') (c : CI w' cb co sv' n') :
    ObjAt cb co w0 sv0 n0 k o ms w' sv' n' ov l m pend where
  node := ⟨c, h.node.fr.trans f, h.node.vn.mono fun _ _ hs => Nw.later hs f⟩
  row := h.row.keep fun g hg => f.block g (h.row.lt g hg) (fun e => by have := h.new g hg; omega) (h.ne_vs hg)
  cnt := h.cnt
  new := h.new
  keys := h.keys
  kids i p t hp ht := (h.kids i p t hp ht).mono fun _ _ hs => ⟨⟨(Nw.later hs.1 f).1, hs.2⟩, (Nw.later hs.1 f).2⟩
theorem ObjAt.below (h : ObjAt cb co w0 sv0 n0 k o ms w sv n ov l m pend) {w' : World} (hb : Below w.heap.size w w') : ObjAt cb co w0 sv0 n0 k o ms w' sv n ov l m pend where
  node := ⟨h.node.ci.below hb, h.node.fr.below hb, h.node.vn.mono fun k1 o1 hs => ⟨⟨hs.1, Nat.lt_of_lt_of_le hs.2.1 hb.size, hs.2.2⟩, Same.of_block o1 (hb.block k1 hs.2.1)⟩⟩
  row := h.row.below hb
  cnt := h.cnt
  new := h.new
  keys := h.keys
  kids i p t hp ht := (h.kids i p t hp ht).mono fun k1 o1 hs => ⟨⟨⟨hs.1.1, Nat.lt_of_lt_of_le hs.1.2.1 hb.size, hs.1.2.2⟩, hs.2⟩, Same.of_block o1 (hb.block k1 hs.1.2.1)⟩
theorem ObjAt.kid (h : ObjAt cb co w0 sv0 n0 k o ms w sv n ov l m pend) {w' : World} {sv' : Value} {n' k' o' : Nat} (hk : Nw cb co w sv n w' sv' n' k' o') : Kid cb co w0 sv0 n0 w' sv' n' k o ov k' o' := by
  refine ⟨Nw.earlier h.node.fr hk, ?_, ?_⟩
  · rintro ⟨rfl, h1, h2⟩
    have hs := h.node.vn.sure (o' - o) (by omega)
    rw [show o + (o' - o) = o' by omega] at hs
    rcases hk.1 with h3 | ⟨h3, h4⟩
    · have := hs.2.1; omega
    · exact hs.2.2 (Or.inr ⟨h3, h4⟩)
  · intro e
    rcases hk.1 with h3 | ⟨h3, h4⟩
    · have := h.row.lt k' e; omega
    · exact h.ne_vs e h3

/-- One more member is begun. -/
theorem ObjAt.begin (h : ObjAt cb co w0 sv0 n0 k o ms w sv n ov l m []) {e : Ending} {w' : World} (hg : Grew218 w k o ov m (flatKV l ++ []) e w') :
    ∃ g cap, e = .returned (.pointer (some ⟨g, m * 2, none⟩)) ∧ ObjAt cb co w0 sv0 n0 k o ms w' sv n (.slice (some ⟨g, 0, none⟩) (m + 1) cap) l (m + 1) [.string (B []), .pointer none] := by
  obtain ⟨g, cap, w1, he, hg, hb, hr, rfl⟩ := hg
  have hkl : k < w.heap.size := (h.node.vn.sure 0 (by omega)).2.1
  have hgk : g ≠ k := by
    intro e; subst e
    rcases hg with hg | hg
    · exact h.ne_node hg
    · omega
  have h1 := h.below hb
  refine ⟨g, cap, he, h1.node.set0 _, ?_, ?_, ?_, h.keys, ?_⟩
  · have := hr.keep (w' := w1.setCell ⟨k, o, none⟩ (.slice (some ⟨g, 0, none⟩) (m + 1) cap)) fun g' hg' => Below.heap_setCell _ _ _ _ (by have : g = g' := Option.some.inj hg'; simpa using fun e => hgk (this.trans e))
    rw [List.append_nil] at this
    exact this
  · have := h.cnt; simp at this ⊢; omega
  · intro g' hg'
    have e1 : g = g' := Option.some.inj hg'
    subst e1
    rcases hg with hg | hg
    · exact h.new g hg
    · exact Nat.le_trans h.node.fr.size hg
  · intro i p t hp ht
    refine (h.kids i p t hp ht).mono fun k1 o1 hs => ⟨⟨⟨hs.1.1, by simpa using Nat.lt_of_lt_of_le hs.1.2.1 hb.size, hs.1.2.2⟩, hs.2.1, ?_⟩, ?_⟩
    · intro e
      have e1 : g = k1 := Option.some.inj e
      subst e1
      rcases hg with hg | hg
      · exact hs.2.2 hg
      · have := hs.1.2.1; omega
    · refine (Same.of_block o1 (hb.block k1 hs.1.2.1)).trans (Same.setCell w1 _ ?_)
      rintro ⟨rfl, rfl⟩
      exact hs.2.1 ⟨rfl, by omega, by omega⟩

/-- A store into the row of members, behind those that are complete. -/
theorem ObjAt.store {g cap : Nat} (hcb : cb < w0.heap.size) (h : ObjAt cb co w0 sv0 n0 k o ms w sv n (.slice (some ⟨g, 0, none⟩) m cap) l m pend) (j : Nat) (v : Value) (hj : j < pend.length) :
    ObjAt cb co w0 sv0 n0 k o ms (w.setCell ⟨g, l.length * 2 + j, none⟩ v) sv n (.slice (some ⟨g, 0, none⟩) m cap) l m (pend.set j v) := by
  have hg0 : w0.heap.size ≤ g := h.new g rfl
  have hgk : g ≠ k := fun e => h.ne_node (by rw [e]; rfl)
  have hgv : sv.ownBlock ≠ some g := h.ne_vs rfl
  have hnl : ¬ Loose cb co sv n g (l.length * 2 + j) := by
    rintro (⟨e, _⟩ | ⟨e, _⟩)
    · omega
    · exact hgv e
  refine ⟨⟨h.node.ci.write v hnl, h.node.fr.write v (Or.inl hg0), ?_⟩, ?_, by simpa using h.cnt, h.new, h.keys, ?_⟩
  · refine (h.node.vn.sub (S' := fun k1 o1 => Nw cb co w0 sv0 n0 w sv n k1 o1 ∧ k1 = k) fun _ _ hs => ⟨hs, rfl⟩).mono fun k1 o1 ⟨hs, e⟩ => ?_
    subst e
    exact ⟨Nw.write hs, Same.setCell w v fun ⟨e, _⟩ => hgk e⟩
  · have := h.row.set (l.length * 2 + j) v (by have := h.cnt; show _ < m * 2; omega)
    rw [show l.length * 2 + j = (flatKV l).length + j by rw [flatKV_length]] at this ⊢
    rw [List.set_append_right _ _ (by omega), Nat.add_sub_cancel_left] at this
    exact this
  · intro i p t hp ht
    refine (h.kids i p t hp ht).mono fun k1 o1 hs => ⟨⟨Nw.write hs.1, hs.2⟩, Same.setCell w v fun ⟨e, _⟩ => hs.2.2 (by rw [← e]; rfl)⟩

/-- The member is complete. -/
theorem ObjAt.done {s : Bs} {p : Nat × Nat} (h : ObjAt cb co w0 sv0 n0 k o ms w sv n ov l m [.string (B s), ptrV p]) {t : J} (hk : RepV w (Kid cb co w0 sv0 n0 w sv n k o ov) p.1 p.2 t) :
    ObjAt cb co w0 sv0 n0 k o (ms ++ [(s, t)]) w sv n ov (l ++ [(s, p)]) m [] := by
  have hl : l.length = ms.length := by have := congrArg List.length h.keys; simpa using this
  refine ⟨h.node, by rw [flatKV_append, List.append_nil]; exact h.row, by have := h.cnt; simp at this ⊢; omega, h.new, by simp [h.keys], ?_⟩
  intro i p1 t1 hp ht
  rcases Nat.lt_or_ge i l.length with hi | hi
  · rw [List.getElem?_append_left hi] at hp
    rw [List.getElem?_append_left (by omega)] at ht
    exact h.kids i p1 t1 hp ht
  · have hi0 : i = l.length := by
      rcases Nat.lt_or_ge l.length i with h1 | h1
      · rw [List.getElem?_eq_none (by simp; omega)] at hp; cases hp
      · omega
    subst hi0
    rw [List.getElem?_append_right (Nat.le_refl _)] at hp
    rw [List.getElem?_append_right (by omega)] at ht
    rw [hl] at ht
    simp only [Nat.sub_self, List.getElem?_cons_zero, Option.some.injEq] at hp ht
    subst hp; subst ht
    exact hk
theorem ObjAt.rep (hcb : cb < w0.heap.size) (h1 : 1 ≤ ms.length) (h : ObjAt cb co w0 sv0 n0 k o ms w sv n ov l m []) : RepV w (Nw cb co w0 sv0 n0 w sv n) k o (.obj ms) := by
  have hl : l.length = ms.length := by have := congrArg List.length h.keys; simpa using this
  refine .obj (ps := l.map (·.2)) h.node.vn (by simpa using hl) ?_ fun i p t hp ht => ?_
  · have hrow := h.row
    have hcnt := h.cnt
    have hm : m = l.length := by simp at hcnt; omega
    subst hm
    rcases h.row with ⟨rfl, h0, _⟩ | ⟨g, cap, cur, rfl, hh, hnc, _⟩
    · omega
    · refine Or.inr ⟨g, cap, by rw [List.length_map], by rw [List.length_map]; omega, by rw [List.length_map]; exact hnc, by simp [hl], hrow.shape g rfl, fun i p s hp hs => ?_⟩
      have hs' : l[i]? = some (s, p) := by
        rw [← h.keys] at hs
        rw [List.getElem?_map] at hp hs
        cases hli : l[i]? with
        | none => rw [hli] at hp; cases hp
        | some x =>
          rw [hli] at hp hs
          simp only [Option.map_some, Option.some.injEq] at hp hs
          rw [← hp, ← hs]
      obtain ⟨c1, c2⟩ := flatKV_get l i s p hs'
      rw [List.append_nil] at hrow
      have hn : ∀ j, Nw cb co w0 sv0 n0 w sv n g j := fun j => ⟨Or.inl (h.new g rfl), hrow.lt g rfl, by
        rintro (⟨e, _⟩ | ⟨e, _⟩)
        · have := h.new g rfl; omega
        · exact h.ne_vs rfl e⟩
      exact ⟨hn _, hn _, (hrow.cells _ _ c1).1, (hrow.cells _ _ c2).1, (hrow.cells _ _ c1).2, (hrow.cells _ _ c2).2⟩
  · rw [List.getElem?_map] at hp
    cases hli : l[i]? with
    | none => rw [hli] at hp; cases hp
    | some x =>
      rw [hli] at hp
      simp only [Option.map_some, Option.some.injEq] at hp
      subst hp
      exact (h.kids i x t hli ht).mono fun _ _ hs => ⟨hs.1, Same.refl _ _ _⟩
/-- The cells of the member that is being read. -/
theorem ObjAt.pcell {g cap : Nat} (h : ObjAt cb co w0 sv0 n0 k o ms w sv n (.slice (some ⟨g, 0, none⟩) m cap) l m pend) (j : Nat) (v : Value) (hj : pend[j]? = some v) :
    w.cell? ⟨g, l.length * 2 + j, none⟩ = some v ∧ w.frozen? ⟨g, l.length * 2 + j, none⟩ = false := by
  refine h.row.cells _ v ?_
  rw [List.getElem?_append_right (by rw [flatKV_length]; omega), flatKV_length, Nat.add_sub_cancel_left]
  exact hj
end
end Go.Proofs.YtppkpcijmfdfmaaGreatDoor

/- The walk of parseObject. -/
namespace Go.Proofs.YtppkpcijmfdfmaaGreatDoor
open Go.RowKit
attribute [local go_sem] B_size B_get B_lit B_ext_to B_ext B_toList B_app

/-- clear(nil): nothing turns. -/
theorem wpList_clear_nil {P : Program} (w : World) {ops : Array Oper} {rest : List Oper} {o : Oper} {a : Act} {Q : Exit → Act → World → Prop} (hgd : o.guard = none) (s : Operand) (t : TypeId)
    (ho : o.op = .call { callee := .builtin .clear, args := #[s], argTypes := #[t] }) (e : TypeId) (ht : P.underlying t = some (.slice e)) (hs : a.eval s = .slice none 0 0)
    (h : wpList P ops Q rest (a.put o.dst (.tuple #[])) w) : wpList P ops Q (o :: rest) a w :=
  wpList_plain hgd fun K hK => by
    have hr : (Builtin.clear_ #[t] o.type #[.slice none 0 0]).run P w = .ok (.tuple #[]) w := by
      simp [Builtin.clear_, run_underlying ht]
    unfold Oper.wp execOp
    simp only [ho, resolve, invoke, builtin, Sem.run_bind, Sem.run_pure, Result.andThen_ok, List.map_toArray, List.map_cons, List.map_nil, hs, hr]
    exact hK _ _ h

set_option maxRecDepth 100000 in
set_option maxHeartbeats 1000000 in
theorem reset_any (k o : Nat) (b : Bool) (w : World) (h0 : w.cell? ⟨k, o, none⟩ = some (.slice none 0 0)) (h1 : w.cell? ⟨k, o + 1, none⟩ = some (.bool b)) (f0 : w.frozen? ⟨k, o, none⟩ = false) (f1 : w.frozen? ⟨k, o + 1, none⟩ = false) :
    Calls Tryz.prog 173 #[.pointer (some ⟨k, o, none⟩)] w fun e w' => e = .returned (.tuple #[]) ∧ (w.setCell ⟨k, o, none⟩ (.slice none 0 0)).setCell ⟨k, o + 1, none⟩ (.bool false) = w' := by
  go_enter Tryz.func173, Tryz.ntmps173
  go_wp2_with (with_reducible refine wpList_clear_nil _ rfl (.tmp 5) 181 rfl 218 Tryz.underlying181 rfl ?_)
  go_end0
  exact ⟨rfl, rfl⟩
end Go.Proofs.YtppkpcijmfdfmaaGreatDoor
