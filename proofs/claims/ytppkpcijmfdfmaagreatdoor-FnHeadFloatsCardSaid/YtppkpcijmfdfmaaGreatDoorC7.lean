/- The walk of parseObject: empty texts, empty objects, and the loop over the members. -/
import Derived.Test.YtppkpcijmfdfmaaGreatDoorC6
import Derived.Deep.RegionWith
set_option linter.unusedVariables false
set_option linter.unusedSimpArgs false
namespace Go.Proofs.YtppkpcijmfdfmaaGreatDoor
open Go.RowKit
attribute [local go_sem] B_size B_get B_lit B_ext_to B_ext B_toList B_app

theorem rawKey_ok {r k r1 : Bs} (h : jRaw r = some (k, r1)) (w : World) (hl : r.length < 4294967296) :
    Calls Tryz.prog 175 #[.string (B r)] w fun e w' => e = .returned (.tuple #[.string (B k), .string (B r1), .nilIface]) ∧ Below w.heap.size w w' := by
  refine (rawKey_any r w hl).mono ?_
  rintro e w' ⟨x, y, z, rfl, hp⟩
  rw [h] at hp
  obtain ⟨rfl, rfl, rfl, n, rfl⟩ := hp
  exact ⟨rfl, below_draws (Below.refl _ _) n⟩
theorem rawKey_err {r : Bs} (h : jRaw r = none) (w : World) (hl : r.length < 4294967296) :
    Calls Tryz.prog 175 #[.string (B r)] w fun e w' => ∃ x y T v, e = .returned (.tuple #[.string (B x), .string (B y), .iface T v]) ∧ Below w.heap.size w w' := by
  refine (rawKey_any r w hl).mono ?_
  rintro e w' ⟨x, y, z, rfl, hp⟩
  rw [h] at hp
  obtain ⟨⟨T, v, rfl⟩, hb⟩ := hp
  exact ⟨x, y, T, v, rfl, hb⟩
theorem ReadsV.ok {cb co d L : Nat} {dp : Int} (hV : ReadsV cb co d L dp) {s t : Bs} {v : J} (hv : jVal d s = some (v, t)) {w : World} {sv : Value} {n : Nat} (hc : CI w cb co sv n) (hl : n + s.length ≤ L) :
    Calls Tryz.prog 144 #[.pointer (some ⟨cb, co, none⟩), .string (B s), .int .i64 dp] w (PVok cb co w sv n (n + s.length) v t) := by
  have := hV s w sv n hc hl
  rw [hv] at this
  exact this
theorem ReadsV.err {cb co d L : Nat} {dp : Int} (hV : ReadsV cb co d L dp) {s : Bs} (hv : jVal d s = none) {w : World} {sv : Value} {n : Nat} (hc : CI w cb co sv n) (hl : n + s.length ≤ L) :
    Calls Tryz.prog 144 #[.pointer (some ⟨cb, co, none⟩), .string (B s), .int .i64 dp] w (PVerr cb co w sv n) := by
  have := hV s w sv n hc hl
  rw [hv] at this
  exact this

/-- The state of parseObject's loop. -/
def ObjSt (cb co d : Nat) (s : Bs) (w0 : World) (sv0 : Value) (n0 k o : Nat) (u : Bs) (w : World) : Prop :=
  ∃ sv n ov l ms N, ObjAt cb co w0 sv0 n0 k o ms w sv n ov l l.length [] ∧ ObjPure d s ms N u ∧ n + u.length ≤ n0 + s.length + 1 ∧ ms.length + u.length ≤ s.length

section
variable {cb co : Nat} {w0 : World} {sv0 : Value} {n0 k o : Nat} {ms : List (Bs × J)} {w : World} {sv : Value} {n : Nat} {l : List (Bs × (Nat × Nat))} {m : Nat}
theorem ObjAt.begin' {ov : Value} (h : ObjAt cb co w0 sv0 n0 k o ms w sv n ov l l.length []) (hn : l.length < 1000000000000) :
    Calls Tryz.prog 174 #[.pointer (some ⟨k, o, none⟩)] w fun e w' => ∃ g cap, e = .returned (.pointer (some ⟨g, l.length * 2, none⟩)) ∧ ObjAt cb co w0 sv0 n0 k o ms w' sv n (.slice (some ⟨g, 0, none⟩) (l.length + 1) cap) l (l.length + 1) [.string (B []), .pointer none] :=
  (getKV_any k o l.length ov w h.node.vn.c0 (h.node.vn.free 0 (by omega)) (h.node.vn.sure 0 (by omega)).2.1 _ h.row hn).mono fun _ _ hg => h.begin hg
theorem ObjAt.store0 {g cap : Nat} {a b : Value} (hcb : cb < w0.heap.size) (h : ObjAt cb co w0 sv0 n0 k o ms w sv n (.slice (some ⟨g, 0, none⟩) m cap) l m [a, b]) (v : Value) :
    ObjAt cb co w0 sv0 n0 k o ms (w.setCell ⟨g, l.length * 2, none⟩ v) sv n (.slice (some ⟨g, 0, none⟩) m cap) l m [v, b] := h.store hcb 0 v (by simp)
theorem ObjAt.store1 {g cap : Nat} {a b : Value} (hcb : cb < w0.heap.size) (h : ObjAt cb co w0 sv0 n0 k o ms w sv n (.slice (some ⟨g, 0, none⟩) m cap) l m [a, b]) (v : Value) :
    ObjAt cb co w0 sv0 n0 k o ms (w.setCell ⟨g, l.length * 2 + 1, none⟩ v) sv n (.slice (some ⟨g, 0, none⟩) m cap) l m [a, v] := h.store hcb 1 v (by simp)
end

set_option maxRecDepth 100000 in
set_option maxHeartbeats 1000000 in
theorem obj_nil (cb co d : Nat) (dp : Int) (s : Bs) (w : World) (sv : Value) (n : Nat) (hs : jSkip s = []) (hl : s.length < 4294967296) :
    Calls Tryz.prog 157 #[.pointer (some ⟨cb, co, none⟩), .string (B s), .int .i64 dp] w (PV cb co w sv n (pobj d s) (n + s.length + 1)) := by
  have HP : Hid (pobj d s = none) := by show pobj d s = none; unfold pobj; rw [hs]
  have HS := Lib.hid (skip_any s w hl)
  rw [hs] at HS
  clear hs
  go_enter Tryz.func157, Tryz.ntmps157
  go_wp2_with (first | (go_at_call 142; refine HS.out.mono ?_; rintro e w' ⟨rfl, rfl⟩) | (go_at_call 109; refine (errorsNew_any _ _).mono ?_; rintro e w' ⟨rfl, rfl⟩))
  go_ret3
  exact PV.err none [] _ _ sv n HP.out (frame_err (Fr.refl _ _ _ _ _) _)

set_option maxRecDepth 100000 in
set_option maxHeartbeats 1000000 in
theorem obj_close (cb co d : Nat) (dp : Int) (s u : Bs) (w : World) (sv : Value) (n : Nat) (h : CI w cb co sv n) (hs : jSkip s = 125 :: u) (hl : s.length < 4294967296) (hn : n < 1000000000000) :
    Calls Tryz.prog 157 #[.pointer (some ⟨cb, co, none⟩), .string (B s), .int .i64 dp] w (PV cb co w sv n (pobj d s) (n + s.length + 1)) := by
  have HP : Hid (pobj d s = some (.obj [], u)) := by show pobj d s = _; unfold pobj; rw [hs]; rfl
  have HL : Hid (u.length + 1 ≤ s.length) := by
    have := jSkip_len s
    rw [hs] at this; exact this
  have HS := Lib.hid (skip_any s w hl)
  rw [hs] at HS
  have HG := Lib.hid (getValue_ci cb co w sv n h hn)
  have hu : u.length < 4294967296 := by have := HL.out; omega
  have h0 : ((u.length : Int) + 1 == 0) = false := by rw [beq_eq_false_iff_ne]; omega
  clear hs h
  go_enter Tryz.func157, Tryz.ntmps157
  go_wp2_with (first | (go_at_call 142; refine HS.out.mono ?_; rintro e w' ⟨rfl, rfl⟩) | (go_at_call 160; refine HG.out.mono ?_; rintro e w1 ⟨g, sv1, rfl, hN⟩; have HN := Lib.hid hN; have k4 := hN.vn.c4; have f4 := hN.vn.free 4 (by omega); clear hN) | (go_at_call 173; refine (reset_any _ _ false _ (HN.out.set4 _).vn.c0 (HN.out.set4 _).vn.c1 ((HN.out.set4 _).vn.free 0 (by omega)) ((HN.out.set4 _).vn.free 1 (by omega))).mono ?_; rintro e w2 ⟨rfl, rfl⟩))
  go_quiet (fail)
  go_wp2
  go_ret3
  rw [HP.out]
  have hN := (((HN.out.set4 (.int .i64 1)).set0 (.slice none 0 0)).set1 (.bool false)).draws nq
  exact ⟨g, n * 5, sv1, n + 1, rfl, hN.ci, hN.fr, by have := HL.out; omega, .obj (ps := []) hN.vn rfl (Or.inl ⟨rfl, rfl, rfl⟩) (fun i p t h => by simp at h)⟩

section
variable {cb co : Nat} {w0 : World} {sv0 : Value} {n0 k o : Nat} {ms : List (Bs × J)} {w : World} {sv : Value} {n : Nat} {l : List (Bs × (Nat × Nat))} {m : Nat} {pend : List Value}
theorem ObjAt.pcell_later {g cap : Nat} (h : ObjAt cb co w0 sv0 n0 k o ms w sv n (.slice (some ⟨g, 0, none⟩) m cap) l m pend) (j : Nat) (v : Value) (hj : pend[j]? = some v) (hcb : cb < w0.heap.size) {w' : World} {sv' : Value} {n' : Nat} (hf : Fr cb co w sv n w' sv' n') :
    w'.cell? ⟨g, l.length * 2 + j, none⟩ = some v ∧ w'.frozen? ⟨g, l.length * 2 + j, none⟩ = false := by
  have hs := hf.keep g (l.length * 2 + j) (h.row.lt g rfl) (by
    rintro (⟨e, _⟩ | ⟨e, _⟩)
    · exact h.ne_cb rfl hcb e
    · exact h.ne_vs rfl e)
  exact ⟨hs.cell.trans (h.pcell j v hj).1, hs.free.trans (h.pcell j v hj).2⟩
theorem ObjAt.kid_store {g cap : Nat} (h : ObjAt cb co w0 sv0 n0 k o ms w sv n (.slice (some ⟨g, 0, none⟩) m cap) l m pend) {w' : World} {sv' : Value} {n' j k' o' : Nat} {v : Value} (hk : Nw cb co w sv n w' sv' n' k' o') :
    Kid cb co w0 sv0 n0 (w'.setCell ⟨g, j, none⟩ v) sv' n' k o (.slice (some ⟨g, 0, none⟩) m cap) k' o' ∧ Same w' (w'.setCell ⟨g, j, none⟩ v) k' o' := by
  have h1 := h.kid hk
  exact ⟨⟨Nw.write h1.1, h1.2⟩, Same.setCell w' v fun ⟨e, _⟩ => h1.2.2 (by rw [← e]; rfl)⟩
end

set_option maxRecDepth 100000 in
set_option maxHeartbeats 8000000 in
theorem obj_loop (cb co d L : Nat) (dp : Int) (s u : Bs) (c : UInt8) (w : World) (sv : Value) (n : Nat) (h : CI w cb co sv n) (hs : jSkip s = c :: u) (hc : c ≠ 125) (hL : L < 4294967296) (hl : n + s.length + 1 ≤ L)
    (hV : ReadsV cb co d L dp) :
    Calls Tryz.prog 157 #[.pointer (some ⟨cb, co, none⟩), .string (B s), .int .i64 dp] w (PV cb co w sv n (pobj d s) (n + s.length + 1)) := by
  have HA0 := Lib.hid (ObjPure.start (d := d) hs hc)
  have HL : Hid (u.length + 1 ≤ s.length) := by
    have := jSkip_len s
    rw [hs] at this; exact this
  have HS := Lib.hid (skip_any s w (by omega))
  rw [hs] at HS
  have HG := Lib.hid (getValue_ci cb co w sv n h (by omega))
  have HCB := Lib.hid h.lt
  have HV := Lib.hid hV
  have hu : u.length < 4294967296 := by have := HL.out; omega
  have h0 : ((u.length : Int) + 1 == 0) = false := by rw [beq_eq_false_iff_ne]; omega
  have h125 : ((c.toNat : Int) == 125) = false := (u8_facts 125 hc).1
  clear hs h hc hV
  go_enter Tryz.func157, Tryz.ntmps157
  go_wp2_with (first | (go_at_call 142; refine HS.out.mono ?_; rintro e w' ⟨rfl, rfl⟩) | (go_at_call 160; refine HG.out.mono ?_; rintro e w1 ⟨g, sv1, rfl, hN⟩; have HN := Lib.hid hN; have k4 := hN.vn.c4; have f4 := hN.vn.free 4 (by omega); clear hN) | (go_at_call 173; refine (reset_any _ _ false _ (HN.out.set4 _).vn.c0 (HN.out.set4 _).vn.c1 ((HN.out.set4 _).vn.free 0 (by omega)) ((HN.out.set4 _).vn.free 1 (by omega))).mono ?_; rintro e w2 ⟨rfl, rfl⟩))
  go_loopw [1] (fun q wr => ∃ u, Hid (ObjSt cb co d s w sv n g (n * 5) u wr) ∧ q = .string (B u)) (fun q _ => strLen q)
  case atStart =>
    have hN := ((HN.out.set4 (.int .i64 1)).set0 (.slice none 0 0)).set1 (.bool false)
    exact ⟨c :: u, ⟨sv1, n + 1, .slice none 0 0, [], [], _, ⟨hN, Or.inl ⟨rfl, rfl, rfl⟩, rfl, fun g hg => (by cases hg), rfl, fun i p t hp => by simp at hp⟩, HA0.out, by have := HL.out; simp; omega, by have := HL.out; simp; omega⟩, rfl⟩
  case round =>
    clear HA0 HL HS HG HN k4 f4 h0 h125 hu
    obtain ⟨q, HR, rfl⟩ := hrel
    obtain ⟨svi, ni, ov, l, ms, N, hA, hP, hlen, hlen2⟩ := HR.out
    clear HR
    have HP := Lib.hid hP
    have HA := Lib.hid hA
    have HML : Hid (l.length = ms.length) := (by have := congrArg List.length hA.keys; simpa using this : l.length = ms.length)
    have HLE := Lib.hid hlen
    have HLT := Lib.hid hlen2
    have hq : q.length < 4294967296 := by omega
    have HQ := Lib.hid (jSkip_length q)
    clear hA hP hlen hlen2
    cases hs1 : jSkip q with
    | nil =>
      have HE := Lib.hid (HP.out.bad1 hs1)
      go_wp2_with (first
        | (go_at_call 174; refine (HA.out.begin' (by have := HLT.out; have := HML.out; omega)).mono ?_; rintro e w2 ⟨g2, cap2, rfl, hO⟩; have HO := Lib.hid hO; clear hO)
        | (go_at_call 142; refine (skip_any _ _ (by assumption)).mono ?_; rintro e w' ⟨rfl, rfl⟩)
        | (go_at_call 109; refine (errorsNew_any _ _).mono ?_; rintro e w' ⟨rfl, rfl⟩))
      go_ret3
      exact PV.err none _ _ _ _ _ HE.out (frame_err HO.out.node.fr _)
    | cons c1 r =>
      have hr : r.length < 4294967296 := by have := HQ.out; rw [hs1] at this; simp at this; omega
      have z1 : ((r.length : Int) + 1 == 0) = false := by rw [beq_eq_false_iff_ne]; omega
      by_cases hc1 : c1 = 34
      · subst hc1
        cases hk : jRaw r with
        | none =>
          have HE := Lib.hid (HP.out.bad3 hs1 hk)
          have HK := Lib.hid hk
          clear hk
          go_wp2_with (first
            | (go_at_call 174; refine (HA.out.begin' (by have := HLT.out; have := HML.out; omega)).mono ?_; rintro e w2 ⟨g2, cap2, rfl, hO⟩; have HO := Lib.hid hO; clear hO)
            | (go_at_call 142; refine (skip_any _ _ (by assumption)).mono ?_; rintro e w' ⟨rfl, rfl⟩)
            | (go_at_call 175; refine (rawKey_err HK.out _ (by assumption)).mono ?_; rintro e w3 ⟨x, y, T, v, rfl, hb⟩; have hO3 := HO.out.below hb; have k3 := (hO3.pcell 0 _ rfl).1; have f3 := (hO3.pcell 0 _ rfl).2; simp only [Nat.add_zero] at k3 f3; have HO3 := Lib.hid hO3; clear hO3 hb)
            | (go_at_call 109; refine (errorsNew_any _ _).mono ?_; rintro e w' ⟨rfl, rfl⟩))
          go_ret3
          exact PV.err none _ _ _ _ _ HE.out (frame_err (HO3.out.store0 HCB.out _).node.fr _)
        | some pr =>
          obtain ⟨key, r1⟩ := pr
          have HK := Lib.hid hk
          have hr1 : r1.length < 4294967296 := by have := jRaw_len hk; omega
          have HR1 := Lib.hid (jSkip_length r1)
          have HKL := Lib.hid (jRaw_len hk)
          have HS1 := Lib.hid hs1
          clear hk
          cases hs2 : jSkip r1 with
          | nil =>
            have HE := Lib.hid (HP.out.bad4 HS1.out HK.out hs2)
            go_wp2_with (first
              | (go_at_call 174; refine (HA.out.begin' (by have := HLT.out; have := HML.out; omega)).mono ?_; rintro e w2 ⟨g2, cap2, rfl, hO⟩; have HO := Lib.hid hO; clear hO)
              | (go_at_call 142; refine (skip_any _ _ (by assumption)).mono ?_; rintro e w' ⟨rfl, rfl⟩)
              | (go_at_call 175; refine (rawKey_ok HK.out _ (by assumption)).mono ?_; rintro e w3 ⟨rfl, hb⟩; have hO3 := HO.out.below hb; have k3 := (hO3.pcell 0 _ rfl).1; have f3 := (hO3.pcell 0 _ rfl).2; simp only [Nat.add_zero] at k3 f3; have HO3 := Lib.hid hO3; have HO4 := Lib.hid (hO3.store0 HCB.out (.string (B key))); clear hO3 hb)
              | (go_at_call 109; refine (errorsNew_any _ _).mono ?_; rintro e w' ⟨rfl, rfl⟩))
            go_ret3
            exact PV.err none _ _ _ _ _ HE.out (frame_err HO4.out.node.fr _)
          | cons c2 r2 =>
            have hr2 : r2.length < 4294967296 := by have := HR1.out; rw [hs2] at this; simp at this; omega
            have z2 : ((r2.length : Int) + 1 == 0) = false := by rw [beq_eq_false_iff_ne]; omega
            by_cases hc2 : c2 = 58
            · subst hc2
              have HS2 := Lib.hid hs2
              have HLV : Hid (ni + (jSkip r2).length ≤ L) := (by
                have h1 := HQ.out; have h2 := HR1.out; have h3 := HKL.out; have h4 := jSkip_length r2; have h5 := HLE.out
                rw [hs1] at h1; rw [hs2] at h2; simp at h1 h2; omega : ni + (jSkip r2).length ≤ L)
              cases hv : jVal d (jSkip r2) with
              | none =>
                have HE := Lib.hid (HP.out.bad6 HS1.out HK.out HS2.out hv)
                have HVV := Lib.hid hv
                clear hv
                go_wp2_with (first
                  | (go_at_call 174; refine (HA.out.begin' (by have := HLT.out; have := HML.out; omega)).mono ?_; rintro e w2 ⟨g2, cap2, rfl, hO⟩; have HO := Lib.hid hO; clear hO)
                  | (go_at_call 142; refine (skip_any _ _ (by assumption)).mono ?_; rintro e w' ⟨rfl, rfl⟩)
                  | (go_at_call 175; refine (rawKey_ok HK.out _ (by assumption)).mono ?_; rintro e w3 ⟨rfl, hb⟩; have hO3 := HO.out.below hb; have k3 := (hO3.pcell 0 _ rfl).1; have f3 := (hO3.pcell 0 _ rfl).2; simp only [Nat.add_zero] at k3 f3; have HO3 := Lib.hid hO3; have HO4 := Lib.hid (hO3.store0 HCB.out (.string (B key))); clear hO3 hb)
                  | (go_at_call 144; refine (HV.out.err HVV.out HO4.out.node.ci (by have := HLV.out; omega)).mono ?_; rintro e w5 ⟨p, x, T, v, sv5, n5, rfl, hf⟩; have HF := Lib.hid hf; have k5 := (HO4.out.pcell_later 1 _ rfl HCB.out hf).1; have f5 := (HO4.out.pcell_later 1 _ rfl HCB.out hf).2; clear hf)
                  | (go_at_call 109; refine (errorsNew_any _ _).mono ?_; rintro e w' ⟨rfl, rfl⟩))
                go_ret3
                exact PV.err none _ _ _ _ _ HE.out (frame_err ((HO4.out.node.fr.trans HF.out).write _ (Or.inl (HO4.out.new g2 rfl))) _)
              | some pr =>
                obtain ⟨v, t⟩ := pr
                have HVV := Lib.hid hv
                have HM := Lib.hid (member_len HS1.out HK.out HS2.out hv)
                have ht : t.length < 4294967296 := by have := HM.out; omega
                have HT := Lib.hid (jSkip_length t)
                clear hv
                cases hs3 : jSkip t with
                | nil =>
                  have HE := Lib.hid (HP.out.bad7 HS1.out HK.out HS2.out HVV.out hs3)
                  go_wp2_with (first
                    | (go_at_call 174; refine (HA.out.begin' (by have := HLT.out; have := HML.out; omega)).mono ?_; rintro e w2 ⟨g2, cap2, rfl, hO⟩; have HO := Lib.hid hO; clear hO)
                    | (go_at_call 142; refine (skip_any _ _ (by assumption)).mono ?_; rintro e w' ⟨rfl, rfl⟩)
                    | (go_at_call 175; refine (rawKey_ok HK.out _ (by assumption)).mono ?_; rintro e w3 ⟨rfl, hb⟩; have hO3 := HO.out.below hb; have k3 := (hO3.pcell 0 _ rfl).1; have f3 := (hO3.pcell 0 _ rfl).2; simp only [Nat.add_zero] at k3 f3; have HO3 := Lib.hid hO3; have HO4 := Lib.hid (hO3.store0 HCB.out (.string (B key))); clear hO3 hb)
                    | (go_at_call 144; refine (HV.out.ok HVV.out HO4.out.node.ci (by have := HLV.out; omega)).mono ?_; rintro e w5 ⟨k1, o1, sv5, n5, rfl, hci, hfr, hle, hrep⟩; have hO5 := HO4.out.later HCB.out hfr hci; have k5 := (hO5.pcell 1 _ rfl).1; have f5 := (hO5.pcell 1 _ rfl).2; have HO6 := Lib.hid ((hO5.store1 HCB.out (ptrV (k1, o1))).done (p := (k1, o1)) (hrep.mono fun ka oa hs => HO4.out.kid_store hs)); have HN5 := Lib.hid hle; clear hO5 hci hfr hle hrep)
                    | (go_at_call 109; refine (errorsNew_any _ _).mono ?_; rintro e w' ⟨rfl, rfl⟩))
                  go_ret3
                  exact PV.err none _ _ _ _ _ HE.out (frame_err HO6.out.node.fr _)
                | cons c3 x =>
                  have hx : x.length < 4294967296 := by have := HT.out; rw [hs3] at this; simp at this; omega
                  have z3 : ((x.length : Int) + 1 == 0) = false := by rw [beq_eq_false_iff_ne]; omega
                  by_cases h44 : c3 = 44
                  · subst h44
                    have HE := Lib.hid (HP.out.comma HS1.out HK.out HS2.out HVV.out hs3)
                    go_wp2_with (first
                      | (go_at_call 174; refine (HA.out.begin' (by have := HLT.out; have := HML.out; omega)).mono ?_; rintro e w2 ⟨g2, cap2, rfl, hO⟩; have HO := Lib.hid hO; clear hO)
                      | (go_at_call 142; refine (skip_any _ _ (by assumption)).mono ?_; rintro e w' ⟨rfl, rfl⟩)
                      | (go_at_call 175; refine (rawKey_ok HK.out _ (by assumption)).mono ?_; rintro e w3 ⟨rfl, hb⟩; have hO3 := HO.out.below hb; have k3 := (hO3.pcell 0 _ rfl).1; have f3 := (hO3.pcell 0 _ rfl).2; simp only [Nat.add_zero] at k3 f3; have HO3 := Lib.hid hO3; have HO4 := Lib.hid (hO3.store0 HCB.out (.string (B key))); clear hO3 hb)
                      | (go_at_call 144; refine (HV.out.ok HVV.out HO4.out.node.ci (by have := HLV.out; omega)).mono ?_; rintro e w5 ⟨k1, o1, sv5, n5, rfl, hci, hfr, hle, hrep⟩; have hO5 := HO4.out.later HCB.out hfr hci; have k5 := (hO5.pcell 1 _ rfl).1; have f5 := (hO5.pcell 1 _ rfl).2; have HO6 := Lib.hid ((hO5.store1 HCB.out (ptrV (k1, o1))).done (p := (k1, o1)) (hrep.mono fun ka oa hs => HO4.out.kid_store hs)); have HN5 := Lib.hid hle; clear hO5 hci hfr hle hrep)
                      | (go_at_call 109; refine (errorsNew_any _ _).mono ?_; rintro e w' ⟨rfl, rfl⟩))
                    go_roundw
                    case rel => exact ⟨x, ⟨sv5, n5, _, l ++ [(key, (k1, o1))], _, N - 1, by have := HO6.out; rw [List.length_append]; exact this, HE.out.1, by have := HN5.out; have := HE.out.2; have := HM.out; have := HLE.out; omega, by have := HE.out.2; have := HLT.out; simp; omega⟩, rfl⟩
                    case measure => simp only [strLen, B_size]; have := HE.out.2; omega
                  · by_cases h125 : c3 = 125
                    · subst h125
                      have HE := Lib.hid (HP.out.close HS1.out HK.out HS2.out HVV.out hs3)
                      go_wp2_with (first
                        | (go_at_call 174; refine (HA.out.begin' (by have := HLT.out; have := HML.out; omega)).mono ?_; rintro e w2 ⟨g2, cap2, rfl, hO⟩; have HO := Lib.hid hO; clear hO)
                        | (go_at_call 142; refine (skip_any _ _ (by assumption)).mono ?_; rintro e w' ⟨rfl, rfl⟩)
                        | (go_at_call 175; refine (rawKey_ok HK.out _ (by assumption)).mono ?_; rintro e w3 ⟨rfl, hb⟩; have hO3 := HO.out.below hb; have k3 := (hO3.pcell 0 _ rfl).1; have f3 := (hO3.pcell 0 _ rfl).2; simp only [Nat.add_zero] at k3 f3; have HO3 := Lib.hid hO3; have HO4 := Lib.hid (hO3.store0 HCB.out (.string (B key))); clear hO3 hb)
                        | (go_at_call 144; refine (HV.out.ok HVV.out HO4.out.node.ci (by have := HLV.out; omega)).mono ?_; rintro e w5 ⟨k1, o1, sv5, n5, rfl, hci, hfr, hle, hrep⟩; have hO5 := HO4.out.later HCB.out hfr hci; have k5 := (hO5.pcell 1 _ rfl).1; have f5 := (hO5.pcell 1 _ rfl).2; have HO6 := Lib.hid ((hO5.store1 HCB.out (ptrV (k1, o1))).done (p := (k1, o1)) (hrep.mono fun ka oa hs => HO4.out.kid_store hs)); have HN5 := Lib.hid hle; clear hO5 hci hfr hle hrep)
                        | (go_at_call 109; refine (errorsNew_any _ _).mono ?_; rintro e w' ⟨rfl, rfl⟩))
                      go_quiet (fail)
                      go_wp2
                      go_ret3
                      rw [HE.out.1]
                      have hO7 := HO6.out.below (below_draws (Below.refl _ _) nq)
                      exact ⟨g, n * 5, sv5, n5, rfl, hO7.node.ci, hO7.node.fr, by have := HN5.out; have := HE.out.2; have := HM.out; have := HLE.out; omega, hO7.rep HCB.out (by simp)⟩
                    · have HE := Lib.hid (HP.out.other HS1.out HK.out HS2.out HVV.out hs3 h44 h125)
                      have g1 : ((c3.toNat : Int) == 44) = false := (u8_facts 44 h44).1
                      have g2' : ((c3.toNat : Int) == 125) = false := (u8_facts 125 h125).1
                      clear h44 h125
                      go_wp2_with (first
                        | (go_at_call 174; refine (HA.out.begin' (by have := HLT.out; have := HML.out; omega)).mono ?_; rintro e w2 ⟨g2, cap2, rfl, hO⟩; have HO := Lib.hid hO; clear hO)
                        | (go_at_call 142; refine (skip_any _ _ (by assumption)).mono ?_; rintro e w' ⟨rfl, rfl⟩)
                        | (go_at_call 175; refine (rawKey_ok HK.out _ (by assumption)).mono ?_; rintro e w3 ⟨rfl, hb⟩; have hO3 := HO.out.below hb; have k3 := (hO3.pcell 0 _ rfl).1; have f3 := (hO3.pcell 0 _ rfl).2; simp only [Nat.add_zero] at k3 f3; have HO3 := Lib.hid hO3; have HO4 := Lib.hid (hO3.store0 HCB.out (.string (B key))); clear hO3 hb)
                        | (go_at_call 144; refine (HV.out.ok HVV.out HO4.out.node.ci (by have := HLV.out; omega)).mono ?_; rintro e w5 ⟨k1, o1, sv5, n5, rfl, hci, hfr, hle, hrep⟩; have hO5 := HO4.out.later HCB.out hfr hci; have k5 := (hO5.pcell 1 _ rfl).1; have f5 := (hO5.pcell 1 _ rfl).2; have HO6 := Lib.hid ((hO5.store1 HCB.out (ptrV (k1, o1))).done (p := (k1, o1)) (hrep.mono fun ka oa hs => HO4.out.kid_store hs)); have HN5 := Lib.hid hle; clear hO5 hci hfr hle hrep)
                        | (go_at_call 109; refine (errorsNew_any _ _).mono ?_; rintro e w' ⟨rfl, rfl⟩))
                      go_ret3
                      exact PV.err none _ _ _ _ _ HE.out (frame_err HO6.out.node.fr _)
            · have HE := Lib.hid (HP.out.bad5 HS1.out HK.out hs2 hc2)
              have g1 : ((c2.toNat : Int) != 58) = true := (u8_facts 58 hc2).2
              clear hc2
              go_wp2_with (first
                | (go_at_call 174; refine (HA.out.begin' (by have := HLT.out; have := HML.out; omega)).mono ?_; rintro e w2 ⟨g2, cap2, rfl, hO⟩; have HO := Lib.hid hO; clear hO)
                | (go_at_call 142; refine (skip_any _ _ (by assumption)).mono ?_; rintro e w' ⟨rfl, rfl⟩)
                | (go_at_call 175; refine (rawKey_ok HK.out _ (by assumption)).mono ?_; rintro e w3 ⟨rfl, hb⟩; have hO3 := HO.out.below hb; have k3 := (hO3.pcell 0 _ rfl).1; have f3 := (hO3.pcell 0 _ rfl).2; simp only [Nat.add_zero] at k3 f3; have HO3 := Lib.hid hO3; have HO4 := Lib.hid (hO3.store0 HCB.out (.string (B key))); clear hO3 hb)
                | (go_at_call 109; refine (errorsNew_any _ _).mono ?_; rintro e w' ⟨rfl, rfl⟩))
              go_ret3
              exact PV.err none _ _ _ _ _ HE.out (frame_err HO4.out.node.fr _)
      · have HE := Lib.hid (HP.out.bad2 hs1 hc1)
        have g1 : ((c1.toNat : Int) != 34) = true := (u8_facts 34 hc1).2
        clear hc1
        go_wp2_with (first
          | (go_at_call 174; refine (HA.out.begin' (by have := HLT.out; have := HML.out; omega)).mono ?_; rintro e w2 ⟨g2, cap2, rfl, hO⟩; have HO := Lib.hid hO; clear hO)
          | (go_at_call 142; refine (skip_any _ _ (by assumption)).mono ?_; rintro e w' ⟨rfl, rfl⟩)
          | (go_at_call 109; refine (errorsNew_any _ _).mono ?_; rintro e w' ⟨rfl, rfl⟩))
        go_ret3
        exact PV.err none _ _ _ _ _ HE.out (frame_err HO.out.node.fr _)
end Go.Proofs.YtppkpcijmfdfmaaGreatDoor


/- The walk of parseValue, by the first byte. -/
namespace Go.Proofs.YtppkpcijmfdfmaaGreatDoor
open Go.RowKit
attribute [local go_sem] B_size B_get B_lit B_ext_to B_ext B_toList B_app

theorem arr_any (cb co d L : Nat) (dp : Int) (s : Bs) (w : World) (sv : Value) (n : Nat) (h : CI w cb co sv n) (hL : L < 4294967296) (hl : n + s.length + 1 ≤ L) (hV : ReadsV cb co d L dp) :
    Calls Tryz.prog 158 #[.pointer (some ⟨cb, co, none⟩), .string (B s), .int .i64 dp] w (PV cb co w sv n (parr d s) (n + s.length + 1)) := by
  cases hs : jSkip s with
  | nil => exact arr_nil cb co d dp s w sv n hs (by omega)
  | cons c u =>
    by_cases hc : c = 93
    · subst hc; exact arr_close cb co d dp s u w sv n h hs (by omega) (by omega)
    · exact arr_loop cb co d L dp s u c w sv n h hs hc hL hl hV
theorem obj_any (cb co d L : Nat) (dp : Int) (s : Bs) (w : World) (sv : Value) (n : Nat) (h : CI w cb co sv n) (hL : L < 4294967296) (hl : n + s.length + 1 ≤ L) (hV : ReadsV cb co d L dp) :
    Calls Tryz.prog 157 #[.pointer (some ⟨cb, co, none⟩), .string (B s), .int .i64 dp] w (PV cb co w sv n (pobj d s) (n + s.length + 1)) := by
  cases hs : jSkip s with
  | nil => exact obj_nil cb co d dp s w sv n hs (by omega)
  | cons c u =>
    by_cases hc : c = 125
    · subst hc; exact obj_close cb co d dp s u w sv n h hs (by omega) (by omega)
    · exact obj_loop cb co d L dp s u c w sv n h hs hc hL hl hV

set_option maxRecDepth 100000 in
set_option maxHeartbeats 1000000 in
theorem val_nil (cb co d : Nat) (dp : Int) (w : World) (sv : Value) (n m : Nat) :
    Calls Tryz.prog 144 #[.pointer (some ⟨cb, co, none⟩), .string (B []), .int .i64 dp] w (PV cb co w sv n (jVal d []) m) := by
  have HP := Lib.hid (jVal_nil d)
  go_enter Tryz.func144, Tryz.ntmps144
  go_wp2_with (go_at_call 109; refine (errorsNew_any _ _).mono ?_; rintro e w' ⟨rfl, rfl⟩)
  go_ret3
  exact PV.err none [] _ _ sv n HP.out (frame_err (Fr.refl _ _ _ _ _) _)
set_option maxRecDepth 100000 in
set_option maxHeartbeats 1000000 in
theorem val_deep (cb co : Nat) (c : UInt8) (r : Bs) (w : World) (sv : Value) (n m : Nat) (hl : r.length < 4294967296) :
    Calls Tryz.prog 144 #[.pointer (some ⟨cb, co, none⟩), .string (B (c :: r)), .int .i64 300] w (PV cb co w sv n (jVal 0 (c :: r)) m) := by
  have HP : Hid (jVal 0 (c :: r) = none) := rfl
  have z : ((r.length : Int) + 1 == 0) = false := by rw [beq_eq_false_iff_ne]; omega
  go_enter Tryz.func144, Tryz.ntmps144
  go_wp2_with (go_at_call 109; refine (errorsNew_any _ _).mono ?_; rintro e w' ⟨rfl, rfl⟩)
  go_ret3
  exact PV.err none _ _ _ sv n HP.out (frame_err (Fr.refl _ _ _ _ _) _)

set_option maxRecDepth 100000 in
set_option maxHeartbeats 1000000 in
theorem val_obj (cb co d L : Nat) (dp : Int) (r : Bs) (w : World) (sv : Value) (n : Nat) (h : CI w cb co sv n) (hL : L < 4294967296) (hl : n + r.length + 1 ≤ L) (hd0 : 0 ≤ dp) (hd : dp < 300) (hV : ReadsV cb co d L (dp + 1)) :
    Calls Tryz.prog 144 #[.pointer (some ⟨cb, co, none⟩), .string (B (123 :: r)), .int .i64 dp] w (PV cb co w sv n (jVal (d + 1) (123 :: r)) (n + r.length + 1)) := by
  have HP : Hid (jVal (d + 1) (123 :: r) = pobj d r) := jVal_cons d 123 r
  have hr : r.length < 4294967296 := by omega
  have z : ((r.length : Int) + 1 == 0) = false := by rw [beq_eq_false_iff_ne]; omega
  have HC := Lib.hid (obj_any cb co d L (dp + 1) r w sv n h hL hl hV)
  clear h hV
  cases hp : pobj d r with
  | none =>
    rw [hp] at HC
    have HE : Hid (jVal (d + 1) (123 :: r) = none) := HP.out.trans hp
    clear hp
    go_enter Tryz.func144, Tryz.ntmps144
    go_wp2_with (first | (go_at_call 157; refine HC.out.mono ?_; rintro e w' ⟨p, x, T, v, sv', n', rfl, hf⟩; have HF := Lib.hid hf; clear hf) | (go_at_call 109; refine (errorsNew_any _ _).mono ?_; rintro e w' ⟨rfl, rfl⟩))
    go_ret3
    exact PV.err none _ _ _ _ _ HE.out (frame_err HF.out _)
  | some pr =>
    obtain ⟨j, t⟩ := pr
    rw [hp] at HC
    have HE : Hid (jVal (d + 1) (123 :: r) = some (j, t)) := HP.out.trans hp
    clear hp
    go_enter Tryz.func144, Tryz.ntmps144
    go_wp2_with (go_at_call 157; refine HC.out.mono ?_; rintro e w' ⟨k, o, sv', n', rfl, hX⟩; have HX := Lib.hid hX; clear hX)
    go_ret3
    rw [HE.out]
    exact ⟨k, o, sv', n', rfl, HX.out⟩

set_option maxRecDepth 100000 in
set_option maxHeartbeats 1000000 in
theorem val_arr (cb co d L : Nat) (dp : Int) (r : Bs) (w : World) (sv : Value) (n : Nat) (h : CI w cb co sv n) (hL : L < 4294967296) (hl : n + r.length + 1 ≤ L) (hd0 : 0 ≤ dp) (hd : dp < 300) (hV : ReadsV cb co d L (dp + 1)) :
    Calls Tryz.prog 144 #[.pointer (some ⟨cb, co, none⟩), .string (B (91 :: r)), .int .i64 dp] w (PV cb co w sv n (jVal (d + 1) (91 :: r)) (n + r.length + 1)) := by
  have HP : Hid (jVal (d + 1) (91 :: r) = parr d r) := jVal_cons d 91 r
  have hr : r.length < 4294967296 := by omega
  have z : ((r.length : Int) + 1 == 0) = false := by rw [beq_eq_false_iff_ne]; omega
  have HC := Lib.hid (arr_any cb co d L (dp + 1) r w sv n h hL hl hV)
  clear h hV
  cases hp : parr d r with
  | none =>
    rw [hp] at HC
    have HE : Hid (jVal (d + 1) (91 :: r) = none) := HP.out.trans hp
    clear hp
    go_enter Tryz.func144, Tryz.ntmps144
    go_wp2_with (first | (go_at_call 158; refine HC.out.mono ?_; rintro e w' ⟨p, x, T, v, sv', n', rfl, hf⟩; have HF := Lib.hid hf; clear hf) | (go_at_call 109; refine (errorsNew_any _ _).mono ?_; rintro e w' ⟨rfl, rfl⟩))
    go_ret3
    exact PV.err none _ _ _ _ _ HE.out (frame_err HF.out _)
  | some pr =>
    obtain ⟨j, t⟩ := pr
    rw [hp] at HC
    have HE : Hid (jVal (d + 1) (91 :: r) = some (j, t)) := HP.out.trans hp
    clear hp
    go_enter Tryz.func144, Tryz.ntmps144
    go_wp2_with (go_at_call 158; refine HC.out.mono ?_; rintro e w' ⟨k, o, sv', n', rfl, hX⟩; have HX := Lib.hid hX; clear hX)
    go_ret3
    rw [HE.out]
    exact ⟨k, o, sv', n', rfl, HX.out⟩

theorem rawStr_ok {r k r1 : Bs} (h : jRaw r = some (k, r1)) (w : World) (hl : r.length < 4294967296) :
    Calls Tryz.prog 159 #[.string (B r)] w fun e w' => e = .returned (.tuple #[.string (B k), .string (B r1), .nilIface]) ∧ Below w.heap.size w w' := by
  refine (rawStr_any r w hl).mono ?_
  rintro e w' ⟨x, y, z, rfl, hp⟩
  rw [h] at hp
  obtain ⟨rfl, rfl, rfl, n, rfl⟩ := hp
  exact ⟨rfl, below_draws (Below.refl _ _) n⟩
theorem rawStr_err {r : Bs} (h : jRaw r = none) (w : World) (hl : r.length < 4294967296) :
    Calls Tryz.prog 159 #[.string (B r)] w fun e w' => ∃ x y T v, e = .returned (.tuple #[.string (B x), .string (B y), .iface T v]) ∧ Below w.heap.size w w' := by
  refine (rawStr_any r w hl).mono ?_
  rintro e w' ⟨x, y, z, rfl, hp⟩
  rw [h] at hp
  obtain ⟨⟨T, v, rfl⟩, hb⟩ := hp
  exact ⟨x, y, T, v, rfl, hb⟩
theorem rawNum_ok {r k r1 : Bs} (h : jNum r = some (k, r1)) (w : World) (hl : r.length < 4294967296) :
    Calls Tryz.prog 165 #[.string (B r)] w fun e w' => e = .returned (.tuple #[.string (B k), .string (B r1), .nilIface]) ∧ Below w.heap.size w w' := by
  refine (rawNum_any r w hl).mono ?_
  rintro e w' ⟨x, y, z, rfl, hp⟩
  rw [h] at hp
  obtain ⟨rfl, rfl, rfl, n, rfl⟩ := hp
  exact ⟨rfl, below_draws (Below.refl _ _) n⟩
theorem rawNum_err {r : Bs} (h : jNum r = none) (w : World) (hl : r.length < 4294967296) :
    Calls Tryz.prog 165 #[.string (B r)] w fun e w' => ∃ x y T v, e = .returned (.tuple #[.string (B x), .string (B y), .iface T v]) ∧ Below w.heap.size w w' := by
  refine (rawNum_any r w hl).mono ?_
  rintro e w' ⟨x, y, z, rfl, hp⟩
  rw [h] at hp
  obtain ⟨⟨T, v, rfl⟩, hb⟩ := hp
  exact ⟨x, y, T, v, rfl, hb⟩
/-- A node behind steps that leave memory alone is one behind none. -/
theorem Node.back {cb co : Nat} {w w1 : World} {sv : Value} {n : Nat} {w' : World} {sv' : Value} {n' k o : Nat} {a0 a1 a2 a3 a4 : Value} (hb : Below w.heap.size w w1) (hc : CI w cb co sv n) (h : Node cb co w1 sv n w' sv' n' k o a0 a1 a2 a3 a4) :
    Node cb co w sv n w' sv' n' k o a0 a1 a2 a3 a4 :=
  ⟨h.ci, ((Fr.refl cb co w sv n).below hb).trans h.fr, h.vn.sub fun _ _ hs => Nw.earlier ((Fr.refl cb co w sv n).below hb) hs⟩

set_option maxRecDepth 100000 in
set_option maxHeartbeats 1000000 in
theorem val_str (cb co d : Nat) (dp : Int) (r : Bs) (w : World) (sv : Value) (n : Nat) (h : CI w cb co sv n) (hl : n + r.length < 4294967296) (hd0 : 0 ≤ dp) (hd : dp < 300) :
    Calls Tryz.prog 144 #[.pointer (some ⟨cb, co, none⟩), .string (B (34 :: r)), .int .i64 dp] w (PV cb co w sv n (jVal (d + 1) (34 :: r)) (n + r.length + 1)) := by
  have HP : Hid (jVal (d + 1) (34 :: r) = (jRaw r).map fun p => (.str p.1, p.2)) := jVal_cons d 34 r
  have hr : r.length < 4294967296 := by omega
  have z : ((r.length : Int) + 1 == 0) = false := by rw [beq_eq_false_iff_ne]; omega
  have H := Lib.hid h
  clear h
  cases hp : jRaw r with
  | none =>
    have HC := Lib.hid (rawStr_err hp w hr)
    have HE : Hid (jVal (d + 1) (34 :: r) = none) := by show jVal (d + 1) (34 :: r) = none; rw [HP.out, hp]; rfl
    clear hp
    go_enter Tryz.func144, Tryz.ntmps144
    go_wp2_with (first | (go_at_call 159; refine HC.out.mono ?_; rintro e w' ⟨x, y, T, v, rfl, hb⟩; have HB := Lib.hid hb; clear hb) | (go_at_call 109; refine (errorsNew_any _ _).mono ?_; rintro e w' ⟨rfl, rfl⟩))
    go_ret3
    exact PV.err none _ _ _ _ _ HE.out (frame_err ((Fr.refl cb co w sv n).below HB.out) _)
  | some pr =>
    obtain ⟨a, t⟩ := pr
    have HC := Lib.hid (rawStr_ok hp w hr)
    have HE : Hid (jVal (d + 1) (34 :: r) = some (.str a, t)) := by show jVal (d + 1) (34 :: r) = _; rw [HP.out, hp]; rfl
    have HL := Lib.hid (jRaw_len hp)
    clear hp
    go_enter Tryz.func144, Tryz.ntmps144
    go_wp2_with (first | (go_at_call 159; refine HC.out.mono ?_; rintro e w1 ⟨rfl, hb⟩; have HB := Lib.hid hb; have HCI := Lib.hid (H.out.below hb); clear hb) | (go_at_call 160; refine (getValue_ci cb co _ sv n (HCI.out) (by omega)).mono ?_; rintro e w2 ⟨g, sv2, rfl, hN⟩; have HN := Lib.hid hN; have k3 := hN.vn.c3; have k4 := hN.vn.c4; have f3 := hN.vn.free 3 (by omega); have f4 := hN.vn.free 4 (by omega); clear hN))
    go_ret3
    rw [HE.out]
    have hN := ((HN.out.set4 (.int .i64 7)).set3 (.string (B a))).back HB.out H.out
    exact ⟨g, n * 5, sv2, n + 1, rfl, hN.ci, hN.fr, by have := HL.out; omega, .str hN.vn⟩
set_option maxRecDepth 100000 in
set_option maxHeartbeats 1000000 in
theorem val_num (cb co d : Nat) (dp : Int) (c : UInt8) (r : Bs) (w : World) (sv : Value) (n : Nat) (h : CI w cb co sv n) (hl : n + r.length < 4294967295) (hd0 : 0 ≤ dp) (hd : dp < 300)
    (h1 : c ≠ 123) (h2 : c ≠ 91) (h3 : c ≠ 34) (h4 : c ≠ 116) (h5 : c ≠ 102) (h6 : c ≠ 110) :
    Calls Tryz.prog 144 #[.pointer (some ⟨cb, co, none⟩), .string (B (c :: r)), .int .i64 dp] w (PV cb co w sv n (jVal (d + 1) (c :: r)) (n + r.length + 1)) := by
  have HP : Hid (jVal (d + 1) (c :: r) = (jNum (c :: r)).map fun p => (.num p.1, p.2)) := by
    show jVal (d + 1) (c :: r) = _
    rw [jVal_cons, if_neg h1, if_neg h2, if_neg h3, if_neg h4, if_neg h5, if_neg h6]
  have hr : (c :: r).length < 4294967296 := by simp; omega
  have z : ((r.length : Int) + 1 == 0) = false := by rw [beq_eq_false_iff_ne]; omega
  have g1 : ((c.toNat : Int) == 123) = false := (u8_facts 123 h1).1
  have g2 : ((c.toNat : Int) == 91) = false := (u8_facts 91 h2).1
  have g3 : ((c.toNat : Int) == 34) = false := (u8_facts 34 h3).1
  have g4 : ((c.toNat : Int) == 116) = false := (u8_facts 116 h4).1
  have g5 : ((c.toNat : Int) == 102) = false := (u8_facts 102 h5).1
  have g6 : ((c.toNat : Int) == 110) = false := (u8_facts 110 h6).1
  clear h1 h2 h3 h4 h5 h6
  have H := Lib.hid h
  clear h
  cases hp : jNum (c :: r) with
  | none =>
    have HC := Lib.hid (rawNum_err hp w hr)
    have HE : Hid (jVal (d + 1) (c :: r) = none) := by show jVal (d + 1) (c :: r) = none; rw [HP.out, hp]; rfl
    clear hp hr
    go_enter Tryz.func144, Tryz.ntmps144
    go_wp2_with (first | (go_at_call 165; refine HC.out.mono ?_; rintro e w' ⟨x, y, T, v, rfl, hb⟩; have HB := Lib.hid hb; clear hb) | (go_at_call 109; refine (errorsNew_any _ _).mono ?_; rintro e w' ⟨rfl, rfl⟩))
    go_ret3
    exact PV.err none _ _ _ _ _ HE.out (frame_err ((Fr.refl cb co w sv n).below HB.out) _)
  | some pr =>
    obtain ⟨a, t⟩ := pr
    have HC := Lib.hid (rawNum_ok hp w hr)
    have HE : Hid (jVal (d + 1) (c :: r) = some (.num a, t)) := by show jVal (d + 1) (c :: r) = _; rw [HP.out, hp]; rfl
    have HL := Lib.hid (jNum_len hp (by simp))
    clear hp hr
    go_enter Tryz.func144, Tryz.ntmps144
    go_wp2_with (first | (go_at_call 165; refine HC.out.mono ?_; rintro e w1 ⟨rfl, hb⟩; have HB := Lib.hid hb; have HCI := Lib.hid (H.out.below hb); clear hb) | (go_at_call 160; refine (getValue_ci cb co _ sv n (HCI.out) (by omega)).mono ?_; rintro e w2 ⟨g, sv2, rfl, hN⟩; have HN := Lib.hid hN; have k3 := hN.vn.c3; have k4 := hN.vn.c4; have f3 := hN.vn.free 3 (by omega); have f4 := hN.vn.free 4 (by omega); clear hN))
    go_ret3
    rw [HE.out]
    have hN := ((HN.out.set4 (.int .i64 4)).set3 (.string (B a))).back HB.out H.out
    exact ⟨g, n * 5, sv2, n + 1, rfl, hN.ci, hN.fr, by have := HL.out; simp at this; omega, .num hN.vn⟩

end Go.Proofs.YtppkpcijmfdfmaaGreatDoor

/- The walk of parseValue: the three words; then the reader of values whole. -/
namespace Go.Proofs.YtppkpcijmfdfmaaGreatDoor
open Go.RowKit
attribute [local go_sem] B_size B_get B_lit B_ext_to B_ext B_toList B_app

theorem word_pv {cb co : Nat} {w : World} {sv : Value} {n m : Nat} {tl : Bs} (h : CI w cb co sv n) (t : Int) (j : J) (k : Nat)
    (hj : ∀ w' S, VN w' S w.heap.size 0 (.slice none 0 0) (.bool false) (.slice none 0 0) (.string (B [])) (.int .i64 t) → RepV w' S w.heap.size 0 j) (hm : n + tl.length ≤ m) :
    PVok cb co w sv n m j tl (.returned (.tuple #[.pointer (some ⟨w.heap.size, 0, none⟩), .string (B tl), .nilIface]))
      ((w.alloc (.cells #[.slice none 0 0, .bool false, .slice none 0 0, .string (B []), .int .i64 t] 185)).drewN k) := by
  have hb : Below w.heap.size w ((w.alloc (.cells #[.slice none 0 0, .bool false, .slice none 0 0, .string (B []), .int .i64 t] 185)).drewN k) := below_draws ((Below.refl _ _).alloc (Nat.le_refl _) _) k
  refine ⟨w.heap.size, 0, sv, n, rfl, h.below hb, (Fr.refl _ _ _ _ _).below hb, hm, hj _ _ ?_⟩
  refine (word_vn w (Nw cb co w sv n ((w.alloc (.cells #[.slice none 0 0, .bool false, .slice none 0 0, .string (B []), .int .i64 t] 185)).drewN k) sv n) t fun i hi => ⟨Or.inl (Nat.le_refl _), ?_, ?_⟩).draws k
  · show w.heap.size < (w.alloc _).heap.size
    simp
  · rintro (⟨e, _⟩ | ⟨e, _⟩)
    · have := h.lt; omega
    · have := h.own_lt e; omega

set_option maxRecDepth 100000 in
set_option maxHeartbeats 1000000 in
theorem val_true (cb co d : Nat) (dp : Int) (r : Bs) (w : World) (sv : Value) (n : Nat) (h : CI w cb co sv n) (hl : n + r.length < 4294967200) (hd0 : 0 ≤ dp) (hd : dp < 300) :
    Calls Tryz.prog 144 #[.pointer (some ⟨cb, co, none⟩), .string (B (116 :: r)), .int .i64 dp] w (PV cb co w sv n (jVal (d + 1) (116 :: r)) (n + r.length + 1)) := by
  have HP : Hid (jVal (d + 1) (116 :: r) = if (116 :: r).take 4 = jTrue then some (.tru, r.drop 3) else none) := jVal_cons d 116 r
  have H := Lib.hid h
  clear h
  have z : ((r.length : Int) + 1 == 0) = false := by rw [beq_eq_false_iff_ne]; omega
  by_cases ht : (116 :: r).take 4 = jTrue
  · have HE : Hid (jVal (d + 1) (116 :: r) = some (.tru, r.drop 3)) := by show jVal (d + 1) (116 :: r) = _; rw [HP.out, if_pos ht]
    obtain ⟨r', rfl⟩ : ∃ r', r = 114 :: 117 :: 101 :: r' := by
      refine ⟨r.drop 3, ?_⟩
      have h3 : r.take 3 = [114, 117, 101] := by simpa [jTrue] using ht
      conv => lhs; rw [← List.take_append_drop 3 r, h3]
      rfl
    clear ht HP
    have z4 : ¬ ((r'.length : Int) + 1 + 1 + 1 + 1 < 4) := by omega
    simp only [List.length_cons] at hl
    go_enter Tryz.func144, Tryz.ntmps144
    go_wp2
    go_region_with (go_at_call 161; refine (true_any _).mono ?_; rintro e w' ⟨rfl, rfl⟩)
    all_goals
      go_wp2
      go_ret3
      rw [HE.out]
      refine word_pv (k := 1) H.out 5 .tru (fun _ _ h => .tru h) ?_
      omega
  · have HE : Hid (jVal (d + 1) (116 :: r) = none) := by show jVal (d + 1) (116 :: r) = none; rw [HP.out, if_neg ht]
    have g : (List.take 3 r == [114, 117, 101]) = false := by
      rw [beq_eq_false_iff_ne]; intro e; exact ht (by simpa [jTrue] using e)
    clear ht HP
    by_cases hlen : (r.length : Int) + 1 < 4
    all_goals
      go_enter Tryz.func144, Tryz.ntmps144
      go_wp2_with (go_at_call 109; refine (errorsNew_any _ _).mono ?_; rintro e w' ⟨rfl, rfl⟩)
      go_ret3
      exact PV.err none _ _ _ _ _ HE.out (frame_err (Fr.refl _ _ _ _ _) _)

set_option maxRecDepth 100000 in
set_option maxHeartbeats 1000000 in
theorem val_false (cb co d : Nat) (dp : Int) (r : Bs) (w : World) (sv : Value) (n : Nat) (h : CI w cb co sv n) (hl : n + r.length < 4294967200) (hd0 : 0 ≤ dp) (hd : dp < 300) :
    Calls Tryz.prog 144 #[.pointer (some ⟨cb, co, none⟩), .string (B (102 :: r)), .int .i64 dp] w (PV cb co w sv n (jVal (d + 1) (102 :: r)) (n + r.length + 1)) := by
  have HP : Hid (jVal (d + 1) (102 :: r) = if (102 :: r).take 5 = jFalse then some (.fls, r.drop 4) else none) := jVal_cons d 102 r
  have H := Lib.hid h
  clear h
  have z : ((r.length : Int) + 1 == 0) = false := by rw [beq_eq_false_iff_ne]; omega
  by_cases ht : (102 :: r).take 5 = jFalse
  · have HE : Hid (jVal (d + 1) (102 :: r) = some (.fls, r.drop 4)) := by show jVal (d + 1) (102 :: r) = _; rw [HP.out, if_pos ht]
    obtain ⟨r', rfl⟩ : ∃ r', r = 97 :: 108 :: 115 :: 101 :: r' := by
      refine ⟨r.drop 4, ?_⟩
      have h3 : r.take 4 = [97, 108, 115, 101] := by simpa [jFalse] using ht
      conv => lhs; rw [← List.take_append_drop 4 r, h3]
      rfl
    clear ht HP
    have z4 : ¬ ((r'.length : Int) + 1 + 1 + 1 + 1 + 1 < 5) := by omega
    simp only [List.length_cons] at hl
    go_enter Tryz.func144, Tryz.ntmps144
    go_wp2
    go_region_with (go_at_call 162; refine (false_any _).mono ?_; rintro e w' ⟨rfl, rfl⟩)
    all_goals
      go_wp2
      go_ret3
      rw [HE.out]
      refine word_pv (k := 1) H.out 6 .fls (fun _ _ h => .fls h) ?_
      omega
  · have HE : Hid (jVal (d + 1) (102 :: r) = none) := by show jVal (d + 1) (102 :: r) = none; rw [HP.out, if_neg ht]
    have g : (List.take 4 r == [97, 108, 115, 101]) = false := by
      rw [beq_eq_false_iff_ne]; intro e; exact ht (by simpa [jFalse] using e)
    clear ht HP
    by_cases hlen : (r.length : Int) + 1 < 5
    all_goals
      go_enter Tryz.func144, Tryz.ntmps144
      go_wp2_with (go_at_call 109; refine (errorsNew_any _ _).mono ?_; rintro e w' ⟨rfl, rfl⟩)
      go_ret3
      exact PV.err none _ _ _ _ _ HE.out (frame_err (Fr.refl _ _ _ _ _) _)

set_option maxRecDepth 100000 in
set_option maxHeartbeats 1000000 in
theorem val_null (cb co d : Nat) (dp : Int) (r : Bs) (w : World) (sv : Value) (n : Nat) (h : CI w cb co sv n) (hl : n + r.length < 4294967200) (hd0 : 0 ≤ dp) (hd : dp < 300) :
    Calls Tryz.prog 144 #[.pointer (some ⟨cb, co, none⟩), .string (B (110 :: r)), .int .i64 dp] w (PV cb co w sv n (jVal (d + 1) (110 :: r)) (n + r.length + 1)) := by
  have HP : Hid (jVal (d + 1) (110 :: r) = if (110 :: r).take 4 = jNull then some (.null, r.drop 3) else if 3 ≤ (110 :: r).length ∧ jFold ((110 :: r).take 3) jNan = true then some (.num ((110 :: r).take 3), r.drop 2) else none) := jVal_cons d 110 r
  have H := Lib.hid h
  clear h
  have z : ((r.length : Int) + 1 == 0) = false := by rw [beq_eq_false_iff_ne]; omega
  by_cases ht : (110 :: r).take 4 = jNull
  · have HE : Hid (jVal (d + 1) (110 :: r) = some (.null, r.drop 3)) := by show jVal (d + 1) (110 :: r) = _; rw [HP.out, if_pos ht]
    obtain ⟨r', rfl⟩ : ∃ r', r = 117 :: 108 :: 108 :: r' := by
      refine ⟨r.drop 3, ?_⟩
      have h3 : r.take 3 = [117, 108, 108] := by simpa [jNull] using ht
      conv => lhs; rw [← List.take_append_drop 3 r, h3]
      rfl
    clear ht HP
    have z4 : ¬ ((r'.length : Int) + 1 + 1 + 1 + 1 < 4) := by omega
    simp only [List.length_cons] at hl
    go_enter Tryz.func144, Tryz.ntmps144
    go_wp2
    go_region_with (go_at_call 164; refine (null_any _).mono ?_; rintro e w' ⟨rfl, rfl⟩)
    all_goals
      go_wp2
      go_ret3
      rw [HE.out]
      refine word_pv (k := 1) H.out 0 .null (fun _ _ h => .null h) ?_
      omega
  · have g : (List.take 3 r == [117, 108, 108]) = false := by
      rw [beq_eq_false_iff_ne]; intro e; exact ht (by simpa [jNull] using e)
    have HP2 : Hid (jVal (d + 1) (110 :: r) = if 3 ≤ (110 :: r).length ∧ jFold ((110 :: r).take 3) jNan = true then some (.num ((110 :: r).take 3), r.drop 2) else none) := by
      show jVal (d + 1) (110 :: r) = _; rw [HP.out, if_neg ht]
    clear ht HP
    by_cases h3 : 3 ≤ (110 :: r).length
    · have h3' : (3 : Int) ≤ (r.length : Int) + 1 := by simp at h3; omega
      have h2 : (2 : Int) ≤ r.length := by omega
      have HF3 : Hid ((List.take 3 (110 :: r)).length = [110, 97, 110].length) := by show (List.take 3 (110 :: r)).length = 3; rw [List.length_take]; omega
      cases hf : jFold ((110 :: r).take 3) jNan with
      | true =>
        have HE : Hid (jVal (d + 1) (110 :: r) = some (.num ((110 :: r).take 3), r.drop 2)) := by show jVal (d + 1) (110 :: r) = _; rw [HP2.out, if_pos ⟨h3, hf⟩]
        have hf' : jFold (110 :: List.take 2 r) [110, 97, 110] = true := hf
        have HCI := H
        clear h3 hf HP2
        by_cases hlen : (r.length : Int) + 1 < 4
        all_goals
          go_enter Tryz.func144, Tryz.ntmps144
          go_wp2_with (first | (go_at_call 163; refine (fold_any _ _ _ (by simp; omega) (by simpa using HF3.out)).mono ?_; rintro e w' ⟨rfl, rfl⟩) | (go_at_call 160; refine (getValue_ci cb co _ sv n (HCI.out) (by omega)).mono ?_; rintro e w2 ⟨g, sv2, rfl, hN⟩; have HN := Lib.hid hN; have k3 := hN.vn.c3; have k4 := hN.vn.c4; have f3 := hN.vn.free 3 (by omega); have f4 := hN.vn.free 4 (by omega); clear hN))
          go_quiet (fail)
          go_wp2
          go_ret3
          rw [HE.out]
          have hN := (((HN.out.set4 (.int .i64 4)).set3 (.string (B (110 :: List.take 2 r)))).draws nq)
          exact ⟨g, n * 5, sv2, n + 1, by simp, hN.ci, hN.fr, by simp; omega, .num hN.vn⟩
      | false =>
        have HE : Hid (jVal (d + 1) (110 :: r) = none) := by show jVal (d + 1) (110 :: r) = _; rw [HP2.out, if_neg (by rw [hf]; simp)]
        have hf' : jFold (110 :: List.take 2 r) [110, 97, 110] = false := hf
        clear h3 hf HP2
        by_cases hlen : (r.length : Int) + 1 < 4
        all_goals
          go_enter Tryz.func144, Tryz.ntmps144
          go_wp2_with (first | (go_at_call 163; refine (fold_any _ _ _ (by simp; omega) (by simpa using HF3.out)).mono ?_; rintro e w' ⟨rfl, rfl⟩) | (go_at_call 109; refine (errorsNew_any _ _).mono ?_; rintro e w' ⟨rfl, rfl⟩))
          go_ret3
          exact PV.err none _ _ _ _ _ HE.out (frame_err (Fr.refl _ _ _ _ _) _)
    · have HE : Hid (jVal (d + 1) (110 :: r) = none) := by show jVal (d + 1) (110 :: r) = _; rw [HP2.out, if_neg (fun e => h3 e.1)]
      have h3' : ¬ ((3 : Int) ≤ (r.length : Int) + 1) := by simp at h3; omega
      have hlen : (r.length : Int) + 1 < 4 := by omega
      clear h3 HP2
      go_enter Tryz.func144, Tryz.ntmps144
      go_wp2_with (go_at_call 109; refine (errorsNew_any _ _).mono ?_; rintro e w' ⟨rfl, rfl⟩)
      go_ret3
      exact PV.err none _ _ _ _ _ HE.out (frame_err (Fr.refl _ _ _ _ _) _)

theorem val_zero (cb co L : Nat) (hL : L < 4294967200) : ReadsV cb co 0 L 300 := by
  intro s w sv n h hl
  match s with
  | [] => exact val_nil cb co 0 300 w sv n _
  | c :: r => exact val_deep cb co c r w sv n _ (by simp at hl; omega)
theorem val_succ (cb co L d : Nat) (hL : L < 4294967200) (dp : Int) (hd0 : 0 ≤ dp) (hd : dp < 300) (hV : ReadsV cb co d L (dp + 1)) : ReadsV cb co (d + 1) L dp := by
  intro s w sv n h hl
  match s, hl with
  | [], _ => exact val_nil cb co (d + 1) dp w sv n _
  | c :: r, hl =>
    have hl' : n + r.length + 1 ≤ L := by simp at hl; omega
    have e : n + (c :: r).length = n + r.length + 1 := by simp; omega
    rw [e]
    by_cases h1 : c = 123
    · subst h1; exact val_obj cb co d L dp r w sv n h (by omega) hl' hd0 hd hV
    by_cases h2 : c = 91
    · subst h2; exact val_arr cb co d L dp r w sv n h (by omega) hl' hd0 hd hV
    by_cases h3 : c = 34
    · subst h3; exact val_str cb co d dp r w sv n h (by omega) hd0 hd
    by_cases h4 : c = 116
    · subst h4; exact val_true cb co d dp r w sv n h (by omega) hd0 hd
    by_cases h5 : c = 102
    · subst h5; exact val_false cb co d dp r w sv n h (by omega) hd0 hd
    by_cases h6 : c = 110
    · subst h6; exact val_null cb co d dp r w sv n h (by omega) hd0 hd
    exact val_num cb co d dp c r w sv n h (by omega) hd0 hd h1 h2 h3 h4 h5 h6
/-- The reader of values reads what the plain reader reads. -/
theorem val_any (cb co L : Nat) (hL : L < 4294967200) (d : Nat) : d ≤ 300 → ReadsV cb co d L (300 - d) := by
  induction d with
  | zero => intro _; exact val_zero cb co L hL
  | succ d ih =>
    intro hd
    refine val_succ cb co L d hL (300 - (d + 1 : Nat)) (by omega) (by omega) ?_
    have := ih (by omega)
    rw [show (300 - ((d + 1 : Nat) : Int) + 1) = 300 - (d : Int) by omega]
    exact this
end Go.Proofs.YtppkpcijmfdfmaaGreatDoor
