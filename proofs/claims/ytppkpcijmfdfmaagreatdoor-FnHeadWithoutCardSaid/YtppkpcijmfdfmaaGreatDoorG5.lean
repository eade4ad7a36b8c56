/- Grow and Concat of kids; Concat of texts or kids that may be none at all; a tree in a box with rows that may be nil. -/
import Derived.Test.YtppkpcijmfdfmaaGreatDoorG2
set_option linter.unusedVariables false
set_option linter.unusedSimpArgs false
set_option linter.unusedVariables false
set_option linter.unusedSimpArgs false
namespace Go.Proofs.YtppkpcijmfdfmaaGreatDoor
open Go.RowKit
attribute [local go_sem] B_size B_get B_lit B_ext_to B_ext B_toList B_app

theorem run_append_none {w : World} (t tx ty e : TypeId) (i : TypeInfo) (ht : Tryz.prog.underlying t = some (.slice e)) (hi : Tryz.prog.info? e = some i) (x : Value) (hs : Src Tryz.prog i.size tx x 0 [] w) :
    (Builtin.append_ #[t, tx] ty #[.slice none 0 0, x]).run Tryz.prog w = .ok (.slice none 0 0) w := by
  rcases hs.kind with ⟨e', hk⟩ | hk <;> simp [Builtin.append_, run_underlying ht, run_underlying hk, sizeOf, typeInfo, hi, hs.len, hs.cells]
theorem RowN.slice {base : Nat} {w : World} {v : Value} {l : List Bs} (h : RowN base w v l) : ∃ a c, v = .slice a l.length c := by
  rcases h.form with ⟨rfl, rfl⟩ | ⟨g, cap, rfl, _⟩
  · exact ⟨none, 0, rfl⟩
  · exact ⟨_, _, rfl⟩
theorem RowK.slice {base : Nat} {w : World} {v : Value} {ks : List HT} {ps : List (Value × Value)} (h : RowK base w v ks ps) : ∃ a c, v = .slice a ks.length c := by
  rcases h.form with ⟨rfl, rfl⟩ | ⟨g, cap, rfl, _⟩
  · exact ⟨none, 0, rfl⟩
  · exact ⟨_, _, rfl⟩

/-- A row of kids with nothing in it yet. -/
def GrowK (w : World) (n : Nat) (e : Ending) (w' : World) : Prop := ∃ cap, n ≤ cap ∧ e = .returned (.slice (some ⟨w.heap.size, 0, none⟩) 0 cap) ∧ OwnK w.heap.size w' w.heap.size cap [] [] ∧ Below w.heap.size w w'
set_option maxRecDepth 100000 in
theorem growK_any (n : Nat) (h0 : 0 < n) (hn : n ≤ 1000000) (w : World) : Calls Tryz.prog 85 #[.slice none 0 0, .int .i64 n] w (GrowK w n) := by
  obtain ⟨i, hi, hz, hs, hby⟩ := info_parts info45
  have HZ := Lib.hid (fun W : World => Lib.run_append_nil_zeros (P := Tryz.prog) W 43 3 43 45 i _ .i64 .i64 Tryz.underlying43 Tryz.underlying3 hi hz n h0 (by rw [hs]; decide) (by omega) (by rw [hby]; omega))
  have HC : Hid (n ≤ grownCap w n 0 45 ∧ grownCap w n 0 45 ≤ maxLen) := ⟨grownCap_ge w n 0 45, grownCap_le_maxLen w n 0 45 (by unfold maxLen; omega)⟩
  obtain ⟨cp, hcp⟩ : ∃ cp, cp = grownCap w n 0 45 := ⟨_, rfl⟩
  have HZ2 := Lib.hid (HZ.out w)
  rw [← hcp] at HC HZ2
  have hc0 : (0 : Int) ≤ (cp : Int) := by omega
  clear hi hz hs hby hcp HZ
  go_enter Tryz.func85, Tryz.ntmps85
  go_wp2_with (at_builtin; refine Lib.wpList_append_run _ rfl (.tmp 20) (.tmp 21) 43 3 rfl _ _ rfl rfl _ _ HZ2.out ?_)
  go_wp2
  go_ret
  refine ⟨cp, HC.out.1, rfl, ⟨rfl, rfl, Or.inr ⟨w.heap.size, cp, _, rfl, Nat.le_refl _, heap_alloc_new w.drew _, Nat.zero_le _, HC.out.2, ?_, by simp [flatK]⟩⟩, (Below.refl _ _).drew.alloc (Nat.le_refl _) _⟩
  rw [Array.size_append, zeroCells_size, zeroCells_size]
  have := HC.out.1
  show n * 7 + (cp - n) * 7 = cp * 7
  omega
set_option maxRecDepth 100000 in
set_option maxHeartbeats 2000000 in
theorem concatK_any (w : World) (b : Nat) (a1 a2 : Option Addr) (c1 c2 : Nat) (l1 l2 : List HT) (ps1 ps2 : List (Value × Value)) (h1 : KRow w (.slice a1 l1.length c1) l1 ps1) (h2 : KRow w (.slice a2 l2.length c2) l2 ps2) (o1 : OneP ps1) (o2 : OneP ps2) (hb0 : w.cell? ⟨b, 0, none⟩ = some (.slice a1 l1.length c1)) (hb1 : w.cell? ⟨b, 1, none⟩ = some (.slice a2 l2.length c2)) (hlt : b < w.heap.size)
    (hpos : 0 < l1.length + l2.length) (hle1 : l1.length ≤ 5000) (hle2 : l2.length ≤ 5000) : Calls Tryz.prog 49 #[.slice (some ⟨b, 0, none⟩) 2 2] w fun e w' => ∃ g cap, e = .returned (.slice (some ⟨g, 0, none⟩) (l1 ++ l2).length cap) ∧ OwnK w.heap.size w' g cap (l1 ++ l2) (ps1 ++ ps2) ∧ Below w.heap.size w w' := by
  have HN := Lib.hid (And.intro h1 h2)
  have HO1 := Lib.hid (And.intro o1 o2)
  have HC : Hid (∀ {wz : World}, Below w.heap.size w wz → wz.cell? ⟨b, 0, none⟩ = some (.slice a1 l1.length c1) ∧ wz.cell? ⟨b, 1, none⟩ = some (.slice a2 l2.length c2)) := fun h =>
    ⟨(h.cell (p := ⟨b, 0, none⟩) hlt).trans hb0, (h.cell (p := ⟨b, 1, none⟩) hlt).trans hb1⟩
  have HG := Lib.hid (growK_any (l1.length + l2.length) hpos (by omega) w)
  clear h1 h2 o1 o2
  go_enter Tryz.func49, Tryz.ntmps49
  go_wp2
  go_loop [3, 11] (fun sz i => ∃ k : Nat, k ≤ 2 ∧ i = .int .i64 k ∧ sz = .int .i64 (if k = 0 then 0 else if k = 1 then l1.length else l1.length + l2.length : Nat)) (fun _ i => 2 - (intOf i).toNat)
  case atStart => exact ⟨0, by omega, rfl, rfl⟩
  case round =>
    obtain ⟨k, hk, rfl, rfl⟩ := hrel
    obtain rfl | rfl | rfl : k = 0 ∨ k = 1 ∨ k = 2 := by omega
    · go_wp2
      go_round
      case rel => exact ⟨1, by omega, rfl, rfl⟩
      case measure => simp [intOf]
    · go_wp2
      go_round
      case rel => exact ⟨2, by omega, rfl, rfl⟩
      case measure => simp [intOf]
    · rw [show (if (2 : Nat) = 0 then 0 else if (2 : Nat) = 1 then l1.length else l1.length + l2.length) = l1.length + l2.length from rfl]
      obtain ⟨n, hn⟩ : ∃ n, n = l1.length + l2.length := ⟨_, rfl⟩
      rw [← hn] at HG ⊢
      have HNE := Lib.hid hn
      clear hn
      go_wp2_with (fail)
      refine HG.out.mono ?_
      rintro e w2 ⟨cap, hcap, rfl, hown, hb⟩
      have HB2 := Lib.hid hb
      have HO2 := Lib.hid hown
      clear hown hb
      go_wp2
      go_loopw [6, 27] (fun o i wr => ∃ (k g cap : Nat), k ≤ 2 ∧ Hid (OwnK w.heap.size wr g cap (if k = 0 then [] else if k = 1 then l1 else l1 ++ l2) (if k = 0 then [] else if k = 1 then ps1 else ps1 ++ ps2) ∧ Below w.heap.size w wr) ∧ i = .int .i64 k ∧ o = .slice (some ⟨g, 0, none⟩) (if k = 0 then [] else if k = 1 then l1 else l1 ++ l2).length cap) (fun _ i _ => 2 - (intOf i).toNat)
      case atStart => exact ⟨0, w.heap.size, cap, by omega, ⟨HO2.out, HB2.out⟩, rfl, rfl⟩
      case round =>
        obtain ⟨k, g, cap, hk, HS, rfl, rfl⟩ := hrel
        have hc0 := (HC.out HS.out.2).1
        have hc1 := (HC.out HS.out.2).2
        have hsz := HS.out.2.size
        have HN1 : Hid (KRow wr (.slice a1 l1.length c1) l1 ps1 ∧ KRow wr (.slice a2 l2.length c2) l2 ps2) := ⟨HN.out.1.below HS.out.2, HN.out.2.below HS.out.2⟩
        obtain rfl | rfl | rfl : k = 0 ∨ k = 1 ∨ k = 2 := by omega
        · have HO : Hid (OwnK w.heap.size wr g cap [] []) := HS.out.1
          go_wp2_with (at_builtin; refine wpList_append_kids rfl (.tmp 31) (.tmp 32) rfl HO.out 0 rfl rfl (.slice a1 l1.length c1) l1 ps1 rfl HN1.out.1 HO1.out.1 (by rw [List.length_nil]; omega) hsz ?_)
          intro g3 cap3 w3 hown3 hgrow3
          have H3 : Hid (OwnK w.heap.size w3 g3 cap3 l1 ps1 ∧ Below w.heap.size w w3) := ⟨hown3, HS.out.2.trans ⟨hgrow3.os, hgrow3.tape, hgrow3.output, hgrow3.size, fun k hk => hgrow3.block k (by omega) (by intro e; cases e; have := HO.out.base; omega)⟩⟩
          clear hown3 hgrow3
          go_wp2
          go_roundw
          case rel => exact ⟨1, g3, cap3, by omega, H3, rfl, rfl⟩
          case measure => simp [intOf]
        · have HO : Hid (OwnK w.heap.size wr g cap l1 ps1) := HS.out.1
          rw [show (if (1 : Nat) = 0 then [] else if (1 : Nat) = 1 then l1 else l1 ++ l2).length = l1.length from rfl]
          go_wp2_with (at_builtin; refine wpList_append_kids rfl (.tmp 31) (.tmp 32) rfl HO.out l1.length rfl rfl (.slice a2 l2.length c2) l2 ps2 rfl HN1.out.2 HO1.out.2 (by omega) hsz ?_)
          intro g3 cap3 w3 hown3 hgrow3
          have H3 : Hid (OwnK w.heap.size w3 g3 cap3 (l1 ++ l2) (ps1 ++ ps2) ∧ Below w.heap.size w w3) := ⟨hown3, HS.out.2.trans ⟨hgrow3.os, hgrow3.tape, hgrow3.output, hgrow3.size, fun k hk => hgrow3.block k (by omega) (by intro e; cases e; have := HO.out.base; omega)⟩⟩
          clear hown3 hgrow3
          go_wp2
          go_roundw
          case rel => exact ⟨2, g3, cap3, by omega, H3, rfl, by simp⟩
          case measure => simp [intOf]
        · rw [show (if (2 : Nat) = 0 then [] else if (2 : Nat) = 1 then l1 else l1 ++ l2).length = (l1 ++ l2).length from rfl]
          go_wp2
          go_ret
          exact ⟨g, cap, rfl, HS.out⟩

set_option maxRecDepth 100000 in
theorem growN_none (w : World) : Calls Tryz.prog 84 #[.slice none 0 0, .int .i64 0] w fun e w' => e = .returned (.slice none 0 0) ∧ w' = w := by
  go_enter Tryz.func84, Tryz.ntmps84
  go_wp2
  go_ret
  exact ⟨rfl, rfl⟩
set_option maxRecDepth 100000 in
set_option maxHeartbeats 2000000 in
theorem concatN_none (w : World) (b : Nat) (a1 a2 : Option Addr) (c1 c2 : Nat) (hb0 : w.cell? ⟨b, 0, none⟩ = some (.slice a1 0 c1)) (hb1 : w.cell? ⟨b, 1, none⟩ = some (.slice a2 0 c2)) :
    Calls Tryz.prog 48 #[.slice (some ⟨b, 0, none⟩) 2 2] w fun e w' => e = .returned (.slice none 0 0) ∧ w' = w := by
  obtain ⟨i, hi, hz, hs, hby⟩ := info_parts info9
  have HA : Hid (∀ (a : Option Addr) (c : Nat) (ty : TypeId), (Builtin.append_ #[29, 29] ty #[.slice none 0 0, .slice a 0 c]).run Tryz.prog w = .ok (.slice none 0 0) w) := fun a c ty =>
    run_append_none (w := w) 29 29 ty 9 i Tryz.underlying29 hi _ (by rw [hs]; exact ns_src (l := []) (Or.inl ⟨a, c, rfl, rfl⟩))
  clear hi hz hs hby
  go_enter Tryz.func48, Tryz.ntmps48
  go_wp2
  go_loop [3, 11] (fun sz i => ∃ k : Nat, k ≤ 2 ∧ i = .int .i64 k ∧ sz = .int .i64 0) (fun _ i => 2 - (intOf i).toNat)
  case atStart => exact ⟨0, by omega, rfl, rfl⟩
  case round =>
    obtain ⟨k, hk, rfl, rfl⟩ := hrel
    obtain rfl | rfl | rfl : k = 0 ∨ k = 1 ∨ k = 2 := by omega
    · go_wp2
      go_round
      case rel => exact ⟨1, by omega, rfl, rfl⟩
      case measure => simp [intOf]
    · go_wp2
      go_round
      case rel => exact ⟨2, by omega, rfl, rfl⟩
      case measure => simp [intOf]
    · go_wp2_with (fail)
      refine (growN_none w).mono ?_
      rintro e w2 ⟨rfl, rfl⟩
      go_wp2
      go_loop [6, 27] (fun o i => ∃ k : Nat, k ≤ 2 ∧ i = .int .i64 k ∧ o = .slice none 0 0) (fun _ i => 2 - (intOf i).toNat)
      case atStart => exact ⟨0, by omega, rfl, rfl⟩
      case round =>
        obtain ⟨k, hk, rfl, rfl⟩ := hrel
        obtain rfl | rfl | rfl : k = 0 ∨ k = 1 ∨ k = 2 := by omega
        · go_wp2_with (at_builtin; refine Lib.wpList_append_run _ rfl (.tmp 31) (.tmp 32) 29 29 rfl _ _ rfl rfl _ _ (HA.out a1 c1 _) ?_)
          go_wp2
          go_round
          case rel => exact ⟨1, by omega, rfl, rfl⟩
          case measure => simp [intOf]
        · go_wp2_with (at_builtin; refine Lib.wpList_append_run _ rfl (.tmp 31) (.tmp 32) 29 29 rfl _ _ rfl rfl _ _ (HA.out a2 c2 _) ?_)
          go_wp2
          go_round
          case rel => exact ⟨2, by omega, rfl, rfl⟩
          case measure => simp [intOf]
        · go_wp2
          go_ret
          exact ⟨rfl, rfl⟩
set_option maxRecDepth 100000 in
theorem growK_none (w : World) : Calls Tryz.prog 85 #[.slice none 0 0, .int .i64 0] w fun e w' => e = .returned (.slice none 0 0) ∧ w' = w := by
  go_enter Tryz.func85, Tryz.ntmps85
  go_wp2
  go_ret
  exact ⟨rfl, rfl⟩
set_option maxRecDepth 100000 in
set_option maxHeartbeats 2000000 in
theorem concatK_none (w : World) (b : Nat) (a1 a2 : Option Addr) (c1 c2 : Nat) (hb0 : w.cell? ⟨b, 0, none⟩ = some (.slice a1 0 c1)) (hb1 : w.cell? ⟨b, 1, none⟩ = some (.slice a2 0 c2)) :
    Calls Tryz.prog 49 #[.slice (some ⟨b, 0, none⟩) 2 2] w fun e w' => e = .returned (.slice none 0 0) ∧ w' = w := by
  obtain ⟨i, hi, hz, hs, hby⟩ := info_parts info45
  have HA : Hid (∀ (a : Option Addr) (c : Nat) (ty : TypeId), (Builtin.append_ #[43, 43] ty #[.slice none 0 0, .slice a 0 c]).run Tryz.prog w = .ok (.slice none 0 0) w) := fun a c ty =>
    run_append_none (w := w) 43 43 ty 45 i Tryz.underlying43 hi _ (by rw [hs]; exact krow_src (ks := []) (ps := []) ⟨rfl, Or.inl ⟨a, c, rfl, rfl⟩⟩ (fun p hp => by cases hp))
  clear hi hz hs hby
  go_enter Tryz.func49, Tryz.ntmps49
  go_wp2
  go_loop [3, 11] (fun sz i => ∃ k : Nat, k ≤ 2 ∧ i = .int .i64 k ∧ sz = .int .i64 0) (fun _ i => 2 - (intOf i).toNat)
  case atStart => exact ⟨0, by omega, rfl, rfl⟩
  case round =>
    obtain ⟨k, hk, rfl, rfl⟩ := hrel
    obtain rfl | rfl | rfl : k = 0 ∨ k = 1 ∨ k = 2 := by omega
    · go_wp2
      go_round
      case rel => exact ⟨1, by omega, rfl, rfl⟩
      case measure => simp [intOf]
    · go_wp2
      go_round
      case rel => exact ⟨2, by omega, rfl, rfl⟩
      case measure => simp [intOf]
    · go_wp2_with (fail)
      refine (growK_none w).mono ?_
      rintro e w2 ⟨rfl, rfl⟩
      go_wp2
      go_loop [6, 27] (fun o i => ∃ k : Nat, k ≤ 2 ∧ i = .int .i64 k ∧ o = .slice none 0 0) (fun _ i => 2 - (intOf i).toNat)
      case atStart => exact ⟨0, by omega, rfl, rfl⟩
      case round =>
        obtain ⟨k, hk, rfl, rfl⟩ := hrel
        obtain rfl | rfl | rfl : k = 0 ∨ k = 1 ∨ k = 2 := by omega
        · go_wp2_with (at_builtin; refine Lib.wpList_append_run _ rfl (.tmp 31) (.tmp 32) 43 43 rfl _ _ rfl rfl _ _ (HA.out a1 c1 _) ?_)
          go_wp2
          go_round
          case rel => exact ⟨1, by omega, rfl, rfl⟩
          case measure => simp [intOf]
        · go_wp2_with (at_builtin; refine Lib.wpList_append_run _ rfl (.tmp 31) (.tmp 32) 43 43 rfl _ _ rfl rfl _ _ (HA.out a2 c2 _) ?_)
          go_wp2
          go_round
          case rel => exact ⟨2, by omega, rfl, rfl⟩
          case measure => simp [intOf]
        · go_wp2
          go_ret
          exact ⟨rfl, rfl⟩
theorem concatN_row (w : World) (b : Nat) (a1 a2 : Option Addr) (c1 c2 : Nat) (l1 l2 : List Bs) (h1 : NS w (.slice a1 l1.length c1) l1) (h2 : NS w (.slice a2 l2.length c2) l2) (hb0 : w.cell? ⟨b, 0, none⟩ = some (.slice a1 l1.length c1)) (hb1 : w.cell? ⟨b, 1, none⟩ = some (.slice a2 l2.length c2)) (hlt : b < w.heap.size)
    (hle1 : l1.length ≤ 5000) (hle2 : l2.length ≤ 5000) : Calls Tryz.prog 48 #[.slice (some ⟨b, 0, none⟩) 2 2] w fun e w' => ∃ a c, e = .returned (.slice a (l1 ++ l2).length c) ∧ RowN w.heap.size w' (.slice a (l1 ++ l2).length c) (l1 ++ l2) ∧ Below w.heap.size w w' := by
  by_cases h0 : 0 < l1.length + l2.length
  · refine (concat_any w b a1 a2 c1 c2 l1 l2 h1 h2 hb0 hb1 hlt h0 hle1 hle2).mono ?_
    rintro e w' ⟨g, cap, he, ho, hb⟩
    exact ⟨some ⟨g, 0, none⟩, cap, he, ho, hb⟩
  · have e1 : l1 = [] := List.eq_nil_of_length_eq_zero (by omega)
    have e2 : l2 = [] := List.eq_nil_of_length_eq_zero (by omega)
    subst e1
    subst e2
    refine (concatN_none w b a1 a2 c1 c2 hb0 hb1).mono ?_
    rintro e w' ⟨rfl, rfl⟩
    exact ⟨none, 0, rfl, ⟨rfl, Or.inl ⟨rfl, rfl⟩⟩, Below.refl _ _⟩
theorem concatK_row (w : World) (b : Nat) (a1 a2 : Option Addr) (c1 c2 : Nat) (l1 l2 : List HT) (ps1 ps2 : List (Value × Value)) (h1 : KRow w (.slice a1 l1.length c1) l1 ps1) (h2 : KRow w (.slice a2 l2.length c2) l2 ps2) (o1 : OneP ps1) (o2 : OneP ps2) (hb0 : w.cell? ⟨b, 0, none⟩ = some (.slice a1 l1.length c1)) (hb1 : w.cell? ⟨b, 1, none⟩ = some (.slice a2 l2.length c2)) (hlt : b < w.heap.size)
    (hle1 : l1.length ≤ 5000) (hle2 : l2.length ≤ 5000) : Calls Tryz.prog 49 #[.slice (some ⟨b, 0, none⟩) 2 2] w fun e w' => ∃ a c, e = .returned (.slice a (l1 ++ l2).length c) ∧ RowK w.heap.size w' (.slice a (l1 ++ l2).length c) (l1 ++ l2) (ps1 ++ ps2) ∧ Below w.heap.size w w' := by
  by_cases h0 : 0 < l1.length + l2.length
  · refine (concatK_any w b a1 a2 c1 c2 l1 l2 ps1 ps2 h1 h2 o1 o2 hb0 hb1 hlt h0 hle1 hle2).mono ?_
    rintro e w' ⟨g, cap, he, ho, hb⟩
    exact ⟨some ⟨g, 0, none⟩, cap, he, ho, hb⟩
  · have e1 : l1 = [] := List.eq_nil_of_length_eq_zero (by omega)
    have e2 : l2 = [] := List.eq_nil_of_length_eq_zero (by omega)
    subst e1
    subst e2
    have hl1 := h1.1
    have hl2 := h2.1
    refine (concatK_none w b a1 a2 c1 c2 hb0 hb1).mono ?_
    rintro e w' ⟨rfl, rfl⟩
    exact ⟨none, 0, rfl, ⟨by rw [List.length_append, List.length_append]; omega, rfl, Or.inl ⟨rfl, rfl⟩⟩, Below.refl _ _⟩

theorem RowN.keep {base : Nat} {w w' : World} {v : Value} {l : List Bs} (h : RowN base w v l) (hk : ∀ g, base ≤ g → w'.heap[g]? = w.heap[g]?) : RowN base w' v l := by
  rcases h.form with ⟨rfl, rfl⟩ | ⟨g, cap, rfl, ho⟩
  · exact ⟨rfl, Or.inl ⟨rfl, rfl⟩⟩
  · exact ho.keep (hk g ho.base)
theorem RowK.keep {base : Nat} {w w' : World} {v : Value} {ks : List HT} {ps : List (Value × Value)} (h : RowK base w v ks ps) (hk : ∀ g, base ≤ g → w'.heap[g]? = w.heap[g]?) : RowK base w' v ks ps := by
  have h0 := h.1
  rcases h.form with ⟨rfl, rfl⟩ | ⟨g, cap, rfl, ho⟩
  · exact ⟨h0, rfl, Or.inl ⟨rfl, rfl⟩⟩
  · exact ho.keep (hk g ho.base)
theorem RowN.nsb {base : Nat} {w : World} {v : Value} {l : List Bs} (h : RowN base w v l) : NSB w w.heap.size v l := by
  rcases h.form with ⟨rfl, rfl⟩ | ⟨g, cap, rfl, ho⟩
  · exact Or.inl ⟨none, 0, rfl, rfl⟩
  · exact ho.nsb
theorem RowK.kidsB {base : Nat} {w : World} {v : Value} {ks : List HT} {ps : List (Value × Value)} {D : Nat} (h : RowK base w v ks ps) (hp : RepP w w.heap.size D ks ps) : KidsB w w.heap.size v ks (RepT w w.heap.size D) := by
  rcases h.form with ⟨rfl, rfl⟩ | ⟨g, cap, rfl, ho⟩
  · exact Or.inl ⟨none, 0, rfl, rfl⟩
  · exact ho.krow.kids hp (Nat.le_refl _)

/-- The box behind two stores: other names, other kids (either may be nil). -/
theorem ubox_rows {w1 wq : World} {bu D bn bk cn ck : Nat} {an ak : Option Addr} {t : HT} {nv kv : Value} {ns : List Bs} {ks : List HT} {ps : List (Value × Value)} (hb : Below w1.heap.size w1 wq) (h1 : w1.heap.size ≤ bu)
    (hbox : wq.heap[bu]? = some (.cells (tcells t nv kv).toArray 45 (0, 0))) (hn : RowN bn wq (.slice an ns.length cn) ns) (hk : RowK bk wq (.slice ak ks.length ck) ks ps) (hp : RepP wq w1.heap.size D ks ps) (hbn : bu < bn) (hbk : bu < bk) (hln : ns.length ≤ 1000000) (hlk : ks.length ≤ 1000000) (ht : t.kind < 256 ∧ t.num < 18446744073709551616) :
    UBox w1 ((wq.setCell ⟨bu, 5, none⟩ (.slice an ns.length cn)).setCell ⟨bu, 6, none⟩ (.slice ak ks.length ck)) bu (D + 1) (t.re ns ks) := by
  obtain ⟨wx, hwx⟩ : ∃ wx, wx = (wq.setCell ⟨bu, 5, none⟩ (.slice an ns.length cn)).setCell ⟨bu, 6, none⟩ (.slice ak ks.length ck) := ⟨_, rfl⟩
  rw [← hwx]
  have hlt : bu < wq.heap.size := by
    rcases Nat.lt_or_ge bu wq.heap.size with h' | h'
    · exact h'
    · rw [Array.getElem?_eq_none h'] at hbox; cases hbox
  have hsz : wx.heap.size = wq.heap.size := by rw [hwx, World.size_setCell, World.size_setCell]
  have hblk : ∀ b, b ≠ bu → wx.heap[b]? = wq.heap[b]? := fun b hb => by
    rw [hwx, Below.heap_setCell _ _ _ _ hb, Below.heap_setCell _ _ _ _ hb]
  have hbx : Below w1.heap.size w1 wx := by rw [hwx]; exact (hb.setCell h1 _).setCell h1 _
  have c := fun j u (hu : (tcells t nv kv)[j]? = some u) => blk_cell hbox j u hu
  have hn' := hn.keep (w' := wx) (fun g hg => hblk g (by omega))
  have hk' := hk.keep (w' := wx) (fun g hg => hblk g (by omega))
  have hp' : RepP wx w1.heap.size D ks ps := ⟨hp.1, fun i k p h2 h3 => (hp.2 i k p h2 h3).below (by
    rw [hwx]
    exact ((Below.refl _ wq).setCell h1 _).setCell h1 _)⟩
  refine ⟨hbx, by omega, an, cn, ak, ck, ⟨⟨ht.1, ht.2, by show ns.length ≤ _; omega, by show ks.length ≤ _; omega⟩, hn'.nsb, hk'.kidsB (hp'.up hbx.size)⟩, fun j x hx => ?_⟩
  have hj : j < 7 := (List.getElem?_eq_some_iff.1 hx).1
  have d5 : (wq.setCell ⟨bu, 5, none⟩ (.slice an ns.length cn)).cell? ⟨bu, 5, none⟩ = some (.slice an ns.length cn) := World.cell?_setCell_same _ _ _ (c 5 _ rfl)
  have o5 : ∀ i, i ≠ 5 → (wq.setCell ⟨bu, 5, none⟩ (.slice an ns.length cn)).cell? ⟨bu, i, none⟩ = wq.cell? ⟨bu, i, none⟩ := fun i hi => World.cell?_setCell_other _ _ _ _ (by intro e; cases e; exact hi rfl)
  have o6 : ∀ i, i ≠ 6 → wx.cell? ⟨bu, i, none⟩ = (wq.setCell ⟨bu, 5, none⟩ (.slice an ns.length cn)).cell? ⟨bu, i, none⟩ := fun i hi => by rw [hwx]; exact World.cell?_setCell_other _ _ _ _ (by intro e; cases e; exact hi rfl)
  obtain h | h | h | h | h | h | h : j = 0 ∨ j = 1 ∨ j = 2 ∨ j = 3 ∨ j = 4 ∨ j = 5 ∨ j = 6 := by omega
  · subst h; cases hx; rw [o6 0 (by decide), o5 0 (by decide)]; exact c 0 _ rfl
  · subst h; cases hx; rw [o6 1 (by decide), o5 1 (by decide)]; exact c 1 _ rfl
  · subst h; cases hx; rw [o6 2 (by decide), o5 2 (by decide)]; exact c 2 _ rfl
  · subst h; cases hx; rw [o6 3 (by decide), o5 3 (by decide)]; exact c 3 _ rfl
  · subst h; cases hx; rw [o6 4 (by decide), o5 4 (by decide)]; exact c 4 _ rfl
  · subst h; cases hx; rw [o6 5 (by decide)]; exact d5
  · subst h; cases hx; rw [hwx]; exact World.cell?_setCell_same _ _ _ ((World.cell?_setCell_other _ _ _ _ (by intro e; cases e)).trans (c 6 _ rfl))
end Go.Proofs.YtppkpcijmfdfmaaGreatDoor

/- Parts of slices of texts and of kids. -/
set_option linter.unusedVariables false
set_option linter.unusedSimpArgs false
namespace Go.Proofs.YtppkpcijmfdfmaaGreatDoor
open Go.RowKit

theorem ns_drop {w : World} {b off c n : Nat} {l : List Bs} (hlt : b < w.heap.size) (hc : ∀ (i : Nat) s, l[i]? = some s → w.cell? ⟨b, off + i, none⟩ = some (.string (B s))) (k : Nat) (hn : n = (l.drop k).length) : NS w (.slice (some ⟨b, off + k, none⟩) n c) (l.drop k) := by
  subst hn
  refine Or.inr ⟨b, off + k, c, rfl, hlt, fun i s hi => ?_⟩
  rw [List.getElem?_drop] at hi
  rw [Nat.add_assoc]
  exact hc (k + i) s hi
theorem ns_take {w : World} {b off c n : Nat} {l : List Bs} (hlt : b < w.heap.size) (hc : ∀ (i : Nat) s, l[i]? = some s → w.cell? ⟨b, off + i, none⟩ = some (.string (B s))) (k : Nat) (hn : n = (l.take k).length) : NS w (.slice (some ⟨b, off, none⟩) n c) (l.take k) := by
  subst hn
  refine Or.inr ⟨b, off, c, rfl, hlt, fun i s hi => ?_⟩
  rw [List.getElem?_take] at hi
  split at hi
  · exact hc i s hi
  · cases hi
theorem krow_drop {w : World} {b off c n : Nat} {ks : List HT} {ps : List (Value × Value)} (hl : ks.length = ps.length) (hlt : b < w.heap.size) (hc : ∀ (j : Nat) u, (flatK ks ps)[j]? = some u → w.cell? ⟨b, off + j, none⟩ = some u) (k : Nat) (hn : n = (ks.drop k).length) : KRow w (.slice (some ⟨b, off + k * 7, none⟩) n c) (ks.drop k) (ps.drop k) := by
  subst hn
  refine ⟨by rw [List.length_drop, List.length_drop, hl], Or.inr ⟨b, off + k * 7, c, rfl, hlt, fun j u hu => ?_⟩⟩
  rw [flatK_drop ks ps k hl, List.getElem?_drop] at hu
  rw [Nat.add_assoc]
  exact hc _ u hu
theorem krow_take {w : World} {b off c n : Nat} {ks : List HT} {ps : List (Value × Value)} (hl : ks.length = ps.length) (hlt : b < w.heap.size) (hc : ∀ (j : Nat) u, (flatK ks ps)[j]? = some u → w.cell? ⟨b, off + j, none⟩ = some u) (k : Nat) (hn : n = (ks.take k).length) : KRow w (.slice (some ⟨b, off, none⟩) n c) (ks.take k) (ps.take k) := by
  subst hn
  refine ⟨by rw [List.length_take, List.length_take, hl], Or.inr ⟨b, off, c, rfl, hlt, fun j u hu => ?_⟩⟩
  rw [flatK_take ks ps k hl, List.getElem?_take] at hu
  split at hu
  · exact hc _ u hu
  · cases hu
theorem ns_drop_ad {w : World} {b off c n cap : Nat} {l : List Bs} {ad : Option Addr} (hlt : b < w.heap.size) (hc : ∀ (i : Nat) s, l[i]? = some s → w.cell? ⟨b, off + i, none⟩ = some (.string (B s))) (k : Nat) (hcap : l.length ≤ cap) (had : (if cap = k then (some ⟨b, off, none⟩ : Option Addr) else some ⟨b, off + k, none⟩) = ad) (hn : n = (l.drop k).length) : NS w (.slice ad n c) (l.drop k) := by
  by_cases e : cap = k
  · have h0 : l.drop k = [] := List.drop_of_length_le (by omega)
    rw [h0] at hn ⊢
    subst hn
    exact Or.inl ⟨ad, c, rfl, rfl⟩
  · rw [if_neg e] at had
    subst had
    exact ns_drop hlt hc k hn
theorem krow_drop_ad {w : World} {b off c n cap : Nat} {ks : List HT} {ps : List (Value × Value)} {ad : Option Addr} (hl : ks.length = ps.length) (hlt : b < w.heap.size) (hc : ∀ (j : Nat) u, (flatK ks ps)[j]? = some u → w.cell? ⟨b, off + j, none⟩ = some u) (k : Nat) (hcap : ks.length ≤ cap) (had : (if cap = k then (some ⟨b, off, none⟩ : Option Addr) else some ⟨b, off + k * 7, none⟩) = ad) (hn : n = (ks.drop k).length) : KRow w (.slice ad n c) (ks.drop k) (ps.drop k) := by
  by_cases e : cap = k
  · have h0 : ks.drop k = [] := List.drop_of_length_le (by omega)
    have h1 : ps.drop k = [] := List.drop_of_length_le (by omega)
    rw [h0] at hn
    rw [h0, h1]
    subst hn
    exact ⟨rfl, Or.inl ⟨ad, c, rfl, rfl⟩⟩
  · rw [if_neg e] at had
    subst had
    exact krow_drop hl hlt hc k hn
theorem ns_one {w : World} {b off c k : Nat} {l : List Bs} {s : Bs} (hlt : b < w.heap.size) (hc : ∀ (i : Nat) s, l[i]? = some s → w.cell? ⟨b, off + i, none⟩ = some (.string (B s))) (hs : l[k]? = some s) : NS w (.slice (some ⟨b, off + k, none⟩) 1 c) [s] := by
  refine Or.inr ⟨b, off + k, c, rfl, hlt, fun i s' hi => ?_⟩
  match i, hi with
  | 0, hi => cases hi; exact hc k s hs
theorem OneP.drop {ps : List (Value × Value)} (h : OneP ps) (k : Nat) : OneP (ps.drop k) := fun p hp => h p (List.mem_of_mem_drop hp)
theorem OneP.take {ps : List (Value × Value)} (h : OneP ps) (k : Nat) : OneP (ps.take k) := fun p hp => h p (List.mem_of_mem_take hp)
theorem blk_lt {w : World} {b : Nat} {o : Obj} (h : w.heap[b]? = some o) : b < w.heap.size := by
  rcases Nat.lt_or_ge b w.heap.size with h' | h'
  · exact h'
  · rw [Array.getElem?_eq_none h'] at h; cases h
theorem concatN_box {w : World} {b n1 n2 c1 c2 : Nat} {a1 a2 : Option Addr} {l1 l2 : List Bs} {ty : TypeId} (e1 : l1.length = n1) (e2 : l2.length = n2) (h1 : NS w (.slice a1 n1 c1) l1) (h2 : NS w (.slice a2 n2 c2) l2) (hb : w.heap[b]? = some (.cells ([Value.slice a1 n1 c1, Value.slice a2 n2 c2] : List Value).toArray ty (0, 0)))
    (hle1 : n1 ≤ 5000) (hle2 : n2 ≤ 5000) : Calls Tryz.prog 48 #[.slice (some ⟨b, 0, none⟩) 2 2] w fun e w' => ∃ a c, e = .returned (.slice a (l1 ++ l2).length c) ∧ RowN w.heap.size w' (.slice a (l1 ++ l2).length c) (l1 ++ l2) ∧ Below w.heap.size w w' := by
  subst e1 e2
  exact concatN_row w b a1 a2 c1 c2 l1 l2 h1 h2 (blk_cell hb 0 _ rfl) (blk_cell hb 1 _ rfl) (blk_lt hb) hle1 hle2
theorem concatK_box {w : World} {b n1 n2 c1 c2 : Nat} {a1 a2 : Option Addr} {l1 l2 : List HT} {ps1 ps2 : List (Value × Value)} {ty : TypeId} (e1 : l1.length = n1) (e2 : l2.length = n2) (h1 : KRow w (.slice a1 n1 c1) l1 ps1) (h2 : KRow w (.slice a2 n2 c2) l2 ps2) (o1 : OneP ps1) (o2 : OneP ps2) (hb : w.heap[b]? = some (.cells ([Value.slice a1 n1 c1, Value.slice a2 n2 c2] : List Value).toArray ty (0, 0)))
    (hle1 : n1 ≤ 5000) (hle2 : n2 ≤ 5000) : Calls Tryz.prog 49 #[.slice (some ⟨b, 0, none⟩) 2 2] w fun e w' => ∃ a c, e = .returned (.slice a (l1 ++ l2).length c) ∧ RowK w.heap.size w' (.slice a (l1 ++ l2).length c) (l1 ++ l2) (ps1 ++ ps2) ∧ Below w.heap.size w w' := by
  subst e1 e2
  exact concatK_row w b a1 a2 c1 c2 l1 l2 ps1 ps2 h1 h2 o1 o2 (blk_cell hb 0 _ rfl) (blk_cell hb 1 _ rfl) (blk_lt hb) hle1 hle2
end Go.Proofs.YtppkpcijmfdfmaaGreatDoor
