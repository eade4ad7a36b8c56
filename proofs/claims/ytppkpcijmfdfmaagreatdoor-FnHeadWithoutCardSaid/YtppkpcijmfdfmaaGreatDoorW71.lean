/- The walks of slices.Grow of none, slices.Concat of two lists of texts, headMark and headSign. -/
import Derived.Test.YtppkpcijmfdfmaaGreatDoorW65
import Derived.Deep.AppendSrc
import Derived.Lib.AppendZeros
namespace Go.Proofs.YtppkpcijmfdfmaaGreatDoor
open Go.RowKit
attribute [local go_sem] B_size B_get B_lit B_ext_to B_ext B_toList B_app

/-- A row with nothing in it yet. -/
def GrowR (w : World) (n : Nat) (e : Ending) (w' : World) : Prop := ∃ cap, n ≤ cap ∧ e = .returned (.slice (some ⟨w.heap.size, 0, none⟩) 0 cap) ∧ OwnG w.heap.size w' w.heap.size cap [] ∧ Below w.heap.size w w'
theorem zeroCells_size (z : Array Value) (k : Nat) : (Builtin.zeroCells z k).size = k * z.size := by simp [Builtin.zeroCells]
set_option maxRecDepth 100000 in
theorem grow_any (n : Nat) (h0 : 0 < n) (hn : n ≤ 1000000) (w : World) : Calls Tryz.prog 84 #[.slice none 0 0, .int .i64 n] w (GrowR w n) := by
  obtain ⟨i, hi, hz, hs, hby⟩ := info_parts info9
  have HZ := Lib.hid (fun W : World => Lib.run_append_nil_zeros (P := Tryz.prog) W 29 3 29 9 i _ .i64 .i64 Tryz.underlying29 Tryz.underlying3 hi hz n h0 (by rw [hs]; decide) (by omega) (by rw [hby]; omega))
  have HC : Hid (n ≤ grownCap w n 0 9 ∧ grownCap w n 0 9 ≤ maxLen) := ⟨grownCap_ge w n 0 9, grownCap_le_maxLen w n 0 9 (by unfold maxLen; omega)⟩
  obtain ⟨cp, hcp⟩ : ∃ cp, cp = grownCap w n 0 9 := ⟨_, rfl⟩
  have HZ2 := Lib.hid (HZ.out w)
  rw [← hcp] at HC HZ2
  have hc0 : (0 : Int) ≤ (cp : Int) := by omega
  clear hi hz hs hby hcp HZ
  go_enter Tryz.func84, Tryz.ntmps84
  go_wp2_with (at_builtin; refine Lib.wpList_append_run _ rfl (.tmp 20) (.tmp 21) 29 3 rfl _ _ rfl rfl _ _ HZ2.out ?_)
  go_wp2
  go_ret
  have hrow : (Builtin.zeroCells (Value.string ⟨#[]⟩).cells n ++ Builtin.zeroCells (Value.string ⟨#[]⟩).cells (cp - n)).size = cp := by
    rw [Array.size_append, zeroCells_size, zeroCells_size]
    show n * 1 + (cp - n) * 1 = cp
    have := HC.out.1
    omega
  refine ⟨cp, HC.out.1, rfl, ⟨rfl, Or.inr ⟨w.heap.size, cp, _, rfl, Nat.le_refl _, heap_alloc_new w.drew _, Nat.zero_le _, HC.out.2, by rw [Nat.mul_one]; exact hrow, by simp [strs]⟩⟩, (Below.refl _ _).drew.alloc (Nat.le_refl _) _⟩

theorem ns_src {w : World} {v : Value} {l : List Bs} (h : NS w v l) : Src Tryz.prog 1 29 v l.length (strs l) w := by
  rcases h with ⟨a, c, rfl, rfl⟩ | ⟨b, off, c, rfl, _, hc⟩
  · cases a with
    | none => exact Src.ofNil w Tryz.underlying29 c
    | some a => exact Src.ofSlice w Tryz.underlying29 a 0 c [] (by simp) (by simp) (by simp)
  · refine Src.ofSlice w Tryz.underlying29 ⟨b, off, none⟩ l.length c _ (by simp [strs]) (fun j v hj => ?_) (strs_cell l)
    obtain ⟨s, hs, rfl⟩ := strs_get hj
    rw [add_lit0]
    exact hc j s hs
theorem append_part {w : World} {base g cap : Nat} {l : List Bs} (ty : TypeId) (h : OwnG base w g cap l) {x : Value} {m : List Bs} (ht : NS w x m) (hl : l.length + m.length < 1000000) (hb : base ≤ w.heap.size) :
    ∃ g' cap' w', (Builtin.append_ #[29, 29] ty #[.slice (some ⟨g, 0, none⟩) l.length cap, x]).run Tryz.prog w = .ok (.slice (some ⟨g', 0, none⟩) (l ++ m).length cap') w' ∧ OwnG base w' g' cap' (l ++ m) ∧ w.grownBy w' (some g) := by
  by_cases hm : m = []
  · subst hm
    obtain ⟨i, hi, hz, hs, hby⟩ := info_parts info9
    have hsrc := ns_src ht
    obtain ⟨cur, _, _, hc, _⟩ := h.row
    have hr := run_append_room_src (P := Tryz.prog) w 29 29 ty 9 i Tryz.underlying29 hi g 0 l.length cap x 0 [] (by rw [hs]; exact hsrc) (by omega) (by simp) (by simp)
    refine ⟨g, cap, _, by rw [List.append_nil]; exact hr, ?_, ?_⟩
    · rw [List.append_nil]; simpa [World.setCells] using h
    · simp only [World.setCells]
      exact ⟨rfl, rfl, rfl, Nat.le_refl _, fun _ _ _ => rfl⟩
  · rcases ht with ⟨_, _, _, h0⟩ | ⟨b, off, c, rfl, hlt, hc⟩
    · exact absurd h0 hm
    · obtain ⟨g', cap', w', h1, h2, h3, _⟩ := append_texts ty h c ⟨hlt, hc⟩ (List.length_pos_iff.2 hm) hl hb
      exact ⟨g', cap', w', h1, h2, h3⟩
theorem wpList_append_part {w : World} {ops : Array Oper} {rest : List Oper} {o : Oper} {a : Act} {Q : Exit → Act → World → Prop} (hgd : o.guard = none) (s x : Operand)
    (ho : o.op = .call { callee := .builtin .append, args := #[s, x], argTypes := #[29, 29] }) {base g cap : Nat} {l : List Bs} (h : OwnG base w g cap l) (n : Nat) (hn : l.length = n) (hs : a.eval s = .slice (some ⟨g, 0, none⟩) n cap) (v : Value) (m : List Bs)
    (hx : a.eval x = v) (ht : NS w v m) (hl : l.length + m.length < 1000000) (hb : base ≤ w.heap.size)
    (hK : ∀ g' cap' w', OwnG base w' g' cap' (l ++ m) → w.grownBy w' (some g) → wpList Tryz.prog ops Q rest (a.put o.dst (.slice (some ⟨g', 0, none⟩) (l ++ m).length cap')) w') : wpList Tryz.prog ops Q (o :: rest) a w := by
  subst hn
  obtain ⟨g', cap', w', h1, h2, h3⟩ := append_part o.type h ht hl hb
  exact Lib.wpList_append_run w hgd s x 29 29 ho _ _ hs hx _ _ h1 (hK g' cap' w' h2 h3)

set_option maxRecDepth 100000 in
set_option maxHeartbeats 2000000 in
theorem concat_any (w : World) (b : Nat) (a1 a2 : Option Addr) (c1 c2 : Nat) (l1 l2 : List Bs) (h1 : NS w (.slice a1 l1.length c1) l1) (h2 : NS w (.slice a2 l2.length c2) l2) (hb0 : w.cell? ⟨b, 0, none⟩ = some (.slice a1 l1.length c1)) (hb1 : w.cell? ⟨b, 1, none⟩ = some (.slice a2 l2.length c2)) (hlt : b < w.heap.size)
    (hpos : 0 < l1.length + l2.length) (hle1 : l1.length ≤ 5000) (hle2 : l2.length ≤ 5000) : Calls Tryz.prog 48 #[.slice (some ⟨b, 0, none⟩) 2 2] w (TokR w (l1 ++ l2)) := by
  have HN := Lib.hid (And.intro h1 h2)
  have HC : Hid (∀ {wz : World}, Below w.heap.size w wz → wz.cell? ⟨b, 0, none⟩ = some (.slice a1 l1.length c1) ∧ wz.cell? ⟨b, 1, none⟩ = some (.slice a2 l2.length c2)) := fun h =>
    ⟨(h.cell (p := ⟨b, 0, none⟩) hlt).trans hb0, (h.cell (p := ⟨b, 1, none⟩) hlt).trans hb1⟩
  have HG := Lib.hid (grow_any (l1.length + l2.length) hpos (by omega) w)
  clear h1 h2
  go_enter Tryz.func48, Tryz.ntmps48
  go_wp2
  go_loop [3, 11] (fun sz i => ∃ k : Nat, k ≤ 2 ∧ i = .int .i64 k ∧ sz = .int .i64 (if k = 0 then 0 else if k = 1 then l1.length else l1.length + l2.length : Nat)) (fun _ i => 2 - (intOf i).toNat)
  case atStart => exact ⟨0, by omega, rfl, rfl⟩
  case round =>
    obtain ⟨k, hk, rfl, rfl⟩ := hrel
    obtain rfl | rfl | rfl : k = 0 ∨ k = 1 ∨ k = 2 := by omega
    · go_wp2
      go_round
      case rel => exact ⟨1, by omega, rfl, rfl⟩
      case measure => simp [intOf]
    · go_wp2
      go_round
      case rel => exact ⟨2, by omega, rfl, rfl⟩
      case measure => simp [intOf]
    · rw [show (if (2 : Nat) = 0 then 0 else if (2 : Nat) = 1 then l1.length else l1.length + l2.length) = l1.length + l2.length from rfl]
      obtain ⟨n, hn⟩ : ∃ n, n = l1.length + l2.length := ⟨_, rfl⟩
      rw [← hn] at HG ⊢
      have HNE := Lib.hid hn
      clear hn
      go_wp2_with (fail)
      refine HG.out.mono ?_
      rintro e w2 ⟨cap, hcap, rfl, hown, hb⟩
      have HB2 := Lib.hid hb
      have HO2 := Lib.hid hown
      clear hown hb
      go_wp2
      go_loopw [6, 27] (fun o i wr => ∃ (k g cap : Nat), k ≤ 2 ∧ Hid (OwnG w.heap.size wr g cap (if k = 0 then [] else if k = 1 then l1 else l1 ++ l2) ∧ Below w.heap.size w wr) ∧ i = .int .i64 k ∧ o = .slice (some ⟨g, 0, none⟩) (if k = 0 then [] else if k = 1 then l1 else l1 ++ l2).length cap) (fun _ i _ => 2 - (intOf i).toNat)
      case atStart => exact ⟨0, w.heap.size, cap, by omega, ⟨HO2.out, HB2.out⟩, rfl, rfl⟩
      case round =>
        obtain ⟨k, g, cap, hk, HS, rfl, rfl⟩ := hrel
        have hc0 := (HC.out HS.out.2).1
        have hc1 := (HC.out HS.out.2).2
        have hsz := HS.out.2.size
        have HN1 : Hid (NS wr (.slice a1 l1.length c1) l1 ∧ NS wr (.slice a2 l2.length c2) l2) := ⟨HN.out.1.below HS.out.2, HN.out.2.below HS.out.2⟩
        obtain rfl | rfl | rfl : k = 0 ∨ k = 1 ∨ k = 2 := by omega
        · have HO : Hid (OwnG w.heap.size wr g cap []) := HS.out.1
          go_wp2_with (at_builtin; refine wpList_append_part rfl (.tmp 31) (.tmp 32) rfl HO.out 0 rfl rfl (.slice a1 l1.length c1) l1 rfl HN1.out.1 (by rw [List.length_nil]; omega) hsz ?_)
          intro g3 cap3 w3 hown3 hgrow3
          have H3 : Hid (OwnG w.heap.size w3 g3 cap3 l1 ∧ Below w.heap.size w w3) := ⟨hown3, HS.out.2.trans ⟨hgrow3.os, hgrow3.tape, hgrow3.output, hgrow3.size, fun k hk => hgrow3.block k (by omega) (by intro e; cases e; have := HO.out.base; omega)⟩⟩
          clear hown3 hgrow3
          go_wp2
          go_roundw
          case rel => exact ⟨1, g3, cap3, by omega, H3, rfl, rfl⟩
          case measure => simp [intOf]
        · have HO : Hid (OwnG w.heap.size wr g cap l1) := HS.out.1
          rw [show (if (1 : Nat) = 0 then [] else if (1 : Nat) = 1 then l1 else l1 ++ l2).length = l1.length from rfl]
          go_wp2_with (at_builtin; refine wpList_append_part rfl (.tmp 31) (.tmp 32) rfl HO.out l1.length rfl rfl (.slice a2 l2.length c2) l2 rfl HN1.out.2 (by omega) hsz ?_)
          intro g3 cap3 w3 hown3 hgrow3
          have H3 : Hid (OwnG w.heap.size w3 g3 cap3 (l1 ++ l2) ∧ Below w.heap.size w w3) := ⟨hown3, HS.out.2.trans ⟨hgrow3.os, hgrow3.tape, hgrow3.output, hgrow3.size, fun k hk => hgrow3.block k (by omega) (by intro e; cases e; have := HO.out.base; omega)⟩⟩
          clear hown3 hgrow3
          go_wp2
          go_roundw
          case rel => exact ⟨2, g3, cap3, by omega, H3, rfl, by simp⟩
          case measure => simp [intOf]
        · rw [show (if (2 : Nat) = 0 then [] else if (2 : Nat) = 1 then l1 else l1 ++ l2).length = (l1 ++ l2).length from rfl]
          go_wp2
          go_ret
          exact ⟨g, cap, by simp, HS.out⟩
end Go.Proofs.YtppkpcijmfdfmaaGreatDoor
