/- The walks of a style's generator and of blanks. -/
import Derived.Test.YtppkpcijmfdfmaaGreatDoorC3
import Derived.Below
import Derived.Deep.Draws
import Derived.Deep.RegionWith
import Derived.Lib.AppendStr
import Derived.Lib.AppendZeros
import Derived.Lib.ConvBytes
import Derived.StillTailTactics
import Derived.Test.YtppkpcijmfdfmaaGreatDoorC0
import Derived.Test.YtppkpcijmfdfmaaGreatDoorC1
import Derived.Laws.RangeAny
import Derived.Lib.RuneCountTail
set_option linter.unusedVariables false
set_option linter.unusedSimpArgs false
namespace Go.Proofs.YtppkpcijmfdfmaaGreatDoor
open Go.RowKit
attribute [local go_sem] B_size B_get B_lit B_ext_to B_ext B_toList B_app

theorem lcg_wrap (x : Nat) : IntKind.u64.wrap (IntKind.u64.wrap ((x : Int) * 6364136223846793005) + 1442695040888963407) = (lcg x : Nat) := by
  have h1 : ∀ n : Int, IntKind.u64.wrap n = n % 18446744073709551616 := fun n => by simp [IntKind.wrap, IntKind.signed, IntKind.bits]
  rw [h1, h1]
  unfold lcg
  omega
theorem next_any (sb x n : Nat) (hx : x < 18446744073709551616) (hn : 0 < n) (hn2 : n < 100) (w : World) (h0 : w.cell? ⟨sb, 0, none⟩ = some (.int .u64 x)) (f0 : w.frozen? ⟨sb, 0, none⟩ = false) :
    Calls Tryz.prog 90 #[.pointer (some ⟨sb, 0, none⟩), .int .u64 n] w fun e w' => e = .returned (.int .u64 (told (lcg x) n : Nat)) ∧ w.setCell ⟨sb, 0, none⟩ (.int .u64 (lcg x : Nat)) = w' := by
  go_enter Tryz.func90, Tryz.ntmps90
  go_wp2
  rw [lcg_wrap]
  go_ret
  refine ⟨?_, rfl⟩
  unfold told
  congr 2
/-- A style in memory. -/
structure StyleAt (sb : Nat) (w : World) (x : Nat) : Prop where
  cell : w.cell? ⟨sb, 0, none⟩ = some (.int .u64 x)
  free : w.frozen? ⟨sb, 0, none⟩ = false
  lt : sb < w.heap.size
  u64 : x < 18446744073709551616
/-- All that was there is as it was, but for one block. -/
structure Only (sb : Nat) (w w' : World) : Prop where
  os : w'.os = w.os
  tape : w'.tape = w.tape
  output : w'.output = w.output
  size : w.heap.size ≤ w'.heap.size
  block : ∀ k, k < w.heap.size → k ≠ sb → w'.heap[k]? = w.heap[k]?
theorem Only.refl (sb : Nat) (w : World) : Only sb w w := ⟨rfl, rfl, rfl, Nat.le_refl _, fun _ _ _ => rfl⟩
theorem Only.trans {sb : Nat} {a b c : World} (h : Only sb a b) (g : Only sb b c) : Only sb a c :=
  ⟨g.os.trans h.os, g.tape.trans h.tape, g.output.trans h.output, Nat.le_trans h.size g.size, fun k hk hn => (g.block k (Nat.lt_of_lt_of_le hk h.size) hn).trans (h.block k hk hn)⟩
theorem Only.set (sb : Nat) (w : World) (v : Value) : Only sb w (w.setCell ⟨sb, 0, none⟩ v) :=
  ⟨rfl, rfl, rfl, by simp, fun k _ hn => Below.heap_setCell _ _ _ _ (by simpa using hn)⟩
theorem Only.below {sb : Nat} {w w' : World} (h : Below w.heap.size w w') : Only sb w w' := ⟨h.os, h.tape, h.output, h.size, fun k hk _ => h.block k hk⟩
theorem StyleAt.below {sb x : Nat} {w w' : World} (h : StyleAt sb w x) (hb : Below w.heap.size w w') : StyleAt sb w' x :=
  ⟨(hb.cell (p := ⟨sb, 0, none⟩) h.lt).trans h.cell, (hb.frozen (p := ⟨sb, 0, none⟩) h.lt).trans h.free, Nat.lt_of_lt_of_le h.lt hb.size, h.u64⟩
theorem StyleAt.set {sb x : Nat} {w : World} (h : StyleAt sb w x) (y : Nat) (hy : y < 18446744073709551616) : StyleAt sb (w.setCell ⟨sb, 0, none⟩ (.int .u64 y)) y :=
  ⟨World.cell?_setCell_same _ _ _ h.cell, by simpa using h.free, by simpa using h.lt, hy⟩
theorem next_style {sb x n : Nat} {w : World} (h : StyleAt sb w x) (hn : 0 < n) (hn2 : n < 100) :
    Calls Tryz.prog 90 #[.pointer (some ⟨sb, 0, none⟩), .int .u64 n] w fun e w' => e = .returned (.int .u64 (told (lcg x) n : Nat)) ∧ StyleAt sb w' (lcg x) ∧ Only sb w w' := by
  refine (next_any sb x n h.u64 hn hn2 w h.cell h.free).mono ?_
  rintro e w' ⟨rfl, rfl⟩
  exact ⟨rfl, h.set _ (lcg_lt x), Only.set _ _ _⟩
end Go.Proofs.YtppkpcijmfdfmaaGreatDoor

/- The walk of blanks. -/
namespace Go.Proofs.YtppkpcijmfdfmaaGreatDoor
open Go.RowKit
attribute [local go_sem] B_size B_get B_lit B_ext_to B_ext B_toList B_app

/-- The style's state as a world has it. -/
def stateOf (sb : Nat) (w : World) : Nat := match w.cell? ⟨sb, 0, none⟩ with | some (.int _ n) => n.toNat | _ => 0
theorem StyleAt.state {sb x : Nat} {w : World} (h : StyleAt sb w x) : stateOf sb w = x := by
  unfold stateOf; rw [h.cell]; simp

set_option maxHeartbeats 2000000 in
theorem blank_any {sb x : Nat} {w : World} (h : StyleAt sb w x) :
    Calls Tryz.prog 58 #[.pointer (some ⟨sb, 0, none⟩)] w fun e w' => e = .returned (.string (B (blank x).1)) ∧ StyleAt sb w' (blank x).2 ∧ Only sb w w' := by
  have H := Lib.hid h
  clear h
  go_enter Tryz.func58, Tryz.ntmps58
  go_wp2
  rw [show ByteArray.mk #[] = B [] from rfl]
  go_loopw [3] (fun o wr => ∃ (y : Nat) (u : Bs), Hid (blank x = (u ++ (blank y).1, (blank y).2) ∧ StyleAt sb wr y ∧ Only sb w wr ∧ u.length + bCount y ≤ 65536) ∧ o = .string (B u)) (fun _ wr => bCount (stateOf sb wr))
  case atStart => exact ⟨x, [], ⟨by simp, H.out, Only.refl _ _, by simpa using bCount_le x⟩, rfl⟩
  case round =>
    obtain ⟨y, u, HR, rfl⟩ := hrel
    have c0 := HR.out.2.1.cell
    have hul : u.length ≤ 65536 := by have := HR.out.2.2.2; omega
    by_cases hy : y = 0
    · subst hy
      go_wp2
      go_ret
      have hb := HR.out.1
      rw [blank_zero] at hb
      rw [hb]
      simp only [List.append_nil]
      exact ⟨rfl, HR.out.2.1, HR.out.2.2.1⟩
    · have hy0 : ((y : Int) != 0) = true := by simp; omega
      have HN := Lib.hid (next_style HR.out.2.1 (n := 4) (by omega) (by omega))
      by_cases ht : told (lcg y) 4 = 0
      · have hgo : ¬ bStop y := by exact fun h => h.elim hy fun h => h ht
        have HGO := Lib.hid (blank_go hgo)
        have HC := Lib.hid (bCount_succ hgo)
        have hk : told (lcg (lcg y)) 4 < 4 := Nat.mod_lt _ (by omega)
        rw [ht] at HN
        clear ht hgo
        go_wp2_with (go_at_call 90; refine HN.out.mono ?_; rintro e w2 ⟨rfl, hs2, ho2⟩; have H2 := Lib.hid (And.intro hs2 ho2); clear hs2 ho2)
        have HN2 := Lib.hid (next_style H2.out.1 (n := 4) (by omega) (by omega))
        obtain hk4 | hk4 | hk4 | hk4 : told (lcg (lcg y)) 4 = 0 ∨ told (lcg (lcg y)) 4 = 1 ∨ told (lcg (lcg y)) 4 = 2 ∨ told (lcg (lcg y)) 4 = 3 := by omega
        all_goals
          have HK := Lib.hid hk4
          rw [hk4] at HN2
          clear hk hk4
          go_wp2_with (go_at_call 90; refine HN2.out.mono ?_; rintro e w3 ⟨rfl, hs3, ho3⟩; have H3 := Lib.hid (And.intro hs3 ho3); clear hs3 ho3)
          go_roundw
          case rel =>
            refine ⟨lcg (lcg y), u ++ [bChar (told (lcg (lcg y)) 4)], ⟨?_, H3.out.1, (HR.out.2.2.1.trans H2.out.2).trans H3.out.2, ?_⟩, ?_⟩
            · rw [HR.out.1, HGO.out]; simp
            · have := HR.out.2.2.2; rw [HC.out] at this; simp; omega
            · rw [HK.out]; rfl
          case measure =>
            rw [H3.out.1.state, HR.out.2.1.state, HC.out]; omega
      · have HSTOP := Lib.hid (blank_stop (x := y) (Or.inr ht))
        have hz : (((told (lcg y) 4 : Nat) : Int) == 0) = false := by rw [beq_eq_false_iff_ne]; omega
        have HY := Lib.hid hy
        clear ht hy
        go_wp2_with (go_at_call 90; refine HN.out.mono ?_; rintro e w2 ⟨rfl, hs2, ho2⟩; have H2 := Lib.hid (And.intro hs2 ho2); clear hs2 ho2)
        go_ret
        have hb := HR.out.1
        rw [HSTOP.out, if_neg HY.out] at hb
        rw [hb]
        simp only [List.append_nil]
        exact ⟨rfl, H2.out.1, HR.out.2.2.1.trans H2.out.2⟩
end Go.Proofs.YtppkpcijmfdfmaaGreatDoor

/- The walks of short and long escapes; a step of the range over a text, wherever it stands. -/
namespace Go.Proofs.YtppkpcijmfdfmaaGreatDoor
open Go.RowKit
attribute [local go_sem] B_size B_get B_lit B_ext_to B_ext B_toList B_app

/-- An iterator set on. -/
def setIter (w : World) (k : Nat) (s : ByteArray) (p : Nat) : World := { w with heap := w.heap.setIfInBounds k (.stringIter s p) }
theorem setIter_at {w : World} {k : Nat} (s : ByteArray) (p : Nat) (h : k < w.heap.size) : (setIter w k s p).heap[k]? = some (.stringIter s p) := by
  unfold setIter
  simp [h]
theorem setIter_other {w : World} {k j : Nat} (s : ByteArray) (p : Nat) (h : j ≠ k) : (setIter w k s p).heap[j]? = w.heap[j]? := by
  unfold setIter
  simp only
  rw [Array.getElem?_setIfInBounds_ne (by omega)]
theorem setIter_size (w : World) (k : Nat) (s : ByteArray) (p : Nat) : (setIter w k s p).heap.size = w.heap.size := by
  unfold setIter
  simp
theorem run_next_at {P : Program} (w : World) (k : Nat) (s : ByteArray) (pos : Nat) (ty : TypeId) (hk : w.heap[k]? = some (.stringIter s pos)) (h : pos < s.size) :
    (Instr.next (.pointer (some ⟨k, 0, none⟩)) true ty).run P w = .ok (.tuple #[.bool true, .int .i64 pos, .int .i32 (Utf8.decode s pos).1]) (setIter w k s (pos + (Utf8.decode s pos).2)) := by
  simp only [Instr.next, getObj, setObj, Sem.run_bind, Sem.run, hk, Result.andThen, h, if_true]
  simp [goInt, setIter]
theorem run_next_stop {P : Program} (w : World) (k : Nat) (s : ByteArray) (pos : Nat) (ty : TypeId) (hk : w.heap[k]? = some (.stringIter s pos)) (h : ¬ pos < s.size) :
    (Instr.next (.pointer (some ⟨k, 0, none⟩)) true ty).run P w = .ok (.tuple #[.bool false]) w := by
  simp [Instr.next, getObj, Sem.run, hk, h]
/-- What a text's step leaves alone. -/
theorem Only.iter {sb : Nat} {w wr : World} (h : Only sb w wr) {k : Nat} (s : ByteArray) (p : Nat) (hk : w.heap.size ≤ k) : Only sb w (setIter wr k s p) :=
  ⟨h.os, h.tape, h.output, by rw [setIter_size]; exact h.size, fun j hj hn => by rw [setIter_other s p (by omega)]; exact h.block j hj hn⟩
theorem StyleAt.keep {sb x : Nat} {w w' : World} (h : StyleAt sb w x) (hb : w'.heap[sb]? = w.heap[sb]?) (hs : w.heap.size ≤ w'.heap.size) : StyleAt sb w' x := by
  refine ⟨(World.cell?_of_block (a := ⟨sb, 0, none⟩) hb).trans h.cell, ?_, Nat.lt_of_lt_of_le h.lt hs, h.u64⟩
  rw [← h.free]
  unfold World.frozen?
  rw [hb]

def shortOf (c : Nat) : Bs := match hShort c with | none => [] | some e => [92, e]
set_option maxHeartbeats 1000000 in
theorem short_any (c : Nat) (w : World) : Calls Tryz.prog 91 #[.int .i32 c] w fun e w' => e = .returned (.string (B (shortOf c))) ∧ w = w' := by
  by_cases h : c = 34 ∨ c = 92 ∨ c = 47 ∨ c = 8 ∨ c = 9 ∨ c = 10 ∨ c = 12 ∨ c = 13
  · rcases h with rfl | rfl | rfl | rfl | rfl | rfl | rfl | rfl
    all_goals
      go_enter Tryz.func91, Tryz.ntmps91
      go_wp2
      go_ret
      exact ⟨rfl, rfl⟩
  · have e : shortOf c = [] := by
      unfold shortOf hShort
      rw [if_neg (by omega), if_neg (by omega), if_neg (by omega), if_neg (by omega), if_neg (by omega), if_neg (by omega), if_neg (by omega), if_neg (by omega)]
    have h1 : ((c : Int) == 34) = false := by rw [beq_eq_false_iff_ne]; omega
    have h2 : ((c : Int) == 92) = false := by rw [beq_eq_false_iff_ne]; omega
    have h3 : ((c : Int) == 47) = false := by rw [beq_eq_false_iff_ne]; omega
    have h4 : ((c : Int) == 8) = false := by rw [beq_eq_false_iff_ne]; omega
    have h5 : ((c : Int) == 9) = false := by rw [beq_eq_false_iff_ne]; omega
    have h6 : ((c : Int) == 10) = false := by rw [beq_eq_false_iff_ne]; omega
    have h7 : ((c : Int) == 12) = false := by rw [beq_eq_false_iff_ne]; omega
    have h8 : ((c : Int) == 13) = false := by rw [beq_eq_false_iff_ne]; omega
    rw [e]
    clear e h
    go_enter Tryz.func91, Tryz.ntmps91
    go_wp2
    go_ret
    exact ⟨rfl, rfl⟩
end Go.Proofs.YtppkpcijmfdfmaaGreatDoor

/- The walks of the escape of a number and of decimal digits. -/
namespace Go.Proofs.YtppkpcijmfdfmaaGreatDoor
open Go.RowKit
attribute [local go_sem] B_size B_get B_lit B_ext_to B_ext B_toList B_app

theorem hexDigits_at : ∀ d : Nat, d < 16 → ([48, 49, 50, 51, 52, 53, 54, 55, 56, 57, 97, 98, 99, 100, 101, 102].take (d + 1)).drop d = [hexd d] := by decide +kernel
theorem slice_lit (l : Bs) (d : Nat) (c : UInt8) (h : d + 1 ≤ l.length) (hc : (l.take (d + 1)).drop d = [c]) (w : World) : (Instr.slice 9 (.string (B l)) (some (.int .i32 d)) (some (.int .i32 ((d : Int) + 1))) none).run Tryz.prog w = .ok (.string (B [c])) w := by
  have h1 : (d : Int) + 1 ≤ l.length := by omega
  have h3 : (d : Int).toNat = d := by omega
  have h4 : ((d : Int) + 1).toNat = d + 1 := by omega
  have h5 : (d : Int) ≤ (d : Int) + 1 := by omega
  simp [go_sem, h1, h3, h4, h5, hc]
theorem slice_hex (d : Nat) (h : d < 16) (w : World) : (Instr.slice 9 (.string (B [48, 49, 50, 51, 52, 53, 54, 55, 56, 57, 97, 98, 99, 100, 101, 102])) (some (.int .i32 d)) (some (.int .i32 ((d : Int) + 1))) none).run Tryz.prog w = .ok (.string (B [hexd d])) w :=
  slice_lit _ d _ (by show d + 1 ≤ 16; omega) (hexDigits_at d h) w
theorem and15 (n : Nat) (q : Int) (k : Nat) (hq : q = (k : Int)) (h1 : n / k < 2147483648) : ∃ d : Nat, d = n / k % 16 ∧ d < 16 ∧ bits .and .i32 ((n : Int) / q) 15 = (d : Int) := by
  have h := bits_mask .i32 31 (by decide) wraps_i32 4 (by decide) ((n / k : Nat) : Int) (Int.natCast_nonneg _) (by omega)
  refine ⟨n / k % 16, rfl, Nat.mod_lt _ (by decide), ?_⟩
  rw [hq, show (15 : Int) = 2 ^ 4 - 1 from rfl, show (n : Int) / (k : Int) = ((n / k : Nat) : Int) from by simp, h]
  omega
def hexSt (n : Nat) (o k : Value) : Prop :=
  (k = .int .i64 12 ∧ o = .string (B [92, 117])) ∨ (k = .int .i64 8 ∧ o = .string (B [92, 117, hexd (n / 4096 % 16)])) ∨ (k = .int .i64 4 ∧ o = .string (B [92, 117, hexd (n / 4096 % 16), hexd (n / 256 % 16)])) ∨
  (k = .int .i64 0 ∧ o = .string (B [92, 117, hexd (n / 4096 % 16), hexd (n / 256 % 16), hexd (n / 16 % 16)])) ∨ (k = .int .i64 (-4) ∧ o = .string (B (hHex n)))
set_option maxRecDepth 100000 in
set_option maxHeartbeats 2000000 in
theorem hex_any (n : Nat) (hn : n < 65536) (w : World) : Calls Tryz.prog 92 #[.int .i32 n] w fun e w' => e = .returned (.string (B (hHex n))) ∧ w = w' := by
  go_enter Tryz.func92, Tryz.ntmps92
  go_wp2
  rw [show ByteArray.mk #[] = B [] from rfl]
  go_loop [3, 4] (fun o k => hexSt n o k) (fun _ k => (intOf k + 4).toNat)
  case atStart => exact Or.inl ⟨rfl, rfl⟩
  case round =>
    rcases hrel with ⟨rfl, rfl⟩ | ⟨rfl, rfl⟩ | ⟨rfl, rfl⟩ | ⟨rfl, rfl⟩ | ⟨rfl, rfl⟩
    · obtain ⟨d, hd, hd2, hb⟩ := and15 n 4096 4096 rfl (by omega)
      have hs := slice_hex d hd2
      have hD := Lib.hid hd
      clear hd
      go_wp2
      go_round
      case rel =>
        rw [hD.out]
        exact Or.inr (Or.inl ⟨rfl, rfl⟩)
      case measure => decide
    · obtain ⟨d, hd, hd2, hb⟩ := and15 n 256 256 rfl (by omega)
      have hs := slice_hex d hd2
      have hD := Lib.hid hd
      clear hd
      go_wp2
      go_round
      case rel =>
        rw [hD.out]
        exact Or.inr (Or.inr (Or.inl ⟨rfl, rfl⟩))
      case measure => decide
    · obtain ⟨d, hd, hd2, hb⟩ := and15 n 16 16 rfl (by omega)
      have hs := slice_hex d hd2
      have hD := Lib.hid hd
      clear hd
      go_wp2
      go_round
      case rel =>
        rw [hD.out]
        exact Or.inr (Or.inr (Or.inr (Or.inl ⟨rfl, rfl⟩)))
      case measure => decide
    · obtain ⟨d, hd, hd2, hb⟩ := and15 n 1 1 rfl (by omega)
      rw [Int.ediv_one] at hb
      rw [Nat.div_one] at hd
      have hs := slice_hex d hd2
      have hD := Lib.hid hd
      clear hd
      go_wp2
      go_round
      case rel =>
        rw [hD.out]
        exact Or.inr (Or.inr (Or.inr (Or.inr ⟨rfl, rfl⟩)))
      case measure => decide
    · go_wp2
      go_ret
      exact ⟨rfl, rfl⟩
theorem dec_at : ∀ d : Nat, d < 10 → ([48, 49, 50, 51, 52, 53, 54, 55, 56, 57].take (d + 1)).drop d = [UInt8.ofNat (48 + d)] := by decide +kernel
theorem slice_dec (d : Nat) (h : d < 10) (w : World) : (Instr.slice 9 (.string (B [48, 49, 50, 51, 52, 53, 54, 55, 56, 57])) (some (.int .u64 d)) (some (.int .u64 ((d : Int) + 1))) none).run Tryz.prog w = .ok (.string (B [UInt8.ofNat (48 + d)])) w := by
  have hl : d + 1 ≤ ([48, 49, 50, 51, 52, 53, 54, 55, 56, 57] : Bs).length := by show d + 1 ≤ 10; omega
  have hc := dec_at d h
  generalize ([48, 49, 50, 51, 52, 53, 54, 55, 56, 57] : Bs) = l at *
  have h1 : (d : Int) + 1 ≤ l.length := by omega
  have h3 : (d : Int).toNat = d := by omega
  have h4 : ((d : Int) + 1).toNat = d + 1 := by omega
  have h5 : (d : Int) ≤ (d : Int) + 1 := by omega
  simp [go_sem, h1, h3, h4, h5, hc]
theorem rem10 (m : Nat) : ∃ d : Nat, d = m % 10 ∧ d < 10 ∧ Int.tmod (m : Int) 10 = (d : Int) := ⟨m % 10, rfl, Nat.mod_lt _ (by decide), rfl⟩
theorem quo10 (m : Nat) (h : m < 18446744073709551616) : ∃ q : Nat, q = m / 10 ∧ Int.tdiv (m : Int) 10 = (q : Int) ∧ IntKind.u64.wrap (q : Int) = (q : Int) := by
  refine ⟨m / 10, rfl, rfl, ?_⟩
  rw [IntKind.wrap_u64]
  omega
set_option maxRecDepth 100000 in
set_option maxHeartbeats 2000000 in
theorem digits_any (n : Nat) (hn : n < 18446744073709551616) (w : World) : Calls Tryz.prog 93 #[.int .u64 n] w fun e w' => e = .returned (.string (B (hDig n))) ∧ w = w' := by
  have HN := Lib.hid (hDig_length 19 n (Nat.lt_trans hn (by decide)))
  go_enter Tryz.func93, Tryz.ntmps93
  go_wp2
  rw [show ByteArray.mk #[] = B [] from rfl]
  go_loop [0, 3] (fun k o => ∃ (m : Nat) (u : Bs), Hid (hDig n = hDig m ++ u ∧ m < 18446744073709551616) ∧ k = .int .u64 m ∧ o = .string (B u)) (fun k _ => (intOf k).toNat)
  case atStart => exact ⟨n, [], ⟨by simp, hn⟩, rfl, rfl⟩
  case round =>
    obtain ⟨m, u, HU, rfl, rfl⟩ := hrel
    obtain ⟨d, hd, hd2, hb⟩ := rem10 m
    obtain ⟨q, hq, hqb, hqw⟩ := quo10 m HU.out.2
    have hul : u.length ≤ 20 := by
      have h1 := HN.out
      rw [HU.out.1, List.length_append] at h1
      omega
    obtain ⟨e, he⟩ : ∃ e, UInt8.ofNat (48 + d) = e := ⟨_, rfl⟩
    have hs := slice_dec d hd2
    rw [he] at hs
    have HE := Lib.hid he
    have HD := Lib.hid hd
    have HQ := Lib.hid hq
    by_cases h10 : m < 10
    · have h0 : ((q : Int) == 0) = true := by rw [beq_iff_eq]; omega
      have H10 := Lib.hid h10
      clear hd hq he h10
      go_wp2
      go_ret
      refine ⟨?_, rfl⟩
      rw [HU.out.1, hDig_small H10.out, ← HE.out, HD.out, Nat.mod_eq_of_lt H10.out]
      rfl
    · have h0 : ((q : Int) == 0) = false := by rw [beq_eq_false_iff_ne]; omega
      have H10 := Lib.hid h10
      clear hd hq he h10
      go_wp2
      go_round
      case rel =>
        refine ⟨q, e :: u, ⟨?_, ?_⟩, ?_, rfl⟩
        · rw [HU.out.1, hDig_big H10.out, ← HE.out, HD.out, HQ.out]; simp
        · have := HU.out.2; have := HQ.out; omega
        · first | rfl | rw [hqw]
      case measure =>
        have h1 := HQ.out
        have h2 := H10.out
        first | (simp only [intOf]; omega) | (rw [hqw]; simp only [intOf]; omega)
end Go.Proofs.YtppkpcijmfdfmaaGreatDoor
