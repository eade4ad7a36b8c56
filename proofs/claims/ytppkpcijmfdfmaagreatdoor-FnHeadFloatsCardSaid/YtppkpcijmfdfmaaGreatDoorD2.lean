/- The walk of a text as a style writes it. -/
import Derived.Test.YtppkpcijmfdfmaaGreatDoorD1
set_option linter.unusedVariables false
set_option linter.unusedSimpArgs false
namespace Go.Proofs.YtppkpcijmfdfmaaGreatDoor
open Go.RowKit
attribute [local go_sem] B_size B_get B_lit B_ext_to B_ext B_toList B_app

set_option maxRecDepth 100000 in
theorem enc_B (c : Nat) : Utf8.encode (c : Int) = B (jEnc c) := B_of _
theorem decode_drop (s : Bs) (pos : Nat) (h : pos ≤ s.length) : Utf8.decode (B s) pos = Lib.decodeL (s.drop pos) := by
  have := Lib.tail_decode (B s) pos 0
  rw [B_size, B_ext_to] at this
  rw [Nat.add_zero] at this
  exact this.symm
theorem decodeL_fit (s : Bs) (h : s ≠ []) : (Lib.decodeL s).2 ≤ s.length := Lib.decodeL_le s h
/-- A text that is being written. -/
structure TextSt (sb : Nat) (s : Bs) (x : Nat) (w : World) (pos y : Nat) (u : Bs) (wr : World) : Prop where
  it : wr.heap[w.heap.size]? = some (.stringIter (B s) pos)
  le : pos ≤ s.length
  st : StyleAt sb wr y
  only : Only sb w wr
  eq : hText s x = (u ++ ((hChars (cps (s.drop pos)) y).1 ++ [34]), (hChars (cps (s.drop pos)) y).2)
  len : u.length ≤ 12 * pos + 1
theorem hChars_cons (c : Nat) (r : List Nat) (y : Nat) : hChars (c :: r) y = ((hChar c y).1 ++ (hChars r (hChar c y).2).1, (hChars r (hChar c y).2).2) := rfl
/-- One character more. -/
theorem TextSt.step {sb : Nat} {s : Bs} {x : Nat} {w : World} {pos y : Nat} {u : Bs} {wr wn : World} (h : TextSt sb s x w pos y u wr) (hlt : pos < s.length) {c k : Nat} (hd : Lib.decodeL (s.drop pos) = (c, k))
    {o : Bs} {y' : Nat} (hc : hChar c y = (o, y')) (hs : StyleAt sb wn y') (ho : Only sb (setIter wr w.heap.size (B s) (pos + k)) wn) (hi : wn.heap[w.heap.size]? = some (.stringIter (B s) (pos + k))) : TextSt sb s x w (pos + k) y' (u ++ o) wn ∧ s.length - (pos + k) < s.length - pos := by
  have hne : s.drop pos ≠ [] := by
    intro e
    have := congrArg List.length e
    simp at this
    omega
  have hk := Lib.decodeL_width (s.drop pos)
  have hk2 := decodeL_fit (s.drop pos) hne
  rw [hd] at hk hk2
  rw [List.length_drop] at hk2
  simp only at hk hk2
  have hl := hChar_length c y
  rw [hc] at hl
  simp only at hl
  refine ⟨⟨hi, by omega, hs, (h.only.iter _ _ (Nat.le_refl _)).trans ho, ?_, ?_⟩, by omega⟩
  · rw [h.eq, cps_step _ hne, hd, List.drop_drop, hChars_cons, hc]
    simp only [List.append_assoc]
  · have := h.len
    rw [List.length_append]
    omega
theorem TextSt.style {sb : Nat} {s : Bs} {x : Nat} {w : World} {pos y : Nat} {u : Bs} {wr : World} (h : TextSt sb s x w pos y u wr) (hsb : sb < w.heap.size) (p : Nat) : StyleAt sb (setIter wr w.heap.size (B s) p) y :=
  h.st.keep (setIter_other _ _ (by omega)) (by rw [setIter_size]; omega)
theorem TextSt.lt {sb : Nat} {s : Bs} {x : Nat} {w : World} {pos y : Nat} {u : Bs} {wr : World} (h : TextSt sb s x w pos y u wr) : w.heap.size < wr.heap.size := by
  have := h.it
  rcases Nat.lt_or_ge w.heap.size wr.heap.size with h1 | h1
  · exact h1
  · rw [Array.getElem?_eq_none h1] at this; cases this
theorem Only.iterAt {sb : Nat} {a b : World} (h : Only sb a b) {k : Nat} {o : Obj} (hk : a.heap[k]? = some o) (hne : k ≠ sb) : b.heap[k]? = some o := by
  rw [h.block k (Array.getElem?_eq_some_iff.1 hk).1 hne]
  exact hk

/-- The three tests of what must be escaped. -/
theorem must_tests (c : Nat) : (hMust c = true ∧ ((decide ((c : Int) < 32) = true) ∨ (decide ((c : Int) < 32) = false ∧ ((c : Int) == 34) = true) ∨ (decide ((c : Int) < 32) = false ∧ ((c : Int) == 34) = false ∧ ((c : Int) == 92) = true))) ∨
    (hMust c = false ∧ decide ((c : Int) < 32) = false ∧ ((c : Int) == 34) = false ∧ ((c : Int) == 92) = false) := by
  unfold hMust
  by_cases h1 : c < 32
  · left
    exact ⟨by simp [h1], Or.inl (by simp; omega)⟩
  · by_cases h2 : c = 34
    · left
      exact ⟨by simp [h2], Or.inr (Or.inl ⟨by simp; omega, by simp [h2]⟩)⟩
    · by_cases h3 : c = 92
      · left
        exact ⟨by simp [h3], Or.inr (Or.inr ⟨by simp; omega, by simp; omega, by simp [h3]⟩)⟩
      · right
        refine ⟨by simp [h1, h2, h3], by simp; omega, by simp; omega, by simp; omega⟩

theorem TextSt.pos {sb : Nat} {s : Bs} {x : Nat} {w : World} {pos y : Nat} {u : Bs} {wr : World} (h : TextSt sb s x w pos y u wr) : wr.iterPos w.heap.size = pos := by
  unfold World.iterPos
  rw [h.it]
theorem hChar_plain {c : Nat} (hm : hMust c = false) (y : Nat) : (y = 0 → hChar c y = (jEnc c, 0)) ∧ (y ≠ 0 → told (lcg y) 5 ≠ 0 → hChar c y = (jEnc c, lcg y)) ∧ (y ≠ 0 → told (lcg y) 5 = 0 → hChar c y = hWrite c (lcg y)) := by
  have hm2 : ¬ hMust c = true := by rw [hm]; decide
  have e0 : hEsc c y = if y = 0 then (false, 0) else (told (lcg y) 5 == 0, lcg y) := by unfold hEsc; rw [if_neg hm2]
  unfold hChar
  refine ⟨fun h => ?_, fun h h5 => ?_, fun h h5 => ?_⟩
  · rw [e0, if_pos h, if_neg (by decide)]
  · have e5 : (told (lcg y) 5 == 0) = false := by rw [beq_eq_false_iff_ne]; exact h5
    rw [e0, if_neg h, e5]; rfl
  · have e5 : (told (lcg y) 5 == 0) = true := by rw [h5]; rfl
    rw [e0, if_neg h, e5]
    rfl
theorem hChar_must {c : Nat} (hm : hMust c = true) (y : Nat) : hChar c y = hWrite c y := by
  have e0 : hEsc c y = (true, y) := by unfold hEsc; rw [if_pos hm]
  unfold hChar
  rw [e0, if_pos rfl]
/-- How an escape is written, by cases. -/
theorem hWrite_cases (c y : Nat) : (shortOf c = [] ∧ hWrite c y = (hLong c, y)) ∨ ∃ e, shortOf c = [92, e] ∧ c < 128 ∧ ((y = 0 ∧ hWrite c y = ([92, e], 0)) ∨ (y ≠ 0 ∧ told (lcg y) 2 = 0 ∧ hWrite c y = ([92, e], lcg y)) ∨ (y ≠ 0 ∧ told (lcg y) 2 ≠ 0 ∧ hWrite c y = (hLong c, lcg y))) := by
  unfold shortOf hWrite
  cases hs : hShort c with
  | none => exact Or.inl ⟨rfl, rfl⟩
  | some e =>
    right
    refine ⟨e, rfl, hShort_lt hs, ?_⟩
    by_cases h0 : y = 0
    · exact Or.inl ⟨h0, by simp only [if_pos h0]⟩
    · by_cases h2 : told (lcg y) 2 = 0
      · exact Or.inr (Or.inl ⟨h0, h2, by simp only [if_neg h0, if_pos h2]⟩)
      · exact Or.inr (Or.inr ⟨h0, h2, by simp only [if_neg h0, if_neg h2]⟩)
theorem hLong_small {c : Nat} (h : ¬ 65536 ≤ c) : hLong c = hHex c := by unfold hLong; rw [if_neg h]
theorem hLong_big {c : Nat} (h : 65536 ≤ c) : hLong c = hHex (55296 + (c - 65536) / 1024) ++ hHex (56320 + (c - 65536) % 1024) := by unfold hLong; rw [if_pos h]
theorem hChars_nil (y : Nat) : hChars [] y = ([], y) := rfl
theorem next5 {sb x : Nat} {w : World} (h : StyleAt sb w x) :
    Calls Tryz.prog 90 #[.pointer (some ⟨sb, 0, none⟩), .int .u64 5] w fun e w' => e = .returned (.int .u64 (told (lcg x) 5 : Nat)) ∧ StyleAt sb w' (lcg x) ∧ Only sb w w' := next_style h (n := 5) (by omega) (by omega)
theorem next2 {sb x : Nat} {w : World} (h : StyleAt sb w x) :
    Calls Tryz.prog 90 #[.pointer (some ⟨sb, 0, none⟩), .int .u64 2] w fun e w' => e = .returned (.int .u64 (told (lcg x) 2 : Nat)) ∧ StyleAt sb w' (lcg x) ∧ Only sb w w' := next_style h (n := 2) (by omega) (by omega)
/-- The halves of a character above 16 bits, as the walk comes to them. -/
theorem halves {c : Nat} (h1 : 65536 ≤ c) (h2 : c ≤ 1114111) : ∃ a b : Nat, a = 55296 + (c - 65536) / 1024 ∧ b = 56320 + (c - 65536) % 1024 ∧ a < 65536 ∧ b < 65536 ∧
    (55296 + ((c : Int) - 65536) / 1024 = (a : Int)) ∧ (56320 + bits .and .i32 ((c : Int) - 65536) 1023 = (b : Int)) := by
  have h := bits_mask .i32 31 (by decide) wraps_i32 10 (by decide) ((c - 65536 : Nat) : Int) (Int.natCast_nonneg _) (by omega)
  refine ⟨_, _, rfl, rfl, by omega, by omega, by omega, ?_⟩
  have e : (c : Int) - 65536 = ((c - 65536 : Nat) : Int) := by omega
  rw [e, show (1023 : Int) = 2 ^ 10 - 1 from rfl, h]
  omega

attribute [local go_sem] enc_B
attribute [local irreducible] jEnc hText hChars hChar cps hHex
set_option maxRecDepth 100000 in
set_option maxHeartbeats 8000000 in
theorem text_any {sb x : Nat} {w : World} (s : Bs) (h : StyleAt sb w x) (hl : s.length < 4294967296) :
    Calls Tryz.prog 59 #[.pointer (some ⟨sb, 0, none⟩), .string (B s)] w fun e w' => e = .returned (.string (B (hText s x).1)) ∧ StyleAt sb w' (hText s x).2 ∧ Only sb w w' := by
  have hsb := h.lt
  have HST : Hid (TextSt sb s x w 0 x [34] (w.iter (B s) 0)) := by
    refine ⟨World.iter_heap _ _ _, Nat.zero_le _, ?_, ?_, by unfold hText; rfl, by simp⟩
    · exact h.below ((Below.refl _ _).alloc (Nat.le_refl _) _)
    · exact Only.below ((Below.refl _ _).alloc (Nat.le_refl _) _)
  clear h
  go_enter Tryz.func59, Tryz.ntmps59
  go_wp2
  rw [show ByteArray.mk #[] = B [] from rfl]
  go_loopw [5] (fun o wr => ∃ (pos y : Nat) (u : Bs), Hid (TextSt sb s x w pos y u wr) ∧ o = .string (B u)) (fun _ wr => s.length - wr.iterPos w.heap.size)
  case atStart => exact ⟨0, x, [34], HST, rfl⟩
  case round =>
    obtain ⟨pos, y, u, HS, rfl⟩ := hrel
    have hul : u.length ≤ 60000000000 := by have := HS.out.len; have := HS.out.le; omega
    by_cases hlt : pos < s.length
    · obtain ⟨c, k, hd⟩ : ∃ c k, Lib.decodeL (s.drop pos) = (c, k) := ⟨_, _, rfl⟩
      have hnx : ∀ ty, (Instr.next (.pointer (some ⟨w.heap.size, 0, none⟩)) true ty).run Tryz.prog wr = .ok (.tuple #[.bool true, .int .i64 pos, .int .i32 c]) (setIter wr w.heap.size (B s) (pos + k)) := by
        intro ty
        have := run_next_at (P := Tryz.prog) wr w.heap.size (B s) pos ty HS.out.it (by rw [B_size]; exact hlt)
        rw [decode_drop s pos HS.out.le, hd] at this
        exact this
      have hcu : c ≤ 1114111 := by
        have := decodeL_uni (s.drop pos)
        rw [hd] at this
        unfold Uni at this
        omega
      have HC := Lib.hid (short_any c)
      have hje := jEnc_length c
      obtain ⟨w1, hw1⟩ : ∃ w1, w1 = setIter wr w.heap.size (B s) (pos + k) := ⟨_, rfl⟩
      have S1 := HS.out.style hsb (pos + k)
      have I1 := setIter_at (B s) (pos + k) HS.out.lt
      rw [← hw1] at hnx S1 I1
      have c0 := S1.cell
      have hne2 : w.heap.size ≠ sb := by omega
      -- what closes a round
      have CLOSE : Hid (∀ {o : Bs} {y' : Nat} {wn : World}, hChar c y = (o, y') → StyleAt sb wn y' → Only sb w1 wn → TextSt sb s x w (pos + k) y' (u ++ o) wn ∧ s.length - wn.iterPos w.heap.size < s.length - wr.iterPos w.heap.size) := by
        intro o y' wn hc hs ho
        obtain ⟨g1, g2⟩ := HS.out.step hlt hd hc hs (hw1 ▸ ho) (ho.iterAt I1 hne2)
        exact ⟨g1, by rw [g1.pos, HS.out.pos]; exact g2⟩
      have HN5 := Lib.hid (next5 S1)
      have HN2 := Lib.hid (next2 S1)
      have HW := Lib.hid hw1
      have HS1 := Lib.hid S1
      have HD := Lib.hid hd
      clear hw1 S1 I1 hd
      rcases must_tests c with ⟨hm, ht⟩ | ⟨hm, t1, t2, t3⟩
      · have hw := hChar_must hm y
        rcases ht with t1 | ⟨t1, t2⟩ | ⟨t1, t2, t3⟩
        all_goals
          rcases hWrite_cases c (y) with ⟨hsh, hwc⟩ | ⟨e, hsh, hc128, hwc⟩
          · rw [hsh] at HC
            rw [hwc] at hw
            have hc128 := hMust_small hm
            have hb0 : decide ((65536 : Int) ≤ c) = false := by simp; omega
            have HX := Lib.hid (hex_any c (by omega))
            have hxl : (hHex c).length ≤ 6 := Nat.le_of_eq (hHex_length c)
            rw [hLong_small (by omega)] at hw
            have HCC := Lib.hid hw
            clear hsh hwc hw hc128 hm
            go_wp2_with (first
              | (go_at_call 91; with_reducible refine (HC.out _).mono ?_; rintro e2 w2 ⟨rfl, rfl⟩)
              | (go_at_call 92; with_reducible refine (HX.out _).mono ?_; rintro e2 w4 ⟨rfl, rfl⟩))
            go_roundw
            case rel =>
              refine ⟨_, _, _, (CLOSE.out HCC.out HS1.out (Only.refl _ _)).1, ?_⟩
              first | with_reducible rfl | simp only [List.append_assoc]
            case measure => exact (CLOSE.out HCC.out HS1.out (Only.refl _ _)).2
          · rw [hsh] at HC
            rcases hwc with ⟨hy1, hwc⟩ | ⟨hy1, h2, hwc⟩ | ⟨hy1, h2, hwc⟩
            · rw [hwc] at hw
              have HCC := Lib.hid hw
              have hz0 : (((y : Nat) : Int) == 0) = true := by rw [hy1]; rfl
              have HY := Lib.hid hy1
              clear hsh hwc hw hc128 hy1 hm
              go_wp2_with (first
                | (go_at_call 91; with_reducible refine (HC.out _).mono ?_; rintro e2 w2 ⟨rfl, rfl⟩))
              go_roundw
              case rel =>
                refine ⟨_, _, _, (CLOSE.out HCC.out (by have hs9 := HS1.out; rw [HY.out] at hs9; exact hs9) (Only.refl _ _)).1, ?_⟩
                first | with_reducible rfl | simp only [List.append_assoc]
              case measure => exact (CLOSE.out HCC.out (by have hs9 := HS1.out; rw [HY.out] at hs9; exact hs9) (Only.refl _ _)).2
            · rw [hwc] at hw
              have HCC := Lib.hid hw
              have hz1 : (((y : Nat) : Int) == 0) = false := by rw [beq_eq_false_iff_ne]; omega
              rw [h2] at HN2
              clear hsh hwc hw hc128 h2 hy1 hm
              go_wp2_with (first
                | (go_at_call 91; with_reducible refine (HC.out _).mono ?_; rintro e2 w2 ⟨rfl, rfl⟩)
                | (go_at_call 90; with_reducible refine HN2.out.mono ?_; rintro e2 w3 ⟨rfl, hs3, ho3⟩; have H3 := Lib.hid (And.intro hs3 ho3); clear hs3 ho3))
              go_roundw
              case rel =>
                refine ⟨_, _, _, (CLOSE.out HCC.out H3.out.1 H3.out.2).1, ?_⟩
                first | with_reducible rfl | simp only [List.append_assoc]
              case measure => exact (CLOSE.out HCC.out H3.out.1 H3.out.2).2
            · rw [hwc] at hw
              have hb0 : decide ((65536 : Int) ≤ c) = false := by simp; omega
              have HX := Lib.hid (hex_any c (by omega))
              have hxl : (hHex c).length ≤ 6 := Nat.le_of_eq (hHex_length c)
              rw [hLong_small (by omega)] at hw
              have HCC := Lib.hid hw
              have hz1 : (((y : Nat) : Int) == 0) = false := by rw [beq_eq_false_iff_ne]; omega
              obtain ⟨z, hz⟩ : ∃ z, told (lcg (y)) 2 = z := ⟨_, rfl⟩
              have hz2 : ((z : Int) == 0) = false := by rw [beq_eq_false_iff_ne]; omega
              rw [hz] at HN2
              clear hsh hwc hw hc128 h2 hy1 hz hm
              go_wp2_with (first
                | (go_at_call 91; with_reducible refine (HC.out _).mono ?_; rintro e2 w2 ⟨rfl, rfl⟩)
                | (go_at_call 90; with_reducible refine HN2.out.mono ?_; rintro e2 w3 ⟨rfl, hs3, ho3⟩; have H3 := Lib.hid (And.intro hs3 ho3); clear hs3 ho3)
                | (go_at_call 92; with_reducible refine (HX.out _).mono ?_; rintro e2 w4 ⟨rfl, rfl⟩))
              go_roundw
              case rel =>
                refine ⟨_, _, _, (CLOSE.out HCC.out H3.out.1 H3.out.2).1, ?_⟩
                first | with_reducible rfl | simp only [List.append_assoc]
              case measure => exact (CLOSE.out HCC.out H3.out.1 H3.out.2).2
      · have HM := Lib.hid (hChar_plain hm y)
        clear hm
        by_cases hy : y = 0
        · have hy0 : ((y : Int) != 0) = false := by simp [hy]
          go_wp2_with (go_at_call 91; refine (HC.out _).mono ?_; rintro e w2 ⟨rfl, rfl⟩)
          go_roundw
          case rel =>
            have := (CLOSE.out (HM.out.1 hy) (hy ▸ HS1.out) (Only.refl _ _)).1
            exact ⟨_, _, _, this, rfl⟩
          case measure => exact (CLOSE.out (HM.out.1 hy) (hy ▸ HS1.out) (Only.refl _ _)).2
        · have hy0 : ((y : Int) != 0) = true := by simp; omega
          by_cases h5 : told (lcg y) 5 = 0
          · have hw := HM.out.2.2 hy h5
            rw [h5] at HN5
            clear h5
            rcases hWrite_cases c (lcg y) with ⟨hsh, hwc⟩ | ⟨e, hsh, hc128, hwc⟩
            · rw [hsh] at HC
              rw [hwc] at hw
              by_cases hbig : 65536 ≤ c
              · have hb1 : decide ((65536 : Int) ≤ c) = true := by simp; omega
                obtain ⟨p, q, hp, hq, hp1, hq1, hpe, hqe⟩ := halves hbig hcu
                have hxl1 : (hHex p).length ≤ 6 := Nat.le_of_eq (hHex_length p)
                have hxl2 : (hHex q).length ≤ 6 := Nat.le_of_eq (hHex_length q)
                have HX1 := Lib.hid (hex_any p hp1)
                have HX2 := Lib.hid (hex_any q hq1)
                rw [hLong_big hbig, ← hp, ← hq] at hw
                have HCC := Lib.hid hw
                clear hp hq hsh hwc hw
                go_wp2_with (first
                  | (go_at_call 91; with_reducible refine (HC.out _).mono ?_; rintro e2 w2 ⟨rfl, rfl⟩)
                  | (go_at_call 90; with_reducible refine HN5.out.mono ?_; rintro e2 w2 ⟨rfl, hs2, ho2⟩; have c2 := hs2.cell; have H2 := Lib.hid (And.intro hs2 ho2); clear hs2 ho2)
                  | (go_at_call 92; with_reducible refine (HX1.out _).mono ?_; rintro e2 w4 ⟨rfl, rfl⟩)
                  | (go_at_call 92; with_reducible refine (HX2.out _).mono ?_; rintro e2 w4 ⟨rfl, rfl⟩))
                go_roundw
                case rel =>
                  refine ⟨_, _, _, (CLOSE.out HCC.out H2.out.1 (H2.out.2)).1, ?_⟩
                  first | with_reducible rfl | simp only [List.append_assoc]
                case measure => exact (CLOSE.out HCC.out H2.out.1 (H2.out.2)).2
              · have hb0 : decide ((65536 : Int) ≤ c) = false := by simp; omega
                have HX := Lib.hid (hex_any c (by omega))
                have hxl : (hHex c).length ≤ 6 := Nat.le_of_eq (hHex_length c)
                rw [hLong_small (by omega)] at hw
                have HCC := Lib.hid hw
                clear hsh hwc hw hbig
                go_wp2_with (first
                  | (go_at_call 91; with_reducible refine (HC.out _).mono ?_; rintro e2 w2 ⟨rfl, rfl⟩)
                  | (go_at_call 90; with_reducible refine HN5.out.mono ?_; rintro e2 w2 ⟨rfl, hs2, ho2⟩; have c2 := hs2.cell; have H2 := Lib.hid (And.intro hs2 ho2); clear hs2 ho2)
                  | (go_at_call 92; with_reducible refine (HX.out _).mono ?_; rintro e2 w4 ⟨rfl, rfl⟩))
                go_roundw
                case rel =>
                  refine ⟨_, _, _, (CLOSE.out HCC.out H2.out.1 (H2.out.2)).1, ?_⟩
                  first | with_reducible rfl | simp only [List.append_assoc]
                case measure => exact (CLOSE.out HCC.out H2.out.1 (H2.out.2)).2
            · rw [hsh] at HC
              rcases hwc with ⟨hy1, hwc⟩ | ⟨hy1, h2, hwc⟩ | ⟨hy1, h2, hwc⟩
              · rw [hwc] at hw
                have HCC := Lib.hid hw
                have hz0 : (((lcg y : Nat) : Int) == 0) = true := by rw [hy1]; rfl
                have HY := Lib.hid hy1
                clear hsh hwc hw hc128 hy1
                go_wp2_with (first
                  | (go_at_call 91; with_reducible refine (HC.out _).mono ?_; rintro e2 w2 ⟨rfl, rfl⟩)
                  | (go_at_call 90; with_reducible refine HN5.out.mono ?_; rintro e2 w2 ⟨rfl, hs2, ho2⟩; have c2 := hs2.cell; have H2 := Lib.hid (And.intro hs2 ho2); clear hs2 ho2))
                go_roundw
                case rel =>
                  refine ⟨_, _, _, (CLOSE.out HCC.out (by have hs9 := H2.out.1; rw [HY.out] at hs9; exact hs9) (H2.out.2)).1, ?_⟩
                  first | with_reducible rfl | simp only [List.append_assoc]
                case measure => exact (CLOSE.out HCC.out (by have hs9 := H2.out.1; rw [HY.out] at hs9; exact hs9) (H2.out.2)).2
              · rw [hwc] at hw
                have HCC := Lib.hid hw
                have hz1 : (((lcg y : Nat) : Int) == 0) = false := by rw [beq_eq_false_iff_ne]; omega
                have HZ := Lib.hid h2
                clear hsh hwc hw hc128 h2 hy1
                go_wp2_with (first
                  | (go_at_call 91; with_reducible refine (HC.out _).mono ?_; rintro e2 w2 ⟨rfl, rfl⟩)
                  | (go_at_call 90; with_reducible refine HN5.out.mono ?_; rintro e2 w2 ⟨rfl, hs2, ho2⟩; have c2 := hs2.cell; have H2 := Lib.hid (And.intro hs2 ho2); clear hs2 ho2)
                  | (go_at_call 90; have hq := next2 H2.out.1; rw [HZ.out] at hq; with_reducible refine hq.mono ?_; rintro e2 w3 ⟨rfl, hs3, ho3⟩; have H3 := Lib.hid (And.intro hs3 ho3); clear hs3 ho3))
                go_roundw
                case rel =>
                  refine ⟨_, _, _, (CLOSE.out HCC.out H3.out.1 (H2.out.2.trans H3.out.2)).1, ?_⟩
                  first | with_reducible rfl | simp only [List.append_assoc]
                case measure => exact (CLOSE.out HCC.out H3.out.1 (H2.out.2.trans H3.out.2)).2
              · rw [hwc] at hw
                have hb0 : decide ((65536 : Int) ≤ c) = false := by simp; omega
                have HX := Lib.hid (hex_any c (by omega))
                have hxl : (hHex c).length ≤ 6 := Nat.le_of_eq (hHex_length c)
                rw [hLong_small (by omega)] at hw
                have HCC := Lib.hid hw
                have hz1 : (((lcg y : Nat) : Int) == 0) = false := by rw [beq_eq_false_iff_ne]; omega
                obtain ⟨z, hz⟩ : ∃ z, told (lcg (lcg y)) 2 = z := ⟨_, rfl⟩
                have hz2 : ((z : Int) == 0) = false := by rw [beq_eq_false_iff_ne]; omega
                have HZ := Lib.hid hz
                clear hsh hwc hw hc128 h2 hy1 hz
                go_wp2_with (first
                  | (go_at_call 91; with_reducible refine (HC.out _).mono ?_; rintro e2 w2 ⟨rfl, rfl⟩)
                  | (go_at_call 90; with_reducible refine HN5.out.mono ?_; rintro e2 w2 ⟨rfl, hs2, ho2⟩; have c2 := hs2.cell; have H2 := Lib.hid (And.intro hs2 ho2); clear hs2 ho2)
                  | (go_at_call 90; have hq := next2 H2.out.1; rw [HZ.out] at hq; with_reducible refine hq.mono ?_; rintro e2 w3 ⟨rfl, hs3, ho3⟩; have H3 := Lib.hid (And.intro hs3 ho3); clear hs3 ho3)
                  | (go_at_call 92; with_reducible refine (HX.out _).mono ?_; rintro e2 w4 ⟨rfl, rfl⟩))
                go_roundw
                case rel =>
                  refine ⟨_, _, _, (CLOSE.out HCC.out H3.out.1 (H2.out.2.trans H3.out.2)).1, ?_⟩
                  first | with_reducible rfl | simp only [List.append_assoc]
                case measure => exact (CLOSE.out HCC.out H3.out.1 (H2.out.2.trans H3.out.2)).2
          · have h50 : (((told (lcg y) 5 : Nat) : Int) == 0) = false := by rw [beq_eq_false_iff_ne]; omega
            have hcc := Lib.hid (HM.out.2.1 hy h5)
            clear h5
            generalize told (lcg y) 5 = z at *
            go_wp2_with (first
              | (go_at_call 91; with_reducible refine (HC.out _).mono ?_; rintro e w2 ⟨rfl, rfl⟩)
              | (go_at_call 90; with_reducible refine HN5.out.mono ?_; rintro e w2 ⟨rfl, hs2, ho2⟩; have H2 := Lib.hid (And.intro hs2 ho2); clear hs2 ho2))
            go_roundw
            case rel =>
              have := (CLOSE.out hcc.out H2.out.1 H2.out.2).1
              exact ⟨_, _, _, this, rfl⟩
            case measure => exact (CLOSE.out hcc.out H2.out.1 H2.out.2).2
    · have hp : pos = s.length := by have := HS.out.le; omega
      have hnx : ∀ ty, (Instr.next (.pointer (some ⟨w.heap.size, 0, none⟩)) true ty).run Tryz.prog wr = .ok (.tuple #[.bool false]) wr := fun ty => run_next_stop wr w.heap.size (B s) pos ty HS.out.it (by rw [B_size]; exact hlt)
      go_wp2
      go_ret
      have he := HS.out.eq
      rw [hp, List.drop_length, cps_nil, hChars_nil, List.nil_append] at he
      rw [he]
      exact ⟨rfl, HS.out.st, HS.out.only⟩
end Go.Proofs.YtppkpcijmfdfmaaGreatDoor
