/- What a law's start gives; the walks of utf8.ValidString (by its contract), of zzFits2 and zzFits11. -/
import Derived.Test.YtppkpcijmfdfmaaGreatDoorD3
import Derived.Test.YtppkpcijmfdfmaaGreatDoorS1
import Derived.Test.YtppkpcijmfdfmaaGreatDoorC2
set_option linter.unusedVariables false
set_option linter.unusedSimpArgs false
namespace Go.Proofs.YtppkpcijmfdfmaaGreatDoor
open Go.RowKit
attribute [local go_sem] B_size B_get B_lit B_ext_to B_ext B_toList B_app

/-- The tables of unicode/utf8 lie where they should. -/
def TabV (w : World) : Prop := Lib.Utf8Tabs 0 1 w
theorem TabV.below {w w' : World} (h : TabV w) (hb : Below w.heap.size w w') : TabV w' := Utf8Tabs_below h hb
theorem valid_any (s : Bs) (w : World) (h : TabV w) (hl : s.length ≤ 9223372036854775807) :
    Calls Tryz.prog 23 #[.string (B s)] w fun e w' => e = .returned (.bool (Lib.validD s)) ∧ Below w.heap.size w w' :=
  Any.utf8_ValidString Tryz.laysValid (B s) w (by rw [B_size]; exact hl) h

set_option maxRecDepth 100000 in
set_option maxHeartbeats 2000000 in
theorem fits2_any {B0 : Nat} {v : Value} {l : List Bs} (w : World) (h : NSB w B0 v l) (hl : l.length ≤ 9223372036854775807) :
    Calls Tryz.prog 73 #[v] w fun e w' => (∃ b, e = .returned (.bool b)) ∧ w = w' := by
  obtain ⟨a, c, rfl⟩ := h.slice
  have HN := Lib.hid h
  clear h
  by_cases hbig : l.length > 2147483647
  · have hb : decide ((2147483647 : Int) < l.length) = true := by simp; omega
    go_enter Tryz.func73, Tryz.ntmps73
    go_wp2
    go_ret
    exact ⟨⟨_, rfl⟩, rfl⟩
  · have hb : decide ((2147483647 : Int) < l.length) = false := by simp; omega
    go_enter Tryz.func73, Tryz.ntmps73
    go_wp2
    go_loop [10] (fun i => ∃ k : Nat, k ≤ l.length ∧ i = .int .i64 k) (fun i => l.length - (intOf i).toNat)
    case atStart => exact ⟨0, by omega, rfl⟩
    case round =>
      obtain ⟨k, hk, rfl⟩ := hrel
      by_cases hlt : k < l.length
      · obtain ⟨b, off, hb0, hcell⟩ : ∃ b off, a = some ⟨b, off, none⟩ ∧ ∀ (i : Nat) s, l[i]? = some s → w.cell? ⟨b, off + i, none⟩ = some (.string (B s)) := by
          rcases HN.out with ⟨a, c, e, hnil⟩ | ⟨b, off, c, e, h1, h2⟩
          · rw [hnil] at hlt; simp at hlt
          · cases e; exact ⟨b, off, rfl, h2⟩
        subst hb0
        have p0 := hcell k l[k] (List.getElem?_eq_getElem hlt)
        generalize l[k] = s at p0
        clear hcell
        by_cases hs : s.length > 2147483647
        · have hs1 : decide ((2147483647 : Int) < s.length) = true := by simp; omega
          go_wp2
          go_ret
          first | exact ⟨⟨_, rfl⟩, rfl⟩ | exact ⟨Or.inl rfl, rfl⟩ | exact ⟨Or.inr rfl, rfl⟩
        · have hs1 : decide ((2147483647 : Int) < s.length) = false := by simp; omega
          go_wp2
          go_round
          case rel => exact ⟨k + 1, by omega, by go_num⟩
          case measure => simp [intOf]; omega
      · go_wp2
        go_ret
        first | exact ⟨⟨_, rfl⟩, rfl⟩ | exact ⟨Or.inl rfl, rfl⟩ | exact ⟨Or.inr rfl, rfl⟩

set_option maxRecDepth 100000 in
set_option maxHeartbeats 2000000 in
theorem fits11_any {d B0 : Nat} {t : HT} {nv kv : Value} {w : World} (hr : RepT w B0 d nv kv t) (hB : B0 ≤ w.heap.size) :
    Calls Tryz.prog 35 #[.agg (tcells t nv kv).toArray] w fun e w' => (∃ b, e = .returned (.bool b)) ∧ Below w.heap.size w w' := by
  cases d with
  | zero => exact hr.elim
  | succ d =>
    obtain ⟨⟨r1, r2, r3, r4⟩, hnames, hkids⟩ := hr
    obtain ⟨an, cn, rfl⟩ := hnames.slice
    obtain ⟨ak, ck, rfl⟩ := hkids.slice
    have hb1 : Below w.heap.size w (w.alloc (.cells (tcells t (.slice an t.names.length cn) (.slice ak t.kids.length ck)).toArray 45)) := (Below.refl _ _).alloc (Nat.le_refl _) _
    have HF := Lib.hid (fits2_any (w.alloc (.cells (tcells t (.slice an t.names.length cn) (.slice ak t.kids.length ck)).toArray 45)) (hnames.below (hb1.mono hB)) r3)
    have HB1 := Lib.hid hb1
    clear hb1 hnames hkids
    simp only [tcells] at HF HB1 ⊢
    by_cases ht : t.text.length > 2147483647
    · have ht1 : decide ((2147483647 : Int) < t.text.length) = true := by simp; omega
      go_enter Tryz.func35, Tryz.ntmps35
      go_wp2
      go_ret
      exact ⟨⟨_, rfl⟩, HB1.out⟩
    · have ht1 : decide ((2147483647 : Int) < t.text.length) = false := by simp; omega
      go_enter Tryz.func35, Tryz.ntmps35
      go_wp2_with (fail)
      refine HF.out.mono ?_
      rintro e w2 ⟨⟨b, rfl⟩, rfl⟩
      cases b
      · go_wp2
        go_ret
        exact ⟨⟨_, rfl⟩, HB1.out⟩
      · by_cases hk : t.kids.length > 2147483647
        · have hk1 : decide ((2147483647 : Int) < t.kids.length) = true := by simp; omega
          go_wp2
          go_ret
          exact ⟨⟨_, rfl⟩, HB1.out⟩
        · have hk1 : decide ((2147483647 : Int) < t.kids.length) = false := by simp; omega
          go_wp2
          go_ret
          exact ⟨⟨_, rfl⟩, HB1.out⟩
end Go.Proofs.YtppkpcijmfdfmaaGreatDoor

/- The walk of headSize: whether a tree is right, and how many nodes it has. -/
namespace Go.Proofs.YtppkpcijmfdfmaaGreatDoor
open Go.RowKit
attribute [local go_sem] B_size B_get B_lit B_ext_to B_ext B_toList B_app

theorem contains_any (b off c k : Nat) (l : List Bs) (s : Bs) (w : World) (hk : k ≤ l.length) (hl : l.length ≤ 9223372036854775807) (hc : ∀ (i : Nat) s, l[i]? = some s → w.cell? ⟨b, off + i, none⟩ = some (.string (B s))) :
    Calls Tryz.prog 55 #[.slice (some ⟨b, off, none⟩) k c, .string (B s)] w fun e w' => e = .returned (.bool (decide (s ∈ l.take k))) ∧ w = w' := by
  refine (Tryz.slices_Contains_string b off k c (l.map B) (B s) w (by simpa using hk) (by omega) (fun j hj => ?_)).mono ?_
  · have hj2 : j < l.length := by simpa using hj
    rw [hc j l[j] (List.getElem?_eq_getElem hj2)]
    simp [List.getD, hj2]
  · rintro e w' ⟨rfl, rfl⟩
    refine ⟨?_, rfl⟩
    have h : Lib.containsS ((l.map B).take k) (B s) = decide (s ∈ l.take k) := by
      rw [Bool.eq_iff_iff, Lib.containsS_iff, decide_eq_true_iff, ← List.map_take]
      simp only [List.mem_map]
      constructor
      · rintro ⟨x, hx, he⟩
        rw [B_inj] at he
        exact he ▸ hx
      · intro h; exact ⟨s, h, rfl⟩
    rw [h]

/-- What headSize says. -/
def SizeOk (d : Nat) (t : HT) (deep : Nat) (e : Ending) : Prop := ∃ (m : Nat) (ok : Bool), e = .returned (.tuple #[.int .i64 m, .bool ok]) ∧ (ok = false → m = 0) ∧ (ok = true → Sized 200 60 d t deep m ∧ t.texts.Nodup)
theorem SizeOk.no (d : Nat) (t : HT) (deep : Nat) : SizeOk d t deep (.returned (.tuple #[.int .i64 0, .bool false])) := ⟨0, false, rfl, fun _ => rfl, fun h => (by cases h)⟩
theorem SizeOk.yes {d : Nat} {t : HT} {deep m : Nat} (h : Sized 200 60 d t deep m) (hn : t.texts.Nodup) : SizeOk d t deep (.returned (.tuple #[.int .i64 m, .bool true])) := ⟨m, true, rfl, fun h => (by cases h), fun _ => ⟨h, hn⟩⟩
/-- Texts that have been looked at. -/
structure TextLoop (w : World) (l : List Bs) (k : Nat) (wr : World) : Prop where
  below : Below w.heap.size w wr
  ok : TextsOk (l.take k)
  nodup : (l.take k).Nodup
theorem TextLoop.start (w : World) (l : List Bs) : TextLoop w l 0 w := ⟨Below.refl _ _, fun s hs => (by cases hs), List.nodup_nil⟩
theorem TextLoop.step {w : World} {l : List Bs} {k : Nat} {wr w2 : World} (h : TextLoop w l k wr) {s : Bs} (hs : l[k]? = some s) (h1 : s.length ≤ 200) (h2 : Lib.validD s = true) (h3 : s ∉ l.take k) (hb : Below wr.heap.size wr w2) : TextLoop w l (k + 1) w2 := by
  have e : l.take (k + 1) = l.take k ++ [s] := by rw [List.take_add_one, hs]; rfl
  refine ⟨h.below.trans (hb.mono h.below.size), ?_, ?_⟩
  · rw [e]
    intro x hx
    rcases List.mem_append.1 hx with hx | hx
    · exact h.ok x hx
    · rw [List.mem_singleton.1 hx]; exact ⟨h1, h2⟩
  · rw [e, List.nodup_append]
    exact ⟨h.nodup, by simp, fun x hx y hy => by rw [List.mem_singleton.1 hy]; intro e; exact h3 (e ▸ hx)⟩
/-- Kids that have been counted. -/
structure KidLoop (d : Nat) (deep : Nat) (w : World) (l : List HT) (k m : Nat) (wr : World) : Prop where
  below : Below w.heap.size w wr
  le : k ≤ l.length
  sum : ∃ ms : List Nat, All2 (fun t n => Sized 200 60 d t (deep + 1) n) (l.take k) ms ∧ m = 1 + ms.sum
  few : m ≤ 200
theorem KidLoop.start (d deep : Nat) (w : World) (l : List HT) : KidLoop d deep w l 0 1 w := ⟨Below.refl _ _, Nat.zero_le _, ⟨[], trivial, rfl⟩, by decide⟩
theorem KidLoop.step {d deep : Nat} {w : World} {l : List HT} {k m : Nat} {wr w2 : World} (h : KidLoop d deep w l k m wr) {t : HT} {n : Nat} (ht : l[k]? = some t) (hs : Sized 200 60 d t (deep + 1) n) (hm : m + n ≤ 200) (hb : Below wr.heap.size wr w2) : KidLoop d deep w l (k + 1) (m + n) w2 := by
  have hlt := (List.getElem?_eq_some_iff.1 ht).1
  have e : l.take (k + 1) = l.take k ++ [t] := by rw [List.take_add_one, ht]; rfl
  obtain ⟨ms, h1, h2⟩ := h.sum
  refine ⟨h.below.trans (hb.mono h.below.size), by omega, ⟨ms ++ [n], ?_, ?_⟩, hm⟩
  · rw [e]
    exact h1.append (All2.one hs)
  · rw [List.sum_append]
    simp
    omega

set_option maxRecDepth 100000 in
set_option maxHeartbeats 8000000 in
theorem size_step {d : Nat} (ih : ∀ {t : HT} {nv kv : Value} {deep B0 : Nat} {w : World}, RepT w B0 d nv kv t → TabV w → B0 ≤ w.heap.size → deep ≤ 61 →
      Calls Tryz.prog 78 #[.agg (tcells t nv kv).toArray, .int .i64 deep, .int .i64 200] w fun e w' => SizeOk d t deep e ∧ Below w.heap.size w w')
    {t : HT} {nv kv : Value} {deep B0 : Nat} {w : World} (hr : RepT w B0 (d + 1) nv kv t) (hT : TabV w) (hB : B0 ≤ w.heap.size) (hdeep : deep ≤ 61) :
    Calls Tryz.prog 78 #[.agg (tcells t nv kv).toArray, .int .i64 deep, .int .i64 200] w fun e w' => SizeOk (d + 1) t deep e ∧ Below w.heap.size w w' := by
  obtain ⟨⟨r1, r2, r3, r4⟩, hnames, hkids⟩ := hr
  obtain ⟨an, cn, rfl⟩ := hnames.slice
  obtain ⟨ak, ck, rfl⟩ := hkids.slice
  obtain ⟨w1, hw1⟩ : ∃ w1, w1 = w.alloc (.cells (tcells t (.slice an t.names.length cn) (.slice ak t.kids.length ck)).toArray 45) := ⟨_, rfl⟩
  have hb1 : Below w.heap.size w w1 := by rw [hw1]; exact (Below.refl _ _).alloc (Nat.le_refl _) _
  have hlt1 : w.heap.size < w1.heap.size := by rw [hw1]; simp
  have BOX : Hid (∀ {wz : World}, Below w1.heap.size w1 wz → ∀ (j : Nat) v, (tcells t (.slice an t.names.length cn) (.slice ak t.kids.length ck))[j]? = some v → wz.cell? ⟨w.heap.size, j, none⟩ = some v) := by
    intro wz hb j v hv
    refine (hb.cell (p := ⟨w.heap.size, j, none⟩) hlt1).trans ?_
    rw [hw1, cell_box]
    exact hv
  have HB1 := Lib.hid hb1
  have HN := Lib.hid (hnames.below (hb1.mono hB))
  have HK := Lib.hid hkids
  have HT1 := Lib.hid (hT.below hb1)
  have HIH : Hid (∀ {t : HT} {nv kv : Value} {w : World}, RepT w B0 d nv kv t → TabV w → B0 ≤ w.heap.size → deep ≤ 60 →
      Calls Tryz.prog 78 #[.agg (tcells t nv kv).toArray, .int .i64 ((deep : Int) + 1), .int .i64 200] w fun e w' => SizeOk d t (deep + 1) e ∧ Below w.heap.size w w') := fun a b c e => ih (deep := deep + 1) a b c (by omega)
  clear hT hnames hkids hb1 ih
  simp only [tcells] at hw1 BOX ⊢
  have HW1 := Lib.hid hw1
  clear hw1
  by_cases c1 : 5 < t.kind
  · have f1 : decide ((5 : Int) < t.kind) = true := by simp; omega
    go_enter Tryz.func78, Tryz.ntmps78
    go_wp2
    go_ret2
    exact ⟨SizeOk.no _ _ _, by rw [← HW1.out]; exact HB1.out⟩
  have f1 : decide ((5 : Int) < t.kind) = false := by simp; omega
  by_cases c2 : 60 < deep
  · have f2 : decide ((60 : Int) < deep) = true := by simp; omega
    go_enter Tryz.func78, Tryz.ntmps78
    go_wp2
    go_ret2
    exact ⟨SizeOk.no _ _ _, by rw [← HW1.out]; exact HB1.out⟩
  have f2 : decide ((60 : Int) < deep) = false := by simp; omega
  by_cases c3 : 200 < t.kids.length
  · have f3 : decide ((200 : Int) < t.kids.length) = true := by simp; omega
    go_enter Tryz.func78, Tryz.ntmps78
    go_wp2
    go_ret2
    exact ⟨SizeOk.no _ _ _, by rw [← HW1.out]; exact HB1.out⟩
  have f3 : decide ((200 : Int) < t.kids.length) = false := by simp; omega
  obtain hk | hk | hk | hk : t.kind = 3 ∨ t.kind < 3 ∨ t.kind = 4 ∨ t.kind = 5 := by omega
  · have HK3 := Lib.hid hk
    have f4 : ((t.kind : Int) == 5) = false := by rw [beq_eq_false_iff_ne]; omega
    have f6 : ((t.kind : Int) == 3) = true := by rw [beq_iff_eq]; omega
    have f7 : ((t.kind : Int) != 3) = false := by simp; omega
    have f8 : decide ((t.kind : Int) < 4) = true := by simp; omega
    have HTX : Hid (t.texts = [t.text]) := by show t.texts = [t.text]; unfold HT.texts; rw [if_pos hk]
    have HSZ : Hid (TextsOk t.texts → Sized 200 60 (d + 1) t deep 1) := fun h => ⟨by omega, ⟨by omega, r2⟩, by omega, fun h5 => by omega, h, Or.inl ⟨by omega, rfl⟩⟩
    obtain ⟨w2, hw2⟩ : ∃ w2, w2 = w1.alloc (.cells [Value.string (B t.text)].toArray 9) := ⟨_, rfl⟩
    have hb2 : Below w1.heap.size w1 w2 := by rw [hw2]; exact (Below.refl _ _).alloc (Nat.le_refl _) _
    have hs1 : w1.heap.size = w.heap.size + 1 := by rw [HW1.out]; simp
    have hc2 : w2.cell? ⟨w.heap.size + 1, 0, none⟩ = some (.string (B t.text)) := by rw [hw2, ← hs1, cell_box]; rfl
    have hlt2 : w.heap.size + 1 < w2.heap.size := by rw [hw2]; simp; omega
    have HC2 := Lib.hid hc2
    have HB2 := Lib.hid hb2
    have HT2 := Lib.hid (HT1.out.below hb2)
    have HBW2 : Hid (Below w.heap.size w w2) := HB1.out.trans (hb2.mono (by omega))
    rw [HW1.out] at hw2
    have HW2 := Lib.hid hw2
    clear hk c1 hw2 hb2 hc2 hs1
    go_enter Tryz.func78, Tryz.ntmps78
    go_wp2
    rw [← HW2.out]
    go_loopw [62] (fun i wr => ∃ k : Nat, k ≤ 1 ∧ Hid (TextLoop w2 [t.text] k wr) ∧ i = .int .i64 k) (fun i _ => 1 - (intOf i).toNat)
    case atStart => exact ⟨0, by omega, TextLoop.start _ _, rfl⟩
    case round =>
      obtain ⟨k, hk, HL, rfl⟩ := hrel
      have HBW := Lib.hid (HBW2.out.trans (HL.out.below.mono (by omega)))
      obtain rfl | rfl : k = 0 ∨ k = 1 := by omega
      · have p0 : wr.cell? ⟨w.heap.size + 1, 0, none⟩ = some (.string (B t.text)) := (HL.out.below.cell (p := ⟨w.heap.size + 1, 0, none⟩) hlt2).trans HC2.out
        have P0 := Lib.hid p0
        have hltw : w.heap.size + 1 < wr.heap.size := Nat.lt_of_lt_of_le hlt2 HL.out.below.size
        have HTR := Lib.hid (HT2.out.below HL.out.below)
        by_cases hsl : 200 < t.text.length
        · have f5 : decide ((200 : Int) < t.text.length) = true := by simp; omega
          go_wp2
          go_ret2
          exact ⟨SizeOk.no _ _ _, HBW.out⟩
        · have f5 : decide ((200 : Int) < t.text.length) = false := by simp; omega
          have HV := Lib.hid (valid_any t.text wr HTR.out (by omega))
          obtain ⟨vv, hvv⟩ : ∃ vv, Lib.validD t.text = vv := ⟨_, rfl⟩
          have HVV := Lib.hid hvv
          rw [hvv] at HV
          clear hvv
          cases vv
          · go_wp2_with (go_at_call 23; refine HV.out.mono ?_; rintro e2 w3 ⟨rfl, hb3⟩; have H3 := Lib.hid hb3; clear hb3)
            go_ret2
            exact ⟨SizeOk.no _ _ _, HBW.out.trans (H3.out.mono HBW.out.size)⟩
          · have HC : Hid (∀ {w3 : World}, Below wr.heap.size wr w3 → ∀ cc : Nat, Calls Tryz.prog 55 #[.slice (some ⟨w.heap.size + 1, 0, none⟩) 0 cc, .string (B t.text)] w3 fun e w' => e = .returned (.bool false) ∧ w3 = w') :=
              fun {w3} hb cc => contains_any (w.heap.size + 1) 0 cc 0 [t.text] t.text w3 (by simp) (by simp) fun i s' hi => by
                match i, hi with
                | 0, hi =>
                  cases hi
                  exact (hb.cell (p := ⟨w.heap.size + 1, 0, none⟩) hltw).trans P0.out
            go_wp2_with (first
              | (go_at_call 23; refine HV.out.mono ?_; rintro e2 w3 ⟨rfl, hb3⟩; have H3 := Lib.hid hb3; clear hb3)
              | (go_at_call 55; refine (HC.out H3.out _).mono ?_; rintro e2 w4 ⟨rfl, rfl⟩))
            go_roundw
            case rel => exact ⟨1, by omega, HL.out.step (s := t.text) rfl (by omega) HVV.out (by simp) H3.out, rfl⟩
            case measure => simp [intOf]
      · have q0 := BOX.out (HB2.out.trans (HL.out.below.mono HB2.out.size)) 0 _ rfl
        go_wp2
        go_ret2
        have ho := HL.out.ok
        have hn := HL.out.nodup
        refine ⟨?_, HBW.out⟩
        rw [List.take_of_length_le (by simp), ← HTX.out] at ho hn
        exact SizeOk.yes (HSZ.out ho) hn
  · have HTX : Hid (t.texts = []) := by show t.texts = []; unfold HT.texts; rw [if_neg (by omega), if_neg (by omega)]
    have HSZ : Hid (Sized 200 60 (d + 1) t deep 1) := ⟨by omega, ⟨by omega, r2⟩, by omega, fun h5 => by omega, by rw [HTX.out]; exact fun s hs => (by cases hs), Or.inl ⟨by omega, rfl⟩⟩
    have f4 : ((t.kind : Int) == 5) = false := by rw [beq_eq_false_iff_ne]; omega
    have f6 : ((t.kind : Int) == 3) = false := by rw [beq_eq_false_iff_ne]; omega
    have f7 : ((t.kind : Int) != 3) = true := by simp; omega
    have f9 : ((t.kind : Int) != 5) = true := by simp; omega
    have f8 : decide ((t.kind : Int) < 4) = true := by simp; omega
    clear hk c1
    go_enter Tryz.func78, Tryz.ntmps78
    go_wp2
    rw [← HW1.out]
    go_loopw [62] (fun i wr => wr = w1 ∧ i = .int .i64 0) (fun i _ => 1 - (intOf i).toNat)
    case atStart => exact ⟨rfl, rfl⟩
    case round =>
      obtain ⟨rfl, rfl⟩ := hrel
      have q0 := BOX.out (Below.refl _ _) 0 _ rfl
      go_wp2
      go_ret2
      exact ⟨SizeOk.yes HSZ.out (by rw [HTX.out]; exact List.nodup_nil), HB1.out⟩
  · have HTX : Hid (t.texts = []) := by show t.texts = []; unfold HT.texts; rw [if_neg (by omega), if_neg (by omega)]
    have HSZ : Hid (∀ {n : Nat}, (t.kind < 4 ∧ n = 1) ∨ (4 ≤ t.kind ∧ n ≤ 200 ∧ ∃ ms : List Nat, All2 (fun k m => Sized 200 60 d k (deep + 1) m) t.kids ms ∧ n = 1 + ms.sum) → Sized 200 60 (d + 1) t deep n ∧ t.texts.Nodup) :=
      fun h => ⟨⟨by omega, ⟨by omega, r2⟩, by omega, fun h5 => by omega, by rw [HTX.out]; exact fun s hs => (by cases hs), h⟩, by rw [HTX.out]; exact List.nodup_nil⟩
    have f4 : ((t.kind : Int) == 5) = false := by rw [beq_eq_false_iff_ne]; omega
    have f6 : ((t.kind : Int) == 3) = false := by rw [beq_eq_false_iff_ne]; omega
    have f7 : ((t.kind : Int) != 3) = true := by simp; omega
    have f9 : ((t.kind : Int) != 5) = true := by simp; omega
    have f8 : decide ((t.kind : Int) < 4) = false := by simp; omega
    have hk4 : 4 ≤ t.kind := by omega
    clear hk c1
    go_enter Tryz.func78, Tryz.ntmps78
    go_wp2
    rw [← HW1.out]
    go_loopw [62] (fun i wr => wr = w1 ∧ i = .int .i64 0) (fun i _ => 1 - (intOf i).toNat)
    case atStart => exact ⟨rfl, rfl⟩
    case round =>
      obtain ⟨rfl, rfl⟩ := hrel
      have q6 := BOX.out (Below.refl _ _) 6 _ rfl
      have q0 := BOX.out (Below.refl _ _) 0 _ rfl
      go_wp2
      clear q6 q0
      go_loopw [11, 90] (fun nn i wz => ∃ (k m : Nat), Hid (KidLoop d deep wr t.kids k m wz) ∧ nn = .int .i64 m ∧ i = .int .i64 k) (fun _ i _ => t.kids.length - (intOf i).toNat)
      case atStart => exact ⟨0, 1, KidLoop.start _ _ _ _, rfl, rfl⟩
      case round =>
        obtain ⟨k, m, HL2, rfl, rfl⟩ := hrel
        have hm200 := HL2.out.few
        have HBW := Lib.hid (HB1.out.trans (HL2.out.below.mono HB1.out.size))
        by_cases hlt2 : k < t.kids.length
        · obtain ⟨b2, off2, hbo2, hbB2, hcell2⟩ : ∃ b off, ak = some ⟨b, off, none⟩ ∧ b < B0 ∧ ∀ (i : Nat) k, t.kids[i]? = some k → ∃ nv kv, RepT w B0 d nv kv k ∧ ∀ (j : Nat) u, (tcells k nv kv)[j]? = some u → w.cell? ⟨b, off + i * 7 + j, none⟩ = some u := by
            rcases HK.out with ⟨a, c, e, hnil⟩ | ⟨b, off, c, e, h1, h2⟩
            · rw [hnil] at hlt2; simp at hlt2
            · cases e; exact ⟨b, off, rfl, h1, h2⟩
          subst hbo2
          obtain ⟨kd, hkid⟩ : ∃ kd, t.kids[k]? = some kd := ⟨_, List.getElem?_eq_getElem hlt2⟩
          obtain ⟨nv', kv', hrep, hcl2⟩ := hcell2 k kd hkid
          have pc : ∀ (j : Nat) u, (tcells kd nv' kv')[j]? = some u → wr.cell? ⟨b2, off2 + k * 7 + j, none⟩ = some u := fun j u hj => (HBW.out.cell (p := ⟨b2, off2 + k * 7 + j, none⟩) (by show b2 < w.heap.size; omega)).trans (hcl2 j u hj)
          have p0 := pc 0 _ rfl
          have p1 := pc 1 _ rfl
          have p2 := pc 2 _ rfl
          have p3 := pc 3 _ rfl
          have p4 := pc 4 _ rfl
          have p5 := pc 5 _ rfl
          have p6 := pc 6 _ rfl
          rw [Nat.add_zero] at p0
          obtain ⟨⟨an', cn', rfl⟩, ak', ck', rfl⟩ := hrep.slices
          obtain ⟨WA, hWA⟩ : ∃ WA, WA = wr.alloc (.cells (tcells kd (.slice an' kd.names.length cn') (.slice ak' kd.kids.length ck')).toArray 45) := ⟨_, rfl⟩
          have hba : Below wr.heap.size wr WA := by rw [hWA]; exact (Below.refl _ _).alloc (Nat.le_refl _) _
          have HBA := Lib.hid hba
          have hBW2 : Below B0 w WA := (HBW.out.mono hB).trans (hba.mono (Nat.le_trans hB HBW.out.size))
          have HCALL := Lib.hid (HIH.out (hrep.below hBW2) ((HT1.out.below HL2.out.below).below hba) (Nat.le_trans hB hBW2.size) (by omega))
          have HKID := Lib.hid hkid
          clear hrep hkid hcell2 hcl2 pc hba hBW2
          simp only [tcells] at hWA HCALL
          subst hWA
          go_wp2_with (fail)
          refine HCALL.out.mono ?_
          rintro e2 w4 ⟨⟨mk, ok, rfl, hno, hyes⟩, hb4⟩
          have H4 := Lib.hid hb4
          have HNO := Lib.hid hno
          have HYES := Lib.hid hyes
          clear hb4 hno hyes
          cases ok
          · obtain rfl := HNO.out rfl
            go_wp2
            go_ret2
            exact ⟨SizeOk.no _ _ _, (HBW.out.trans (HBA.out.mono HBW.out.size)).trans (H4.out.mono (Nat.le_trans HBW.out.size HBA.out.size))⟩
          · have HSK := Lib.hid (HYES.out rfl).1
            have hmk := sized_le HSK.out (by decide)
            by_cases hsum : 200 < m + mk
            · have f7 : decide ((200 : Int) < (m : Int) + mk) = true := by simp; omega
              go_wp2
              go_ret2
              exact ⟨SizeOk.no _ _ _, (HBW.out.trans (HBA.out.mono HBW.out.size)).trans (H4.out.mono (Nat.le_trans HBW.out.size HBA.out.size))⟩
            · have f7 : decide ((200 : Int) < (m : Int) + mk) = false := by simp; omega
              go_wp2
              go_roundw
              case rel => exact ⟨k + 1, m + mk, HL2.out.step HKID.out HSK.out (by omega) (HBA.out.trans (H4.out.mono HBA.out.size)), by go_num, by go_num⟩
              case measure => simp [intOf]; omega
        · have hke : k = t.kids.length := by have := HL2.out.le; omega
          have HKE := Lib.hid hke
          clear hke
          go_wp2
          go_ret2
          refine ⟨?_, HBW.out⟩
          obtain ⟨ms, hms, hmm⟩ := HL2.out.sum
          rw [HKE.out, List.take_length] at hms
          exact SizeOk.yes (HSZ.out (Or.inr ⟨by omega, HL2.out.few, ms, hms, hmm⟩)).1 (HSZ.out (Or.inr ⟨by omega, HL2.out.few, ms, hms, hmm⟩)).2
  · have HTX : Hid (t.texts = t.names) := texts_five hk
    by_cases c4 : t.names.length = t.kids.length
    · have HSZ : Hid (TextsOk t.names → t.names.Nodup → ∀ {n : Nat}, (t.kind < 4 ∧ n = 1) ∨ (4 ≤ t.kind ∧ n ≤ 200 ∧ ∃ ms : List Nat, All2 (fun k m => Sized 200 60 d k (deep + 1) m) t.kids ms ∧ n = 1 + ms.sum) → Sized 200 60 (d + 1) t deep n ∧ t.texts.Nodup) :=
        fun h1 h2 {n} h => ⟨⟨by omega, ⟨by omega, r2⟩, by omega, fun h5 => c4, by rw [HTX.out]; exact h1, h⟩, by rw [HTX.out]; exact h2⟩
      have f4 : ((t.kind : Int) == 5) = true := by rw [beq_iff_eq]; omega
      have f10 : ((t.names.length : Int) != t.kids.length) = false := by simp; omega
      have f6 : ((t.kind : Int) == 3) = false := by rw [beq_eq_false_iff_ne]; omega
      have f7 : ((t.kind : Int) != 3) = true := by simp; omega
      have f9 : ((t.kind : Int) != 5) = false := by simp; omega
      have f8 : decide ((t.kind : Int) < 4) = false := by simp; omega
      have hk4 : 4 ≤ t.kind := by omega
      clear hk c1 c4
      go_enter Tryz.func78, Tryz.ntmps78
      go_wp2
      rw [← HW1.out]
      go_loopw [62] (fun i wr => ∃ k : Nat, k ≤ t.names.length ∧ Hid (TextLoop w1 t.names k wr) ∧ i = .int .i64 k) (fun i _ => t.names.length - (intOf i).toNat)
      case atStart => exact ⟨0, by omega, TextLoop.start _ _, rfl⟩
      case round =>
        obtain ⟨k, hk, HL, rfl⟩ := hrel
        by_cases hlt : k < t.names.length
        · obtain ⟨b, off, hbo, hbB, hcell⟩ : ∃ b off, an = some ⟨b, off, none⟩ ∧ (b < B0 ∧ t.names.length ≤ cn) ∧ ∀ (i : Nat) s, t.names[i]? = some s → w1.cell? ⟨b, off + i, none⟩ = some (.string (B s)) := by
            rcases HN.out with ⟨a, c, e, hnil⟩ | ⟨b, off, c, e, h1, h2⟩
            · rw [hnil] at hlt; simp at hlt
            · cases e; exact ⟨b, off, rfl, h1, h2⟩
          subst hbo
          have hkc : k ≤ cn := by omega
          obtain ⟨s, hs⟩ : ∃ s, t.names[k]? = some s := ⟨_, List.getElem?_eq_getElem hlt⟩
          have hcl : ∀ (i : Nat) s, t.names[i]? = some s → wr.cell? ⟨b, off + i, none⟩ = some (.string (B s)) := fun i s hi => (HL.out.below.cell (p := ⟨b, off + i, none⟩) (by show b < w1.heap.size; omega)).trans (hcell i s hi)
          have p0 := hcl k s hs
          have HTR := Lib.hid (HT1.out.below HL.out.below)
          have HS := Lib.hid hs
          have HCL := Lib.hid hcl
          clear hcell hcl hs
          by_cases hsl : 200 < s.length
          · have f5 : decide ((200 : Int) < s.length) = true := by simp; omega
            go_wp2
            go_ret2
            exact ⟨SizeOk.no _ _ _, HB1.out.trans (HL.out.below.mono HB1.out.size)⟩
          · have f5 : decide ((200 : Int) < s.length) = false := by simp; omega
            have HV := Lib.hid (valid_any s wr HTR.out (by omega))
            obtain ⟨vv, hvv⟩ : ∃ vv, Lib.validD s = vv := ⟨_, rfl⟩
            have HVV := Lib.hid hvv
            rw [hvv] at HV
            clear hvv
            cases vv
            · go_wp2_with (go_at_call 23; refine HV.out.mono ?_; rintro e2 w2 ⟨rfl, hb2⟩; have H2 := Lib.hid hb2; clear hb2)
              go_ret2
              exact ⟨SizeOk.no _ _ _, (HB1.out.trans (HL.out.below.mono HB1.out.size)).trans (H2.out.mono (Nat.le_trans HB1.out.size HL.out.below.size))⟩
            · have HC : Hid (∀ {w2 : World}, Below wr.heap.size wr w2 → ∀ cc : Nat, Calls Tryz.prog 55 #[.slice (some ⟨b, off, none⟩) k cc, .string (B s)] w2 fun e w' => e = .returned (.bool (decide (s ∈ t.names.take k))) ∧ w2 = w') :=
                fun {w2} hb cc => contains_any b off cc k _ s w2 hk r3 fun i s' hi => (hb.cell (p := ⟨b, off + i, none⟩) (by show b < wr.heap.size; have := HL.out.below.size; omega)).trans (HCL.out i s' hi)
              obtain ⟨cb, hcb⟩ : ∃ cb, decide (s ∈ t.names.take k) = cb := ⟨_, rfl⟩
              rw [hcb] at HC
              have HCB := Lib.hid hcb
              clear hcb
              cases cb
              · go_wp2_with (first
                  | (go_at_call 23; refine HV.out.mono ?_; rintro e2 w2 ⟨rfl, hb2⟩; have H2 := Lib.hid hb2; clear hb2)
                  | (go_at_call 55; refine (HC.out H2.out _).mono ?_; rintro e2 w3 ⟨rfl, rfl⟩))
                go_roundw
                case rel => exact ⟨k + 1, by omega, HL.out.step HS.out (by omega) HVV.out (by simpa using HCB.out) H2.out, by go_num⟩
                case measure => simp [intOf]; omega
              · go_wp2_with (first
                  | (go_at_call 23; refine HV.out.mono ?_; rintro e2 w2 ⟨rfl, hb2⟩; have H2 := Lib.hid hb2; clear hb2)
                  | (go_at_call 55; refine (HC.out H2.out _).mono ?_; rintro e2 w3 ⟨rfl, rfl⟩))
                go_ret2
                exact ⟨SizeOk.no _ _ _, (HB1.out.trans (HL.out.below.mono HB1.out.size)).trans (H2.out.mono (Nat.le_trans HB1.out.size HL.out.below.size))⟩
        · have hkn : k = t.names.length := by omega
          subst hkn
          have HOK := HL.out.ok
          have HND := HL.out.nodup
          rw [List.take_length] at HOK HND
          have HSZ2 : Hid (∀ {n : Nat}, (t.kind < 4 ∧ n = 1) ∨ (4 ≤ t.kind ∧ n ≤ 200 ∧ ∃ ms : List Nat, All2 (fun k m => Sized 200 60 d k (deep + 1) m) t.kids ms ∧ n = 1 + ms.sum) → Sized 200 60 (d + 1) t deep n ∧ t.texts.Nodup) := fun {n} h => HSZ.out HOK HND h
          have HBWR := Lib.hid (HB1.out.trans (HL.out.below.mono HB1.out.size))
          have HTR := Lib.hid (HT1.out.below HL.out.below)
          have HLB := Lib.hid HL.out.below
          clear HOK HND HSZ
          have q6 := BOX.out HLB.out 6 _ rfl
          have q0 := BOX.out HLB.out 0 _ rfl
          go_wp2
          clear q6 q0
          go_loopw [11, 90] (fun nn i wz => ∃ (k m : Nat), Hid (KidLoop d deep wr t.kids k m wz) ∧ nn = .int .i64 m ∧ i = .int .i64 k) (fun _ i _ => t.kids.length - (intOf i).toNat)
          case atStart => exact ⟨0, 1, KidLoop.start _ _ _ _, rfl, rfl⟩
          case round =>
            obtain ⟨k, m, HL2, rfl, rfl⟩ := hrel
            have hm200 := HL2.out.few
            have HBW := Lib.hid (HBWR.out.trans (HL2.out.below.mono HBWR.out.size))
            by_cases hlt2 : k < t.kids.length
            · obtain ⟨b2, off2, hbo2, hbB2, hcell2⟩ : ∃ b off, ak = some ⟨b, off, none⟩ ∧ b < B0 ∧ ∀ (i : Nat) k, t.kids[i]? = some k → ∃ nv kv, RepT w B0 d nv kv k ∧ ∀ (j : Nat) u, (tcells k nv kv)[j]? = some u → w.cell? ⟨b, off + i * 7 + j, none⟩ = some u := by
                rcases HK.out with ⟨a, c, e, hnil⟩ | ⟨b, off, c, e, h1, h2⟩
                · rw [hnil] at hlt2; simp at hlt2
                · cases e; exact ⟨b, off, rfl, h1, h2⟩
              subst hbo2
              obtain ⟨kd, hkid⟩ : ∃ kd, t.kids[k]? = some kd := ⟨_, List.getElem?_eq_getElem hlt2⟩
              obtain ⟨nv', kv', hrep, hcl2⟩ := hcell2 k kd hkid
              have pc : ∀ (j : Nat) u, (tcells kd nv' kv')[j]? = some u → wr.cell? ⟨b2, off2 + k * 7 + j, none⟩ = some u := fun j u hj => (HBW.out.cell (p := ⟨b2, off2 + k * 7 + j, none⟩) (by show b2 < w.heap.size; omega)).trans (hcl2 j u hj)
              have p0 := pc 0 _ rfl
              have p1 := pc 1 _ rfl
              have p2 := pc 2 _ rfl
              have p3 := pc 3 _ rfl
              have p4 := pc 4 _ rfl
              have p5 := pc 5 _ rfl
              have p6 := pc 6 _ rfl
              rw [Nat.add_zero] at p0
              obtain ⟨⟨an', cn', rfl⟩, ak', ck', rfl⟩ := hrep.slices
              obtain ⟨WA, hWA⟩ : ∃ WA, WA = wr.alloc (.cells (tcells kd (.slice an' kd.names.length cn') (.slice ak' kd.kids.length ck')).toArray 45) := ⟨_, rfl⟩
              have hba : Below wr.heap.size wr WA := by rw [hWA]; exact (Below.refl _ _).alloc (Nat.le_refl _) _
              have HBA := Lib.hid hba
              have hBW2 : Below B0 w WA := (HBW.out.mono hB).trans (hba.mono (Nat.le_trans hB HBW.out.size))
              have HCALL := Lib.hid (HIH.out (hrep.below hBW2) ((HTR.out.below HL2.out.below).below hba) (Nat.le_trans hB hBW2.size) (by omega))
              have HKID := Lib.hid hkid
              clear hrep hkid hcell2 hcl2 pc hba hBW2
              simp only [tcells] at hWA HCALL
              subst hWA
              go_wp2_with (fail)
              refine HCALL.out.mono ?_
              rintro e2 w4 ⟨⟨mk, ok, rfl, hno, hyes⟩, hb4⟩
              have H4 := Lib.hid hb4
              have HNO := Lib.hid hno
              have HYES := Lib.hid hyes
              clear hb4 hno hyes
              cases ok
              · obtain rfl := HNO.out rfl
                go_wp2
                go_ret2
                exact ⟨SizeOk.no _ _ _, (HBW.out.trans (HBA.out.mono HBW.out.size)).trans (H4.out.mono (Nat.le_trans HBW.out.size HBA.out.size))⟩
              · have HSK := Lib.hid (HYES.out rfl).1
                have hmk := sized_le HSK.out (by decide)
                by_cases hsum : 200 < m + mk
                · have f7 : decide ((200 : Int) < (m : Int) + mk) = true := by simp; omega
                  go_wp2
                  go_ret2
                  exact ⟨SizeOk.no _ _ _, (HBW.out.trans (HBA.out.mono HBW.out.size)).trans (H4.out.mono (Nat.le_trans HBW.out.size HBA.out.size))⟩
                · have f7 : decide ((200 : Int) < (m : Int) + mk) = false := by simp; omega
                  go_wp2
                  go_roundw
                  case rel => exact ⟨k + 1, m + mk, HL2.out.step HKID.out HSK.out (by omega) (HBA.out.trans (H4.out.mono HBA.out.size)), by go_num, by go_num⟩
                  case measure => simp [intOf]; omega
            · have hke : k = t.kids.length := by have := HL2.out.le; omega
              have HKE := Lib.hid hke
              clear hke
              go_wp2
              go_ret2
              refine ⟨?_, HBW.out⟩
              obtain ⟨ms, hms, hmm⟩ := HL2.out.sum
              rw [HKE.out, List.take_length] at hms
              exact SizeOk.yes (HSZ2.out (Or.inr ⟨by omega, HL2.out.few, ms, hms, hmm⟩)).1 (HSZ2.out (Or.inr ⟨by omega, HL2.out.few, ms, hms, hmm⟩)).2
    · have f4 : ((t.kind : Int) == 5) = true := by rw [beq_iff_eq]; omega
      have f10 : ((t.names.length : Int) != t.kids.length) = true := by simp; omega
      clear hk c1
      go_enter Tryz.func78, Tryz.ntmps78
      go_wp2
      go_ret2
      exact ⟨SizeOk.no _ _ _, by rw [← HW1.out]; exact HB1.out⟩
theorem size_any : ∀ (d : Nat) {t : HT} {nv kv : Value} {deep B0 : Nat} {w : World}, RepT w B0 d nv kv t → TabV w → B0 ≤ w.heap.size → deep ≤ 61 →
      Calls Tryz.prog 78 #[.agg (tcells t nv kv).toArray, .int .i64 deep, .int .i64 200] w fun e w' => SizeOk d t deep e ∧ Below w.heap.size w w'
  | 0, _, _, _, _, _, _, h, _, _, _ => h.elim
  | d + 1, _, _, _, _, _, _, hr, hT, hB, hd => size_step (fun a b c e => size_any d a b c e) hr hT hB hd
end Go.Proofs.YtppkpcijmfdfmaaGreatDoor

/- The walks of HeadRight and headObject. -/
namespace Go.Proofs.YtppkpcijmfdfmaaGreatDoor
open Go.RowKit
attribute [local go_sem] B_size B_get B_lit B_ext_to B_ext B_toList B_app

/-- A right tree. -/
def Right (d : Nat) (t : HT) : Prop := ∃ n, Sized 200 60 d t 1 n ∧ t.texts.Nodup
set_option maxRecDepth 100000 in
set_option maxHeartbeats 4000000 in
theorem right_any {d : Nat} {t : HT} {nv kv : Value} {B0 : Nat} {w : World} (hr : RepT w B0 d nv kv t) (hT : TabV w) (hB : B0 ≤ w.heap.size) :
    Calls Tryz.prog 41 #[.agg (tcells t nv kv).toArray] w fun e w' => ∃ ok, e = .returned (.bool ok) ∧ (ok = true → Right d t) ∧ Below w.heap.size w w' := by
  obtain ⟨⟨an, cn, rfl⟩, ak, ck, rfl⟩ := hr.slices
  obtain ⟨w1, hw1⟩ : ∃ w1, w1 = w.alloc (.cells (tcells t (.slice an t.names.length cn) (.slice ak t.kids.length ck)).toArray 45) := ⟨_, rfl⟩
  have hb1 : Below w.heap.size w w1 := by rw [hw1]; exact (Below.refl _ _).alloc (Nat.le_refl _) _
  have HS : Hid (Calls Tryz.prog 78 #[.agg (tcells t (.slice an t.names.length cn) (.slice ak t.kids.length ck)).toArray, .int .i64 1, .int .i64 200] w1 fun e w' => SizeOk d t 1 e ∧ Below w1.heap.size w1 w') :=
    size_any d (deep := 1) (hr.below (hb1.mono hB)) (hT.below hb1) (Nat.le_trans hB hb1.size) (by decide)
  have HB1 := Lib.hid hb1
  clear hr hT hb1
  simp only [tcells] at hw1 HS ⊢
  subst hw1
  go_enter Tryz.func41, Tryz.ntmps41
  go_wp2_with (fail)
  refine HS.out.mono ?_
  rintro e w2 ⟨⟨m, ok, rfl, hno, hyes⟩, hb2⟩
  have H2 := Lib.hid hb2
  have HY := Lib.hid hyes
  clear hno hyes hb2
  go_wp2
  go_ret
  exact ⟨ok, rfl, fun h => ⟨m, HY.out h⟩, HB1.out.trans (H2.out.mono HB1.out.size)⟩

set_option maxRecDepth 100000 in
set_option maxHeartbeats 4000000 in
theorem object_any {d : Nat} {t : HT} {nv kv : Value} {B0 : Nat} {v : Value} {l : List Bs} {w : World} (hr : RepT w B0 d nv kv t) (hT : TabV w) (hB : B0 ≤ w.heap.size) (hv : NSB w w.heap.size v l) (hl : l.length ≤ 9223372036854775807) :
    Calls Tryz.prog 36 #[.agg (tcells t nv kv).toArray, v] w fun e w' => ∃ ok, e = .returned (.bool ok) ∧ (ok = true → t.kind = 5 ∧ Right d t ∧ TextsOk l) ∧ Below w.heap.size w w' := by
  obtain ⟨⟨an, cn, rfl⟩, ak, ck, rfl⟩ := hr.slices
  obtain ⟨av, cv, rfl⟩ := hv.slice
  obtain ⟨w1, hw1⟩ : ∃ w1, w1 = w.alloc (.cells (tcells t (.slice an t.names.length cn) (.slice ak t.kids.length ck)).toArray 45) := ⟨_, rfl⟩
  have hb1 : Below w.heap.size w w1 := by rw [hw1]; exact (Below.refl _ _).alloc (Nat.le_refl _) _
  have hlt1 : w.heap.size < w1.heap.size := by rw [hw1]; simp
  have BOX : Hid (∀ {wz : World}, Below w1.heap.size w1 wz → ∀ (j : Nat) u, (tcells t (.slice an t.names.length cn) (.slice ak t.kids.length ck))[j]? = some u → wz.cell? ⟨w.heap.size, j, none⟩ = some u) := by
    intro wz hb j u hu
    refine (hb.cell (p := ⟨w.heap.size, j, none⟩) hlt1).trans ?_
    rw [hw1, cell_box]
    exact hu
  have HR : Hid (∀ {wz : World}, Below w1.heap.size w1 wz → Calls Tryz.prog 41 #[.agg (tcells t (.slice an t.names.length cn) (.slice ak t.kids.length ck)).toArray] wz fun e w' => ∃ ok, e = .returned (.bool ok) ∧ (ok = true → Right d t) ∧ Below wz.heap.size wz w') := by
    intro wz hb
    have hb2 : Below w.heap.size w wz := hb1.trans (hb.mono hb1.size)
    exact right_any (hr.below (hb2.mono hB)) (hT.below hb2) (Nat.le_trans hB hb2.size)
  have HB1 := Lib.hid hb1
  have HT1 := Lib.hid (hT.below hb1)
  have HV := Lib.hid (hv.below hb1)
  clear hr hT hb1 hv
  simp only [tcells] at hw1 HR BOX ⊢
  have HW1 := Lib.hid hw1
  clear hw1
  go_enter Tryz.func36, Tryz.ntmps36
  go_wp2
  rw [← HW1.out]
  go_loopw [9] (fun i wr => ∃ k : Nat, k ≤ l.length ∧ Hid (Below w1.heap.size w1 wr ∧ TextsOk (l.take k)) ∧ i = .int .i64 k) (fun i _ => l.length - (intOf i).toNat)
  case atStart => exact ⟨0, by omega, ⟨Below.refl _ _, fun s hs => (by cases hs)⟩, rfl⟩
  case round =>
    obtain ⟨k, hk, HL, rfl⟩ := hrel
    have HBW := Lib.hid (HB1.out.trans (HL.out.1.mono HB1.out.size))
    by_cases hlt : k < l.length
    · obtain ⟨b, off, hbo, hbB, hcell⟩ : ∃ b off, av = some ⟨b, off, none⟩ ∧ (b < w.heap.size ∧ l.length ≤ cv) ∧ ∀ (i : Nat) s, l[i]? = some s → w1.cell? ⟨b, off + i, none⟩ = some (.string (B s)) := by
        rcases HV.out with ⟨a, c, e, hnil⟩ | ⟨b, off, c, e, h1, h2⟩
        · rw [hnil] at hlt; simp at hlt
        · cases e; exact ⟨b, off, rfl, h1, h2⟩
      subst hbo
      obtain ⟨s, hs⟩ : ∃ s, l[k]? = some s := ⟨_, List.getElem?_eq_getElem hlt⟩
      have p0 := (HL.out.1.cell (p := ⟨b, off + k, none⟩) (by show b < w1.heap.size; omega)).trans (hcell k s hs)
      have HTR := Lib.hid (HT1.out.below HL.out.1)
      have HS := Lib.hid hs
      clear hcell hs
      by_cases hsl : 200 < s.length
      · have f5 : decide ((200 : Int) < s.length) = true := by simp; omega
        go_wp2
        go_ret
        exact ⟨false, rfl, fun h => (by cases h), HBW.out⟩
      · have f5 : decide ((200 : Int) < s.length) = false := by simp; omega
        have HVA := Lib.hid (valid_any s wr HTR.out (by omega))
        obtain ⟨vv, hvv⟩ : ∃ vv, Lib.validD s = vv := ⟨_, rfl⟩
        have HVV := Lib.hid hvv
        rw [hvv] at HVA
        clear hvv
        cases vv
        · go_wp2_with (go_at_call 23; refine HVA.out.mono ?_; rintro e2 w2 ⟨rfl, hb2⟩; have H2 := Lib.hid hb2; clear hb2)
          go_ret
          exact ⟨false, rfl, fun h => (by cases h), HBW.out.trans (H2.out.mono HBW.out.size)⟩
        · go_wp2_with (go_at_call 23; refine HVA.out.mono ?_; rintro e2 w2 ⟨rfl, hb2⟩; have H2 := Lib.hid hb2; clear hb2)
          go_roundw
          case rel =>
            refine ⟨k + 1, by omega, ⟨HL.out.1.trans (H2.out.mono HL.out.1.size), ?_⟩, by go_num⟩
            have e : l.take (k + 1) = l.take k ++ [s] := by rw [List.take_add_one, HS.out]; rfl
            rw [e]
            intro x hx
            rcases List.mem_append.1 hx with hx | hx
            · exact HL.out.2 x hx
            · rw [List.mem_singleton.1 hx]; exact ⟨by omega, HVV.out⟩
          case measure => simp [intOf]; omega
    · have hke : k = l.length := by omega
      have HOK : Hid (TextsOk l) := by
        have := HL.out.2
        rw [hke, List.take_length] at this
        exact this
      have q0 := BOX.out HL.out.1 0 _ rfl
      by_cases h5 : t.kind = 5
      · have f4 : ((t.kind : Int) == 5) = true := by rw [beq_iff_eq]; omega
        have H5 := Lib.hid h5
        have q1 := BOX.out HL.out.1 1 _ rfl
        have q2 := BOX.out HL.out.1 2 _ rfl
        have q3 := BOX.out HL.out.1 3 _ rfl
        have q4 := BOX.out HL.out.1 4 _ rfl
        have q5 := BOX.out HL.out.1 5 _ rfl
        have q6 := BOX.out HL.out.1 6 _ rfl
        have HRW := Lib.hid (HR.out HL.out.1)
        clear h5 hke
        go_wp2_with (fail)
        refine HRW.out.mono ?_
        rintro e w2 ⟨ok, rfl, hy, hb2⟩
        have HY := Lib.hid hy
        have H2 := Lib.hid hb2
        clear hy hb2
        go_wp2
        go_ret
        exact ⟨ok, rfl, fun h => ⟨H5.out, HY.out h, HOK.out⟩, HBW.out.trans (H2.out.mono HBW.out.size)⟩
      · have f4 : ((t.kind : Int) == 5) = false := by rw [beq_eq_false_iff_ne]; omega
        clear hke
        go_wp2
        go_ret
        exact ⟨false, rfl, fun h => (by cases h), HBW.out⟩
end Go.Proofs.YtppkpcijmfdfmaaGreatDoor
