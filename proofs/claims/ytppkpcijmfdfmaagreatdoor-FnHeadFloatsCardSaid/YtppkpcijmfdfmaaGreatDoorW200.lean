/- Fields of a header in memory; the walk of a field's value, whatever its kind. -/
import Derived.Test.YtppkpcijmfdfmaaGreatDoorA29
import Derived.Test.YtppkpcijmfdfmaaGreatDoorD3
import Derived.Deep.RegionHeldLaw
set_option linter.unusedVariables false
set_option linter.unusedSimpArgs false
namespace Go.Proofs.YtppkpcijmfdfmaaGreatDoor
open Go.RowKit
attribute [local go_sem] B_size B_get B_lit B_ext_to B_ext B_toList B_app

/-- A field's cells. -/
def fcells (f : HF) (lv : Value) : List Value := [.string (B f.name), .int .u8 f.kind, .bool f.is, .bool f.minus, .int .u64 f.num, .string (B f.text), lv]
/-- Fields in memory, in blocks below a bound. -/
def FRow (w : World) (B0 : Nat) (v : Value) (l : List HF) : Prop :=
  (∃ a c, v = .slice a 0 c ∧ l = []) ∨ ∃ b off c, v = .slice (some ⟨b, off, none⟩) l.length c ∧ b < B0 ∧
    ∀ (i : Nat) f, l[i]? = some f → ∃ lv, (∀ (j : Nat) u, (fcells f lv)[j]? = some u → w.cell? ⟨b, off + i * 7 + j, none⟩ = some u) ∧ NSB w B0 lv f.list ∧ f.kind < 256 ∧ f.num < 18446744073709551616 ∧ f.list.length ≤ 9223372036854775807
theorem FRow.below {w w' : World} {B0 : Nat} {v : Value} {l : List HF} (h : FRow w B0 v l) (hb : Below B0 w w') : FRow w' B0 v l := by
  rcases h with h | ⟨b, off, c, rfl, hlt, hc⟩
  · exact Or.inl h
  · refine Or.inr ⟨b, off, c, rfl, hlt, fun i f hi => ?_⟩
    obtain ⟨lv, h1, h2, h3⟩ := hc i f hi
    exact ⟨lv, fun j u hu => (hb.cell (p := ⟨b, off + i * 7 + j, none⟩) hlt).trans (h1 j u hu), h2.below hb, h3⟩
theorem hDig_one : hDig 1 = [49] := by rw [hDig_small (by decide)]; rfl
theorem tree_five {f : HF} (h5 : f.kind = 5) (x : Nat) : hTree 2 f.tree x =
    (123 :: ((blank x).1 ++ ((hText f.text (blank x).2).1 ++ ((blank (hText f.text (blank x).2).2).1 ++ 58 :: ((blank (blank (hText f.text (blank x).2).2).2).1 ++ 49 :: ((blank (blank (blank (hText f.text (blank x).2).2).2).2).1 ++ [125]))))), (blank (blank (blank (hText f.text (blank x).2).2).2).2).2) := by
  have e : f.tree = .mk 5 false false 0 [] [f.text] [fNum 1] := by unfold HF.tree; rw [if_pos h5]
  have e1 : ∀ y, hTree 1 (fNum 1) y = ([49], y) := fun y => by
    rw [hTree_scalar (d := 0) (show (fNum 1).kind < 4 by show 2 < 4; decide)]
    unfold hScalar
    rw [if_neg (by show ¬ (2 = 0); decide), if_neg (by show ¬ (2 = 1); decide), if_pos (show (fNum 1).kind = 2 from rfl)]
    show (hNum false 1, y) = _
    unfold hNum
    rw [if_neg (by simp), hDig_one]
  rw [e, hTree_obj (d := 1) rfl]
  show (123 :: ((blank x).1 ++ ((hKids (hTree 1) true [f.text] [fNum 1] (blank x).2).1 ++ [125])), (hKids (hTree 1) true [f.text] [fNum 1] (blank x).2).2) = _
  rw [hKids_cons, hKid_obj _ _ _ _ f.text rfl, e1]
  simp only [hMore, List.append_assoc, List.cons_append, List.nil_append, List.append_nil]
/-- The kids of a list's tree. -/
def HF.kids6 (f : HF) : List HT := f.list.map fun s => fNum s.length
theorem tree_four {f : HF} (h4 : f.kind = 4) (x : Nat) : hTree 2 f.tree x = (91 :: ((blank x).1 ++ ((hKids (hTree 1) false [] (f.list.map fText) (blank x).2).1 ++ [93])), (hKids (hTree 1) false [] (f.list.map fText) (blank x).2).2) := by
  have e : f.tree = .mk 4 false false 0 [] [] (f.list.map fText) := by unfold HF.tree; rw [if_neg (by omega), if_pos h4]
  rw [e, hTree_list (d := 1) (by show ¬ (4 < 4); decide) (by show 4 ≠ 5; decide)]
  rfl
theorem tree_six {f : HF} (h6 : f.kind = 6) (x : Nat) : hTree 2 f.tree x = (91 :: ((blank x).1 ++ ((hKids (hTree 1) false [] f.kids6 (blank x).2).1 ++ [93])), (hKids (hTree 1) false [] f.kids6 (blank x).2).2) := by
  have e : f.tree = .mk 4 false false 0 [] [] f.kids6 := by unfold HF.tree HF.kids6; rw [if_neg (by omega), if_neg (by omega), if_pos h6]
  rw [e, hTree_list (d := 1) (by show ¬ (4 < 4); decide) (by show 4 ≠ 5; decide)]
  rfl
theorem fText_tree (s : Bs) (y : Nat) : hTree 1 (fText s) y = hText s y := by
  rw [hTree_scalar (d := 0) (show (fText s).kind < 4 by show 3 < 4; decide)]
  unfold hScalar
  rw [if_neg (by show ¬ (3 = 0); decide), if_neg (by show ¬ (3 = 1); decide), if_neg (by show ¬ (3 = 2); decide)]
  rfl
theorem fNum_tree (n : Nat) (y : Nat) : hTree 1 (fNum n) y = (hDig n, y) := by
  rw [hTree_scalar (d := 0) (show (fNum n).kind < 4 by show 2 < 4; decide)]
  unfold hScalar
  rw [if_neg (by show ¬ (2 = 0); decide), if_neg (by show ¬ (2 = 1); decide), if_pos (show (fNum n).kind = 2 from rfl)]
  show (hNum false n, y) = _
  unfold hNum
  rw [if_neg (by simp)]
theorem tree_plain {f : HF} (h : f.kind < 4) : f.tree = .mk f.kind f.is f.minus f.num f.text [] [] := by
  unfold HF.tree
  rw [if_neg (by omega), if_neg (by omega), if_neg (by omega)]

/-- What a value's walk gives. -/
def ValR (sb x : Nat) (w : World) (f : HF) (e : Ending) (w' : World) : Prop := e = .returned (.string (B (hTree 2 f.tree x).1)) ∧ StyleAt sb w' (hTree 2 f.tree x).2 ∧ Only sb w w'
theorem HF.small {f : HF} (h : f.Ok) (x : Nat) : (hTree 2 f.tree x).1.length ≤ 400000000 := by
  have h1 := tree_length 2 _ _ _ (HF.sized h) x
  have h2 : f.size ≤ 31 := by
    have := h.few
    unfold HF.size
    repeat' split
    all_goals omega
  omega
/-- A sum of texts of no great length. -/
theorem run_sum {a b c : Bs} (h : a ++ b = c) (hl : c.length ≤ 9223372036854775807) : ∀ w, (Op.stringOp .add (B a) (B b)).run Tryz.prog w = .ok (.string (B c)) w := by
  intro w
  rw [run_string_add_sum w _ _ (by rw [B_size, B_size, ← List.length_append, h]; exact hl), B_app, h]
-- the walks
set_option maxRecDepth 100000 in
set_option maxHeartbeats 4000000 in
theorem value_low {sb x kind num lc : Nat} {w : World} {name text : Bs} {is minus : Bool} {list : List Bs} {la : Option Addr} (h : StyleAt sb w x) (hk : kind < 4) (hn : num < 18446744073709551616) (hl : kind = 3 → text.length < 4294967296) :
    Calls Tryz.prog 60 #[.pointer (some ⟨sb, 0, none⟩), .agg #[.string (B name), .int .u8 kind, .bool is, .bool minus, .int .u64 num, .string (B text), .slice la list.length lc]] w fun e w' => e = .returned (.string (B (hScalar (.mk kind is minus num text [] []) x).1)) ∧ StyleAt sb w' (hScalar (.mk kind is minus num text [] []) x).2 ∧ Only sb w w' := by
  simp only [HT.num, HT.kind, HT.text, HT.is, HT.minus, hScalar]
  have hbw : Below w.heap.size w (w.alloc (.cells #[.string (B name), .int .u8 kind, .bool is, .bool minus, .int .u64 num, .string (B text), .slice la list.length lc] 32)) := (Below.refl _ _).alloc (Nat.le_refl _) _
  have H1 := Lib.hid (h.below hbw)
  have HO := Lib.hid (Only.below (sb := sb) hbw)
  clear h hbw
  obtain rfl | rfl | rfl | rfl : kind = 0 ∨ kind = 1 ∨ kind = 2 ∨ kind = 3 := by omega
  · go_enter Tryz.func60, Tryz.ntmps60
    go_wp2
    go_ret
    exact ⟨rfl, H1.out, HO.out⟩
  · cases is
    · go_enter Tryz.func60, Tryz.ntmps60
      go_wp2
      go_ret
      exact ⟨rfl, H1.out, HO.out⟩
    · go_enter Tryz.func60, Tryz.ntmps60
      go_wp2
      go_ret
      exact ⟨rfl, H1.out, HO.out⟩
  · have HD := Lib.hid (digits_any num hn)
    have hdl : (hDig num).length ≤ 20 := hDig_length 19 num (Nat.lt_trans hn (by decide))
    cases minus
    · have e : hNum false num = hDig num := by unfold hNum; rw [if_neg (by simp)]
      go_enter Tryz.func60, Tryz.ntmps60
      go_wp2_with (go_at_call 93; with_reducible refine (HD.out _).mono ?_; rintro e2 w2 ⟨rfl, rfl⟩)
      go_ret
      exact ⟨by rw [← e]; rfl, H1.out, HO.out⟩
    · by_cases h0 : num = 0
      · subst h0
        have e : hNum true 0 = hDig 0 := by unfold hNum; rw [if_neg (by omega)]
        have HD0 : Hid (∀ w, Calls Tryz.prog 93 #[.int .u64 0] w fun e w' => e = .returned (.string (B (hDig 0))) ∧ w = w') := HD.out
        clear hn
        go_enter Tryz.func60, Tryz.ntmps60
        go_wp2_with (go_at_call 93; with_reducible refine (HD0.out _).mono ?_; rintro e2 w2 ⟨rfl, rfl⟩)
        go_ret
        exact ⟨by rw [← e]; rfl, H1.out, HO.out⟩
      · have e : hNum true num = 45 :: hDig num := by unfold hNum; rw [if_pos ⟨rfl, by omega⟩]
        have hz : decide ((0 : Int) < num) = true := by simp; omega
        go_enter Tryz.func60, Tryz.ntmps60
        go_wp2_with (go_at_call 93; with_reducible refine (HD.out _).mono ?_; rintro e2 w2 ⟨rfl, rfl⟩)
        go_ret
        exact ⟨by rw [← e]; rfl, H1.out, HO.out⟩
  · have HT := Lib.hid (text_any text H1.out (hl rfl))
    go_enter Tryz.func60, Tryz.ntmps60
    go_wp2_with (go_at_call 59; refine HT.out.mono ?_; rintro e2 w2 ⟨rfl, hs2, ho2⟩; have H2 := Lib.hid (And.intro hs2 ho2); clear hs2 ho2)
    go_ret
    exact ⟨rfl, H2.out.1, HO.out.trans H2.out.2⟩
set_option maxRecDepth 100000 in
set_option maxHeartbeats 4000000 in
theorem value_5 {sb x B0 : Nat} {w : World} {name text : Bs} {is minus : Bool} {num : Nat} {list : List Bs} {la : Option Addr} {lc : Nat} (h : StyleAt sb w x) (hok : HF.Ok ⟨name, 5, is, minus, num, text, list⟩) :
    Calls Tryz.prog 60 #[.pointer (some ⟨sb, 0, none⟩), .agg #[.string (B name), .int .u8 5, .bool is, .bool minus, .int .u64 num, .string (B text), .slice la list.length lc]] w (ValR sb x w ⟨name, 5, is, minus, num, text, list⟩) := by
  unfold ValR
  rw [tree_five rfl]
  have htl : text.length < 4294967296 := by have := (hok.texts text (by simp)).1; omega
  have hb1 : Below w.heap.size w (w.alloc (.cells ([.string (B name), .int .u8 5, .bool is, .bool minus, .int .u64 num, .string (B text), .slice la list.length lc] : List Value).toArray 32)) := (Below.refl _ _).alloc (Nat.le_refl _) _
  have H1 := Lib.hid (h.below hb1)
  have HO := Lib.hid (Only.below (sb := sb) hb1)
  have hsb := h.lt
  have TBX : Hid (∀ {wz : World}, Only sb (w.alloc (.cells ([.string (B name), .int .u8 5, .bool is, .bool minus, .int .u64 num, .string (B text), .slice la list.length lc] : List Value).toArray 32)) wz → ∀ (j : Nat) v, ([.string (B name), .int .u8 5, .bool is, .bool minus, .int .u64 num, .string (B text), .slice la list.length lc] : List Value)[j]? = some v → wz.cell? ⟨w.heap.size, j, none⟩ = some v) := by
    intro wz ho j v hv
    refine (ho.cell (by simp) (by omega)).trans ?_
    rw [cell_box]
    exact hv
  obtain ⟨w1, hw1⟩ : ∃ w1, w1 = w.alloc (.cells ([.string (B name), .int .u8 5, .bool is, .bool minus, .int .u64 num, .string (B text), .slice la list.length lc] : List Value).toArray 32) := ⟨_, rfl⟩
  rw [← hw1] at H1 HO TBX
  have hl1 := blank_length x
  have HW1 := Lib.hid hw1
  clear h hok hb1 hw1
  have m1 := hText_length text (blank x).2
  have m2 := blank_length (hText text (blank x).2).2
  have m3 := blank_length (blank (hText text (blank x).2).2).2
  have m4 := blank_length (blank (blank (hText text (blank x).2).2).2).2
  have r1 := run_sum (a := [123]) (b := (blank x).1) (c := (123 :: (blank x).1)) (by simp) (by simp; omega)
  have r2 := run_sum (a := (123 :: (blank x).1)) (b := (hText text (blank x).2).1) (c := (123 :: ((blank x).1 ++ (hText text (blank x).2).1))) (by simp) (by simp; omega)
  have r3 := run_sum (a := (123 :: ((blank x).1 ++ (hText text (blank x).2).1))) (b := (blank (hText text (blank x).2).2).1) (c := (123 :: ((blank x).1 ++ ((hText text (blank x).2).1 ++ (blank (hText text (blank x).2).2).1)))) (by simp) (by simp; omega)
  have r4 := run_sum (a := (123 :: ((blank x).1 ++ ((hText text (blank x).2).1 ++ (blank (hText text (blank x).2).2).1)))) (b := [58]) (c := (123 :: ((blank x).1 ++ ((hText text (blank x).2).1 ++ ((blank (hText text (blank x).2).2).1 ++ [58]))))) (by simp) (by simp; omega)
  have r5 := run_sum (a := (123 :: ((blank x).1 ++ ((hText text (blank x).2).1 ++ ((blank (hText text (blank x).2).2).1 ++ [58]))))) (b := (blank (blank (hText text (blank x).2).2).2).1) (c := (123 :: ((blank x).1 ++ ((hText text (blank x).2).1 ++ ((blank (hText text (blank x).2).2).1 ++ (58 :: (blank (blank (hText text (blank x).2).2).2).1)))))) (by simp) (by simp; omega)
  have r6 := run_sum (a := (123 :: ((blank x).1 ++ ((hText text (blank x).2).1 ++ ((blank (hText text (blank x).2).2).1 ++ (58 :: (blank (blank (hText text (blank x).2).2).2).1)))))) (b := [49]) (c := (123 :: ((blank x).1 ++ ((hText text (blank x).2).1 ++ ((blank (hText text (blank x).2).2).1 ++ (58 :: ((blank (blank (hText text (blank x).2).2).2).1 ++ [49]))))))) (by simp) (by simp; omega)
  have r7 := run_sum (a := (123 :: ((blank x).1 ++ ((hText text (blank x).2).1 ++ ((blank (hText text (blank x).2).2).1 ++ (58 :: ((blank (blank (hText text (blank x).2).2).2).1 ++ [49]))))))) (b := (blank (blank (blank (hText text (blank x).2).2).2).2).1) (c := (123 :: ((blank x).1 ++ ((hText text (blank x).2).1 ++ ((blank (hText text (blank x).2).2).1 ++ (58 :: ((blank (blank (hText text (blank x).2).2).2).1 ++ (49 :: (blank (blank (blank (hText text (blank x).2).2).2).2).1)))))))) (by simp) (by simp; omega)
  have r8 := run_sum (a := (123 :: ((blank x).1 ++ ((hText text (blank x).2).1 ++ ((blank (hText text (blank x).2).2).1 ++ (58 :: ((blank (blank (hText text (blank x).2).2).2).1 ++ (49 :: (blank (blank (blank (hText text (blank x).2).2).2).2).1)))))))) (b := [125]) (c := (123 :: ((blank x).1 ++ ((hText text (blank x).2).1 ++ ((blank (hText text (blank x).2).2).1 ++ (58 :: ((blank (blank (hText text (blank x).2).2).2).1 ++ (49 :: ((blank (blank (blank (hText text (blank x).2).2).2).2).1 ++ [125]))))))))) (by simp) (by simp; omega)
  go_enter Tryz.func60, Tryz.ntmps60
  go_upto_region 1 with (fail)
  rw [← HW1.out]
  have q1 := TBX.out (Only.refl _ _) 1 _ rfl
  have q5 := TBX.out (Only.refl _ _) 5 _ rfl
  go_wp2_with (fail)
  have hP0 : Only sb w1 w1.drew := (Only.refl _ _).drew
  go_region_held_law (fun w' => w'.cell? ⟨w.heap.size, 5, none⟩ = some (.string (B text)) ∧ Only sb w1 w')
    (first
      | (go_split_ands
         refine (fun hz => ⟨TBX.out hz 5 _ rfl, hz⟩) ?_
         first
           | assumption
           | exact Only.trans (by assumption) (by assumption)))
    (first
    | (go_at_call 58; with_reducible refine (blank_any H1.out.drew).mono ?_; rintro e2 w3 ⟨rfl, hs3, ho3⟩; have H3 := Lib.hid hs3)
    | (go_at_call 59; with_reducible refine (text_any text H3.out htl).mono ?_; rintro e2 w4 ⟨rfl, hs4, ho4⟩; have l4 := hText_length text (blank x).2; have H4 := Lib.hid hs4)
    | (go_at_call 58; with_reducible refine (blank_any H4.out).mono ?_; rintro e2 w5 ⟨rfl, hs5, ho5⟩; have l5 := blank_length (hText text (blank x).2).2; have H5 := Lib.hid hs5)
    | (go_at_call 58; with_reducible refine (blank_any H5.out).mono ?_; rintro e2 w6 ⟨rfl, hs6, ho6⟩; have l6 := blank_length (blank (hText text (blank x).2).2).2; have H6 := Lib.hid hs6)
    | (go_at_call 58; with_reducible refine (blank_any H6.out).mono ?_; rintro e2 w7 ⟨rfl, hs7, ho7⟩; have l7 := blank_length (blank (blank (hText text (blank x).2).2).2).2; have H7 := Lib.hid hs7))
  all_goals
    go_split_ands
    go_wp2
    go_ret
    exact ⟨by simp, H7.out, HO.out.trans (by assumption)⟩
set_option maxRecDepth 100000 in
set_option maxHeartbeats 4000000 in
theorem value_4 {sb x B0 : Nat} {w : World} {name text : Bs} {is minus : Bool} {num : Nat} {list : List Bs} {la : Option Addr} {lc : Nat} (h : StyleAt sb w x) (hok : HF.Ok ⟨name, 4, is, minus, num, text, list⟩) (hn : NSB w B0 (.slice la list.length lc) list) (hB : B0 ≤ sb) :
    Calls Tryz.prog 60 #[.pointer (some ⟨sb, 0, none⟩), .agg #[.string (B name), .int .u8 4, .bool is, .bool minus, .int .u64 num, .string (B text), .slice la list.length lc]] w (ValR sb x w ⟨name, 4, is, minus, num, text, list⟩) := by
  have HE : Hid (hTree 2 (HF.tree ⟨name, 4, is, minus, num, text, list⟩) x = (91 :: ((blank x).1 ++ ((hKids (hTree 1) false [] (list.map fText) (blank x).2).1 ++ [93])), (hKids (hTree 1) false [] (list.map fText) (blank x).2).2)) := tree_four (f := ⟨name, 4, is, minus, num, text, list⟩) rfl x
  have HSM := Lib.hid (HF.small hok x)
  have HFEW : Hid (list.length ≤ 30 ∧ ∀ s ∈ list, s.length ≤ 200) := Lib.hid ⟨hok.few, fun s hs => (hok.texts s (by simp [hs])).1⟩
  obtain ⟨res, hres⟩ : ∃ r, r = hTree 2 (HF.tree ⟨name, 4, is, minus, num, text, list⟩) x := ⟨_, rfl⟩
  unfold ValR
  rw [← hres] at HE HSM ⊢
  obtain ⟨ks, hks⟩ : ∃ ks, ks = (list.map fText) := ⟨_, rfl⟩
  rw [← hks] at HE
  have HKN : Hid (ks.length = list.length ∧ ∀ (i : Nat) s, list[i]? = some s → ∃ k, ks[i]? = some k ∧ ∀ y, hTree 1 k y = (hText s y)) := Lib.hid ⟨by rw [hks, List.length_map], fun i s hs => ⟨fText s, by rw [hks, List.getElem?_map, hs]; rfl, fun y => fText_tree s y⟩⟩
  have hb1 : Below w.heap.size w (w.alloc (.cells ([.string (B name), .int .u8 4, .bool is, .bool minus, .int .u64 num, .string (B text), .slice la list.length lc] : List Value).toArray 32)) := (Below.refl _ _).alloc (Nat.le_refl _) _
  have H1 := Lib.hid (h.below hb1)
  have HO := Lib.hid (Only.below (sb := sb) hb1)
  have hsb := h.lt
  have TBX : Hid (∀ {wz : World}, Only sb (w.alloc (.cells ([.string (B name), .int .u8 4, .bool is, .bool minus, .int .u64 num, .string (B text), .slice la list.length lc] : List Value).toArray 32)) wz → ∀ (j : Nat) v, ([.string (B name), .int .u8 4, .bool is, .bool minus, .int .u64 num, .string (B text), .slice la list.length lc] : List Value)[j]? = some v → wz.cell? ⟨w.heap.size, j, none⟩ = some v) := by
    intro wz ho j v hv
    refine (ho.cell (by simp) (by omega)).trans ?_
    rw [cell_box]
    exact hv
  obtain ⟨w1, hw1⟩ : ∃ w1, w1 = w.alloc (.cells ([.string (B name), .int .u8 4, .bool is, .bool minus, .int .u64 num, .string (B text), .slice la list.length lc] : List Value).toArray 32) := ⟨_, rfl⟩
  rw [← hw1] at H1 HO TBX
  have HBL := Lib.hid (blank_any H1.out)
  have hbl := blank_length x
  have HN := Lib.hid hn
  have hlt1 : w.heap.size < w1.heap.size := by rw [hw1]; simp
  clear h hok hb1 hres hks hn
  have HW1 := Lib.hid hw1
  clear hw1
  go_enter Tryz.func60, Tryz.ntmps60
  have q1 := TBX.out (Only.refl _ _) 1 _ rfl
  go_upto_region 1 with (fail)
  rw [← HW1.out]
  go_wp2_with (fail)
  refine HBL.out.mono ?_
  rintro e2 w2 ⟨rfl, hs2, ho2⟩
  have H2 := Lib.hid (And.intro hs2 ho2)
  have HT0 : Hid (TreeSt (hTree 1) false [] ks res [93] sb w2 0 (blank x).2 (91 :: (blank x).1) w2) := ⟨Nat.zero_le _, hs2, Only.refl _ _, by rw [HE.out]; simp [hFrom]⟩
  have HO2 := Lib.hid (HO.out.trans ho2)
  have q6 := TBX.out ho2 6 _ rfl
  have hlt2 : w.heap.size < w2.heap.size := Nat.lt_of_lt_of_le hlt1 ho2.size
  clear hs2 ho2 HBL q1
  go_upto_region 18 with (fail)
  clear q6
  go_loopw [5, 66] (fun o i wr => ∃ (m y : Nat) (u : Bs), Hid (TreeSt (hTree 1) false [] ks res [93] sb w2 m y u wr) ∧ i = .int .i64 m ∧ o = .string (B u)) (fun _ i _ => list.length - (intOf i).toNat)
  case atStart => exact ⟨0, _, _, HT0, rfl, rfl⟩
  case round =>
    clear HT0
    obtain ⟨m, y, u, HS, rfl, rfl⟩ := hrel
    have hul : u.length ≤ 400000000 := by
      have h1 := HSM.out
      rw [HS.out.eq] at h1
      simp only [List.length_append] at h1
      omega
    by_cases hlt : m < list.length
    · obtain ⟨b, off, hbo, hbB, hcell⟩ : ∃ b off, la = some ⟨b, off, none⟩ ∧ b < B0 ∧ ∀ (i : Nat) s, list[i]? = some s → w.cell? ⟨b, off + i, none⟩ = some (.string (B s)) := by
        rcases HN.out with ⟨a, c, e, hnil⟩ | ⟨b, off, c, e, h1, h2⟩
        · rw [hnil] at hlt; simp at hlt
        · cases e; exact ⟨b, off, rfl, h1.1, h2⟩
      subst hbo
      obtain ⟨s, hs⟩ : ∃ s, list[m]? = some s := ⟨_, List.getElem?_eq_getElem hlt⟩
      have hon := HO2.out.trans HS.out.only
      have p0 : wr.cell? ⟨b, off + m, none⟩ = some (.string (B s)) := (hon.cell (by omega) (by omega)).trans (hcell m s hs)
      obtain ⟨k, hk, hval⟩ := HKN.out.2 m s hs
      have HV := Lib.hid hval
      have HKID := Lib.hid hk
      have hsl := HFEW.out.2 s (List.mem_of_getElem? hs)
      have QB : Hid (∀ {wz : World}, Only sb wr wz → wz.cell? ⟨w.heap.size, 1, none⟩ = some (.int .u8 4)) := fun ho => (((HS.out.only.trans ho)).cell hlt2 (by omega)).trans (TBX.out H2.out.2 1 _ rfl)
      have il : (m : Int) < (list.length : Int) := by omega
      have HLT := Lib.hid hlt
      have hm9 : m ≤ 30 := by have := HFEW.out.1; omega
      clear hcell hs hval hk hon
      by_cases hm0 : 0 < m
      · have hcm : hComma m y = (44 :: (blank y).1, (blank y).2) := by unfold hComma; rw [if_neg (by omega)]
        have HCM := Lib.hid hcm
        have hd0 : decide ((0 : Int) < (m : Int)) = true := by simp; omega
        clear hcm
        go_wp2_with (first
          | (go_at_call 58; with_reducible refine (blank_any HS.out.st).mono ?_; rintro e2 w3 ⟨rfl, hs3, ho3⟩; have l3 := blank_length y; have q1 := QB.out ho3; have H3 := Lib.hid (And.intro hs3 ho3); clear hs3 ho3)
          | (go_at_call 59; with_reducible refine (text_any s H3.out.1 (by omega)).mono ?_; rintro e2 w4 ⟨rfl, hs4, ho4⟩; have l4 := hText_length s (blank y).2; have H4 := Lib.hid (And.intro hs4 (H3.out.2.trans ho4)); clear hs4 ho4)
          | (go_at_call 58; with_reducible refine (blank_any H4.out.1).mono ?_; rintro e2 w5 ⟨rfl, hs5, ho5⟩; have l5 := blank_length ((hText s (blank y).2).2); have H5 := Lib.hid (And.intro hs5 (H4.out.2.trans ho5)); clear hs5 ho5))
        go_roundw
        case rel =>
          have hst := HS.out.step HKID.out (by rw [HCM.out, hKid_list, HV.out]) (by rw [HCM.out, hKid_list, HV.out]) H5.out.1 H5.out.2
          refine ⟨m + 1, _, _, hst, by go_num, ?_⟩
          simp
        case measure => (have := HLT.out; simp [intOf]; omega)
      · have hcm : hComma m y = ([], y) := by unfold hComma; rw [if_pos (by omega)]
        have HCM := Lib.hid hcm
        have hd0 : decide ((0 : Int) < (m : Int)) = false := by simp; omega
        have q1 := QB.out (Only.refl _ _)
        clear hcm
        go_wp2_with (first
          | (go_at_call 59; with_reducible refine (text_any s HS.out.st (by omega)).mono ?_; rintro e2 w4 ⟨rfl, hs4, ho4⟩; have l4 := hText_length s y; have H4 := Lib.hid (And.intro hs4 ho4); clear hs4 ho4)
          | (go_at_call 58; with_reducible refine (blank_any H4.out.1).mono ?_; rintro e2 w5 ⟨rfl, hs5, ho5⟩; have l5 := blank_length ((hText s y).2); have H5 := Lib.hid (And.intro hs5 (H4.out.2.trans ho5)); clear hs5 ho5))
        go_roundw
        case rel =>
          have hst := HS.out.step HKID.out (by rw [HCM.out, hKid_list, HV.out]) (by rw [HCM.out, hKid_list, HV.out]) H5.out.1 H5.out.2
          refine ⟨m + 1, _, _, hst, by go_num, ?_⟩
          simp
        case measure => (have := HLT.out; simp [intOf]; omega)
    · obtain rfl : m = list.length := by have := HS.out.le; have := HKN.out.1; omega
      have he := HS.out.eq
      rw [hFrom_end _ _ _ _ _ _ (by have := HKN.out.1; omega)] at he
      have HE2 := Lib.hid he
      clear he
      go_wp2
      go_ret
      have h1 := congrArg Prod.fst HE2.out
      have h2 := congrArg Prod.snd HE2.out
      simp only [List.nil_append] at h1 h2
      rw [h1, h2]
      exact ⟨rfl, HS.out.st, HO2.out.trans HS.out.only⟩
set_option maxRecDepth 100000 in
set_option maxHeartbeats 4000000 in
theorem value_6 {sb x B0 : Nat} {w : World} {name text : Bs} {is minus : Bool} {num : Nat} {list : List Bs} {la : Option Addr} {lc : Nat} (h : StyleAt sb w x) (hok : HF.Ok ⟨name, 6, is, minus, num, text, list⟩) (hn : NSB w B0 (.slice la list.length lc) list) (hB : B0 ≤ sb) :
    Calls Tryz.prog 60 #[.pointer (some ⟨sb, 0, none⟩), .agg #[.string (B name), .int .u8 6, .bool is, .bool minus, .int .u64 num, .string (B text), .slice la list.length lc]] w (ValR sb x w ⟨name, 6, is, minus, num, text, list⟩) := by
  have HE : Hid (hTree 2 (HF.tree ⟨name, 6, is, minus, num, text, list⟩) x = (91 :: ((blank x).1 ++ ((hKids (hTree 1) false [] (list.map fun s => fNum s.length) (blank x).2).1 ++ [93])), (hKids (hTree 1) false [] (list.map fun s => fNum s.length) (blank x).2).2)) := tree_six (f := ⟨name, 6, is, minus, num, text, list⟩) rfl x
  have HSM := Lib.hid (HF.small hok x)
  have HFEW : Hid (list.length ≤ 30 ∧ ∀ s ∈ list, s.length ≤ 200) := Lib.hid ⟨hok.few, fun s hs => (hok.texts s (by simp [hs])).1⟩
  obtain ⟨res, hres⟩ : ∃ r, r = hTree 2 (HF.tree ⟨name, 6, is, minus, num, text, list⟩) x := ⟨_, rfl⟩
  unfold ValR
  rw [← hres] at HE HSM ⊢
  obtain ⟨ks, hks⟩ : ∃ ks, ks = (list.map fun s => fNum s.length) := ⟨_, rfl⟩
  rw [← hks] at HE
  have HKN : Hid (ks.length = list.length ∧ ∀ (i : Nat) s, list[i]? = some s → ∃ k, ks[i]? = some k ∧ ∀ y, hTree 1 k y = (hDig s.length, y)) := Lib.hid ⟨by rw [hks, List.length_map], fun i s hs => ⟨fNum s.length, by rw [hks, List.getElem?_map, hs]; rfl, fun y => fNum_tree s.length y⟩⟩
  have hb1 : Below w.heap.size w (w.alloc (.cells ([.string (B name), .int .u8 6, .bool is, .bool minus, .int .u64 num, .string (B text), .slice la list.length lc] : List Value).toArray 32)) := (Below.refl _ _).alloc (Nat.le_refl _) _
  have H1 := Lib.hid (h.below hb1)
  have HO := Lib.hid (Only.below (sb := sb) hb1)
  have hsb := h.lt
  have TBX : Hid (∀ {wz : World}, Only sb (w.alloc (.cells ([.string (B name), .int .u8 6, .bool is, .bool minus, .int .u64 num, .string (B text), .slice la list.length lc] : List Value).toArray 32)) wz → ∀ (j : Nat) v, ([.string (B name), .int .u8 6, .bool is, .bool minus, .int .u64 num, .string (B text), .slice la list.length lc] : List Value)[j]? = some v → wz.cell? ⟨w.heap.size, j, none⟩ = some v) := by
    intro wz ho j v hv
    refine (ho.cell (by simp) (by omega)).trans ?_
    rw [cell_box]
    exact hv
  obtain ⟨w1, hw1⟩ : ∃ w1, w1 = w.alloc (.cells ([.string (B name), .int .u8 6, .bool is, .bool minus, .int .u64 num, .string (B text), .slice la list.length lc] : List Value).toArray 32) := ⟨_, rfl⟩
  rw [← hw1] at H1 HO TBX
  have HBL := Lib.hid (blank_any H1.out)
  have hbl := blank_length x
  have HN := Lib.hid hn
  have hlt1 : w.heap.size < w1.heap.size := by rw [hw1]; simp
  clear h hok hb1 hres hks hn
  have HW1 := Lib.hid hw1
  clear hw1
  go_enter Tryz.func60, Tryz.ntmps60
  have q1 := TBX.out (Only.refl _ _) 1 _ rfl
  go_upto_region 1 with (fail)
  rw [← HW1.out]
  go_wp2_with (fail)
  refine HBL.out.mono ?_
  rintro e2 w2 ⟨rfl, hs2, ho2⟩
  have H2 := Lib.hid (And.intro hs2 ho2)
  have HT0 : Hid (TreeSt (hTree 1) false [] ks res [93] sb w2 0 (blank x).2 (91 :: (blank x).1) w2) := ⟨Nat.zero_le _, hs2, Only.refl _ _, by rw [HE.out]; simp [hFrom]⟩
  have HO2 := Lib.hid (HO.out.trans ho2)
  have q6 := TBX.out ho2 6 _ rfl
  have hlt2 : w.heap.size < w2.heap.size := Nat.lt_of_lt_of_le hlt1 ho2.size
  clear hs2 ho2 HBL q1
  go_upto_region 18 with (fail)
  clear q6
  go_loopw [5, 66] (fun o i wr => ∃ (m y : Nat) (u : Bs), Hid (TreeSt (hTree 1) false [] ks res [93] sb w2 m y u wr) ∧ i = .int .i64 m ∧ o = .string (B u)) (fun _ i _ => list.length - (intOf i).toNat)
  case atStart => exact ⟨0, _, _, HT0, rfl, rfl⟩
  case round =>
    clear HT0
    obtain ⟨m, y, u, HS, rfl, rfl⟩ := hrel
    have hul : u.length ≤ 400000000 := by
      have h1 := HSM.out
      rw [HS.out.eq] at h1
      simp only [List.length_append] at h1
      omega
    by_cases hlt : m < list.length
    · obtain ⟨b, off, hbo, hbB, hcell⟩ : ∃ b off, la = some ⟨b, off, none⟩ ∧ b < B0 ∧ ∀ (i : Nat) s, list[i]? = some s → w.cell? ⟨b, off + i, none⟩ = some (.string (B s)) := by
        rcases HN.out with ⟨a, c, e, hnil⟩ | ⟨b, off, c, e, h1, h2⟩
        · rw [hnil] at hlt; simp at hlt
        · cases e; exact ⟨b, off, rfl, h1.1, h2⟩
      subst hbo
      obtain ⟨s, hs⟩ : ∃ s, list[m]? = some s := ⟨_, List.getElem?_eq_getElem hlt⟩
      have hon := HO2.out.trans HS.out.only
      have p0 : wr.cell? ⟨b, off + m, none⟩ = some (.string (B s)) := (hon.cell (by omega) (by omega)).trans (hcell m s hs)
      obtain ⟨k, hk, hval⟩ := HKN.out.2 m s hs
      have HV := Lib.hid hval
      have HKID := Lib.hid hk
      have hsl := HFEW.out.2 s (List.mem_of_getElem? hs)
      have QB : Hid (∀ {wz : World}, Only sb wr wz → wz.cell? ⟨w.heap.size, 1, none⟩ = some (.int .u8 6)) := fun ho => (((HS.out.only.trans ho)).cell hlt2 (by omega)).trans (TBX.out H2.out.2 1 _ rfl)
      have il : (m : Int) < (list.length : Int) := by omega
      have HLT := Lib.hid hlt
      have hm9 : m ≤ 30 := by have := HFEW.out.1; omega
      clear hcell hs hval hk hon
      by_cases hm0 : 0 < m
      · have hcm : hComma m y = (44 :: (blank y).1, (blank y).2) := by unfold hComma; rw [if_neg (by omega)]
        have HCM := Lib.hid hcm
        have hd0 : decide ((0 : Int) < (m : Int)) = true := by simp; omega
        clear hcm
        have e7 : IntKind.u64.wrap (s.length : Int) = (s.length : Int) := by rw [IntKind.wrap_u64]; omega
        go_wp2_with (first
          | (go_at_call 58; with_reducible refine (blank_any HS.out.st).mono ?_; rintro e2 w3 ⟨rfl, hs3, ho3⟩; have l3 := blank_length y; have q1 := QB.out ho3; have H3 := Lib.hid (And.intro hs3 ho3); clear hs3 ho3)
          | (go_at_call 93; with_reducible refine (digits_any s.length (by omega) _).mono ?_; rintro e2 w4 ⟨rfl, rfl⟩; have l4 : (hDig s.length).length ≤ 20 := hDig_length 19 s.length (by omega); have H4 := H3)
          | (go_at_call 58; with_reducible refine (blank_any H4.out.1).mono ?_; rintro e2 w5 ⟨rfl, hs5, ho5⟩; have l5 := blank_length ((blank y).2); have H5 := Lib.hid (And.intro hs5 (H4.out.2.trans ho5)); clear hs5 ho5))
        go_roundw
        case rel =>
          have hst := HS.out.step HKID.out (by rw [HCM.out, hKid_list, HV.out]) (by rw [HCM.out, hKid_list, HV.out]) H5.out.1 H5.out.2
          refine ⟨m + 1, _, _, hst, by go_num, ?_⟩
          simp
        case measure => (have := HLT.out; simp [intOf]; omega)
      · have hcm : hComma m y = ([], y) := by unfold hComma; rw [if_pos (by omega)]
        have HCM := Lib.hid hcm
        have hd0 : decide ((0 : Int) < (m : Int)) = false := by simp; omega
        have q1 := QB.out (Only.refl _ _)
        clear hcm
        have e7 : IntKind.u64.wrap (s.length : Int) = (s.length : Int) := by rw [IntKind.wrap_u64]; omega
        go_wp2_with (first
          | (go_at_call 93; with_reducible refine (digits_any s.length (by omega) _).mono ?_; rintro e2 w4 ⟨rfl, rfl⟩; have l4 : (hDig s.length).length ≤ 20 := hDig_length 19 s.length (by omega); have H4 := Lib.hid (And.intro HS.out.st (Only.refl sb wr)))
          | (go_at_call 58; with_reducible refine (blank_any H4.out.1).mono ?_; rintro e2 w5 ⟨rfl, hs5, ho5⟩; have l5 := blank_length (y); have H5 := Lib.hid (And.intro hs5 (H4.out.2.trans ho5)); clear hs5 ho5))
        go_roundw
        case rel =>
          have hst := HS.out.step HKID.out (by rw [HCM.out, hKid_list, HV.out]) (by rw [HCM.out, hKid_list, HV.out]) H5.out.1 H5.out.2
          refine ⟨m + 1, _, _, hst, by go_num, ?_⟩
          simp
        case measure => (have := HLT.out; simp [intOf]; omega)
    · obtain rfl : m = list.length := by have := HS.out.le; have := HKN.out.1; omega
      have he := HS.out.eq
      rw [hFrom_end _ _ _ _ _ _ (by have := HKN.out.1; omega)] at he
      have HE2 := Lib.hid he
      clear he
      go_wp2
      go_ret
      have h1 := congrArg Prod.fst HE2.out
      have h2 := congrArg Prod.snd HE2.out
      simp only [List.nil_append] at h1 h2
      rw [h1, h2]
      exact ⟨rfl, HS.out.st, HO2.out.trans HS.out.only⟩
set_option maxRecDepth 100000 in
/-- value of a field. -/
theorem valueF_any {sb x B0 : Nat} {w : World} {f : HF} {lv : Value} (h : StyleAt sb w x) (hok : f.Ok) (hn : NSB w B0 lv f.list) (hB : B0 ≤ sb) :
    Calls Tryz.prog 60 #[.pointer (some ⟨sb, 0, none⟩), .agg (fcells f lv).toArray] w (ValR sb x w f) := by
  obtain ⟨la, lc, rfl⟩ := hn.slice
  obtain ⟨name, kind, is, minus, num, text, list⟩ := f
  have hk := hok.kind
  obtain h4 | h4 | h4 | h4 : kind < 4 ∨ kind = 4 ∨ kind = 5 ∨ kind = 6 := by simp only at hk; omega
  · unfold ValR
    rw [tree_plain h4, hTree_scalar (d := 1) (t := .mk kind is minus num text [] []) h4]
    have ht : text.length ≤ 200 := (hok.texts text (by simp)).1
    exact value_low (text := text) h h4 hok.num (fun _ => by omega)
  · subst h4; exact value_4 h hok hn hB
  · subst h4; exact value_5 (B0 := B0) h hok
  · subst h4; exact value_6 h hok hn hB
end Go.Proofs.YtppkpcijmfdfmaaGreatDoor
