/- The walks from bytes to a header: bytes.Clone, the parser, HeaderParse. -/
import Derived.Test.YtppkpcijmfdfmaaGreatDoorC7
import Derived.Lib.AppendStr
import Derived.Lib.ConvBytes
import Derived.Deep.RegionWith
set_option linter.unusedVariables false
set_option linter.unusedSimpArgs false
namespace Go.Proofs.YtppkpcijmfdfmaaGreatDoor
open Go.RowKit
attribute [local go_sem] B_size B_get B_lit B_ext_to B_ext B_toList B_app

/-- A slice of bytes, by what it holds. -/
def BA (w : World) (v : Value) (l : Bs) : Prop :=
  (v = .slice none 0 0 ∧ l = []) ∨ ∃ b off c, v = .slice (some ⟨b, off, none⟩) l.length c ∧ b < w.heap.size ∧ ∀ (i : Nat) u, l[i]? = some u → w.cell? ⟨b, off + i, none⟩ = some (.int .u8 u.toNat)
theorem BA.keep {w w' : World} {v : Value} {l : Bs} (h : BA w v l) (hs : w.heap.size ≤ w'.heap.size) (hb : ∀ k, v.ownBlock = some k → w'.heap[k]? = w.heap[k]?) : BA w' v l := by
  rcases h with h | ⟨b, off, c, rfl, hlt, hc⟩
  · exact Or.inl h
  · exact Or.inr ⟨b, off, c, rfl, by omega, fun i u hu => (World.cell?_of_block (a := ⟨b, off + i, none⟩) (hb b rfl)).trans (hc i u hu)⟩
theorem BA.lt {w : World} {v : Value} {l : Bs} (h : BA w v l) (k : Nat) (hk : v.ownBlock = some k) : k < w.heap.size := by
  rcases h with ⟨rfl, _⟩ | ⟨b, off, c, rfl, hlt, hc⟩
  · cases hk
  · cases hk; exact hlt
theorem BA.below {w w' : World} {v : Value} {l : Bs} (h : BA w v l) (hb : Below w.heap.size w w') : BA w' v l := h.keep hb.size fun k hk => hb.block k (h.lt k hk)

def nums (l : Bs) : List Int := l.map fun u => (u.toNat : Int)
theorem nums_getD (l : Bs) (i : Nat) (u : UInt8) (h : l[i]? = some u) : (nums l).getD i 0 = u.toNat := by
  unfold nums; simp [List.getD, h]
theorem strOfNums_nums (l : Bs) : strOfNums (nums l) = B l := by
  unfold strOfNums nums B
  congr 2
  rw [List.map_map]
  conv => rhs; rw [← List.map_id l]
  refine List.map_congr_left fun u _ => ?_
  simp
theorem BA.of_row {w : World} {base : Nat} {v : Value} {l : Bs} (h : w.ownsRow base 5 1 v l.length (l.map fun u => Value.int .u8 u.toNat)) : BA w v l := by
  rcases h.2 with ⟨rfl, h0⟩ | ⟨g, cap, cur, rfl, hb, hg, hnc, hcm, hcs, htake⟩
  · exact Or.inl ⟨rfl, List.eq_nil_of_length_eq_zero h0⟩
  · refine Or.inr ⟨g, 0, cap, rfl, ?_, fun i u hu => ?_⟩
    · rcases Nat.lt_or_ge g w.heap.size with h | h
      · exact h
      · rw [Array.getElem?_eq_none h] at hg; cases hg
    · have hu2 : (l.map fun u => Value.int .u8 u.toNat)[i]? = some (.int .u8 u.toNat) := by simp [hu]
      have hi : i < l.length * 1 := by
        rcases Nat.lt_or_ge i l.length with h | h
        · omega
        · rw [List.getElem?_eq_none h] at hu; cases hu
      rw [← htake, List.getElem?_take_of_lt hi, Array.getElem?_toList] at hu2
      unfold World.cell?
      simp only [hg]
      simpa using hu2

theorem clone_any (w : World) (v : Value) (l : Bs) (h : BA w v l) (hl : l.length < 4294967296) :
    Calls Tryz.prog 29 #[v] w fun e w' => ∃ v', e = .returned v' ∧ BA w' v' l ∧ Below w.heap.size w w' ∧ ∀ k, v'.ownBlock = some k → w.heap.size ≤ k := by
  rcases h with ⟨rfl, rfl⟩ | ⟨b, off, c, rfl, hlt, hc⟩
  · refine (Tryz.bytes_Clone_nil 0 0 w).mono ?_
    rintro e w' ⟨rfl, rfl⟩
    exact ⟨_, rfl, Or.inl ⟨rfl, rfl⟩, Below.refl _ _, fun k hk => by cases hk⟩
  · refine (Tryz.bytes_Clone_at ⟨b, off, none⟩ l.length c (nums l) w (by simp [nums]) (by omega) fun i hi => ?_).mono ?_
    · rw [nums_getD l i l[i] (List.getElem?_eq_getElem hi), Addr.add_lit]
      exact hc i _ (List.getElem?_eq_getElem hi)
    · rintro e w' ⟨v', rfl, hown, hne, hb⟩
      refine ⟨v', rfl, BA.of_row (base := w.heap.size) (by simpa [nums, List.map_map, Function.comp_def] using hown), hb, fun k hk => ?_⟩
      rcases hown.2 with ⟨rfl, _⟩ | ⟨g, cap, cur, rfl, hbg, _⟩
      · cases hk
      · cases hk; exact hbg

theorem b2s_any (w : World) (v : Value) (l : Bs) (h : BA w v l) : Calls Tryz.prog 128 #[v] w fun e w' => e = .returned (.string (B l)) ∧ w = w' := by
  rcases h with ⟨rfl, rfl⟩ | ⟨b, off, c, rfl, hlt, hc⟩
  · have hr := run_convert_bytes_nil (P := Tryz.prog) w 27 5 Tryz.underlying27 Tryz.underlying5 0 0 9 Tryz.underlying9
    go_enter Tryz.func128, Tryz.ntmps128
    go_wp2
    go_ret
    exact ⟨rfl, rfl⟩
  · have hr := run_convert_bytes_arg (P := Tryz.prog) w 27 5 Tryz.underlying27 Tryz.underlying5 b off l.length c (nums l) (by simp [nums]) (fun i hi => by
      rw [nums_getD l i l[i] (List.getElem?_eq_getElem hi)]; exact hc i _ (List.getElem?_eq_getElem hi)) 9 Tryz.underlying9
    rw [strOfNums_nums] at hr
    clear hc
    go_enter Tryz.func128, Tryz.ntmps128
    go_wp2
    go_ret
    exact ⟨rfl, rfl⟩

theorem cacheReset_any (k o : Nat) (w : World) (h0 : w.cell? ⟨k, o, none⟩ = some (.slice none 0 0)) (f0 : w.frozen? ⟨k, o, none⟩ = false) :
    Calls Tryz.prog 143 #[.pointer (some ⟨k, o, none⟩)] w fun e w' => e = .returned (.tuple #[]) ∧ w.setCell ⟨k, o, none⟩ (.slice none 0 0) = w' := by
  go_enter Tryz.func143, Tryz.ntmps143
  go_wp2
  refine wp_loop_once ?_
  go_wp2
  go_end0
  exact ⟨rfl, rfl⟩
end Go.Proofs.YtppkpcijmfdfmaaGreatDoor

/- The walk of Parser.Parse. -/
namespace Go.Proofs.YtppkpcijmfdfmaaGreatDoor
open Go.RowKit
attribute [local go_sem] B_size B_get B_lit B_ext_to B_ext B_toList B_app

/-- What a whole text's reading leaves behind. -/
structure After (pb : Nat) (w w' : World) : Prop where
  os : w'.os = w.os
  tape : w'.tape = w.tape
  output : w'.output = w.output
  size : w.heap.size ≤ w'.heap.size
  block : ∀ k, k < w.heap.size → k ≠ pb → w'.heap[k]? = w.heap[k]?
/-- The cells of values that were read. -/
def Rd (pb : Nat) (w w' : World) (k _o : Nat) : Prop := w.heap.size ≤ k ∧ k < w'.heap.size ∧ k ≠ pb
def PRes (pb : Nat) (w : World) (r : Option J) (e : Ending) (w' : World) : Prop :=
  After pb w w' ∧ match r with
  | some j => ∃ k o, e = .returned (.tuple #[.pointer (some ⟨k, o, none⟩), .nilIface]) ∧ RepV w' (Rd pb w w') k o j
  | none => ∃ T v, e = .returned (.tuple #[.pointer none, .iface T v])

theorem ci_start (w : World) (cb co : Nat) (h : w.cell? ⟨cb, co, none⟩ = some (.slice none 0 0)) (f : w.frozen? ⟨cb, co, none⟩ = false) (hl : cb < w.heap.size) : CI w cb co (.slice none 0 0) 0 :=
  ⟨h, f, hl, ⟨[], Or.inl ⟨rfl, rfl, rfl⟩⟩, by simp [Value.ownBlock]⟩

theorem info5 : (Tryz.prog.info? 5).map (fun i => (i.zero, i.size, i.bytes)) = some (some (.int .u8 0), 1, 1) := by kernel_rfl

/-- The worlds in which the reader of values begins. -/
theorem parse_mid {pb : Nat} {w w2 : World} {v : Value} {s : Bs} (h0 : w.cell? ⟨pb, 0, none⟩ = some (.slice none 0 0)) (h1 : w.cell? ⟨pb, 1, none⟩ = some (.slice none 0 0))
    (f0 : w.frozen? ⟨pb, 0, none⟩ = false) (f1 : w.frozen? ⟨pb, 1, none⟩ = false) (hlt : pb < w.heap.size) (hr : w2.ownsRow w.heap.size 5 1 v s.length (s.map fun u => Value.int .u8 u.toNat))
    (hg : w.grownBy w2 none) :
    Below w.heap.size w w2 ∧ w2.cell? ⟨pb, 0, none⟩ = some (.slice none 0 0) ∧ w2.frozen? ⟨pb, 0, none⟩ = false ∧
    (w2.setCell ⟨pb, 0, none⟩ v).cell? ⟨pb, 1, none⟩ = some (.slice none 0 0) ∧ (w2.setCell ⟨pb, 0, none⟩ v).frozen? ⟨pb, 1, none⟩ = false ∧
    ((w2.setCell ⟨pb, 0, none⟩ v).setCell ⟨pb, 1, none⟩ (.slice none 0 0)).cell? ⟨pb, 0, none⟩ = some v ∧
    BA ((w2.setCell ⟨pb, 0, none⟩ v).setCell ⟨pb, 1, none⟩ (.slice none 0 0)) v s ∧
    CI ((w2.setCell ⟨pb, 0, none⟩ v).setCell ⟨pb, 1, none⟩ (.slice none 0 0)) pb 1 (.slice none 0 0) 0 := by
  have hb : Below w.heap.size w w2 := ⟨hg.os, hg.tape, hg.output, hg.size, fun k hk => hg.block k hk fun e => by cases e⟩
  have c0 := (hb.cell (p := ⟨pb, 0, none⟩) hlt).trans h0
  have g0 := (hb.frozen (p := ⟨pb, 0, none⟩) hlt).trans f0
  have c1 := (hb.cell (p := ⟨pb, 1, none⟩) hlt).trans h1
  have g1 := (hb.frozen (p := ⟨pb, 1, none⟩) hlt).trans f1
  have d1 : (w2.setCell ⟨pb, 0, none⟩ v).cell? ⟨pb, 1, none⟩ = some (.slice none 0 0) := ((Same.setCell w2 v (by simp)).cell).trans c1
  have d2 : (w2.setCell ⟨pb, 0, none⟩ v).frozen? ⟨pb, 1, none⟩ = false := by simpa using g1
  refine ⟨hb, c0, g0, d1, d2, ?_, ?_, ?_⟩
  · rw [(Same.setCell (w2.setCell ⟨pb, 0, none⟩ v) (.slice none 0 0) (by simp)).cell]
    exact World.cell?_setCell_same _ _ _ c0
  · have hlt2 := hr.lt
    refine (BA.of_row hr).keep (by simp) fun k hk => ?_
    have := hlt2 k hk
    rw [Below.heap_setCell _ _ _ _ (by simp; omega), Below.heap_setCell _ _ _ _ (by simp; omega)]
  · refine ci_start _ pb 1 (World.cell?_setCell_same _ _ _ d1) (by simpa using g1) (by have := hb.size; simp; omega)

theorem parse_end {pb : Nat} {w w2 w3 w4 : World} {v : Value} {sv : Value} {n : Nat} (hb : Below w.heap.size w w2) (h3 : ((w2.setCell ⟨pb, 0, none⟩ v).setCell ⟨pb, 1, none⟩ (.slice none 0 0)) = w3)
    (k : Nat) (hf : Fr pb 1 (w3.drewN k) (.slice none 0 0) 0 w4 sv n) : After pb w w4 := by
  subst h3
  have hf : Fr pb 1 ((w2.setCell ⟨pb, 0, none⟩ v).setCell ⟨pb, 1, none⟩ (.slice none 0 0)) (.slice none 0 0) 0 w4 sv n := ⟨hf.os, hf.tape, hf.output, hf.size, fun k o hk hl => ⟨(hf.keep k o hk hl).cell, (hf.keep k o hk hl).free, (hf.keep k o hk hl).shape⟩, hf.block, hf.vs, hf.le⟩
  refine ⟨hf.os.trans hb.os, hf.tape.trans hb.tape, hf.output.trans hb.output, ?_, fun k hk hne => ?_⟩
  · have h1 := hf.size
    have h2 := hb.size
    simp at h1
    omega
  · rw [hf.block k (by have := hb.size; simp; omega) hne (by simp [Value.ownBlock]), Below.heap_setCell _ _ _ _ (by simpa using hne), Below.heap_setCell _ _ _ _ (by simpa using hne), hb.block k hk]
theorem parse_rep {pb : Nat} {w w2 w3 w4 : World} {v : Value} {sv : Value} {n k o : Nat} {j : J} (hb : Below w.heap.size w w2) (h3 : ((w2.setCell ⟨pb, 0, none⟩ v).setCell ⟨pb, 1, none⟩ (.slice none 0 0)) = w3) (hlt : pb < w.heap.size)
    (m : Nat) (h : RepV w4 (Nw pb 1 (w3.drewN m) (.slice none 0 0) 0 w4 sv n) k o j) : RepV w4 (Rd pb w w4) k o j := by
  subst h3
  refine h.mono fun k o h => ⟨⟨?_, h.2.1, ?_⟩, Same.refl _ _ _⟩
  all_goals
    rcases h.1 with h1 | h1
    · have h2 : ((w2.setCell ⟨pb, 0, none⟩ v).setCell ⟨pb, 1, none⟩ (.slice none 0 0)).heap.size ≤ k := h1
      have := hb.size
      simp at h2
      omega
    · exact absurd h1.1 (by simp [Value.ownBlock])
theorem After.below {pb : Nat} {w w' w'' : World} (h : After pb w w') (hb : Below w'.heap.size w' w'') : After pb w w'' :=
  ⟨hb.os.trans h.os, hb.tape.trans h.tape, hb.output.trans h.output, Nat.le_trans h.size hb.size, fun k hk hne => (hb.block k (Nat.lt_of_lt_of_le hk h.size)).trans (h.block k hk hne)⟩

set_option maxRecDepth 100000 in
set_option maxHeartbeats 2000000 in
theorem parse_any (pb : Nat) (l : Bs) (w : World) (h0 : w.cell? ⟨pb, 0, none⟩ = some (.slice none 0 0)) (h1 : w.cell? ⟨pb, 1, none⟩ = some (.slice none 0 0))
    (f0 : w.frozen? ⟨pb, 0, none⟩ = false) (f1 : w.frozen? ⟨pb, 1, none⟩ = false) (hlt : pb < w.heap.size) (hl : l.length < 4294967000) :
    Calls Tryz.prog 127 #[.pointer (some ⟨pb, 0, none⟩), .string (B l)] w (PRes pb w (jParse l)) := by
  have HK : Hid ((jSkip l).length ≤ l.length) := jSkip_len l
  obtain ⟨i5, hi, hz0, hz1, hz2⟩ := info_parts info5
  have HI := Lib.hid hi
  have HZ0 := Lib.hid hz0
  have HZ1 := Lib.hid hz1
  have HZ2 := Lib.hid hz2
  clear hi hz0 hz1 hz2
  have HH := Lib.hid (⟨h1, f1, hlt⟩ : w.cell? ⟨pb, 1, none⟩ = some (.slice none 0 0) ∧ w.frozen? ⟨pb, 1, none⟩ = false ∧ pb < w.heap.size)
  have HV := Lib.hid fun w3 hci => val_any pb 1 4294967100 (by omega) 300 (by omega) (jSkip l) w3 (.slice none 0 0) 0 hci (by have := HK.out; omega)
  have HP : Hid (jParse l = match jVal 300 (jSkip l) with | none => none | some (v, t) => if jSkip t = [] then some v else none) := rfl
  have hok := HK.out
  clear h1 f1 hlt
  go_enter Tryz.func127, Tryz.ntmps127
  go_wp2_with (first
  | (go_at_call 142; refine (skip_any _ _ (by have := HK.out; omega)).mono ?_; rintro e w' ⟨rfl, rfl⟩)
  | (at_builtin; have hi := HI.out; have hz0 := HZ0.out; have hz1 := HZ1.out; have hz2 := HZ2.out; refine Lib.wpList_append_own_string _ rfl (.tmp 16) (.tmp 17) 27 9 rfl w.heap.size 5 i5 Tryz.underlying27 Tryz.underlying9 hi hz0 hz1 hz2 (.slice none 0 0) 0 [] rfl (World.ownsRow_nil _ _ _ _) (B (jSkip l)) rfl ?hmax ?hbytes (Nat.le_refl _) ?_))
  case hmax => simp only [B_size]; unfold maxLen; omega
  case hbytes => simp only [B_size]; omega
  intro v w2 hrow hgb hnil
  obtain ⟨hb2, c0, g0, d1, d2, d0, hba, hci⟩ := parse_mid h0 HH.out.1 f0 HH.out.2.1 HH.out.2.2 hrow hgb
  have HB2 := Lib.hid hb2
  have HBA := Lib.hid hba
  have HC := Lib.hid hci
  clear hb2 hba hci hrow hgb hnil h0 f0
  obtain ⟨av, an, ac, rfl⟩ : ∃ a n c, v = .slice a n c := by
    rcases HBA.out with ⟨h, _⟩ | ⟨b, off, c, h, _⟩
    · exact ⟨_, _, _, h⟩
    · exact ⟨_, _, _, h⟩
  clear hi hz0 hz1 hz2 HI HZ0 HZ1 HZ2
  have HJ : Hid ((jVal 300 (jSkip l) = none ∧ jParse l = none) ∨ ∃ j t, jVal 300 (jSkip l) = some (j, t) ∧ t.length ≤ (jSkip l).length ∧ ((jSkip t = [] ∧ jParse l = some j) ∨ ∃ c u, jSkip t = c :: u ∧ jParse l = none)) := by
    rw [HP.out]
    cases hj : jVal 300 (jSkip l) with
    | none => exact Or.inl ⟨rfl, rfl⟩
    | some r =>
      obtain ⟨j, t⟩ := r
      refine Or.inr ⟨j, t, rfl, Nat.le_of_lt (jVal_len _ _ _ _ hj), ?_⟩
      cases ht : jSkip t with
      | nil => exact Or.inl ⟨rfl, by simp [ht]⟩
      | cons c u => exact Or.inr ⟨c, u, rfl, by simp [ht]⟩
  clear HP
  go_wp2_with (go_at_call 143; refine (cacheReset_any _ _ _ d1 d2).mono ?_; rintro e w3 ⟨rfl, h3⟩; rw [h3] at d0 HBA HC; have H3 := Lib.hid h3; clear h3 d1 d2 c0 g0)
  have HBA2 := Lib.hid (HBA.out.below (below_draws (Below.refl _ _) 1))
  have HCC := Lib.hid (HV.out _ (HC.out.below (below_draws (Below.refl _ _) 1)))
  clear HBA HC HV
  rcases HJ.out with ⟨hj, hp⟩ | ⟨j, t, hj, htl, hp⟩
  · rw [hj] at HCC
    have HE := Lib.hid hp
    clear hj hp HJ
    go_region_with (first
    | (go_at_call 128; refine (b2s_any _ _ _ HBA2.out).mono ?_; rintro e w' ⟨rfl, rfl⟩)
    | (go_at_call 144; refine HCC.out.mono ?_; rintro e w' ⟨p, x, T, tv, sv', n', rfl, hf⟩; have HF := Lib.hid hf; clear hf))
    all_goals go_wp2_with (go_at_call 109; refine (errorsNew_any _ _).mono ?_; rintro e w' ⟨rfl, rfl⟩)
    all_goals
      go_ret2
      rw [HE.out]
      exact ⟨(parse_end HB2.out H3.out 1 HF.out).below ((Below.refl _ _).alloc (Nat.le_refl _) _), _, _, rfl⟩
  · rw [hj] at HCC
    have htt := HK.out
    rcases hp with ⟨ht, hp⟩ | ⟨c, u, ht, hp⟩
    · have HE := Lib.hid hp
      have HT := Lib.hid ht
      clear hj hp HJ ht
      go_region_with (first
      | (go_at_call 128; refine (b2s_any _ _ _ HBA2.out).mono ?_; rintro e w' ⟨rfl, rfl⟩)
      | (go_at_call 144; refine HCC.out.mono ?_; rintro e w' ⟨k, o, sv', n', rfl, hX⟩; have HX := Lib.hid hX; clear hX))
      all_goals go_wp2_with (go_at_call 142; refine (skip_any _ _ (by omega)).mono ?_; rw [HT.out]; rintro e w' ⟨rfl, rfl⟩)
      all_goals
        go_ret2
        rw [HE.out]
        exact ⟨parse_end HB2.out H3.out 1 HX.out.2.1, _, _, rfl, parse_rep HB2.out H3.out HH.out.2.2 1 HX.out.2.2.2⟩
    · have HE := Lib.hid hp
      have HT := Lib.hid ht
      have z : ((u.length : Int) + 1 > 0) := by omega
      clear hj hp HJ ht
      go_region_with (first
      | (go_at_call 128; refine (b2s_any _ _ _ HBA2.out).mono ?_; rintro e w' ⟨rfl, rfl⟩)
      | (go_at_call 144; refine HCC.out.mono ?_; rintro e w' ⟨k, o, sv', n', rfl, hX⟩; have HX := Lib.hid hX; clear hX))
      all_goals go_wp2_with (first
        | (go_at_call 142; refine (skip_any _ _ (by omega)).mono ?_; rw [HT.out]; rintro e w' ⟨rfl, rfl⟩)
        | (go_at_call 109; refine (errorsNew_any _ _).mono ?_; rintro e w' ⟨rfl, rfl⟩))
      all_goals
        go_ret2
        rw [HE.out]
        exact ⟨(parse_end HB2.out H3.out 1 HX.out.2.1).below ((Below.refl _ _).alloc (Nat.le_refl _) _), _, _, rfl⟩
end Go.Proofs.YtppkpcijmfdfmaaGreatDoor

/- The walks of ParseBytes, HeaderParse, head. -/
namespace Go.Proofs.YtppkpcijmfdfmaaGreatDoor
open Go.RowKit
attribute [local go_sem] B_size B_get B_lit B_ext_to B_ext B_toList B_app

theorem parseBytes_any (pb : Nat) (v : Value) (l : Bs) (w : World) (hv : BA w v l) (h0 : w.cell? ⟨pb, 0, none⟩ = some (.slice none 0 0)) (h1 : w.cell? ⟨pb, 1, none⟩ = some (.slice none 0 0))
    (f0 : w.frozen? ⟨pb, 0, none⟩ = false) (f1 : w.frozen? ⟨pb, 1, none⟩ = false) (hlt : pb < w.heap.size) (hl : l.length < 4294967000) :
    Calls Tryz.prog 111 #[.pointer (some ⟨pb, 0, none⟩), v] w (PRes pb w (jParse l)) := by
  have HV := Lib.hid (b2s_any w v l hv)
  have HP := Lib.hid (parse_any pb l w h0 h1 f0 f1 hlt hl)
  clear hv h0 h1 f0 f1
  cases hj : jParse l with
  | none =>
    rw [hj] at HP
    go_enter Tryz.func111, Tryz.ntmps111
    go_wp2_with (first
    | (go_at_call 128; refine HV.out.mono ?_; rintro e w' ⟨rfl, rfl⟩)
    | (go_at_call 127; refine HP.out.mono ?_; rintro e w' ⟨ha, T, tv, rfl⟩; have HA := Lib.hid ha; clear ha))
    go_ret2
    exact ⟨HA.out, _, _, rfl⟩
  | some j =>
    rw [hj] at HP
    go_enter Tryz.func111, Tryz.ntmps111
    go_wp2_with (first
    | (go_at_call 128; refine HV.out.mono ?_; rintro e w' ⟨rfl, rfl⟩)
    | (go_at_call 127; refine HP.out.mono ?_; rintro e w' ⟨ha, k, o, rfl, hr⟩; have HA := Lib.hid ha; have HR := Lib.hid hr; clear ha hr))
    go_ret2
    exact ⟨HA.out, _, _, rfl, HR.out⟩

/-- A header that was read: what its block holds. -/
def HeadAt (B0 : Nat) (w : World) (r : Option J) (hb : Nat) : Prop :=
  B0 ≤ hb ∧ hb < w.heap.size ∧ (w.shape? hb).map (·.1) = some 173 ∧ match r with
  | some j => ∃ k o, w.cell? ⟨hb, 0, none⟩ = some (.pointer (some ⟨k, o, none⟩)) ∧ w.cell? ⟨hb, 1, none⟩ = some .nilIface ∧ RepV w (fun k _ => B0 ≤ k ∧ k < w.heap.size ∧ k ≠ hb) k o j
  | none => ∃ T v, w.cell? ⟨hb, 0, none⟩ = some (.pointer none) ∧ w.cell? ⟨hb, 1, none⟩ = some (.iface T v)
def HRes (w : World) (r : Option J) (e : Ending) (w' : World) : Prop :=
  Below w.heap.size w w' ∧ ∃ hb, e = .returned (.iface 171 (.pointer (some ⟨hb, 0, none⟩))) ∧ HeadAt w.heap.size w' r hb

theorem after_below {w w' : World} {o : Obj} (h : After w.heap.size (w.alloc o) w') : Below w.heap.size w w' := by
  have hs := h.size
  simp at hs
  exact ⟨h.os, h.tape, h.output, by omega, fun k hk => (h.block k (by simp; omega) (by omega)).trans (((Below.refl w.heap.size w).alloc (Nat.le_refl _) o).block k hk)⟩

theorem shape_new (w : World) (zs : Array Value) (e : TypeId) : ((w.alloc (.cells zs e)).shape? w.heap.size).map (·.1) = some e := by
  unfold World.shape?
  rw [show (w.alloc (.cells zs e)).heap[w.heap.size]? = some (.cells zs e) from heap_alloc_new w _]
  rfl

theorem headerParse_any (v : Value) (l : Bs) (w : World) (hv : BA w v l) (hl : l.length < 4294967000) :
    Calls Tryz.prog 96 #[v] w (HRes w (jParse l)) := by
  have HP := Lib.hid (parseBytes_any w.heap.size v l (w.alloc (.cells #[.slice none 0 0, .slice none 0 0] 190)) (hv.below ((Below.refl _ _).alloc (Nat.le_refl _) _))
    (by simp) (by simp) (by simp) (by simp) (by simp) hl)
  clear hv
  cases hj : jParse l with
  | none =>
    rw [hj] at HP
    go_enter Tryz.func96, Tryz.ntmps96
    go_wp2_with (go_at_call 111; refine HP.out.mono ?_; rintro e w' ⟨ha, T, tv, rfl⟩; have HA := Lib.hid ha; clear ha)
    go_ret
    have hb := after_below HA.out
    have hs := HA.out.size
    simp at hs
    refine ⟨hb.alloc (by omega) _, _, rfl, by omega, by simp, shape_new _ _ _, _, _, cell_new _ _ _ 0, cell_new _ _ _ 1⟩
  | some j =>
    rw [hj] at HP
    go_enter Tryz.func96, Tryz.ntmps96
    go_wp2_with (go_at_call 111; refine HP.out.mono ?_; rintro e w' ⟨ha, k, o, rfl, hr⟩; have HA := Lib.hid ha; have HR := Lib.hid hr; clear ha hr)
    go_ret
    have hb := after_below HA.out
    have hs := HA.out.size
    simp at hs
    refine ⟨hb.alloc (by omega) _, _, rfl, by omega, by simp, shape_new _ _ _, _, _, cell_new _ _ _ 0, cell_new _ _ _ 1, HR.out.mono ?_⟩
    rintro k o ⟨h1, h2, h3⟩
    simp at h1
    exact ⟨⟨by omega, by simp; omega, by omega⟩, Same.of_block _ (((Below.refl _ _).alloc (Nat.le_refl _) _).block k h2)⟩
theorem head_any (v : Value) (l : Bs) (w : World) (hv : BA w v l) (hl : l.length < 4294967000) :
    Calls Tryz.prog 62 #[v] w (HRes w (jParse l)) := by
  have HC := Lib.hid (clone_any w v l hv (by omega))
  clear hv
  go_enter Tryz.func62, Tryz.ntmps62
  go_wp2_with (first
  | (go_at_call 29; refine HC.out.mono ?_; rintro e w1 ⟨v1, rfl, hv1, hb1, hn1⟩; have HB := Lib.hid hb1; have HV := Lib.hid hv1; clear hb1 hv1 hn1)
  | (go_at_call 96; refine (headerParse_any v1 l w1 HV.out hl).mono ?_; rintro e w2 ⟨hb2, hb, rfl, hh⟩; have HB2 := Lib.hid hb2; have HH := Lib.hid hh; clear hb2 hh))
  go_ret
  have hs := HB.out.size
  refine ⟨HB.out.trans (HB2.out.mono hs), _, rfl, ?_⟩
  obtain ⟨h1, h2, hsh, h3⟩ := HH.out
  refine ⟨Nat.le_trans hs h1, h2, hsh, ?_⟩
  cases hj : jParse l with
  | none => rw [hj] at h3; exact h3
  | some j =>
    rw [hj] at h3
    obtain ⟨k, o, c0, c1, hr⟩ := h3
    exact ⟨k, o, c0, c1, hr.mono fun k o h => ⟨⟨Nat.le_trans hs h.1, h.2⟩, Same.refl _ _ _⟩⟩
end Go.Proofs.YtppkpcijmfdfmaaGreatDoor
