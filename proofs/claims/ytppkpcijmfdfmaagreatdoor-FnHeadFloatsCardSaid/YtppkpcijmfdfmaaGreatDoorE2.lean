/- From a law's start to what the walks ask. -/
import Derived.Test.YtppkpcijmfdfmaaGreatDoorE1
import Derived.Test.YtppkpcijmfdfmaaGreatDoorTie
import Derived.Test.YtppkpcijmfdfmaaGreatDoorW89
import Derived.Lay
import Derived.ReadAgain
import Derived.Carry
import Derived.LaidLaws
import Derived.LaidMore
import Derived.OpenShut
import Derived.ProofKit
import GoSem.PinnedTables
import Derived.Lib.LaidU8T
import Derived.Deep.DeepHandedRow
import Derived.SevenTiedAt
import Derived.Stop.Joined
set_option linter.unusedVariables false
set_option linter.unusedSimpArgs false
namespace Go.Proofs.YtppkpcijmfdfmaaGreatDoor
open Go.RowKit Go.ChangeShapes Go.WideShapes

theorem Tryz.own : ownKnob Tryz.prog.godebug = none := by kernel_rfl
theorem Tryz.laidOut : laidOutB Tryz.prog = true := by kernel_rfl
theorem Tryz.c4 : Tryz.prog.cellsOf 4 = 1 := by kernel_rfl
theorem Tryz.c5 : Tryz.prog.cellsOf 5 = 1 := by kernel_rfl
theorem Tryz.c9 : Tryz.prog.cellsOf 9 = 1 := by kernel_rfl
theorem Tryz.c23 : Tryz.prog.cellsOf 23 = 1 := by kernel_rfl
theorem Tryz.c29 : Tryz.prog.cellsOf 29 = 1 := by kernel_rfl
theorem add_add (a : Addr) (i j : Nat) : (a.add i).add j = a.add (i + j) := by
  simp only [Addr.add]
  repeat' split
  all_goals simp_all <;> omega

section
variable {H : Type} {enc : TypeId × Value → H} {W : World} {sp : Nat → Bool} {held : Bool}

theorem names_open {fuel : Nat} {cs : List Value} {x : DataW H × List MemPlace} (h : DataW.trod enc Tryz.prog W 0 sp held fuel 29 cs = some x) :
    ∃ v l, cs = [v] ∧ NSB W W.heap.size v l ∧ l.length ≤ 9223372036854775807 := by
  rcases DataW.trod_slice Tryz.underlying29 h with ⟨rfl, _⟩ | ⟨a, len, cap, elems, rest, n, rfl, rfl, _, _, hlc, hcm, hlen, hel, _, _⟩
  · exact ⟨_, [], rfl, Or.inl ⟨none, 0, rfl, rfl⟩, by decide⟩
  have key : ∀ i, i < len → ∃ s : Bs, W.cell? (a.add i) = some (.string (B s)) := by
    intro i hi
    have e := hel i hi
    rw [List.getElem?_eq_getElem (by omega), Tryz.c9, Nat.mul_one] at e
    obtain ⟨cs', h1, h2⟩ := Option.bind_eq_some_iff.1 e
    obtain ⟨_, hl, hc⟩ := World.cells?_some h1
    obtain ⟨s, rfl, _, _⟩ := DataW.trod_string Tryz.underlying9 h2
    have := hc 0 (by omega)
    rw [show (a.add i).add 0 = a.add i from by simp [Addr.add]] at this
    exact ⟨s.data.toList, this.trans rfl⟩
  have hl9 : len ≤ 9223372036854775807 := Nat.le_trans hlc hcm
  by_cases h0 : len = 0
  · subst h0
    exact ⟨_, [], rfl, Or.inl ⟨_, _, rfl, rfl⟩, by decide⟩
  obtain ⟨f, hf⟩ : ∃ f : Nat → Bs, ∀ i, i < len → W.cell? (a.add i) = some (.string (B (f i))) :=
    ⟨fun i => if hi : i < len then (key i hi).choose else [], fun i hi => by simp only [hi, dite_true]; exact (key i hi).choose_spec⟩
  obtain ⟨b, off, sp'⟩ := a
  have h1 := hf 0 (by omega)
  obtain rfl : sp' = none := spot_of h1
  refine ⟨_, (List.range len).map f, rfl, Or.inr ⟨b, off, cap, by simp, ⟨block_lt h1, by simpa using hlc⟩, fun i s hi => ?_⟩, by simpa using hl9⟩
  simp only [List.getElem?_map, Option.map_eq_some_iff] at hi
  obtain ⟨j, hj, rfl⟩ := hi
  obtain ⟨hlt, rfl⟩ := List.getElem?_eq_some_iff.1 hj
  simp only [List.length_range, List.getElem_range] at hlt ⊢
  rw [← add_none]
  exact hf _ hlt

theorem one_of {t : TypeId} {cs : List Value} {o : Nat} (hc : Tryz.prog.cellsOf t = 1) {v : Value} (h : (cs.drop o).take (Tryz.prog.cellsOf t) = [v]) : cs[o]? = some v := by
  rw [hc] at h
  have := congrArg (·[0]?) h
  simpa [List.getElem?_take, List.getElem?_drop] using this

theorem trees_below {W' : World} : ∀ {ts : List TypeId} {vs : List Value} {ds : List (DataW H)} {ps : List MemPlace}, (∀ t ∈ ts, Tryz.prog.readableRec t = true ∧ t < Tryz.prog.types.size) →
    DataW.TrodAll enc Tryz.prog W 0 (fun _ => true) true ts vs ds ps → Below W.heap.size W W' → (∀ x ∈ ps, x.block < W.heap.size) →
    DataW.TrodAll enc Tryz.prog W' 0 (fun b => decide (b < W.heap.size)) true ts vs ds ps
  | [], _, _, _, _, h, _, _ => by
    obtain ⟨rfl, rfl, rfl⟩ := trodAll_nil h
    exact trodAll_mk0
  | _ :: _, _, _, _, ht, h, hb, hlt => by
    obtain ⟨v, vs1, d, ds1, a, b, rfl, rfl, rfl, h1, h2⟩ := trodAll_cons h
    refine trodAll_cons_mk (Below.trod Tryz.laidOut (ht _ (by simp)).1 (ht _ (by simp)).2 h1 hb (fun x hx => hlt x (by simp [hx]))) (trees_below (fun t h => ht t (by simp [h])) h2 hb (fun x hx => hlt x (by simp [hx])))
end

/-! ### What the listed variables give -/
theorem Tryz.n8 : Tryz.prog.globalNamed "strconv.ErrSyntax" = some 8 := by kernel_rfl
theorem Tryz.n9 : Tryz.prog.globalNamed "strconv.ErrRange" = some 9 := by kernel_rfl
theorem Tryz.y8 : (Tryz.prog.globals[8]?).map (·.type) = some 104 := by kernel_rfl
theorem Tryz.y9 : (Tryz.prog.globals[9]?).map (·.type) = some 104 := by kernel_rfl
theorem Tryz.u8 : U8Extra Tryz.prog Tryz.laysValid_ren := ⟨by kernel_rfl, by kernel_rfl, by kernel_rfl, by kernel_rfl, by kernel_rfl, by kernel_rfl, by kernel_rfl⟩
set_option maxRecDepth 100000 in
theorem first_eq : Pinned.utf8First = Lib.firstData := by kernel_rfl
set_option maxRecDepth 100000 in
theorem accept_eq : (Rows.laid_unicode_utf8_acceptRanges : DataW Unit) = Lib.acceptData := by kernel_rfl
theorem err_of_reads {W : World} {n : String} {g : Nat} {s : String} {d : DataW Unit} (hn : Tryz.prog.globalNamed n = some g) (hy : (Tryz.prog.globals[g]?).map (·.type) = some 104) (h : Lib.VarReads Tryz.prog W n (.iface s d)) :
    ∃ ev, W.cell? ⟨g, 0, none⟩ = some ev ∧ (ev = .nilIface ∨ ∃ te pe, ev = .iface te pe) := by
  obtain ⟨g', t, cs, fuel, p, hg, ht, hv, hd⟩ := h
  obtain rfl := Option.some.inj (hn.symm.trans hg)
  obtain rfl := Option.some.inj (hy.symm.trans ht)
  obtain ⟨_, u, v, e, _, _⟩ := iface_of_trod Tryz.underlying104 hd
  refine ⟨.iface u v, ?_, Or.inr ⟨_, _, rfl⟩⟩
  rw [World.var?_cell hg hv 0, ← Array.getElem?_toList, e]
  rfl
set_option maxRecDepth 100000 in
theorem base_of {L : List (String × DataW Unit)} {W : World} (h : laidMet Tryz.prog L W)
    (m3 : ("strconv.ErrRange", Rows.laid_strconv_ErrRange) ∈ L) (m4 : ("strconv.ErrSyntax", Rows.laid_strconv_ErrSyntax) ∈ L) (k20 : ("math/bits.deBruijn64tab", Rows.laid_math_bits_deBruijn64tab) ∈ L)
    (k2 : ("pub-bullarium/pub/fastjson/fastfloat.float64pow10", Rows.laid_pub_bullarium_pub_fastjson_fastfloat_float64pow10) ∈ L)
    (k5 : ("math.pow10postab32", Rows.laid_math_pow10postab32) ∈ L) (k6 : ("math.pow10tab", Rows.laid_math_pow10tab) ∈ L)
    (k11 : ("internal/strconv.optimize", Rows.laid_internal_strconv_optimize) ∈ L) (k12 : ("internal/strconv.float64info", Rows.laid_internal_strconv_float64info) ∈ L)
    (k14 : ("internal/strconv.powtab", Rows.laid_internal_strconv_powtab) ∈ L) (k16 : ("internal/strconv.pow10Tab", Rows.laid_internal_strconv_pow10Tab) ∈ L)
    (k18 : ("internal/strconv.leftcheats", Rows.laid_internal_strconv_leftcheats) ∈ L) : Base W :=
  gd_of h ⟨err_of_reads Tryz.n8 Tryz.y8 (Lib.laidMet.reads h m4), err_of_reads Tryz.n9 Tryz.y9 (Lib.laidMet.reads h m3)⟩ k20 k2 k5 k6 k11 k12 k14 k16 k18
set_option maxRecDepth 100000 in
theorem tabs_of {L : List (String × DataW Unit)} {W : World} (h : laidMet Tryz.prog L W) (m1 : ("unicode/utf8.first", Rows.laid_unicode_utf8_first) ∈ L) (m2 : ("unicode/utf8.acceptRanges", Rows.laid_unicode_utf8_acceptRanges) ∈ L) : TabV W :=
  utf8Tabs_of_readsT (.of196 Tryz.laysValid) Tryz.u8 (first_eq ▸ Lib.laidMet.reads h m1) (accept_eq ▸ Lib.laidMet.reads h m2)

section
variable {H : Type} {enc : TypeId × Value → H}
/-- A law that answers true and lets everything be. -/
theorem true_post {f : Func} {s : ChangeSpec} {W W' : World} {args : Array Value} {ds gs : List (DataW H)} {before : List MemPlace}
    (hW : DataW.Whole enc Tryz.prog f.params.toList s.vars false W args.toList ds gs before) (hv : s.vars = [])
    (hs : (s.fn H (ds ++ gs)).results = [.lit (.bool true)] ∧ (s.fn H (ds ++ gs)).args = ds ∧ (s.fn H (ds ++ gs)).vars = []) (hr : f.resultTypes = #[4])
    (hp : (f.params.toList.all fun t => Tryz.prog.readableRec t && decide (t < Tryz.prog.types.size)) = true) (hb : Below W.heap.size W W') :
    s.post enc Tryz.prog f false true false false W args (.bool true) W' := by
  have hW' := hW
  obtain ⟨p, q, hA, hV, rfl, _, _⟩ := hW
  rw [hv] at hV
  obtain ⟨rfl, rfl⟩ := trodVars_none hV
  refine ⟨ds, _, _, [], p, [], hW', ?_, ?_, ?_, hb.frame _, fun h => by cases h⟩
  · rw [hs.1, hr]; exact trodAll_mk1 (shut_bool Tryz.underlying4 _)
  · rw [hs.2.1]; exact trees_below (fun t ht => by have := List.all_eq_true.1 hp t ht; simpa using this) hA hb (fun x hx => hW'.lt x (by simp [hx]))
  · rw [hs.2.2, hv]; rfl
end
end Go.Proofs.YtppkpcijmfdfmaaGreatDoor
