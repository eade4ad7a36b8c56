/- What the readers of numbers ask of the library's variables, from the list that a law's start gives. -/
import Derived.Test.YtppkpcijmfdfmaaGreatDoorC9
import Derived.Test.YtppkpcijmfdfmaaGreatDoorTie
import Derived.Test.YtppkpcijmfdfmaaGreatDoorRows
import Derived.ReadAgain
import Derived.LaidLaws
import Derived.LaidMore
import Derived.OpenShut
import GoSem.PinnedTables
import Derived.Lib.LaidU8T
import Derived.Lib.LaidTab
set_option linter.unusedVariables false
set_option linter.unusedSimpArgs false
namespace Go.Proofs.YtppkpcijmfdfmaaGreatDoor
open Go.RowKit

theorem block_lt {w : World} {x : Addr} {v : Value} (h : w.cell? x = some v) : x.block < w.heap.size := by
  rcases Nat.lt_or_ge x.block w.heap.size with h' | h'
  · exact h'
  · simp [World.cell?, Array.getElem?_eq_none h'] at h
theorem add_none (b off i : Nat) : (⟨b, off, none⟩ : Addr).add i = ⟨b, off + i, none⟩ := by
  simp only [Addr.add]
  split <;> simp_all
theorem spot_of {w : World} {b o : Nat} {sp : Option Nat} {v : Value} (h : w.cell? ⟨b, o, sp⟩ = some v) : sp = none := by
  cases sp with
  | none => rfl
  | some x =>
    unfold World.cell? at h
    split at h <;> simp at h

section
variable {H : Type} {enc : TypeId × Value → H} {P : Program} {w : World} {base : Nat} {spare : Nat → Bool} {held : Bool} {fuel : Nat} {t : TypeId} {cs : List Value} {x : DataW H × List MemPlace}
theorem trod_float {k : FloatKind} (ht : P.underlying t = some (.float k)) (h : DataW.trod enc P w base spare held fuel t cs = some x) : ∃ n, cs = [.float k n] ∧ x = (.lit (.float k n), []) := by
  cases fuel with
  | zero => simp [DataW.trod] at h
  | succ n =>
    unfold DataW.trod at h
    rw [ht] at h
    split at h <;> simp_all
end
theorem Tryz.c35 : Tryz.prog.cellsOf 35 = 1 := by kernel_rfl
theorem Tryz.c3 : Tryz.prog.cellsOf 3 = 1 := by kernel_rfl
theorem Tryz.c94 : Tryz.prog.cellsOf 94 = 1 := by kernel_rfl
theorem Tryz.c294 : Tryz.prog.cellsOf 294 = 2 := by kernel_rfl
theorem Tryz.c305 : Tryz.prog.cellsOf 305 = 2 := by kernel_rfl
theorem Tryz.c23' : Tryz.prog.cellsOf 23 = 1 := by kernel_rfl
theorem Tryz.c9' : Tryz.prog.cellsOf 9 = 1 := by kernel_rfl
theorem head_of {cs : List Value} {o : Nat} {v : Value} (h : (cs.drop o).take 1 = [v]) : cs[o]? = some v := by
  have := congrArg (·[0]?) h
  simpa [List.getElem?_take, List.getElem?_drop] using this
/-- A variable that is a row of numbers of floating point. -/
theorem float_at {W : World} {name : String} {g t n : Nat} {ds : List (DataW Unit)} (hn : Tryz.prog.globalNamed name = some g) (hy : (Tryz.prog.globals[g]?).map (·.type) = some t) (ht : Tryz.prog.underlying t = some (.array n 35)) (h : Lib.VarReads Tryz.prog W name (.agg ds))
    (i v : Nat) (hi : i < n) (hv : ds[i]? = some (.lit (.float .f64 v))) : W.cell? ⟨g, i, none⟩ = some (.float .f64 v) := by
  obtain ⟨g', t', cs, fuel, p, hg, hty, hvar, hd⟩ := h
  obtain rfl := Option.some.inj (hn.symm.trans hg)
  obtain rfl := Option.some.inj (hy.symm.trans hty)
  obtain ⟨fuel', d, q, hdi, he⟩ := Lib.array_elem ht hd i hi
  obtain rfl := Option.some.inj (hv.symm.trans hdi)
  obtain ⟨m, hm, hx⟩ := trod_float Tryz.underlying35 he
  have hmv : v = m := by simpa using congrArg Prod.fst hx
  subst hmv
  rw [Tryz.c35, Nat.mul_one] at hm
  rw [World.var?_cell hg hvar i, ← Array.getElem?_toList]
  exact head_of hm
/-- A variable that is a row of pairs of numbers. -/
theorem pair_at {W : World} {name : String} {g t n : Nat} {ds : List (DataW Unit)} (hn : Tryz.prog.globalNamed name = some g) (hy : (Tryz.prog.globals[g]?).map (·.type) = some t) (ht : Tryz.prog.underlying t = some (.array n 294)) (h : Lib.VarReads Tryz.prog W name (.agg ds))
    (i : Nat) (a b : Int) (hi : i < n) (hv : ds[i]? = some (.agg [.lit (.int .u64 a), .lit (.int .u64 b)])) : W.cell? ⟨g, 2 * i, none⟩ = some (.int .u64 a) ∧ W.cell? ⟨g, 2 * i + 1, none⟩ = some (.int .u64 b) := by
  obtain ⟨g', t', cs, fuel, p, hg, hty, hvar, hd⟩ := h
  obtain rfl := Option.some.inj (hn.symm.trans hg)
  obtain rfl := Option.some.inj (hy.symm.trans hty)
  obtain ⟨fuel', d, q, hdi, he⟩ := Lib.array_elem ht hd i hi
  obtain rfl := Option.some.inj (hv.symm.trans hdi)
  rw [Tryz.c294] at he
  have hcs := Lib.ints_of_struct (zs := [a, b]) (k := .u64) Tryz.underlying294 (fun j f hj => by
    match j, hj with
    | 0, hj => simp at hj; subst hj; exact ⟨Tryz.underlying23, rfl, Tryz.c23'⟩
    | 1, hj => simp at hj; subst hj; exact ⟨Tryz.underlying23, rfl, Tryz.c23'⟩
    | j + 2, hj => simp at hj) (by rw [Tryz.c294]; rfl) he
  have e0 := congrArg (·[0]?) hcs
  have e1 := congrArg (·[1]?) hcs
  simp only [List.getElem?_take, List.getElem?_drop] at e0 e1
  constructor
  · rw [World.var?_cell hg hvar (2 * i), ← Array.getElem?_toList]
    simpa [Nat.mul_comm] using e0
  · rw [World.var?_cell hg hvar (2 * i + 1), ← Array.getElem?_toList]
    simpa [Nat.mul_comm] using e1

theorem var_lt {P : Program} {w : World} {n : String} {g : Nat} {cs : Array Value} (hg : P.globalNamed n = some g) (h : w.var? P n = some cs) : g < w.heap.size := by
  simp only [World.var?, hg, Option.bind_some] at h
  split at h
  · rename_i e; exact (Array.getElem?_eq_some_iff.1 e).1
  · cases h
theorem Tryz.n2 : Tryz.prog.globalNamed "pub-bullarium/pub/fastjson/fastfloat.float64pow10" = some 2 := by kernel_rfl
theorem Tryz.n5 : Tryz.prog.globalNamed "math.pow10postab32" = some 5 := by kernel_rfl
theorem Tryz.n6 : Tryz.prog.globalNamed "math.pow10tab" = some 6 := by kernel_rfl
theorem Tryz.n11 : Tryz.prog.globalNamed "internal/strconv.optimize" = some 11 := by kernel_rfl
theorem Tryz.n12 : Tryz.prog.globalNamed "internal/strconv.float64info" = some 12 := by kernel_rfl
theorem Tryz.n14 : Tryz.prog.globalNamed "internal/strconv.powtab" = some 14 := by kernel_rfl
theorem Tryz.n16 : Tryz.prog.globalNamed "internal/strconv.pow10Tab" = some 16 := by kernel_rfl
theorem Tryz.n18 : Tryz.prog.globalNamed "internal/strconv.leftcheats" = some 18 := by kernel_rfl
theorem Tryz.n20 : Tryz.prog.globalNamed "math/bits.deBruijn64tab" = some 20 := by kernel_rfl
theorem Tryz.y2 : (Tryz.prog.globals[2]?).map (·.type) = some 206 := by kernel_rfl
theorem Tryz.y5 : (Tryz.prog.globals[5]?).map (·.type) = some 223 := by kernel_rfl
theorem Tryz.y6 : (Tryz.prog.globals[6]?).map (·.type) = some 224 := by kernel_rfl
theorem Tryz.y11 : (Tryz.prog.globals[11]?).map (·.type) = some 4 := by kernel_rfl
theorem Tryz.y12 : (Tryz.prog.globals[12]?).map (·.type) = some 256 := by kernel_rfl
theorem Tryz.y14 : (Tryz.prog.globals[14]?).map (·.type) = some 56 := by kernel_rfl
theorem Tryz.y16 : (Tryz.prog.globals[16]?).map (·.type) = some 295 := by kernel_rfl
theorem Tryz.y18 : (Tryz.prog.globals[18]?).map (·.type) = some 306 := by kernel_rfl
theorem p348 : Go.Pinned.pow10Rows[348]? = some (9223372036854775808, 0) := by kernel_rfl
theorem p349 : Go.Pinned.pow10Rows[349]? = some (11529215046068469760, 0) := by kernel_rfl
theorem q0 : (Go.Pinned.cheatRows[0]?).isSome = true := by kernel_rfl
theorem q1 : Go.Pinned.cheatRows[1]? = some (1, [53]) := by kernel_rfl
theorem q53' : (Go.Pinned.cheatRows[53]?).map (fun x => (x.1, x.2.head?)) = some (16, some 49) := by kernel_rfl
theorem q53 : ∃ s, Go.Pinned.cheatRows[53]? = some (16, 49 :: s) := by
  have h := q53'
  obtain ⟨⟨a, l⟩, h1, h2⟩ := Option.map_eq_some_iff.1 h
  obtain ⟨rfl, h3⟩ := Prod.mk.inj h2
  cases l with
  | nil => cases h3
  | cons c l => cases h3; exact ⟨l, h1⟩
theorem ql : Go.Pinned.cheatRows.length = 61 := by kernel_rfl

set_option maxRecDepth 100000 in
theorem gd_of {L : List (String × DataW Unit)} {W : World} (h : laidMet Tryz.prog L W)
    (hE : ErrV W) (m20 : ("math/bits.deBruijn64tab", Rows.laid_math_bits_deBruijn64tab) ∈ L)
    (m2 : ("pub-bullarium/pub/fastjson/fastfloat.float64pow10", Rows.laid_pub_bullarium_pub_fastjson_fastfloat_float64pow10) ∈ L)
    (m5 : ("math.pow10postab32", Rows.laid_math_pow10postab32) ∈ L) (m6 : ("math.pow10tab", Rows.laid_math_pow10tab) ∈ L)
    (m11 : ("internal/strconv.optimize", Rows.laid_internal_strconv_optimize) ∈ L) (m12 : ("internal/strconv.float64info", Rows.laid_internal_strconv_float64info) ∈ L)
    (m14 : ("internal/strconv.powtab", Rows.laid_internal_strconv_powtab) ∈ L) (m16 : ("internal/strconv.pow10Tab", Rows.laid_internal_strconv_pow10Tab) ∈ L)
    (m18 : ("internal/strconv.leftcheats", Rows.laid_internal_strconv_leftcheats) ∈ L) : Gw W := by
  have h20 : 20 < W.heap.size := by
    obtain ⟨g', t', cs, fuel, p, hg, hty, hvar, hd⟩ := Lib.laidMet.reads h m20
    exact var_lt Tryz.n20 hvar
  have r2 := Lib.laidMet.reads h m2
  have r5 := Lib.laidMet.reads h m5
  have r6 := Lib.laidMet.reads h m6
  have r11 := Lib.laidMet.reads h m11
  have r12 := Lib.laidMet.reads h m12
  have r14 := Lib.laidMet.reads h m14
  have r16 := Lib.laidMet.reads h m16
  have r18 := Lib.laidMet.reads h m18
  have hinfo : W.cell? ⟨12, 0, none⟩ = some (.int .u64 52) ∧ W.cell? ⟨12, 1, none⟩ = some (.int .u64 11) ∧ W.cell? ⟨12, 2, none⟩ = some (.int .i64 (-1023)) := by
    obtain ⟨g', t', cs, fuel, p, hg, hty, hvar, hd⟩ := r12
    obtain rfl := Option.some.inj (Tryz.n12.symm.trans hg)
    obtain rfl := Option.some.inj (Tryz.y12.symm.trans hty)
    obtain ⟨xs, n, _, hx, hl, hxl, hall⟩ := DataW.trod_struct Tryz.underlying256 hd
    have hxs : xs.map (·.1) = [.lit (.int .u64 52), .lit (.int .u64 11), .lit (.int .i64 (-1023))] := (congrArg (fun z => match z.1 with | DataW.agg l => l | _ => []) hx).symm
    have at_ : ∀ (i : Nat) (d : DataW Unit), [DataW.lit (.int .u64 52), .lit (.int .u64 11), .lit (.int .i64 (-1023))][i]? = some d → ∃ y, xs[i]? = some y ∧ y.1 = d := by
      intro i d hi
      rw [← hxs, List.getElem?_map, Option.map_eq_some_iff] at hi
      exact hi
    obtain ⟨y0, e0, f0⟩ := at_ 0 _ rfl
    obtain ⟨y1, e1, f1⟩ := at_ 1 _ rfl
    obtain ⟨y2, e2, f2⟩ := at_ 2 _ rfl
    obtain ⟨z0, k0, l0, _⟩ := DataW.trod_int Tryz.underlying94 ((hall 0 _ rfl).trans e0)
    obtain ⟨z1, k1, l1, _⟩ := DataW.trod_int Tryz.underlying94 ((hall 1 _ rfl).trans e1)
    obtain ⟨z2, k2, l2, _⟩ := DataW.trod_int Tryz.underlying3 ((hall 2 _ rfl).trans e2)
    rw [l0] at f0
    rw [l1] at f1
    rw [l2] at f2
    obtain rfl : z0 = 52 := by simpa using f0
    obtain rfl : z1 = 11 := by simpa using f1
    obtain rfl : z2 = -1023 := by simpa using f2
    have k0 := (show (cs.toList.drop 0).take (Tryz.prog.cellsOf 94) = _ from k0)
    have k1 := (show (cs.toList.drop 1).take (Tryz.prog.cellsOf 94) = _ from k1)
    have k2 := (show (cs.toList.drop 2).take (Tryz.prog.cellsOf 3) = _ from k2)
    rw [Tryz.c94] at k0 k1
    rw [Tryz.c3] at k2
    refine ⟨?_, ?_, ?_⟩
    · rw [World.var?_cell hg hvar 0, ← Array.getElem?_toList]; exact head_of k0
    · rw [World.var?_cell hg hvar 1, ← Array.getElem?_toList]; exact head_of k1
    · rw [World.var?_cell hg hvar 2, ← Array.getElem?_toList]; exact head_of k2
  refine ⟨by omega, hE, fun i v hi => ?_, ?_, fun i v hi => ?_, ?_, hinfo.1, hinfo.2.1, hinfo.2.2, ?_, ?_, ?_, ?_⟩
  · have hi' : i < 17 := (List.getElem?_eq_some_iff.1 hi).1
    refine float_at (ds := tenTo16.map fun v => .lit (.float .f64 v)) Tryz.n2 Tryz.y2 Tryz.underlying206 r2 i v hi' ?_
    rw [List.getElem?_map, hi]
    rfl
  · exact float_at Tryz.n5 Tryz.y5 Tryz.underlying223 r5 0 _ (by decide) rfl
  · have hi' : i < 23 := (List.getElem?_eq_some_iff.1 hi).1
    obtain ⟨ds, hds⟩ : ∃ ds, Rows.laid_math_pow10tab (H := Unit) = .agg ds := ⟨_, rfl⟩
    have hl : (match Rows.laid_math_pow10tab (H := Unit) with | .agg l => l.take 23 | _ => []) = tenTo22.map fun v => .lit (.float .f64 v) := rfl
    rw [hds] at hl r6
    refine float_at Tryz.n6 Tryz.y6 Tryz.underlying224 r6 i v (by omega) ?_
    rw [← List.getElem?_take_of_lt hi']
    rw [show ds.take 23 = _ from hl, List.getElem?_map, hi]
    rfl
  · obtain ⟨g', t', cs, fuel, p, hg, hty, hvar, hd⟩ := r11
    obtain rfl := Option.some.inj (Tryz.n11.symm.trans hg)
    obtain rfl := Option.some.inj (Tryz.y11.symm.trans hty)
    obtain ⟨b, hb, hx⟩ := DataW.trod_bool Tryz.underlying4 hd
    obtain rfl : b = true := by simpa [Rows.laid_internal_strconv_optimize] using (congrArg Prod.fst hx).symm
    rw [World.var?_cell hg hvar 0, ← Array.getElem?_toList, hb]
    rfl
  · obtain ⟨g', t', cs, fuel, p, hg, hty, hvar, hd⟩ := r14
    obtain rfl := Option.some.inj (Tryz.n14.symm.trans hg)
    obtain rfl := Option.some.inj (Tryz.y14.symm.trans hty)
    rcases DataW.trod_slice Tryz.underlying56 hd with ⟨_, hx⟩ | ⟨a, len, cap, elems, rest, n, _, hc, hx, _, hlc, _, hel, helem, _, _⟩
    · cases hx
    have hxs : elems.map (·.1) = ([1, 3, 6, 9, 13, 16, 19, 23, 26] : List Int).map fun z => DataW.lit (.int .i64 z) := (congrArg (fun z => match z.1 with | DataW.slice l _ => l | _ => []) hx).symm
    have hlen : len = 9 := by have := congrArg List.length hxs; simp at this; omega
    subst hlen
    have key : ∀ (i : Nat) (z : Int), ([1, 3, 6, 9, 13, 16, 19, 23, 26] : List Int)[i]? = some z → W.cell? (a.add i) = some (.int .i64 z) := by
      intro i z hi
      have hi9 : i < 9 := (List.getElem?_eq_some_iff.1 hi).1
      have e := helem i hi9
      rw [List.getElem?_eq_getElem (by omega), Tryz.c3, Nat.mul_one] at e
      obtain ⟨cs', h1, h2⟩ := Option.bind_eq_some_iff.1 e
      obtain ⟨z', k1, k2, _⟩ := DataW.trod_int Tryz.underlying3 h2
      have hz := congrArg (·[i]?) hxs
      simp only [List.getElem?_map, List.getElem?_eq_getElem (show i < elems.length by omega), hi, Option.map_some, Option.some.injEq] at hz
      rw [k2] at hz
      obtain rfl : z' = z := by simpa using hz
      obtain ⟨_, _, hcc⟩ := World.cells?_some h1
      have := hcc 0 (by omega)
      rw [show (a.add i).add 0 = a.add i from by simp [Addr.add], k1] at this
      exact this
    have c0 := key 0 1 rfl
    obtain ⟨b, off, sp⟩ := a
    rw [show (⟨b, off, sp⟩ : Addr).add 0 = ⟨b, off, sp⟩ from by simp [Addr.add]] at c0
    obtain rfl := spot_of c0
    refine ⟨b, off, cap, block_lt c0, ?_, fun i v hi => ?_⟩
    · rw [World.var?_cell hg hvar 0, ← Array.getElem?_toList, hc]; rfl
    · rw [← add_none]
      refine key i v ?_
      have := congrArg (Option.map (fun n : Nat => (n : Int))) hi
      rw [← List.getElem?_map] at this
      exact this
  · exact pair_at Tryz.n16 Tryz.y16 Tryz.underlying295 r16 348 _ _ (by decide) (by
      rw [List.getElem?_map, p348]; rfl)
  · exact pair_at Tryz.n16 Tryz.y16 Tryz.underlying295 r16 349 _ _ (by decide) (by
      rw [List.getElem?_map, p349]; rfl)
  · obtain ⟨g', t', cs, fuel, p, hg, hty, hvar, hd⟩ := r18
    obtain rfl := Option.some.inj (Tryz.n18.symm.trans hg)
    obtain rfl := Option.some.inj (Tryz.y18.symm.trans hty)
    rcases DataW.trod_slice Tryz.underlying306 hd with ⟨_, hx⟩ | ⟨a, len, cap, elems, rest, n, _, hc, hx, _, hlc, _, hel, helem, _, _⟩
    · cases hx
    have hxs : elems.map (·.1) = Go.Pinned.cheatRows.map fun x => DataW.agg [.lit (.int .i64 x.1), .lit (.string x.2)] := (congrArg (fun z => match z.1 with | DataW.slice l _ => l | _ => []) hx).symm
    have hlen : len = 61 := by have := congrArg List.length hxs; simp only [List.length_map, ql] at this; omega
    subst hlen
    have key : ∀ (i : Nat) (z : Nat) (s : Bs), Go.Pinned.cheatRows[i]? = some (z, s) → W.cell? (a.add (i * 2)) = some (.int .i64 z) ∧ W.cell? ((a.add (i * 2)).add 1) = some (.string (B s)) := by
      intro i z s hi
      have hi61 : i < 61 := by have := (List.getElem?_eq_some_iff.1 hi).1; rw [ql] at this; exact this
      have e := helem i hi61
      rw [List.getElem?_eq_getElem (by omega), Tryz.c305] at e
      obtain ⟨cs', h1, h2⟩ := Option.bind_eq_some_iff.1 e
      obtain ⟨xs, n', _, hx', hl', hxl', hall⟩ := DataW.trod_struct Tryz.underlying305 h2
      have hz := congrArg (·[i]?) hxs
      simp only [List.getElem?_map, List.getElem?_eq_getElem (show i < elems.length by omega), hi, Option.map_some, Option.some.injEq] at hz
      have hx1 := congrArg (·.1) hx'
      simp only at hx1
      rw [hz] at hx1
      have hxs' : xs.map (·.1) = [.lit (.int .i64 (z : Int)), .lit (.string s)] := (congrArg (fun q => match q with | DataW.agg l => l | _ => []) hx1).symm
      have at_ : ∀ (i : Nat) (d : DataW Unit), [DataW.lit (.int .i64 (z : Int)), .lit (.string s)][i]? = some d → ∃ y, xs[i]? = some y ∧ y.1 = d := by
        intro i d hi
        rw [← hxs', List.getElem?_map, Option.map_eq_some_iff] at hi
        exact hi
      obtain ⟨y0, e0, f0⟩ := at_ 0 _ rfl
      obtain ⟨y1, e1, f1⟩ := at_ 1 _ rfl
      obtain ⟨z0, k0, l0, _⟩ := DataW.trod_int Tryz.underlying3 ((hall 0 _ rfl).trans e0)
      obtain ⟨z1, k1, l1, _⟩ := DataW.trod_string Tryz.underlying9 ((hall 1 _ rfl).trans e1)
      rw [l0] at f0
      rw [l1] at f1
      obtain rfl : z0 = (z : Int) := by simpa using f0
      have hs : z1.data.toList = s := by simpa using f1
      have k0 := (show (cs'.drop 0).take (Tryz.prog.cellsOf 3) = _ from k0)
      have k1 := (show (cs'.drop 1).take (Tryz.prog.cellsOf 9) = _ from k1)
      rw [Tryz.c3] at k0
      rw [Tryz.c9'] at k1
      obtain ⟨_, _, hcc⟩ := World.cells?_some h1
      have c0 := hcc 0 (by omega)
      have c1 := hcc 1 (by omega)
      rw [head_of k0, show (a.add (i * 2)).add 0 = a.add (i * 2) from by simp [Addr.add]] at c0
      rw [head_of k1] at c1
      refine ⟨c0, c1.trans ?_⟩
      subst hs
      rfl
    have c1 := key 1 _ _ q1
    obtain ⟨s, hs⟩ := q53
    have c53 := key 53 _ _ hs
    obtain ⟨b, off, sp⟩ := a
    obtain ⟨⟨z0, s0⟩, h0⟩ := Option.isSome_iff_exists.1 q0
    have c0 := (key 0 _ _ h0).1
    rw [show (⟨b, off, sp⟩ : Addr).add (0 * 2) = ⟨b, off, sp⟩ from by simp [Addr.add]] at c0
    obtain rfl := spot_of c0
    simp only [add_none] at c1 c53
    refine ⟨b, off, cap, block_lt c1.1, ?_, ⟨c1.1, c1.2⟩, c53.1, s, c53.2⟩
    rw [World.var?_cell hg hvar 0, ← Array.getElem?_toList, hc]; rfl
end Go.Proofs.YtppkpcijmfdfmaaGreatDoor
