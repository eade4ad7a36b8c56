/- What a law's start gives; the walks of utf8.ValidString (by its contract), of zzFits2 and zzFits11. -/
import Derived.Test.YtppkpcijmfdfmaaGreatDoorD3
import Derived.Test.YtppkpcijmfdfmaaGreatDoorS1
import Derived.Test.YtppkpcijmfdfmaaGreatDoorC2
set_option linter.unusedVariables false
set_option linter.unusedSimpArgs false
namespace Go.Proofs.YtppkpcijmfdfmaaGreatDoor
open Go.RowKit
attribute [local go_sem] B_size B_get B_lit B_ext_to B_ext B_toList B_app

/-- The tables of unicode/utf8 lie where they should. -/
def TabV (w : World) : Prop := Lib.Utf8Tabs 0 1 w
theorem TabV.below {w w' : World} (h : TabV w) (hb : Below w.heap.size w w') : TabV w' := Utf8Tabs_below h hb
theorem valid_any (s : Bs) (w : World) (h : TabV w) (hl : s.length ≤ 9223372036854775807) :
    Calls Tryz.prog 23 #[.string (B s)] w fun e w' => e = .returned (.bool (Lib.validD s)) ∧ Below w.heap.size w w' :=
  Any.utf8_ValidString Tryz.laysValid (B s) w (by rw [B_size]; exact hl) h

set_option maxRecDepth 100000 in
set_option maxHeartbeats 2000000 in
theorem fits2_any {B0 : Nat} {v : Value} {l : List Bs} (w : World) (h : NSB w B0 v l) (hl : l.length ≤ 9223372036854775807) :
    Calls Tryz.prog 73 #[v] w fun e w' => (∃ b, e = .returned (.bool b)) ∧ w = w' := by
  obtain ⟨a, c, rfl⟩ := h.slice
  have HN := Lib.hid h
  clear h
  by_cases hbig : l.length > 2147483647
  · have hb : decide ((2147483647 : Int) < l.length) = true := by simp; omega
    go_enter Tryz.func73, Tryz.ntmps73
    go_wp2
    go_ret
    exact ⟨⟨_, rfl⟩, rfl⟩
  · have hb : decide ((2147483647 : Int) < l.length) = false := by simp; omega
    go_enter Tryz.func73, Tryz.ntmps73
    go_wp2
    go_loop [10] (fun i => ∃ k : Nat, k ≤ l.length ∧ i = .int .i64 k) (fun i => l.length - (intOf i).toNat)
    case atStart => exact ⟨0, by omega, rfl⟩
    case round =>
      obtain ⟨k, hk, rfl⟩ := hrel
      by_cases hlt : k < l.length
      · obtain ⟨b, off, hb0, hcell⟩ : ∃ b off, a = some ⟨b, off, none⟩ ∧ ∀ (i : Nat) s, l[i]? = some s → w.cell? ⟨b, off + i, none⟩ = some (.string (B s)) := by
          rcases HN.out with ⟨a, c, e, hnil⟩ | ⟨b, off, c, e, h1, h2⟩
          · rw [hnil] at hlt; simp at hlt
          · cases e; exact ⟨b, off, rfl, h2⟩
        subst hb0
        have p0 := hcell k l[k] (List.getElem?_eq_getElem hlt)
        generalize l[k] = s at p0
        clear hcell
        by_cases hs : s.length > 2147483647
        · have hs1 : decide ((2147483647 : Int) < s.length) = true := by simp; omega
          go_wp2
          go_ret
          first | exact ⟨⟨_, rfl⟩, rfl⟩ | exact ⟨Or.inl rfl, rfl⟩ | exact ⟨Or.inr rfl, rfl⟩
        · have hs1 : decide ((2147483647 : Int) < s.length) = false := by simp; omega
          go_wp2
          go_round
          case rel => exact ⟨k + 1, by omega, by go_num⟩
          case measure => simp [intOf]; omega
      · go_wp2
        go_ret
        first | exact ⟨⟨_, rfl⟩, rfl⟩ | exact ⟨Or.inl rfl, rfl⟩ | exact ⟨Or.inr rfl, rfl⟩

end Go.Proofs.YtppkpcijmfdfmaaGreatDoor

/- The walk of headSize: whether a tree is right, and how many nodes it has. -/
namespace Go.Proofs.YtppkpcijmfdfmaaGreatDoor
open Go.RowKit
attribute [local go_sem] B_size B_get B_lit B_ext_to B_ext B_toList B_app

theorem contains_any (b off c k : Nat) (l : List Bs) (s : Bs) (w : World) (hk : k ≤ l.length) (hl : l.length ≤ 9223372036854775807) (hc : ∀ (i : Nat) s, l[i]? = some s → w.cell? ⟨b, off + i, none⟩ = some (.string (B s))) :
    Calls Tryz.prog 55 #[.slice (some ⟨b, off, none⟩) k c, .string (B s)] w fun e w' => e = .returned (.bool (decide (s ∈ l.take k))) ∧ w = w' := by
  refine (Tryz.slices_Contains_string b off k c (l.map B) (B s) w (by simpa using hk) (by omega) (fun j hj => ?_)).mono ?_
  · have hj2 : j < l.length := by simpa using hj
    rw [hc j l[j] (List.getElem?_eq_getElem hj2)]
    simp [List.getD, hj2]
  · rintro e w' ⟨rfl, rfl⟩
    refine ⟨?_, rfl⟩
    have h : Lib.containsS ((l.map B).take k) (B s) = decide (s ∈ l.take k) := by
      rw [Bool.eq_iff_iff, Lib.containsS_iff, decide_eq_true_iff, ← List.map_take]
      simp only [List.mem_map]
      constructor
      · rintro ⟨x, hx, he⟩
        rw [B_inj] at he
        exact he ▸ hx
      · intro h; exact ⟨s, h, rfl⟩
    rw [h]

/-- What headSize says. -/
def SizeOk (d : Nat) (t : HT) (deep : Nat) (e : Ending) : Prop := ∃ (m : Nat) (ok : Bool), e = .returned (.tuple #[.int .i64 m, .bool ok]) ∧ (ok = false → m = 0) ∧ (ok = true → Sized 200 60 d t deep m ∧ t.texts.Nodup)
theorem SizeOk.no (d : Nat) (t : HT) (deep : Nat) : SizeOk d t deep (.returned (.tuple #[.int .i64 0, .bool false])) := ⟨0, false, rfl, fun _ => rfl, fun h => (by cases h)⟩
/-- Texts that have been looked at. -/
structure TextLoop (w : World) (l : List Bs) (k : Nat) (wr : World) : Prop where
  below : Below w.heap.size w wr
  ok : TextsOk (l.take k)
  nodup : (l.take k).Nodup
theorem TextLoop.start (w : World) (l : List Bs) : TextLoop w l 0 w := ⟨Below.refl _ _, fun s hs => (by cases hs), List.nodup_nil⟩
theorem TextLoop.step {w : World} {l : List Bs} {k : Nat} {wr w2 : World} (h : TextLoop w l k wr) {s : Bs} (hs : l[k]? = some s) (h1 : s.length ≤ 200) (h2 : Lib.validD s = true) (h3 : s ∉ l.take k) (hb : Below wr.heap.size wr w2) : TextLoop w l (k + 1) w2 := by
  have e : l.take (k + 1) = l.take k ++ [s] := by rw [List.take_add_one, hs]; rfl
  refine ⟨h.below.trans (hb.mono h.below.size), ?_, ?_⟩
  · rw [e]
    intro x hx
    rcases List.mem_append.1 hx with hx | hx
    · exact h.ok x hx
    · rw [List.mem_singleton.1 hx]; exact ⟨h1, h2⟩
  · rw [e, List.nodup_append]
    exact ⟨h.nodup, by simp, fun x hx y hy => by rw [List.mem_singleton.1 hy]; intro e; exact h3 (e ▸ hx)⟩
/-- Kids that have been counted. -/
structure KidLoop (d : Nat) (deep : Nat) (w : World) (l : List HT) (k m : Nat) (wr : World) : Prop where
  below : Below w.heap.size w wr
  le : k ≤ l.length
  sum : ∃ ms : List Nat, All2 (fun t n => Sized 200 60 d t (deep + 1) n) (l.take k) ms ∧ m = 1 + ms.sum
  few : m ≤ 200
theorem KidLoop.start (d deep : Nat) (w : World) (l : List HT) : KidLoop d deep w l 0 1 w := ⟨Below.refl _ _, Nat.zero_le _, ⟨[], trivial, rfl⟩, by decide⟩
theorem KidLoop.step {d deep : Nat} {w : World} {l : List HT} {k m : Nat} {wr w2 : World} (h : KidLoop d deep w l k m wr) {t : HT} {n : Nat} (ht : l[k]? = some t) (hs : Sized 200 60 d t (deep + 1) n) (hm : m + n ≤ 200) (hb : Below wr.heap.size wr w2) : KidLoop d deep w l (k + 1) (m + n) w2 := by
  have hlt := (List.getElem?_eq_some_iff.1 ht).1
  have e : l.take (k + 1) = l.take k ++ [t] := by rw [List.take_add_one, ht]; rfl
  obtain ⟨ms, h1, h2⟩ := h.sum
  refine ⟨h.below.trans (hb.mono h.below.size), by omega, ⟨ms ++ [n], ?_, ?_⟩, hm⟩
  · rw [e]
    exact h1.append (All2.one hs)
  · rw [List.sum_append]
    simp
    omega

end Go.Proofs.YtppkpcijmfdfmaaGreatDoor

/- The walks of HeadRight and headObject. -/
namespace Go.Proofs.YtppkpcijmfdfmaaGreatDoor
open Go.RowKit
attribute [local go_sem] B_size B_get B_lit B_ext_to B_ext B_toList B_app

end Go.Proofs.YtppkpcijmfdfmaaGreatDoor
