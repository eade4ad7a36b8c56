/- Words for the walks: Go's strings as lists of bytes (`B`), with the rules by which the walk's operations on them are told on lists. -/
import Derived.Test.YtppkpcijmfdfmaaGreatDoorChecked
import Derived.Test.YtppkpcijmfdfmaaGreatDoorC0
import Derived.WalkKit
import Derived.WalkSpells
import Derived.WalkLawsBesides
import Derived.Lib.Hide
import Derived.Test.YtppkpcijmfdfmaaGreatDoorS0
import Derived.BigQuiet
import Derived.Deep.QuietTactic
import Derived.Lib.Bytealg
import Derived.Lib.IndexLaws
set_option linter.unusedVariables false
set_option linter.unusedSimpArgs false
namespace Go.Proofs.YtppkpcijmfdfmaaGreatDoor
open Go.RowKit

/-- A Go string by its bytes. -/
def B (l : Bs) : ByteArray := ⟨l.toArray⟩
theorem B_of (s : ByteArray) : s = B s.data.toList := by
  cases s; simp [B]
theorem B_lit (l : Bs) : ByteArray.mk l.toArray = B l := rfl
theorem B_size (l : Bs) : (B l).size = l.length := by simp [B, ByteArray.size]
theorem B_get (l : Bs) (i : Nat) (h : i < (B l).size) : (B l)[i]'h = l[i]'(by simpa [B_size] using h) := by
  simp [B]; rfl
theorem B_data (l : Bs) : (B l).data.toList = l := by simp [B]
theorem B_toList (l : Bs) : (B l).toList = l := by
  rw [ByteArray.toList_eq]; exact B_data l
theorem B_inj {a b : Bs} : B a = B b ↔ a = b := by
  constructor
  · intro h
    have := congrArg (fun s => s.data.toList) h
    simpa [B_data] using this
  · intro h; rw [h]
theorem B_ext (l : Bs) (i j : Nat) : (B l).extract i j = B ((l.take j).drop i) := by
  rw [B_of ((B l).extract i j)]
  congr 1
  simp [B, ByteArray.data_extract, List.drop_take]
theorem B_ext_to (l : Bs) (i : Nat) : (B l).extract i l.length = B (l.drop i) := by
  rw [B_ext, List.take_length]
theorem B_app (a b : Bs) : B a ++ B b = B (a ++ b) := by
  rw [B_of (B a ++ B b)]
  congr 1

/-- A byte's own place in its kind. -/
theorem u8_lt (c : UInt8) : ((c.toNat : Nat) : Int) < 256 := by have := c.toNat_lt; omega
theorem u8_beq (c k : UInt8) : (((c.toNat : Nat) : Int) == ((k.toNat : Nat) : Int)) = (c == k) := by
  rw [Bool.eq_iff_iff]
  simp only [beq_iff_eq, Int.natCast_inj]
  exact UInt8.toNat_inj
theorem u8_bne (c k : UInt8) : (((c.toNat : Nat) : Int) != ((k.toNat : Nat) : Int)) = (c != k) := by
  simp only [bne, u8_beq]
theorem run_index_B {l : Bs} {k : Nat} {c : UInt8} (h : l[k]? = some c) (w : World) :
    (Instr.index 9 (.string (B l)) (.int .i64 k)).run Tryz.prog w = .ok (.int .u8 c.toNat) w := by
  have hk : k < l.length := by
    rcases Nat.lt_or_ge k l.length with h' | h'
    · exact h'
    · rw [List.getElem?_eq_none h'] at h; cases h
  have hc : l[k] = c := by rw [List.getElem?_eq_getElem hk] at h; exact Option.some.inj h
  have hk' : ((k : Int) < (l.length : Int)) := by omega
  simp [go_sem, B_get, B_size, hc, hk']
/-- The byte at a place, as the walk comes to it: a number of its own name. -/
theorem byte_at {l : Bs} {k : Nat} (h : k < l.length) :
    ∃ c : Int, c = l[k].toNat ∧ 0 ≤ c ∧ c < 256 ∧ ∀ w : World, (Instr.index 9 (.string (B l)) (.int .i64 k)).run Tryz.prog w = .ok (.int .u8 c) w :=
  ⟨l[k].toNat, rfl, by omega, u8_lt _, fun w => run_index_B (List.getElem?_eq_getElem h) w⟩
theorem jSkip_ws {c : UInt8} (h : jWs c = true) (r : Bs) : jSkip (c :: r) = jSkip r := by
  unfold jSkip; rw [List.dropWhile_cons, if_pos h]
theorem jSkip_no {c : UInt8} (h : jWs c = false) (r : Bs) : jSkip (c :: r) = c :: r := by
  unfold jSkip; rw [List.dropWhile_cons, if_neg (by simp [h])]
theorem jWs_iff (c : UInt8) : jWs c = false ↔ (c != 32 && c != 10 && c != 9 && c != 13) = true := by
  unfold jWs; simp
theorem jSkip_len (s : Bs) : (jSkip s).length ≤ s.length := by
  unfold jSkip; exact (List.dropWhile_suffix _).length_le
end Go.Proofs.YtppkpcijmfdfmaaGreatDoor

/- The walks of the reader's functions on texts: blanks, raw texts, raw keys. -/
namespace Go.Proofs.YtppkpcijmfdfmaaGreatDoor
open Go.RowKit
attribute [local go_sem] B_size B_get B_lit B_ext_to B_ext B_toList B_app

/-- What a raw text is told as: two texts and no error; or an error. -/
def StrP (r : Option (Bs × Bs)) (w : World) (x y : Bs) (z : Value) (w' : World) : Prop :=
  match r with
  | some (a, b) => x = a ∧ y = b ∧ z = .nilIface ∧ ∃ n, w.drewN n = w'
  | none => (∃ T v, z = .iface T v) ∧ Below w.heap.size w w'
def StrRes (r : Option (Bs × Bs)) (w : World) (e : Ending) (w' : World) : Prop :=
  ∃ x y z, e = .returned (.tuple #[.string (B x), .string (B y), z]) ∧ StrP r w x y z w'

theorem StrRes.ok {r : Option (Bs × Bs)} {w : World} (a b : Bs) (n : Nat) (h : r = some (a, b)) :
    StrRes r w (.returned (.tuple #[.string (B a), .string (B b), .nilIface])) (w.drewN n) := by
  subst h; exact ⟨_, _, _, rfl, rfl, rfl, rfl, n, rfl⟩
theorem StrRes.ok0 {r : Option (Bs × Bs)} {w : World} (a b : Bs) (h : r = some (a, b)) :
    StrRes r w (.returned (.tuple #[.string (B a), .string (B b), .nilIface])) w := by
  subst h; exact ⟨_, _, _, rfl, rfl, rfl, rfl, 0, rfl⟩
theorem StrRes.err {r : Option (Bs × Bs)} {w : World} (x y : Bs) (T : TypeId) (v : Value) (o : Obj) (h : r = none) :
    StrRes r w (.returned (.tuple #[.string (B x), .string (B y), .iface T v])) (w.alloc o) := by
  subst h; exact ⟨_, _, _, rfl, ⟨T, v, rfl⟩, (Below.refl _ _).alloc (Nat.le_refl _) _⟩

theorem errorsNew_any (s : ByteArray) (w : World) :
    Calls Tryz.prog 109 #[.string s] w fun e w' => e = .returned (.iface 199 (.pointer (some ⟨w.heap.size, 0, none⟩))) ∧ w.alloc (.cells #[.string s] 201) = w' := by
  go_enter Tryz.func109, Tryz.ntmps109
  go_wp2
  go_ret
  exact ⟨rfl, rfl⟩

theorem quote_unique {q : Bs} {n m : Nat} (h : quoteAt q n) (k : quoteAt q m) : n = m := by
  rcases Nat.lt_trichotomy n m with h' | h' | h'
  · exact absurd h.1 (k.2 n h')
  · exact h'
  · exact absurd k.1 (h.2 m h')
theorem quote_cases (q : Bs) : (∃ n : Nat, quoteAt q n ∧ Lib.indexByte q 34 = n) ∨ ((∀ j : Nat, q[j]? ≠ some 34) ∧ Lib.indexByte q 34 = -1) := by
  have hge := Lib.indexByte_ge q 34
  rcases Int.lt_or_le (Lib.indexByte q 34) 0 with h | h
  · have h1 : Lib.indexByte q 34 = -1 := by omega
    exact Or.inr ⟨Lib.indexByte_none h1, h1⟩
  · obtain ⟨n, hn⟩ := Int.eq_ofNat_of_zero_le h
    exact Or.inl ⟨n, Lib.indexByte_some hn, hn⟩
theorem index_quote (q : Bs) (n : Nat) (h : quoteAt q n) (w : World) :
    Calls Tryz.prog 131 #[.string (B q), .int .u8 34] w fun e w' => e = .returned (.int .i64 n) ∧ w = w' := by
  refine (Tryz.strings_IndexByte (B q) 34 w).mono ?_
  rintro e w' ⟨rfl, rfl⟩
  refine ⟨?_, rfl⟩
  rw [B_data]
  rcases quote_cases q with ⟨m, hm, he⟩ | ⟨hm, _⟩
  · rw [show (Int.toNat 34).toUInt8 = 34 from rfl, he, quote_unique h hm]
  · exact absurd h.1 (hm n)
theorem index_none (q : Bs) (h : ∀ j : Nat, q[j]? ≠ some 34) (w : World) :
    Calls Tryz.prog 131 #[.string (B q), .int .u8 34] w fun e w' => e = .returned (.int .i64 (-1)) ∧ w = w' := by
  refine (Tryz.strings_IndexByte (B q) 34 w).mono ?_
  rintro e w' ⟨rfl, rfl⟩
  refine ⟨?_, rfl⟩
  rw [B_data]
  rcases quote_cases q with ⟨m, hm, he⟩ | ⟨hm, he⟩
  · exact absurd hm.1 (h m)
  · rw [show (Int.toNat 34).toUInt8 = 34 from rfl, he]

theorem skipSlow_nil (w : World) :
    Calls Tryz.prog 155 #[.string (B [])] w fun e w' => e = .returned (.string (B [])) ∧ w = w' := by
  go_enter Tryz.func155, Tryz.ntmps155
  go_wp2
  go_ret
  exact ⟨rfl, rfl⟩
/-- The four tests of a blank, by what the byte is. -/
theorem ws_tests (c : UInt8) : jWs c = false → (((c.toNat : Nat) : Int) != 32) = true ∧ (((c.toNat : Nat) : Int) != 10) = true ∧ (((c.toNat : Nat) : Int) != 9) = true ∧ (((c.toNat : Nat) : Int) != 13) = true := by
  intro h
  rw [jWs_iff] at h
  simp only [Bool.and_eq_true] at h
  have e (k : UInt8) : (((c.toNat : Nat) : Int) != ((k.toNat : Nat) : Int)) = (c != k) := u8_bne c k
  exact ⟨(e 32).trans h.1.1.1, (e 10).trans h.1.1.2, (e 9).trans h.1.2, (e 13).trans h.2⟩
theorem ws_is (c : UInt8) : jWs c = true → c = 32 ∨ c = 10 ∨ c = 9 ∨ c = 13 := by
  intro h
  unfold jWs at h
  simpa [or_assoc] using h
set_option maxHeartbeats 400000 in
theorem skipSlow_no (c : UInt8) (r : Bs) (w : World) (h : jWs c = false) :
    Calls Tryz.prog 155 #[.string (B (c :: r))] w fun e w' => e = .returned (.string (B (c :: r))) ∧ w = w' := by
  obtain ⟨h1, h2, h3, h4⟩ := ws_tests c h
  have h0 : ((r.length : Int) + 1 == 0) = false := by rw [beq_eq_false_iff_ne]; omega
  go_enter Tryz.func155, Tryz.ntmps155
  go_wp2
  go_ret
  exact ⟨rfl, rfl⟩
/-- How far a text has been gone through with blanks alone. -/
def wsUpto (s : Bs) (k : Nat) : Prop := jSkip s = jSkip (s.drop k)
theorem wsUpto_step {s : Bs} {k : Nat} (h : wsUpto s k) (hk : k < s.length) (hc : jWs s[k] = true) : wsUpto s (k + 1) := by
  unfold wsUpto at *
  rw [h, List.drop_eq_getElem_cons hk, jSkip_ws hc]
set_option maxHeartbeats 1000000 in
theorem skipSlow_yes (c : UInt8) (r : Bs) (w : World) (h : jWs c = true) (hl : r.length < 4294967295) :
    Calls Tryz.prog 155 #[.string (B (c :: r))] w fun e w' => e = .returned (.string (B (jSkip (c :: r)))) ∧ w = w' := by
  have HU : Hid (wsUpto (c :: r) 1) := by
    show jSkip (c :: r) = _
    rw [jSkip_ws h]; rfl
  have hc := ws_is c h
  clear h
  have HL : Hid ((c :: r).length = r.length + 1) := rfl
  generalize hs : (c :: r) = s at *
  have h0 : ((s.length : Int) == 0) = false := by rw [beq_eq_false_iff_ne]; have := HL.out; omega
  have hl1 : 1 ≤ s.length := by have := HL.out; omega
  have hl2 : s.length < 4294967296 := by have := HL.out; omega
  have hix : s[0] = c := by simp [← hs]
  clear hs HL
  rcases hc with rfl | rfl | rfl | rfl
  all_goals
    go_enter Tryz.func155, Tryz.ntmps155
    go_wp2
    clear hix
    go_loop [3] (fun i => ∃ k : Nat, k ≤ s.length ∧ Hid (wsUpto s k) ∧ i = .int .i64 k) (fun i => s.length - (intOf i).toNat)
    case atStart => exact ⟨1, hl1, HU, rfl⟩
    case round =>
      obtain ⟨k, hk, Hk, rfl⟩ := hrel
      by_cases hlt : k < s.length
      · by_cases hw : jWs s[k] = true
        · have H2 : Hid (wsUpto s (k + 1)) := wsUpto_step Hk.out hlt hw
          have hc := ws_is _ hw
          clear hw
          rcases hc with hc | hc | hc | hc
          all_goals
            go_wp2
            go_round
            case rel => exact ⟨k + 1, by omega, H2, by go_num⟩
            case measure => simp [intOf]; omega
        · have H2 : Hid (jSkip s = s.drop k) := by
            have := Hk.out
            unfold wsUpto at this
            rw [this, List.drop_eq_getElem_cons hlt, jSkip_no (by simpa using hw)]; rfl
          obtain ⟨h1, h2, h3, h4⟩ := ws_tests s[k] (by simpa using hw)
          clear hw
          go_wp2
          go_ret
          rw [H2.out]
          exact ⟨rfl, rfl⟩
      · have H2 : Hid (jSkip s = []) := by
          have := Hk.out
          unfold wsUpto at this
          rw [this, List.drop_of_length_le (by omega)]; rfl
        go_wp2
        go_ret
        rw [H2.out]
        exact ⟨rfl, rfl⟩
theorem skipSlow_any (s : Bs) (w : World) (hl : s.length < 4294967296) :
    Calls Tryz.prog 155 #[.string (B s)] w fun e w' => e = .returned (.string (B (jSkip s))) ∧ w = w' := by
  match s, hl with
  | [], _ => exact skipSlow_nil w
  | c :: r, hl =>
    by_cases h : jWs c = true
    · exact skipSlow_yes c r w h (by simp at hl; omega)
    · rw [jSkip_no (by simpa using h)]
      exact skipSlow_no c r w (by simpa using h)
set_option maxHeartbeats 400000 in
theorem skip_any (s : Bs) (w : World) (hl : s.length < 4294967296) :
    Calls Tryz.prog 142 #[.string (B s)] w fun e w' => e = .returned (.string (B (jSkip s))) ∧ w = w' := by
  match s, hl with
  | [], _ =>
    go_enter Tryz.func142, Tryz.ntmps142
    go_wp2
    go_ret
    exact ⟨rfl, rfl⟩
  | c :: r, hl =>
    have h0 : ((r.length : Int) + 1 == 0) = false := by rw [beq_eq_false_iff_ne]; omega
    by_cases h : (32 : Int) < c.toNat
    · have hw : Hid (jSkip (c :: r) = c :: r) := by
        refine jSkip_no ?_ r
        cases hj : jWs c with
        | false => rfl
        | true => rcases ws_is c hj with rfl | rfl | rfl | rfl <;> simp at h
      go_enter Tryz.func142, Tryz.ntmps142
      go_wp2
      go_ret
      rw [hw.out]
      exact ⟨rfl, rfl⟩
    · have HS := Lib.hid (skipSlow_any (c :: r) w hl)
      have hd : decide ((32 : Int) < c.toNat) = false := by simpa using h
      generalize jSkip (c :: r) = t at *
      go_enter Tryz.func142, Tryz.ntmps142
      go_wp2_with (go_at_call 155; refine HS.out.mono ?_; rintro e w' ⟨rfl, rfl⟩)
      go_ret
      exact ⟨rfl, rfl⟩

end Go.Proofs.YtppkpcijmfdfmaaGreatDoor

/- The walks of the reader's functions on texts: raw texts and raw keys. -/
namespace Go.Proofs.YtppkpcijmfdfmaaGreatDoor
open Go.RowKit
attribute [local go_sem] B_size B_get B_lit B_ext_to B_ext B_toList B_app

/-- The state of the search for the end of a raw text: ahead of what is left `q` stands `p`, whose last byte is an escaped quotation mark. -/
def rawAt (S p q : Bs) : Prop := S = p ++ q ∧ jRaw S = (jRaw q).map fun x => (p ++ x.1, x.2)
theorem rawAt_next {S p q : Bs} {n i : Nat} (h : rawAt S p q) (hq : quoteAt q n) (hi : i ≤ n) (hall : ∀ j : Nat, i ≤ j → j < n → q[j]? = some 92)
    (hend : i = 0 ∨ q[i - 1]? ≠ some 92) (hp : (n - i) % 2 ≠ 0) : rawAt S (p ++ q.take (n + 1)) (q.drop (n + 1)) := by
  refine ⟨by rw [List.append_assoc, List.take_append_drop]; exact h.1, ?_⟩
  rw [h.2, jRaw_trail q n i hq hi hall hend, if_neg hp, Option.map_map]
  simp [Function.comp_def]
theorem rawAt_end {S p q : Bs} {n i : Nat} (h : rawAt S p q) (hq : quoteAt q n) (hi : i ≤ n) (hall : ∀ j : Nat, i ≤ j → j < n → q[j]? = some 92)
    (hend : i = 0 ∨ q[i - 1]? ≠ some 92) (hp : (n - i) % 2 = 0) : jRaw S = some (S.take (p.length + n), q.drop (n + 1)) := by
  rw [h.2, jRaw_trail q n i hq hi hall hend, if_pos hp, h.1]
  simp [List.take_append]
  rw [List.take_of_length_le (by omega)]
theorem rawAt_none {S p q : Bs} (h : rawAt S p q) (hq : ∀ j : Nat, q[j]? ≠ some 34) : jRaw S = none := by
  rw [h.2, jRaw_none q hq]; rfl

/-- The raw text ends at the first quotation mark: nothing escapes it. -/
theorem raw_end0 {S : Bs} {n : Nat} (hq : quoteAt S n) (hb : n = 0 ∨ S[n - 1]? ≠ some 92) : jRaw S = some (S.take n, S.drop (n + 1)) := by
  have h00 : rawAt S [] S := ⟨rfl, by simp⟩
  have := rawAt_end (p := []) (i := n) h00 hq (Nat.le_refl _) (fun j h1 h2 => by omega) hb (by simp)
  simpa using this

set_option maxHeartbeats 400000 in
theorem rawStr_none (S : Bs) (w : World) (hn : ∀ j : Nat, S[j]? ≠ some 34) : Calls Tryz.prog 159 #[.string (B S)] w (StrRes (jRaw S) w) := by
  have HE : Hid (jRaw S = none) := jRaw_none S hn
  have HC := Lib.hid (index_none S hn w)
  clear hn
  go_enter Tryz.func159, Tryz.ntmps159
  go_wp2_with (first | (go_at_call 131; refine HC.out.mono ?_; rintro e w' ⟨rfl, rfl⟩) | (go_at_call 109; refine (errorsNew_any _ _).mono ?_; rintro e w' ⟨rfl, rfl⟩))
  go_ret3
  exact StrRes.err S [] _ _ _ HE.out
set_option maxHeartbeats 400000 in
theorem rawStr_zero (S : Bs) (w : World) (hq : quoteAt S 0) (hl : S.length < 4294967296) : Calls Tryz.prog 159 #[.string (B S)] w (StrRes (jRaw S) w) := by
  have HE : Hid (jRaw S = some (S.take 0, S.drop 1)) := raw_end0 hq (Or.inl rfl)
  have HC := Lib.hid (index_quote S 0 hq w)
  have hlt := quoteAt_lt hq
  clear hq
  go_enter Tryz.func159, Tryz.ntmps159
  go_wp2_with (go_at_call 131; refine HC.out.mono ?_; rintro e w' ⟨rfl, rfl⟩)
  go_quiet (fail)
  go_wp2
  go_ret3
  exact StrRes.ok _ _ _ (by simpa using HE.out)
set_option maxHeartbeats 400000 in
theorem rawStr_plain (S : Bs) (n : Nat) (w : World) (hq : quoteAt S (n + 1)) (hl : S.length < 4294967296) (hb : S[n]? ≠ some 92) : Calls Tryz.prog 159 #[.string (B S)] w (StrRes (jRaw S) w) := by
  have HE : Hid (jRaw S = some (S.take (n + 1), S.drop (n + 1 + 1))) := raw_end0 hq (Or.inr (by simpa using hb))
  have HC := Lib.hid (index_quote S (n + 1) hq w)
  have hlt := quoteAt_lt hq
  have hn : n < S.length := by omega
  have hb' : (((S[n].toNat : Nat) : Int) != 92) = true := by
    rw [show (92 : Int) = (((92 : UInt8).toNat : Nat) : Int) from rfl, u8_bne, bne_iff_ne]
    intro e; exact hb (by rw [List.getElem?_eq_getElem hn, e])
  clear hq hb
  go_enter Tryz.func159, Tryz.ntmps159
  go_wp2_with (go_at_call 131; refine HC.out.mono ?_; rintro e w' ⟨rfl, rfl⟩)
  go_quiet (fail)
  go_wp2
  go_ret3
  exact StrRes.ok _ _ _ (by simpa using HE.out)

/-- The length of a slot's string. -/
def strLen : Value → Nat | .string s => s.size | _ => 0

set_option maxHeartbeats 4000000 in
set_option maxRecDepth 100000 in
theorem rawStr_esc (S : Bs) (n : Nat) (w : World) (hq : quoteAt S (n + 1)) (hl : S.length < 4294967296) (hb : S[n]? = some 92) : Calls Tryz.prog 159 #[.string (B S)] w (StrRes (jRaw S) w) := by
  have H0 : Hid (rawAt S [] S) := ⟨rfl, by simp⟩
  have HC := Lib.hid (index_quote S (n + 1) hq w)
  have hlt := quoteAt_lt hq
  have hn : n < S.length := by omega
  have HQ := Lib.hid hq
  have HB := Lib.hid hb
  have hb' : S[n] = 92 := by rw [List.getElem?_eq_getElem hn] at hb; exact Option.some.inj hb
  clear hq hb
  have z1 : ((n : Int) + 1 == 0) = false := by rw [beq_eq_false_iff_ne]; omega
  have z2 : decide ((n : Int) + 1 < 0) = false := by rw [decide_eq_false_iff_not]; omega
  go_enter Tryz.func159, Tryz.ntmps159
  go_wp2_with (go_at_call 131; refine HC.out.mono ?_; rintro e w' ⟨rfl, rfl⟩)
  clear hb' HC
  go_loop [0, 5] (fun q n => ∃ (p Q : Bs) (m : Nat), Hid (rawAt S p Q) ∧ Hid (quoteAt Q (m + 1)) ∧ Hid (Q[m]? = some 92) ∧ q = .string (B Q) ∧ n = .int .i64 ((m : Int) + 1)) (fun q _ => strLen q)
  case atStart => exact ⟨[], S, n, H0, HQ, HB, rfl, rfl⟩
  case round =>
    clear HQ HB H0 hlt hn
    obtain ⟨p, Q, m, HR, HQ, HB, rfl, rfl⟩ := hrel
    have hlt : m + 1 < Q.length := quoteAt_lt HQ.out
    have HL : Hid (S.length = p.length + Q.length) := by have := HR.out.1; rw [this, List.length_append]; rfl
    have hQl : Q.length ≤ S.length := by have := HL.out; omega
    go_wp2
    go_loop [7] (fun i => ∃ k : Nat, k ≤ m ∧ Hid (∀ j : Nat, k ≤ j → j < m + 1 → Q[j]? = some 92) ∧ i = .int .i64 k) (fun i => (intOf i).toNat)
    case atStart => exact ⟨m, Nat.le_refl _, fun j h1 h2 => by rw [show j = m by omega]; exact HB.out, rfl⟩
    case round =>
      obtain ⟨k, hk, HA, rfl⟩ := hrel
      by_cases hgo : 0 < k ∧ Q[k - 1]? = some 92
      · obtain ⟨hpos, hc⟩ := hgo
        obtain ⟨k, rfl⟩ : ∃ j, k = j + 1 := ⟨k - 1, by omega⟩
        have hkl : k < Q.length := by omega
        have hc' : Q[k] = 92 := by rw [Nat.add_sub_cancel, List.getElem?_eq_getElem hkl] at hc; exact Option.some.inj hc
        have HA2 : Hid (∀ j : Nat, k ≤ j → j < m + 1 → Q[j]? = some 92) := fun j h1 h2 => by
          by_cases e : j = k
          · rw [e, List.getElem?_eq_getElem hkl, hc']
          · exact HA.out j (by omega) h2
        clear hc
        go_wp2
        go_round
        case rel => exact ⟨k, by omega, HA2, by go_num⟩
        case measure => simp [intOf]
      · have HE : Hid (k = 0 ∨ Q[k - 1]? ≠ some 92) := by
          by_cases h0 : k = 0
          · exact Or.inl h0
          · exact Or.inr fun h => hgo ⟨by omega, h⟩
        clear hgo
        by_cases h0 : k = 0
        · subst h0
          by_cases hp : (m + 1 - 0) % 2 = 0
          · have HF := Lib.hid (rawAt_end HR.out HQ.out (by omega) HA.out HE.out hp)
            go_wp2
            go_quiet (fail)
            go_wp2
            go_ret3
            refine StrRes.ok _ _ _ ?_
            rw [HF.out]
            have := HL.out
            rw [show S.length - Q.length + (m + 1) = p.length + (m + 1) by omega]
          · have HN := Lib.hid (rawAt_next HR.out HQ.out (by omega) HA.out HE.out hp)
            have HM : Hid (S.length = (p ++ Q.take (m + 1 + 1)).length + (Q.drop (m + 1 + 1)).length) := by
              have := HN.out.1
              exact (congrArg List.length this).trans List.length_append
            have hD : (Q.drop (m + 1 + 1)).length < Q.length := by rw [List.length_drop]; omega
            generalize hQ2 : Q.drop (m + 1 + 1) = Q2 at *
            have HQ2 := Lib.hid hQ2
            clear hQ2
            have hq2 : ∀ w : World, (Instr.slice 9 (.string (B Q)) (some (.int .i64 ((m : Int) + 1 + 1))) none none).run Tryz.prog w = .ok (.string (B Q2)) w := by
              intro w
              have e := HQ2.out
              have h1 : (m : Int) + 1 + 1 ≤ Q.length := by omega
              have h2 : (0 : Int) ≤ (m : Int) + 1 + 1 := by omega
              rw [← e]
              simp [go_sem, h1, h2]
              congr 1
            rcases quote_cases Q2 with ⟨i, hq, _⟩ | ⟨hno, _⟩
            · have hi := quoteAt_lt hq
              have HC := Lib.hid (index_quote _ i hq)
              have HG := Lib.hid hq
              clear hq
              by_cases hi0 : i = 0
              · subst hi0
                have HF := Lib.hid (rawAt_end (i := 0) HN.out HG.out (Nat.le_refl _) (fun j h1 h2 => by omega) (Or.inl rfl) rfl)
                go_wp2_with (go_at_call 131; refine (HC.out _).mono ?_; rintro e w' ⟨rfl, rfl⟩)
                go_quiet (fail)
                go_wp2
                go_ret3
                refine StrRes.ok _ _ _ ?_
                have e : (p ++ Q.take (m + 1 + 1)).length = S.length - Q2.length := by have := HM.out; omega
                rw [HF.out, e]
                simp
              · obtain ⟨i, rfl⟩ : ∃ j, i = j + 1 := ⟨i - 1, by omega⟩
                by_cases hb : Q2[i]? = some 92
                · have hb' : Q2[i] = 92 := by rw [List.getElem?_eq_getElem (by omega)] at hb; exact Option.some.inj hb
                  have HB2 := Lib.hid hb
                  clear hb
                  go_wp2_with (go_at_call 131; refine (HC.out _).mono ?_; rintro e w' ⟨rfl, rfl⟩)
                  go_round
                  case rel => exact ⟨_, Q2, i, HN, HG, HB2, rfl, rfl⟩
                  case measure => simp [strLen, B_size]; omega
                · have hb' : (((Q2[i].toNat : Nat) : Int) != 92) = true := by
                    rw [show (92 : Int) = (((92 : UInt8).toNat : Nat) : Int) from rfl, u8_bne, bne_iff_ne]
                    intro e; exact hb (by rw [List.getElem?_eq_getElem (by omega), e])
                  have HF := Lib.hid (rawAt_end (i := i + 1) HN.out HG.out (Nat.le_refl _) (fun j h1 h2 => by omega) (Or.inr (by simpa using hb)) (by simp))
                  clear hb
                  go_wp2_with (go_at_call 131; refine (HC.out _).mono ?_; rintro e w' ⟨rfl, rfl⟩)
                  go_quiet (fail)
                  go_wp2
                  go_ret3
                  refine StrRes.ok _ _ _ ?_
                  have e : (p ++ Q.take (m + 1 + 1)).length = S.length - Q2.length := by have := HM.out; omega
                  rw [HF.out, e]
            · have HX : Hid (jRaw S = none) := rawAt_none HN.out hno
              have HC := Lib.hid (index_none _ hno)
              clear hno
              go_wp2_with (first | (go_at_call 131; refine (HC.out _).mono ?_; rintro e w' ⟨rfl, rfl⟩) | (go_at_call 109; refine (errorsNew_any _ _).mono ?_; rintro e w' ⟨rfl, rfl⟩))
              go_ret3
              exact StrRes.err S [] _ _ _ HX.out
        · obtain ⟨k, rfl⟩ : ∃ j, k = j + 1 := ⟨k - 1, by omega⟩
          have hkl : k < Q.length := by omega
          have hne : (((Q[k].toNat : Nat) : Int) == 92) = false := by
            rw [show (92 : Int) = (((92 : UInt8).toNat : Nat) : Int) from rfl, u8_beq, beq_eq_false_iff_ne]
            intro e
            rcases HE.out with h | h
            · exact h0 h
            · exact h (by rw [Nat.add_sub_cancel, List.getElem?_eq_getElem hkl, e])
          by_cases hp : (m + 1 - (k + 1)) % 2 = 0
          · have HF := Lib.hid (rawAt_end HR.out HQ.out (by omega) HA.out HE.out hp)
            go_wp2
            go_quiet (fail)
            go_wp2
            go_ret3
            refine StrRes.ok _ _ _ ?_
            rw [HF.out]
            have := HL.out
            rw [show S.length - Q.length + (m + 1) = p.length + (m + 1) by omega]
          · have HN := Lib.hid (rawAt_next HR.out HQ.out (by omega) HA.out HE.out hp)
            have HM : Hid (S.length = (p ++ Q.take (m + 1 + 1)).length + (Q.drop (m + 1 + 1)).length) := by
              have := HN.out.1
              exact (congrArg List.length this).trans List.length_append
            have hD : (Q.drop (m + 1 + 1)).length < Q.length := by rw [List.length_drop]; omega
            generalize hQ2 : Q.drop (m + 1 + 1) = Q2 at *
            have HQ2 := Lib.hid hQ2
            clear hQ2
            have hq2 : ∀ w : World, (Instr.slice 9 (.string (B Q)) (some (.int .i64 ((m : Int) + 1 + 1))) none none).run Tryz.prog w = .ok (.string (B Q2)) w := by
              intro w
              have e := HQ2.out
              have h1 : (m : Int) + 1 + 1 ≤ Q.length := by omega
              have h2 : (0 : Int) ≤ (m : Int) + 1 + 1 := by omega
              rw [← e]
              simp [go_sem, h1, h2]
              congr 1
            rcases quote_cases Q2 with ⟨i, hq, _⟩ | ⟨hno, _⟩
            · have hi := quoteAt_lt hq
              have HC := Lib.hid (index_quote _ i hq)
              have HG := Lib.hid hq
              clear hq
              by_cases hi0 : i = 0
              · subst hi0
                have HF := Lib.hid (rawAt_end (i := 0) HN.out HG.out (Nat.le_refl _) (fun j h1 h2 => by omega) (Or.inl rfl) rfl)
                go_wp2_with (go_at_call 131; refine (HC.out _).mono ?_; rintro e w' ⟨rfl, rfl⟩)
                go_quiet (fail)
                go_wp2
                go_ret3
                refine StrRes.ok _ _ _ ?_
                have e : (p ++ Q.take (m + 1 + 1)).length = S.length - Q2.length := by have := HM.out; omega
                rw [HF.out, e]
                simp
              · obtain ⟨i, rfl⟩ : ∃ j, i = j + 1 := ⟨i - 1, by omega⟩
                by_cases hb : Q2[i]? = some 92
                · have hb' : Q2[i] = 92 := by rw [List.getElem?_eq_getElem (by omega)] at hb; exact Option.some.inj hb
                  have HB2 := Lib.hid hb
                  clear hb
                  go_wp2_with (go_at_call 131; refine (HC.out _).mono ?_; rintro e w' ⟨rfl, rfl⟩)
                  go_round
                  case rel => exact ⟨_, Q2, i, HN, HG, HB2, rfl, rfl⟩
                  case measure => simp [strLen, B_size]; omega
                · have hb' : (((Q2[i].toNat : Nat) : Int) != 92) = true := by
                    rw [show (92 : Int) = (((92 : UInt8).toNat : Nat) : Int) from rfl, u8_bne, bne_iff_ne]
                    intro e; exact hb (by rw [List.getElem?_eq_getElem (by omega), e])
                  have HF := Lib.hid (rawAt_end (i := i + 1) HN.out HG.out (Nat.le_refl _) (fun j h1 h2 => by omega) (Or.inr (by simpa using hb)) (by simp))
                  clear hb
                  go_wp2_with (go_at_call 131; refine (HC.out _).mono ?_; rintro e w' ⟨rfl, rfl⟩)
                  go_quiet (fail)
                  go_wp2
                  go_ret3
                  refine StrRes.ok _ _ _ ?_
                  have e : (p ++ Q.take (m + 1 + 1)).length = S.length - Q2.length := by have := HM.out; omega
                  rw [HF.out, e]
            · have HX : Hid (jRaw S = none) := rawAt_none HN.out hno
              have HC := Lib.hid (index_none _ hno)
              clear hno
              go_wp2_with (first | (go_at_call 131; refine (HC.out _).mono ?_; rintro e w' ⟨rfl, rfl⟩) | (go_at_call 109; refine (errorsNew_any _ _).mono ?_; rintro e w' ⟨rfl, rfl⟩))
              go_ret3
              exact StrRes.err S [] _ _ _ HX.out
end Go.Proofs.YtppkpcijmfdfmaaGreatDoor

/- The walks of the reader's functions on texts: raw texts as one contract, raw keys. -/
namespace Go.Proofs.YtppkpcijmfdfmaaGreatDoor
open Go.RowKit
attribute [local go_sem] B_size B_get B_lit B_ext_to B_ext B_toList B_app

theorem rawStr_any (S : Bs) (w : World) (hl : S.length < 4294967296) : Calls Tryz.prog 159 #[.string (B S)] w (StrRes (jRaw S) w) := by
  rcases quote_cases S with ⟨n, hq, _⟩ | ⟨hn, _⟩
  · cases n with
    | zero => exact rawStr_zero S w hq hl
    | succ n =>
      by_cases hb : S[n]? = some 92
      · exact rawStr_esc S n w hq hl hb
      · exact rawStr_plain S n w hq hl hb
  · exact rawStr_none S w hn

/-- How far a raw text has been gone through without a quotation mark or a reverse solidus. -/
def rawUpto (s : Bs) (k : Nat) : Prop := ∀ j : Nat, j < k → s[j]? ≠ some 34 ∧ s[j]? ≠ some 92
theorem rawUpto_quote {s : Bs} {k : Nat} (h : rawUpto s k) (hlt : k < s.length) (hc : s[k] = 34) : jRaw s = some (s.take k, s.drop (k + 1)) := by
  rw [jRaw_upto s k (Nat.le_of_lt hlt) h, List.drop_eq_getElem_cons hlt, hc, jRaw_cons]; simp
theorem u8_facts {c : UInt8} (k : UInt8) (h : c ≠ k) : (((c.toNat : Nat) : Int) == ((k.toNat : Nat) : Int)) = false ∧ (((c.toNat : Nat) : Int) != ((k.toNat : Nat) : Int)) = true := by
  constructor
  · rw [u8_beq]; simpa using h
  · rw [u8_bne]; simpa using h

set_option maxHeartbeats 1000000 in
theorem rawKey_any (s : Bs) (w : World) (hl : s.length < 4294967296) :
    Calls Tryz.prog 175 #[.string (B s)] w (StrRes (jRaw s) w) := by
  go_enter Tryz.func175, Tryz.ntmps175
  go_wp2
  go_loop [5, 8] (fun _ i => ∃ k : Nat, k ≤ s.length ∧ Hid (rawUpto s k) ∧ i = .int .i64 k) (fun _ i => s.length - (intOf i).toNat)
  case atStart => exact ⟨0, by omega, fun j hj => by omega, rfl⟩
  case round =>
    obtain ⟨k, hk, Hr, rfl⟩ := hrel
    by_cases hlt : k < s.length
    · by_cases h34 : s[k] = 34
      · have HF := Lib.hid (rawUpto_quote Hr.out hlt h34)
        go_wp2
        go_quiet (fail)
        go_wp2
        go_ret3
        exact StrRes.ok _ _ _ HF.out
      · have h1 : (((s[k].toNat : Nat) : Int) == 34) = false := (u8_facts 34 h34).1
        by_cases h92 : s[k] = 92
        · clear h34 h1
          have HS := Lib.hid (rawStr_any s w hl)
          go_wp2_with (go_at_call 159; refine HS.out.mono ?_; rintro e w' ⟨x, y, z, rfl, HP⟩)
          go_ret3
          exact ⟨x, y, z, rfl, HP⟩
        · have h2 : (((s[k].toNat : Nat) : Int) == 92) = false := (u8_facts 92 h92).1
          have H2 : Hid (rawUpto s (k + 1)) := fun j hj => by
            by_cases e : j = k
            · rw [e, List.getElem?_eq_getElem hlt]; exact ⟨fun e => h34 (Option.some.inj e), fun e => h92 (Option.some.inj e)⟩
            · exact Hr.out j (by omega)
          clear h34 h92
          go_wp2
          go_round
          case rel => exact ⟨k + 1, by omega, H2, by go_num⟩
          case measure => simp [intOf]; omega
    · have HF : Hid (jRaw s = none) := by
        show jRaw s = none
        rw [jRaw_upto s k hk Hr.out, List.drop_of_length_le (by omega)]; rfl
      go_wp2_with (go_at_call 109; refine (errorsNew_any _ _).mono ?_; rintro e w' ⟨rfl, rfl⟩)
      go_ret3
      exact StrRes.err s [] _ _ _ HF.out
end Go.Proofs.YtppkpcijmfdfmaaGreatDoor
