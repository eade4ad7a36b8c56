/- The contracts of the library functions at this program, laid by the kit's tool for the shelf in plain words. -/
import Derived.Shelf.Strings.Builder1
import Derived.Shelf.Strings.Builder2
import Derived.Shelf.Strings.OnBuilder
import Derived.Shelf.Small.Strs
import Derived.Shelf.Strings.BuilderF
import Derived.Shelf.Strings.BuilderK
import Derived.Shelf.Strconv.Atoi
import Derived.Shelf.Strconv.Itoa0
import Derived.Shelf.Strconv.AtoiErrFast
import Derived.Shelf.Strconv.ParseIntEmpty
import Derived.Shelf.Strconv.AtoiFail
import Derived.Shelf.LaysM
import Derived.Shelf.Strconv.Clone
import Derived.Shelf.Strconv.SyntaxError
import Derived.Shelf.LaysC
import Derived.Shelf.Strconv.ToError
import Derived.Shelf.Strconv.AtoiErr
import Derived.Shelf.Strconv.ErrVar
import Derived.Shelf.Strconv.Lower
import Derived.Shelf.Strconv.ParseUint10
import Derived.Shelf.Strconv.ParseUint10Empty
import Derived.Shelf.Strconv.ParseUint10Any
import Derived.Shelf.Strconv.ParseInt10
import Derived.Shelf.Strconv.AtoiLong
import Derived.Shelf.Strconv.AtoiInnerAll
import Derived.Shelf.Strconv.RangeError
import Derived.Shelf.Strconv.ToErrorRange
import Derived.Shelf.Strconv.AtoiAll
import Derived.Shelf.Strconv.ErrVarAll
import Derived.Shelf.Strconv.ParseUintEmpty
import Derived.Shelf.Strconv.ParseUint10b64
import Derived.Shelf.Strconv.ParseUint10b32
import Derived.Shelf.Strconv.ParseUint10b16
import Derived.Shelf.Strconv.ParseUint10b8
import Derived.Shelf.Strconv.ParseUint10At
import Derived.Shelf.Strconv.ParseInt10At64
import Derived.Shelf.Strconv.ParseInt10At32
import Derived.Shelf.Strconv.ParseInt10At16
import Derived.Shelf.Strconv.ParseInt10At8
import Derived.Shelf.Strconv.ParseInt10All
import Derived.Shelf.Strconv.ParseIntPublic10
import Derived.Shelf.Strconv.ErrVarParseInt
import Derived.Shelf.Strings.Search1
import Derived.Shelf.Strings.Prefix
import Derived.Shelf.Bits.Mul64
import Derived.Shelf.Slices.Turned
import Derived.Shelf.Slices.Equal
import Derived.Ground.Names2Prog
import Derived.Shelf.Slices.Clone
import Derived.Shelf.Slices.Empties2
import Derived.Ground.SlbCloneProg
import Derived.Shelf.Bytes.SlClone
import Derived.Ground.SlgnProg
import Derived.Shelf.SlicesE.Clone
import Derived.Test.YtppkpcijmfdfmaaGreatDoorProg
namespace Go.Proofs
open Go.Shelf
def Tryz.lays137_ren : Go.Shelf.Ren := ⟨fun | 137 => 131 | 217 => 147 | 266 => 168 | n => n, fun | 9 => 9 | 5 => 5 | 3 => 3 | n => n, fun | n => n⟩
theorem Tryz.lays137 : Go.Proofs.Lays.n137 Tryz.prog Tryz.lays137_ren := {
  mixed := by kernel_rfl
  f137 := Tryz.func131.trans (congrArg some (by kernel_rfl))
  f217 := Tryz.func147.trans (congrArg some (by kernel_rfl))
  f266 := Tryz.func168.trans (congrArg some (by kernel_rfl))
  t3 := Tryz.underlying3
  a3 := Tryz.isAgg3
  z3 := Tryz.sizeOf3
  v3 := Tryz.zeroValue3
  t5 := Tryz.underlying5
  a5 := Tryz.isAgg5
  z5 := Tryz.sizeOf5
  v5 := Tryz.zeroValue5
  t9 := Tryz.underlying9
  a9 := Tryz.isAgg9
  z9 := Tryz.sizeOf9
  v9 := Tryz.zeroValue9 }
open Go.RowKit in
theorem Tryz.strings_IndexByte (s : ByteArray) (c : Int) (w : World) :
    Calls Tryz.prog 131 #[.string s, .int .u8 c] w fun e w' => e = .returned (.int .i64 (Lib.indexByte s.data.toList c.toNat.toUInt8)) ∧ w' = w := Any.strings_IndexByte Tryz.lays137 s c w
def Tryz.lays129_ren : Go.Shelf.Ren := ⟨fun | 129 => 194 | n => n, fun | 53 => 23 | 3 => 3 | 4 => 4 | 46 => 94 | 5 => 5 | 9 => 9 | n => n, fun | n => n⟩
theorem Tryz.lays129 : Go.Proofs.Lays.n129 Tryz.prog Tryz.lays129_ren := {
  mixed := by kernel_rfl
  f129 := Tryz.func194.trans (congrArg some (by kernel_rfl))
  t3 := Tryz.underlying3
  a3 := Tryz.isAgg3
  z3 := Tryz.sizeOf3
  v3 := Tryz.zeroValue3
  t4 := Tryz.underlying4
  a4 := Tryz.isAgg4
  z4 := Tryz.sizeOf4
  v4 := Tryz.zeroValue4
  t5 := Tryz.underlying5
  a5 := Tryz.isAgg5
  z5 := Tryz.sizeOf5
  v5 := Tryz.zeroValue5
  t9 := Tryz.underlying9
  a9 := Tryz.isAgg9
  z9 := Tryz.sizeOf9
  v9 := Tryz.zeroValue9
  t46 := Tryz.underlying94
  a46 := Tryz.isAgg94
  z46 := Tryz.sizeOf94
  v46 := Tryz.zeroValue94
  t53 := Tryz.underlying23
  a53 := Tryz.isAgg23
  z53 := Tryz.sizeOf23
  v53 := Tryz.zeroValue23 }
theorem Tryz.bits_Len64 (x : Int) (w : World) (h0 : 0 ≤ x) (h1 : x ≤ 18446744073709551615) :
    Calls Tryz.prog 194 #[.int .u64 x] w fun e w' => e = .returned (.int .i64 (Lib.bitLen x.toNat)) ∧ w' = w := Any.bits_Len64 Tryz.lays129 x w h0 h1
def Tryz.laysC172_ren : Go.Shelf.Ren := ⟨fun | 172 => 118 | 244 => 133 | 245 => 134 | 247 => 145 | 279 => 148 | 280 => 149 | 281 => 150 | 282 => 151 | 287 => 146 | 316 => 169 | 171 => 170 | 205 => 109 | 321 => 166 | 322 => 167 | 243 => 176 | 246 => 190 | 283 => 205 | 284 => 206 | 285 => 207 | 286 => 208 | 129 => 194 | 317 => 213 | 318 => 198 | 319 => 214 | 320 => 215 | 337 => 218 | 338 => 219 | n => n, fun | 9 => 9 | 3 => 3 | 75 => 104 | 76 => 124 | 4 => 4 | 5 => 5 | 167 => 228 | 37 => 27 | 0 => 0 | 85 => 118 | 2 => 2 | 168 => 229 | 53 => 23 | 175 => 120 | 46 => 94 | 210 => 242 | 127 => 170 | 145 => 201 | 143 => 199 | 21 => 21 | 171 => 289 | 173 => 291 | 212 => 300 | 51 => 257 | 20 => 20 | 213 => 301 | 232 => 309 | 233 => 310 | 80 => 100 | n => n, fun | 15 => 8 | 16 => 9 | 17 => 17 | 18 => 19 | 19 => 20 | n => n⟩
theorem Tryz.laysC172 : Go.Proofs.LaysC.n172 Tryz.prog Tryz.laysC172_ren := {
  mixed := by kernel_rfl
  f129 := Tryz.func194.trans (congrArg some (by kernel_rfl))
  f171 := Tryz.func170.trans (congrArg some (by kernel_rfl))
  f172 := Tryz.func118.trans (congrArg some (by kernel_rfl))
  f205 := Tryz.func109.trans (congrArg some (by kernel_rfl))
  f243 := Tryz.func176.trans (congrArg some (by kernel_rfl))
  f244 := Tryz.func133.trans (congrArg some (by kernel_rfl))
  f245 := Tryz.func134.trans (congrArg some (by kernel_rfl))
  f246 := Tryz.func190.trans (congrArg some (by kernel_rfl))
  f247 := Tryz.func145.trans (congrArg some (by kernel_rfl))
  f279 := Tryz.func148.trans (congrArg some (by kernel_rfl))
  f280 := Tryz.func149.trans (congrArg some (by kernel_rfl))
  f281 := Tryz.func150.trans (congrArg some (by kernel_rfl))
  f282 := Tryz.func151.trans (congrArg some (by kernel_rfl))
  f283 := Tryz.func205.trans (congrArg some (by kernel_rfl))
  f284 := Tryz.func206.trans (congrArg some (by kernel_rfl))
  f285 := Tryz.func207.trans (congrArg some (by kernel_rfl))
  f286 := Tryz.func208.trans (congrArg some (by kernel_rfl))
  f287 := Tryz.func146.trans (congrArg some (by kernel_rfl))
  f316 := Tryz.func169.trans (congrArg some (by kernel_rfl))
  f317 := Tryz.func213.trans (congrArg some (by kernel_rfl))
  f318 := Tryz.func198.trans (congrArg some (by kernel_rfl))
  f319 := Tryz.func214.trans (congrArg some (by kernel_rfl))
  f320 := Tryz.func215.trans (congrArg some (by kernel_rfl))
  f321 := Tryz.func166.trans (congrArg some (by kernel_rfl))
  f322 := Tryz.func167.trans (congrArg some (by kernel_rfl))
  f337 := Tryz.func218.trans (congrArg some (by kernel_rfl))
  f338 := Tryz.func219.trans (congrArg some (by kernel_rfl))
  t0 := Tryz.underlying0
  a0 := Tryz.isAgg0
  z0 := Tryz.sizeOf0
  v0 := Tryz.zeroValue0
  t2 := Tryz.underlying2
  a2 := Tryz.isAgg2
  z2 := Tryz.sizeOf2
  v2 := Tryz.zeroValue2
  t3 := Tryz.underlying3
  a3 := Tryz.isAgg3
  z3 := Tryz.sizeOf3
  v3 := Tryz.zeroValue3
  t4 := Tryz.underlying4
  a4 := Tryz.isAgg4
  z4 := Tryz.sizeOf4
  v4 := Tryz.zeroValue4
  t5 := Tryz.underlying5
  a5 := Tryz.isAgg5
  z5 := Tryz.sizeOf5
  v5 := Tryz.zeroValue5
  t9 := Tryz.underlying9
  a9 := Tryz.isAgg9
  z9 := Tryz.sizeOf9
  v9 := Tryz.zeroValue9
  t20 := Tryz.underlying20
  a20 := Tryz.isAgg20
  z20 := Tryz.sizeOf20
  v20 := Tryz.zeroValue20
  t21 := Tryz.underlying21
  a21 := Tryz.isAgg21
  z21 := Tryz.sizeOf21
  v21 := Tryz.zeroValue21
  t37 := Tryz.underlying27
  a37 := Tryz.isAgg27
  z37 := Tryz.sizeOf27
  v37 := Tryz.zeroValue27
  t46 := Tryz.underlying94
  a46 := Tryz.isAgg94
  z46 := Tryz.sizeOf94
  v46 := Tryz.zeroValue94
  t51 := Tryz.underlying257
  a51 := Tryz.isAgg257
  z51 := Tryz.sizeOf257
  v51 := Tryz.zeroValue257
  t53 := Tryz.underlying23
  a53 := Tryz.isAgg23
  z53 := Tryz.sizeOf23
  v53 := Tryz.zeroValue23
  t75 := Tryz.underlying104
  a75 := Tryz.isAgg104
  z75 := Tryz.sizeOf104
  v75 := Tryz.zeroValue104
  t76 := Tryz.underlying124
  a76 := Tryz.isAgg124
  z76 := Tryz.sizeOf124
  v76 := Tryz.zeroValue124
  t85 := Tryz.underlying118
  a85 := Tryz.isAgg118
  z85 := Tryz.sizeOf118
  v85 := Tryz.zeroValue118
  t127 := Tryz.underlying170
  a127 := Tryz.isAgg170
  z127 := Tryz.sizeOf170
  v127 := Tryz.zeroValue170
  t143 := Tryz.underlying199
  a143 := Tryz.isAgg199
  z143 := Tryz.sizeOf199
  v143 := Tryz.zeroValue199
  t145 := Tryz.underlying201
  a145 := Tryz.isAgg201
  z145 := Tryz.sizeOf201
  v145 := Tryz.zeroValue201
  t167 := Tryz.underlying228
  a167 := Tryz.isAgg228
  z167 := Tryz.sizeOf228
  v167 := Tryz.zeroValue228
  t168 := Tryz.underlying229
  a168 := Tryz.isAgg229
  z168 := Tryz.sizeOf229
  v168 := Tryz.zeroValue229
  t171 := Tryz.underlying289
  a171 := Tryz.isAgg289
  z171 := Tryz.sizeOf289
  v171 := Tryz.zeroValue289
  t173 := Tryz.underlying291
  a173 := Tryz.isAgg291
  z173 := Tryz.sizeOf291
  v173 := Tryz.zeroValue291
  t175 := Tryz.underlying120
  a175 := Tryz.isAgg120
  z175 := Tryz.sizeOf120
  v175 := Tryz.zeroValue120
  t210 := Tryz.underlying242
  a210 := Tryz.isAgg242
  z210 := Tryz.sizeOf242
  v210 := Tryz.zeroValue242
  t212 := Tryz.underlying300
  a212 := Tryz.isAgg300
  z212 := Tryz.sizeOf300
  v212 := Tryz.zeroValue300
  t213 := Tryz.underlying301
  a213 := Tryz.isAgg301
  z213 := Tryz.sizeOf301
  t232 := Tryz.underlying309
  a232 := Tryz.isAgg309
  z232 := Tryz.sizeOf309
  v232 := Tryz.zeroValue309
  t233 := Tryz.underlying310
  a233 := Tryz.isAgg310
  z233 := Tryz.sizeOf310
  v233 := Tryz.zeroValue310
  g15 := by kernel_rfl
  g16 := by kernel_rfl
  g17 := by kernel_rfl
  g18 := by kernel_rfl
  g19 := by kernel_rfl
  t80 := Tryz.underlying100
  a80 := Tryz.isAgg100
  z80 := Tryz.sizeOf100
  v80 := Tryz.zeroValue100
  i0 := by kernel_rfl
  i2 := by kernel_rfl
  i3 := by kernel_rfl
  i4 := by kernel_rfl
  i5 := by kernel_rfl
  i9 := by kernel_rfl
  i20 := by kernel_rfl
  i21 := by kernel_rfl
  i37 := by kernel_rfl
  i46 := by kernel_rfl
  i51 := by kernel_rfl
  i53 := by kernel_rfl
  i75 := by kernel_rfl
  i76 := by kernel_rfl
  i80 := by kernel_rfl
  i85 := by kernel_rfl
  i127 := by kernel_rfl
  i143 := by kernel_rfl
  i145 := by kernel_rfl
  i167 := by kernel_rfl
  i168 := by kernel_rfl
  i171 := by kernel_rfl
  i173 := by kernel_rfl
  i175 := by kernel_rfl
  i210 := by kernel_rfl
  i212 := by kernel_rfl
  i232 := by kernel_rfl
  i233 := by kernel_rfl
  m15 := by kernel_rfl
  m16 := by kernel_rfl
  m17 := by kernel_rfl
  m18 := by kernel_rfl
  m19 := by kernel_rfl
  c0 := by kernel_rfl
  c2 := by kernel_rfl
  c3 := by kernel_rfl
  c4 := by kernel_rfl
  c5 := by kernel_rfl
  c9 := by kernel_rfl
  c20 := by kernel_rfl
  c21 := by kernel_rfl
  c37 := by kernel_rfl
  c46 := by kernel_rfl
  c51 := by kernel_rfl
  c53 := by kernel_rfl
  c75 := by kernel_rfl
  c76 := by kernel_rfl
  c80 := by kernel_rfl
  c85 := by kernel_rfl
  c127 := by kernel_rfl
  c143 := by kernel_rfl
  c145 := by kernel_rfl
  c167 := by kernel_rfl
  c168 := by kernel_rfl
  c171 := by kernel_rfl
  c173 := by kernel_rfl
  c175 := by kernel_rfl
  c210 := by kernel_rfl
  c212 := by kernel_rfl
  c213 := by kernel_rfl
  c232 := by kernel_rfl
  c233 := by kernel_rfl }
def Tryz.lays321_ren : Go.Shelf.Ren := ⟨fun | 321 => 166 | n => n, fun | 5 => 5 | n => n, fun | n => n⟩
theorem Tryz.lays321 : Go.Proofs.Lays.n321 Tryz.prog Tryz.lays321_ren := {
  mixed := by kernel_rfl
  f321 := Tryz.func166.trans (congrArg some (by kernel_rfl))
  t5 := Tryz.underlying5
  a5 := Tryz.isAgg5
  z5 := Tryz.sizeOf5
  v5 := Tryz.zeroValue5 }
open Go.RowKit in
theorem Tryz.internal_strconv_lower (c : Int) (w : World) :
    Calls Tryz.prog 166 #[.int .u8 c] w fun e w' => e = .returned (.int .u8 (bits .or .u8 c 32)) ∧ w' = w := Any.internal_strconv_lower Tryz.lays321 c w
def Tryz.lays287_ren : Go.Shelf.Ren := ⟨fun | 287 => 146 | 321 => 166 | 322 => 167 | n => n, fun | 9 => 9 | 3 => 3 | 53 => 23 | 75 => 104 | 4 => 4 | 167 => 228 | 5 => 5 | 46 => 94 | 37 => 27 | 0 => 0 | 21 => 21 | 80 => 100 | n => n, fun | n => n⟩
theorem Tryz.lays287 : Go.Proofs.Lays.n287 Tryz.prog Tryz.lays287_ren := {
  mixed := by kernel_rfl
  f287 := Tryz.func146.trans (congrArg some (by kernel_rfl))
  f321 := Tryz.func166.trans (congrArg some (by kernel_rfl))
  f322 := Tryz.func167.trans (congrArg some (by kernel_rfl))
  t0 := Tryz.underlying0
  a0 := Tryz.isAgg0
  z0 := Tryz.sizeOf0
  v0 := Tryz.zeroValue0
  t3 := Tryz.underlying3
  a3 := Tryz.isAgg3
  z3 := Tryz.sizeOf3
  v3 := Tryz.zeroValue3
  t4 := Tryz.underlying4
  a4 := Tryz.isAgg4
  z4 := Tryz.sizeOf4
  v4 := Tryz.zeroValue4
  t5 := Tryz.underlying5
  a5 := Tryz.isAgg5
  z5 := Tryz.sizeOf5
  v5 := Tryz.zeroValue5
  t9 := Tryz.underlying9
  a9 := Tryz.isAgg9
  z9 := Tryz.sizeOf9
  v9 := Tryz.zeroValue9
  t21 := Tryz.underlying21
  a21 := Tryz.isAgg21
  z21 := Tryz.sizeOf21
  v21 := Tryz.zeroValue21
  t37 := Tryz.underlying27
  a37 := Tryz.isAgg27
  z37 := Tryz.sizeOf27
  v37 := Tryz.zeroValue27
  t46 := Tryz.underlying94
  a46 := Tryz.isAgg94
  z46 := Tryz.sizeOf94
  v46 := Tryz.zeroValue94
  t53 := Tryz.underlying23
  a53 := Tryz.isAgg23
  z53 := Tryz.sizeOf23
  v53 := Tryz.zeroValue23
  t75 := Tryz.underlying104
  a75 := Tryz.isAgg104
  z75 := Tryz.sizeOf104
  v75 := Tryz.zeroValue104
  t167 := Tryz.underlying228
  a167 := Tryz.isAgg228
  z167 := Tryz.sizeOf228
  v167 := Tryz.zeroValue228 }
open Go.RowKit in
theorem Tryz.strconv_Atoi_syntax (s : ByteArray) (hlim : s.size ≤ 281474976710656) (h : Lib.atoiAll s.data.toList = Lib.atoiAll []) (ev : Value) (w : World) (hv : w.cell? ⟨8, 0, none⟩ = some ev) (hev : ev = .nilIface ∨ ∃ te pe, ev = .iface te pe) :
    Calls Tryz.prog 118 #[.string s] w fun e w' => ∃ N, e = .returned (.tuple #[.int .i64 (0), .iface 229 (.pointer (some ⟨N, 0, none⟩))]) ∧ w.heap.size ≤ N ∧ w'.heap[N]? = some (.cells #[.string ⟨#[65, 116, 111, 105]⟩, .string s, ev] 242 (0, 0)) ∧ Below w.heap.size w w' := Any.strconv_Atoi_syntax Tryz.laysC172 s hlim (h.trans rfl) ev w hv hev
open Go.RowKit in
theorem Tryz.internal_strconv_ParseUint_10_at64 (t : ByteArray) (hmax : t.size ≤ 9223372036854775806) (w : World) :
    Calls Tryz.prog 146 #[.string t, .int .i64 10, .int .i64 64] w fun e w' => e = .returned (Lib.uintTupleM 228 18446744073709551615 (Lib.parseUintB 64 t.data.toList)) ∧ (w' = w ∨ w' = Lib.bytesWorld w 5 t) := Any.internal_strconv_ParseUint_10_at64 Tryz.lays287 t hmax w
def Tryz.laysC174_ren : Go.Shelf.Ren := ⟨fun | 174 => 129 | 247 => 145 | 245 => 134 | 287 => 146 | 279 => 148 | 280 => 149 | 281 => 150 | 282 => 151 | 321 => 166 | 322 => 167 | 316 => 169 | 171 => 170 | 205 => 109 | 243 => 176 | 246 => 190 | 283 => 205 | 284 => 206 | 285 => 207 | 286 => 208 | 129 => 194 | 317 => 213 | 318 => 198 | 319 => 214 | 320 => 215 | 337 => 218 | 338 => 219 | n => n, fun | 9 => 9 | 3 => 3 | 2 => 2 | 75 => 104 | 85 => 118 | 4 => 4 | 167 => 228 | 5 => 5 | 53 => 23 | 175 => 120 | 46 => 94 | 168 => 229 | 37 => 27 | 0 => 0 | 210 => 242 | 21 => 21 | 127 => 170 | 145 => 201 | 143 => 199 | 171 => 289 | 173 => 291 | 212 => 300 | 51 => 257 | 20 => 20 | 213 => 301 | 232 => 309 | 233 => 310 | 80 => 100 | n => n, fun | 15 => 8 | 16 => 9 | 17 => 17 | 18 => 19 | 19 => 20 | n => n⟩
theorem Tryz.laysC174 : Go.Proofs.LaysC.n174 Tryz.prog Tryz.laysC174_ren := {
  mixed := by kernel_rfl
  f129 := Tryz.func194.trans (congrArg some (by kernel_rfl))
  f171 := Tryz.func170.trans (congrArg some (by kernel_rfl))
  f174 := Tryz.func129.trans (congrArg some (by kernel_rfl))
  f205 := Tryz.func109.trans (congrArg some (by kernel_rfl))
  f243 := Tryz.func176.trans (congrArg some (by kernel_rfl))
  f245 := Tryz.func134.trans (congrArg some (by kernel_rfl))
  f246 := Tryz.func190.trans (congrArg some (by kernel_rfl))
  f247 := Tryz.func145.trans (congrArg some (by kernel_rfl))
  f279 := Tryz.func148.trans (congrArg some (by kernel_rfl))
  f280 := Tryz.func149.trans (congrArg some (by kernel_rfl))
  f281 := Tryz.func150.trans (congrArg some (by kernel_rfl))
  f282 := Tryz.func151.trans (congrArg some (by kernel_rfl))
  f283 := Tryz.func205.trans (congrArg some (by kernel_rfl))
  f284 := Tryz.func206.trans (congrArg some (by kernel_rfl))
  f285 := Tryz.func207.trans (congrArg some (by kernel_rfl))
  f286 := Tryz.func208.trans (congrArg some (by kernel_rfl))
  f287 := Tryz.func146.trans (congrArg some (by kernel_rfl))
  f316 := Tryz.func169.trans (congrArg some (by kernel_rfl))
  f317 := Tryz.func213.trans (congrArg some (by kernel_rfl))
  f318 := Tryz.func198.trans (congrArg some (by kernel_rfl))
  f319 := Tryz.func214.trans (congrArg some (by kernel_rfl))
  f320 := Tryz.func215.trans (congrArg some (by kernel_rfl))
  f321 := Tryz.func166.trans (congrArg some (by kernel_rfl))
  f322 := Tryz.func167.trans (congrArg some (by kernel_rfl))
  f337 := Tryz.func218.trans (congrArg some (by kernel_rfl))
  f338 := Tryz.func219.trans (congrArg some (by kernel_rfl))
  t0 := Tryz.underlying0
  a0 := Tryz.isAgg0
  z0 := Tryz.sizeOf0
  v0 := Tryz.zeroValue0
  t2 := Tryz.underlying2
  a2 := Tryz.isAgg2
  z2 := Tryz.sizeOf2
  v2 := Tryz.zeroValue2
  t3 := Tryz.underlying3
  a3 := Tryz.isAgg3
  z3 := Tryz.sizeOf3
  v3 := Tryz.zeroValue3
  t4 := Tryz.underlying4
  a4 := Tryz.isAgg4
  z4 := Tryz.sizeOf4
  v4 := Tryz.zeroValue4
  t5 := Tryz.underlying5
  a5 := Tryz.isAgg5
  z5 := Tryz.sizeOf5
  v5 := Tryz.zeroValue5
  t9 := Tryz.underlying9
  a9 := Tryz.isAgg9
  z9 := Tryz.sizeOf9
  v9 := Tryz.zeroValue9
  t20 := Tryz.underlying20
  a20 := Tryz.isAgg20
  z20 := Tryz.sizeOf20
  v20 := Tryz.zeroValue20
  t21 := Tryz.underlying21
  a21 := Tryz.isAgg21
  z21 := Tryz.sizeOf21
  v21 := Tryz.zeroValue21
  t37 := Tryz.underlying27
  a37 := Tryz.isAgg27
  z37 := Tryz.sizeOf27
  v37 := Tryz.zeroValue27
  t46 := Tryz.underlying94
  a46 := Tryz.isAgg94
  z46 := Tryz.sizeOf94
  v46 := Tryz.zeroValue94
  t51 := Tryz.underlying257
  a51 := Tryz.isAgg257
  z51 := Tryz.sizeOf257
  v51 := Tryz.zeroValue257
  t53 := Tryz.underlying23
  a53 := Tryz.isAgg23
  z53 := Tryz.sizeOf23
  v53 := Tryz.zeroValue23
  t75 := Tryz.underlying104
  a75 := Tryz.isAgg104
  z75 := Tryz.sizeOf104
  v75 := Tryz.zeroValue104
  t85 := Tryz.underlying118
  a85 := Tryz.isAgg118
  z85 := Tryz.sizeOf118
  v85 := Tryz.zeroValue118
  t127 := Tryz.underlying170
  a127 := Tryz.isAgg170
  z127 := Tryz.sizeOf170
  v127 := Tryz.zeroValue170
  t143 := Tryz.underlying199
  a143 := Tryz.isAgg199
  z143 := Tryz.sizeOf199
  v143 := Tryz.zeroValue199
  t145 := Tryz.underlying201
  a145 := Tryz.isAgg201
  z145 := Tryz.sizeOf201
  v145 := Tryz.zeroValue201
  t167 := Tryz.underlying228
  a167 := Tryz.isAgg228
  z167 := Tryz.sizeOf228
  v167 := Tryz.zeroValue228
  t168 := Tryz.underlying229
  a168 := Tryz.isAgg229
  z168 := Tryz.sizeOf229
  v168 := Tryz.zeroValue229
  t171 := Tryz.underlying289
  a171 := Tryz.isAgg289
  z171 := Tryz.sizeOf289
  v171 := Tryz.zeroValue289
  t173 := Tryz.underlying291
  a173 := Tryz.isAgg291
  z173 := Tryz.sizeOf291
  v173 := Tryz.zeroValue291
  t175 := Tryz.underlying120
  a175 := Tryz.isAgg120
  z175 := Tryz.sizeOf120
  v175 := Tryz.zeroValue120
  t210 := Tryz.underlying242
  a210 := Tryz.isAgg242
  z210 := Tryz.sizeOf242
  v210 := Tryz.zeroValue242
  t212 := Tryz.underlying300
  a212 := Tryz.isAgg300
  z212 := Tryz.sizeOf300
  v212 := Tryz.zeroValue300
  t213 := Tryz.underlying301
  a213 := Tryz.isAgg301
  z213 := Tryz.sizeOf301
  t232 := Tryz.underlying309
  a232 := Tryz.isAgg309
  z232 := Tryz.sizeOf309
  v232 := Tryz.zeroValue309
  t233 := Tryz.underlying310
  a233 := Tryz.isAgg310
  z233 := Tryz.sizeOf310
  v233 := Tryz.zeroValue310
  g15 := by kernel_rfl
  g16 := by kernel_rfl
  g17 := by kernel_rfl
  g18 := by kernel_rfl
  g19 := by kernel_rfl
  t80 := Tryz.underlying100
  a80 := Tryz.isAgg100
  z80 := Tryz.sizeOf100
  v80 := Tryz.zeroValue100
  i0 := by kernel_rfl
  i2 := by kernel_rfl
  i3 := by kernel_rfl
  i4 := by kernel_rfl
  i5 := by kernel_rfl
  i9 := by kernel_rfl
  i20 := by kernel_rfl
  i21 := by kernel_rfl
  i37 := by kernel_rfl
  i46 := by kernel_rfl
  i51 := by kernel_rfl
  i53 := by kernel_rfl
  i75 := by kernel_rfl
  i80 := by kernel_rfl
  i85 := by kernel_rfl
  i127 := by kernel_rfl
  i143 := by kernel_rfl
  i145 := by kernel_rfl
  i167 := by kernel_rfl
  i168 := by kernel_rfl
  i171 := by kernel_rfl
  i173 := by kernel_rfl
  i175 := by kernel_rfl
  i210 := by kernel_rfl
  i212 := by kernel_rfl
  i232 := by kernel_rfl
  i233 := by kernel_rfl
  m15 := by kernel_rfl
  m16 := by kernel_rfl
  m17 := by kernel_rfl
  m18 := by kernel_rfl
  m19 := by kernel_rfl
  c0 := by kernel_rfl
  c2 := by kernel_rfl
  c3 := by kernel_rfl
  c4 := by kernel_rfl
  c5 := by kernel_rfl
  c9 := by kernel_rfl
  c20 := by kernel_rfl
  c21 := by kernel_rfl
  c37 := by kernel_rfl
  c46 := by kernel_rfl
  c51 := by kernel_rfl
  c53 := by kernel_rfl
  c75 := by kernel_rfl
  c80 := by kernel_rfl
  c85 := by kernel_rfl
  c127 := by kernel_rfl
  c143 := by kernel_rfl
  c145 := by kernel_rfl
  c167 := by kernel_rfl
  c168 := by kernel_rfl
  c171 := by kernel_rfl
  c173 := by kernel_rfl
  c175 := by kernel_rfl
  c210 := by kernel_rfl
  c212 := by kernel_rfl
  c213 := by kernel_rfl
  c232 := by kernel_rfl
  c233 := by kernel_rfl }
open Go.RowKit in
theorem Tryz.strconv_ParseInt_10_at64_ok (s : ByteArray) (hmax : s.size ≤ 9223372036854775806) (v : Int) (h : Lib.parseIntB 64 s.data.toList = .ok v) (w : World) :
    Calls Tryz.prog 129 #[.string s, .int .i64 10, .int .i64 64] w fun e w' => e = .returned (.tuple #[.int .i64 v, .nilIface]) ∧ (w' = w ∨ ∃ t, w' = Lib.bytesWorld w 5 t) := Any.strconv_ParseInt_10_at64_ok Tryz.laysC174 s hmax v h w
open Go.RowKit in
theorem Tryz.strconv_ParseInt_10_at64_range (s : ByteArray) (hlim : s.size ≤ 281474976710656) (h : Lib.parseIntB 64 s.data.toList = .range) (ev : Value) (w : World) (hv : w.cell? ⟨9, 0, none⟩ = some ev) (hev : ev = .nilIface ∨ ∃ te pe, ev = .iface te pe) :
    Calls Tryz.prog 129 #[.string s, .int .i64 10, .int .i64 64] w fun e w' => ∃ N, e = .returned (.tuple #[.int .i64 (Lib.intSat 64 s.data.toList), .iface 229 (.pointer (some ⟨N, 0, none⟩))]) ∧ w.heap.size ≤ N ∧ w'.heap[N]? = some (.cells #[.string ⟨#[80, 97, 114, 115, 101, 73, 110, 116]⟩, .string s, ev] 242 (0, 0)) ∧ Below w.heap.size w w' := Any.strconv_ParseInt_10_at64_range Tryz.laysC174 s hlim h ev w hv hev
def Tryz.lays264_ren : Go.Shelf.Ren := ⟨fun | 264 => 209 | n => n, fun | 53 => 23 | 46 => 94 | n => n, fun | n => n⟩
theorem Tryz.lays264 : Go.Proofs.Lays.n264 Tryz.prog Tryz.lays264_ren := {
  mixed := by kernel_rfl
  f264 := Tryz.func209.trans (congrArg some (by kernel_rfl))
  t46 := Tryz.underlying94
  a46 := Tryz.isAgg94
  z46 := Tryz.sizeOf94
  v46 := Tryz.zeroValue94
  t53 := Tryz.underlying23
  a53 := Tryz.isAgg23
  z53 := Tryz.sizeOf23
  v53 := Tryz.zeroValue23 }
open Go.RowKit Go.Lib in
theorem Tryz.bits_Mul64 (x y : Nat) (hx : x < 18446744073709551616) (hy : y < 18446744073709551616) (w : World) :
    Calls Tryz.prog 209 #[.int .u64 x, .int .u64 y] w fun e w' => e = .returned (.tuple #[.int .u64 ((x * y / 18446744073709551616 : Nat) : Int), .int .u64 ((x * y % 18446744073709551616 : Nat) : Int)]) ∧ w' = w := Any.bits_Mul64 Tryz.lays264 x y hx hy w
def Tryz.lays110_ren : Go.Shelf.Ren := ⟨fun | 110 => 55 | 109 => 83 | n => n, fun | 31 => 29 | 9 => 9 | 4 => 4 | 3 => 3 | 0 => 0 | n => n, fun | n => n⟩
theorem Tryz.lays110 : Go.Proofs.Lays.n110 Tryz.prog Tryz.lays110_ren := {
  mixed := by kernel_rfl
  f109 := Tryz.func83.trans (congrArg some (by kernel_rfl))
  f110 := Tryz.func55.trans (congrArg some (by kernel_rfl))
  t0 := Tryz.underlying0
  a0 := Tryz.isAgg0
  z0 := Tryz.sizeOf0
  v0 := Tryz.zeroValue0
  t3 := Tryz.underlying3
  a3 := Tryz.isAgg3
  z3 := Tryz.sizeOf3
  v3 := Tryz.zeroValue3
  t4 := Tryz.underlying4
  a4 := Tryz.isAgg4
  z4 := Tryz.sizeOf4
  v4 := Tryz.zeroValue4
  t9 := Tryz.underlying9
  a9 := Tryz.isAgg9
  z9 := Tryz.sizeOf9
  v9 := Tryz.zeroValue9
  t31 := Tryz.underlying29
  a31 := Tryz.isAgg29
  z31 := Tryz.sizeOf29
  v31 := Tryz.zeroValue29 }
open Go.Lib in
theorem Tryz.slices_Contains_string (b off n c : Nat) (zs : List ByteArray) (x : ByteArray) (w : World) (hz : n ≤ zs.length) (hbig : n ≤ 9223372036854775807) (hc : ∀ j, j < zs.length → w.cell? ⟨b, off + j, none⟩ = some (.string (zs.getD j ByteArray.empty))) :
    Calls Tryz.prog 55 #[.slice (some ⟨b, off, none⟩) n c, .string x] w fun e w' => e = .returned (.bool (Lib.containsS (zs.take n) x)) ∧ w' = w := Any.slices_Contains_string Tryz.lays110 b off n c zs x w hz hbig hc
def Tryz.laysSlK4_ren : Go.Shelf.Ren := ⟨fun | 4 => 29 | n => n, fun | 22 => 27 | 4 => 4 | 5 => 5 | n => n, fun | n => n⟩
theorem Tryz.laysSlK4 : Go.Proofs.SlLaysK.n4 Tryz.prog Tryz.laysSlK4_ren := {
  mixed := by kernel_rfl
  f4 := Tryz.func29.trans (congrArg some (by kernel_rfl))
  t4 := Tryz.underlying4
  a4 := Tryz.isAgg4
  z4 := Tryz.sizeOf4
  v4 := Tryz.zeroValue4
  t22 := Tryz.underlying27
  a22 := Tryz.isAgg27
  z22 := Tryz.sizeOf27
  v22 := Tryz.zeroValue27
  t5 := Tryz.underlying5
  i5 := by kernel_rfl }
open Go.RowKit Go.Lib in
theorem Tryz.bytes_Clone_at (a : Addr) (n c : Nat) (xs : List Int) (w : World) (hx : xs.length = n) (hbig : n ≤ 140737488355328) (hc : ∀ i, i < n → w.cell? (a.add i) = some (.int .u8 (xs.getD i 0))) :
    Calls Tryz.prog 29 #[.slice (some a) n c] w fun e w' => ∃ v', e = .returned v' ∧ w'.ownsRow w.heap.size 5 1 v' n (xs.map (Value.int .u8)) ∧ v' ≠ .slice none 0 0 ∧ Below w.heap.size w w' := Any.bytes_Clone_at Tryz.laysSlK4 a n c xs w hx hbig hc
open Go.RowKit Go.Lib in
theorem Tryz.bytes_Clone_nil (n c : Nat) (w : World) :
    Calls Tryz.prog 29 #[.slice none n c] w fun e w' => e = .returned (.slice none 0 0) ∧ w' = w := Any.bytes_Clone_nil Tryz.laysSlK4 n c w
end Go.Proofs
