/- Part of the proof of FnParse: what the functions that it reaches do, as contracts. Conditions: those that each theorem names. -/
import Derived.Shelf.Small.Bits
import Derived.Shelf.Strconv.Itoa0
import Derived.Shelf.Strconv.Itoa1
import Derived.Shelf.LaysM
import Derived.Shelf.Strconv.Itoa2
import Derived.Shelf.Strconv.Itoa3
import Derived.Shelf.Strconv.ParseIntEmpty
import Derived.Shelf.Strconv.Clone
import Derived.Shelf.Strconv.SyntaxError
import Derived.Shelf.LaysC
import Derived.Shelf.Strconv.ToError
import Derived.Shelf.Strconv.Lower
import Derived.Shelf.Strconv.ParseUint10
import Derived.Shelf.Strconv.ParseUint10Empty
import Derived.Shelf.Strconv.ParseUint10Any
import Derived.Shelf.Strconv.ParseInt10
import Derived.Shelf.Strconv.RangeError
import Derived.Shelf.Strconv.ToErrorRange
import Derived.Shelf.Strconv.ParseUintEmpty
import Derived.Shelf.Strconv.ParseUint10b64
import Derived.Shelf.Strconv.ParseUint10b32
import Derived.Shelf.Strconv.ParseUint10b16
import Derived.Shelf.Strconv.ParseUint10b8
import Derived.Shelf.Strconv.ParseUint10At
import Derived.Shelf.Strconv.ParseInt10At64
import Derived.Shelf.Strconv.ParseInt10At32
import Derived.Shelf.Strconv.ParseInt10At16
import Derived.Shelf.Strconv.ParseInt10At8
import Derived.Shelf.Strconv.ParseInt10All
import Derived.Shelf.Strconv.ParseIntPublic10
import Derived.Shelf.Strconv.ErrVarParseInt
import Derived.Shelf.Bits.Mul64
import Derived.Test.YtmgfajamanakcaaGreatDoorProg
namespace Go.Proofs
set_option linter.unusedVariables false
set_option linter.unusedSimpArgs false
open Go.Shelf
def Tryz.laysC174_ren : Go.Shelf.Ren := ⟨fun | 174 => 185 | 247 => 229 | 245 => 230 | 287 => 254 | 279 => 255 | 280 => 256 | 281 => 257 | 282 => 258 | 321 => 270 | 322 => 271 | 316 => 272 | 171 => 273 | 205 => 114 | 243 => 279 | 246 => 287 | 283 => 289 | 284 => 290 | 285 => 291 | 286 => 292 | 129 => 260 | 317 => 293 | 318 => 294 | 319 => 295 | 320 => 201 | 337 => 236 | 338 => 237 | n => n, fun | 9 => 9 | 3 => 3 | 2 => 2 | 75 => 110 | 85 => 239 | 4 => 4 | 167 => 294 | 5 => 5 | 53 => 141 | 175 => 295 | 46 => 22 | 168 => 297 | 37 => 100 | 0 => 0 | 210 => 310 | 21 => 21 | 127 => 312 | 145 => 231 | 143 => 229 | 171 => 320 | 173 => 322 | 212 => 326 | 51 => 132 | 20 => 20 | 213 => 327 | 232 => 302 | 233 => 303 | 80 => 101 | n => n, fun | 15 => 12 | 16 => 13 | 17 => 14 | 18 => 10 | 19 => 11 | n => n⟩
theorem Tryz.laysC174 : Go.Proofs.LaysC.n174 Tryz.prog Tryz.laysC174_ren := {
  mixed := by kernel_rfl
  f129 := Tryz.func260.trans (congrArg some (by kernel_rfl))
  f171 := Tryz.func273.trans (congrArg some (by kernel_rfl))
  f174 := Tryz.func185.trans (congrArg some (by kernel_rfl))
  f205 := Tryz.func114.trans (congrArg some (by kernel_rfl))
  f243 := Tryz.func279.trans (congrArg some (by kernel_rfl))
  f245 := Tryz.func230.trans (congrArg some (by kernel_rfl))
  f246 := Tryz.func287.trans (congrArg some (by kernel_rfl))
  f247 := Tryz.func229.trans (congrArg some (by kernel_rfl))
  f279 := Tryz.func255.trans (congrArg some (by kernel_rfl))
  f280 := Tryz.func256.trans (congrArg some (by kernel_rfl))
  f281 := Tryz.func257.trans (congrArg some (by kernel_rfl))
  f282 := Tryz.func258.trans (congrArg some (by kernel_rfl))
  f283 := Tryz.func289.trans (congrArg some (by kernel_rfl))
  f284 := Tryz.func290.trans (congrArg some (by kernel_rfl))
  f285 := Tryz.func291.trans (congrArg some (by kernel_rfl))
  f286 := Tryz.func292.trans (congrArg some (by kernel_rfl))
  f287 := Tryz.func254.trans (congrArg some (by kernel_rfl))
  f316 := Tryz.func272.trans (congrArg some (by kernel_rfl))
  f317 := Tryz.func293.trans (congrArg some (by kernel_rfl))
  f318 := Tryz.func294.trans (congrArg some (by kernel_rfl))
  f319 := Tryz.func295.trans (congrArg some (by kernel_rfl))
  f320 := Tryz.func201.trans (congrArg some (by kernel_rfl))
  f321 := Tryz.func270.trans (congrArg some (by kernel_rfl))
  f322 := Tryz.func271.trans (congrArg some (by kernel_rfl))
  f337 := Tryz.func236.trans (congrArg some (by kernel_rfl))
  f338 := Tryz.func237.trans (congrArg some (by kernel_rfl))
  t0 := Tryz.underlying0
  a0 := Tryz.isAgg0
  z0 := Tryz.sizeOf0
  v0 := Tryz.zeroValue0
  t2 := Tryz.underlying2
  a2 := Tryz.isAgg2
  z2 := Tryz.sizeOf2
  v2 := Tryz.zeroValue2
  t3 := Tryz.underlying3
  a3 := Tryz.isAgg3
  z3 := Tryz.sizeOf3
  v3 := Tryz.zeroValue3
  t4 := Tryz.underlying4
  a4 := Tryz.isAgg4
  z4 := Tryz.sizeOf4
  v4 := Tryz.zeroValue4
  t5 := Tryz.underlying5
  a5 := Tryz.isAgg5
  z5 := Tryz.sizeOf5
  v5 := Tryz.zeroValue5
  t9 := Tryz.underlying9
  a9 := Tryz.isAgg9
  z9 := Tryz.sizeOf9
  v9 := Tryz.zeroValue9
  t20 := Tryz.underlying20
  a20 := Tryz.isAgg20
  z20 := Tryz.sizeOf20
  v20 := Tryz.zeroValue20
  t21 := Tryz.underlying21
  a21 := Tryz.isAgg21
  z21 := Tryz.sizeOf21
  v21 := Tryz.zeroValue21
  t37 := Tryz.underlying100
  a37 := Tryz.isAgg100
  z37 := Tryz.sizeOf100
  v37 := Tryz.zeroValue100
  t46 := Tryz.underlying22
  a46 := Tryz.isAgg22
  z46 := Tryz.sizeOf22
  v46 := Tryz.zeroValue22
  t51 := Tryz.underlying132
  a51 := Tryz.isAgg132
  z51 := Tryz.sizeOf132
  v51 := Tryz.zeroValue132
  t53 := Tryz.underlying141
  a53 := Tryz.isAgg141
  z53 := Tryz.sizeOf141
  v53 := Tryz.zeroValue141
  t75 := Tryz.underlying110
  a75 := Tryz.isAgg110
  z75 := Tryz.sizeOf110
  v75 := Tryz.zeroValue110
  t85 := Tryz.underlying239
  a85 := Tryz.isAgg239
  z85 := Tryz.sizeOf239
  v85 := Tryz.zeroValue239
  t127 := Tryz.underlying312
  a127 := Tryz.isAgg312
  z127 := Tryz.sizeOf312
  v127 := Tryz.zeroValue312
  t143 := Tryz.underlying229
  a143 := Tryz.isAgg229
  z143 := Tryz.sizeOf229
  v143 := Tryz.zeroValue229
  t145 := Tryz.underlying231
  a145 := Tryz.isAgg231
  z145 := Tryz.sizeOf231
  v145 := Tryz.zeroValue231
  t167 := Tryz.underlying294
  a167 := Tryz.isAgg294
  z167 := Tryz.sizeOf294
  v167 := Tryz.zeroValue294
  t168 := Tryz.underlying297
  a168 := Tryz.isAgg297
  z168 := Tryz.sizeOf297
  v168 := Tryz.zeroValue297
  t171 := Tryz.underlying320
  a171 := Tryz.isAgg320
  z171 := Tryz.sizeOf320
  v171 := Tryz.zeroValue320
  t173 := Tryz.underlying322
  a173 := Tryz.isAgg322
  z173 := Tryz.sizeOf322
  v173 := Tryz.zeroValue322
  t175 := Tryz.underlying295
  a175 := Tryz.isAgg295
  z175 := Tryz.sizeOf295
  v175 := Tryz.zeroValue295
  t210 := Tryz.underlying310
  a210 := Tryz.isAgg310
  z210 := Tryz.sizeOf310
  v210 := Tryz.zeroValue310
  t212 := Tryz.underlying326
  a212 := Tryz.isAgg326
  z212 := Tryz.sizeOf326
  v212 := Tryz.zeroValue326
  t213 := Tryz.underlying327
  a213 := Tryz.isAgg327
  z213 := Tryz.sizeOf327
  t232 := Tryz.underlying302
  a232 := Tryz.isAgg302
  z232 := Tryz.sizeOf302
  v232 := Tryz.zeroValue302
  t233 := Tryz.underlying303
  a233 := Tryz.isAgg303
  z233 := Tryz.sizeOf303
  v233 := Tryz.zeroValue303
  g15 := by kernel_rfl
  g16 := by kernel_rfl
  g17 := by kernel_rfl
  g18 := by kernel_rfl
  g19 := by kernel_rfl
  t80 := Tryz.underlying101
  a80 := Tryz.isAgg101
  z80 := Tryz.sizeOf101
  v80 := Tryz.zeroValue101
  i0 := by kernel_rfl
  i2 := by kernel_rfl
  i3 := by kernel_rfl
  i4 := by kernel_rfl
  i5 := by kernel_rfl
  i9 := by kernel_rfl
  i20 := by kernel_rfl
  i21 := by kernel_rfl
  i37 := by kernel_rfl
  i46 := by kernel_rfl
  i51 := by kernel_rfl
  i53 := by kernel_rfl
  i75 := by kernel_rfl
  i80 := by kernel_rfl
  i85 := by kernel_rfl
  i127 := by kernel_rfl
  i143 := by kernel_rfl
  i145 := by kernel_rfl
  i167 := by kernel_rfl
  i168 := by kernel_rfl
  i171 := by kernel_rfl
  i173 := by kernel_rfl
  i175 := by kernel_rfl
  i210 := by kernel_rfl
  i212 := by kernel_rfl
  i232 := by kernel_rfl
  i233 := by kernel_rfl
  m15 := by kernel_rfl
  m16 := by kernel_rfl
  m17 := by kernel_rfl
  m18 := by kernel_rfl
  m19 := by kernel_rfl
  c0 := by kernel_rfl
  c2 := by kernel_rfl
  c3 := by kernel_rfl
  c4 := by kernel_rfl
  c5 := by kernel_rfl
  c9 := by kernel_rfl
  c20 := by kernel_rfl
  c21 := by kernel_rfl
  c37 := by kernel_rfl
  c46 := by kernel_rfl
  c51 := by kernel_rfl
  c53 := by kernel_rfl
  c75 := by kernel_rfl
  c80 := by kernel_rfl
  c85 := by kernel_rfl
  c127 := by kernel_rfl
  c143 := by kernel_rfl
  c145 := by kernel_rfl
  c167 := by kernel_rfl
  c168 := by kernel_rfl
  c171 := by kernel_rfl
  c173 := by kernel_rfl
  c175 := by kernel_rfl
  c210 := by kernel_rfl
  c212 := by kernel_rfl
  c213 := by kernel_rfl
  c232 := by kernel_rfl
  c233 := by kernel_rfl }
open Go.RowKit in
theorem Tryz.strconv_ParseInt_10_at64_ok (s : ByteArray) (hmax : s.size ≤ 9223372036854775806) (v : Int) (h : Lib.parseIntB 64 s.data.toList = .ok v) (w : World) :
    Calls Tryz.prog 185 #[.string s, .int .i64 10, .int .i64 64] w fun e w' => e = .returned (.tuple #[.int .i64 v, .nilIface]) ∧ (w' = w ∨ ∃ t, w' = Lib.bytesWorld w 5 t) := Any.strconv_ParseInt_10_at64_ok Tryz.laysC174 s hmax v h w
open Go.RowKit in
theorem Tryz.strconv_ParseInt_10_at64_syntax (s : ByteArray) (hlim : s.size ≤ 281474976710656) (h : Lib.parseIntB 64 s.data.toList = Lib.NumEnd.syntax) (ev : Value) (w : World) (hv : w.cell? ⟨12, 0, none⟩ = some ev) (hev : ev = .nilIface ∨ ∃ te pe, ev = .iface te pe) :
    Calls Tryz.prog 185 #[.string s, .int .i64 10, .int .i64 64] w fun e w' => ∃ N, e = .returned (.tuple #[.int .i64 (0), .iface 297 (.pointer (some ⟨N, 0, none⟩))]) ∧ w.heap.size ≤ N ∧ w'.heap[N]? = some (.cells #[.string ⟨#[80, 97, 114, 115, 101, 73, 110, 116]⟩, .string s, ev] 310 (0, 0)) ∧ Below w.heap.size w w' := Any.strconv_ParseInt_10_at64_syntax Tryz.laysC174 s hlim h ev w hv hev
open Go.RowKit in
theorem Tryz.strconv_ParseInt_10_at64_range (s : ByteArray) (hlim : s.size ≤ 281474976710656) (h : Lib.parseIntB 64 s.data.toList = .range) (ev : Value) (w : World) (hv : w.cell? ⟨13, 0, none⟩ = some ev) (hev : ev = .nilIface ∨ ∃ te pe, ev = .iface te pe) :
    Calls Tryz.prog 185 #[.string s, .int .i64 10, .int .i64 64] w fun e w' => ∃ N, e = .returned (.tuple #[.int .i64 (Lib.intSat 64 s.data.toList), .iface 297 (.pointer (some ⟨N, 0, none⟩))]) ∧ w.heap.size ≤ N ∧ w'.heap[N]? = some (.cells #[.string ⟨#[80, 97, 114, 115, 101, 73, 110, 116]⟩, .string s, ev] 310 (0, 0)) ∧ Below w.heap.size w w' := Any.strconv_ParseInt_10_at64_range Tryz.laysC174 s hlim h ev w hv hev
end Go.Proofs
