/- DERIVED: THE SHELF's CONTRACTS AT THIS DUMP, IN PLAIN WORDS (tools/lay-plain.mjs out of 'TryzShelfS.lean', which tools/lay-shelf.mjs wrote): THE SAME DECLARATIONS UNDER THE SAME NAMES: 'import', 'namespace', 'open', 'def', 'theorem' AND NOTHING ELSE: no command of the shelf's: FOR A HAND-IN. Each laying: the table of numbers ('.._ren') and one theorem, a field a fact of the dump's own or the kernel's comparison; each contract: ONE APPLICATION. -/
import Derived.Shelf.Small.Utf8
import Derived.Shelf.Strconv.Itoa0
import Derived.Shelf.Strconv.ParseIntEmpty
import Derived.Shelf.LaysM
import Derived.Shelf.Strconv.Clone
import Derived.Shelf.Strconv.SyntaxError
import Derived.Shelf.LaysC
import Derived.Shelf.Strconv.ToError
import Derived.Shelf.Strconv.Lower
import Derived.Shelf.Strconv.ParseUint10
import Derived.Shelf.Strconv.ParseUint10Empty
import Derived.Shelf.Strconv.ParseUint10Any
import Derived.Shelf.Strconv.ParseInt10
import Derived.Shelf.Strconv.RangeError
import Derived.Shelf.Strconv.ToErrorRange
import Derived.Shelf.Strconv.ParseUintEmpty
import Derived.Shelf.Strconv.ParseUint10b64
import Derived.Shelf.Strconv.ParseUint10b32
import Derived.Shelf.Strconv.ParseUint10b16
import Derived.Shelf.Strconv.ParseUint10b8
import Derived.Shelf.Strconv.ParseUint10At
import Derived.Shelf.Strconv.ParseInt10At64
import Derived.Shelf.Strconv.ParseInt10At32
import Derived.Shelf.Strconv.ParseInt10At16
import Derived.Shelf.Strconv.ParseInt10At8
import Derived.Shelf.Strconv.ParseInt10All
import Derived.Shelf.Strconv.ParseIntPublic10
import Derived.Shelf.Strconv.ErrVarParseInt
import Derived.Ground.MpProg
import Derived.Shelf.Pu.ParseUintPublic10
import Derived.Shelf.Pu.ErrVarParseUint
import Derived.Shelf.Strings.Prefix
import Derived.Shelf.Bits.Mul64
import Derived.Test.YticdagnbnmnidaaGreatDoorProg
set_option linter.unusedSimpArgs false
set_option linter.unusedVariables false
namespace Go.Proofs
open Go.Shelf
def Tryz.lays119_ren : Go.Shelf.Ren := ⟨fun | 119 => 285 | n => n, fun | 21 => 21 | 4 => 4 | n => n, fun | n => n⟩
theorem Tryz.lays119 : Go.Proofs.Lays.n119 Tryz.prog Tryz.lays119_ren := {
  mixed := by kernel_rfl
  f119 := Tryz.func285.trans (congrArg some (by kernel_rfl))
  t4 := Tryz.underlying4
  a4 := Tryz.isAgg4
  z4 := Tryz.sizeOf4
  v4 := Tryz.zeroValue4
  t21 := Tryz.underlying21
  a21 := Tryz.isAgg21
  z21 := Tryz.sizeOf21
  v21 := Tryz.zeroValue21 }
/-- utf8.ValidRune: "ValidRune reports whether r can be legally encoded as UTF-8. Code points that are out of range or a surrogate half are illegal.": IT RETURNS 'Lib.validRune r'; the world is as it was. (LAID: no walk: one application.) -/
theorem Tryz.utf8_ValidRune (r : Int) (w : World) :
    Calls Tryz.prog 285 #[.int .i32 r] w fun e w' => e = .returned (.bool (Lib.validRune r)) ∧ w' = w := Any.utf8_ValidRune Tryz.lays119 r w
def Tryz.lays129_ren : Go.Shelf.Ren := ⟨fun | 129 => 234 | n => n, fun | 53 => 32 | 3 => 3 | 4 => 4 | 46 => 260 | 5 => 5 | 9 => 9 | n => n, fun | n => n⟩
theorem Tryz.lays129 : Go.Proofs.Lays.n129 Tryz.prog Tryz.lays129_ren := {
  mixed := by kernel_rfl
  f129 := Tryz.func234.trans (congrArg some (by kernel_rfl))
  t3 := Tryz.underlying3
  a3 := Tryz.isAgg3
  z3 := Tryz.sizeOf3
  v3 := Tryz.zeroValue3
  t4 := Tryz.underlying4
  a4 := Tryz.isAgg4
  z4 := Tryz.sizeOf4
  v4 := Tryz.zeroValue4
  t5 := Tryz.underlying5
  a5 := Tryz.isAgg5
  z5 := Tryz.sizeOf5
  v5 := Tryz.zeroValue5
  t9 := Tryz.underlying9
  a9 := Tryz.isAgg9
  z9 := Tryz.sizeOf9
  v9 := Tryz.zeroValue9
  t46 := Tryz.underlying260
  a46 := Tryz.isAgg260
  z46 := Tryz.sizeOf260
  v46 := Tryz.zeroValue260
  t53 := Tryz.underlying32
  a53 := Tryz.isAgg32
  z53 := Tryz.sizeOf32
  v53 := Tryz.zeroValue32 }
/-- bits.Len64: "Len64 returns the minimum number of bits required to represent x; the result is 0 for x == 0.": IT RETURNS 'Lib.bitLen x'; the world is as it was. ('h0', 'h1': x is a uint64.) (LAID: no walk: one application.) -/
theorem Tryz.bits_Len64 (x : Int) (w : World) (h0 : 0 ≤ x) (h1 : x ≤ 18446744073709551615) :
    Calls Tryz.prog 234 #[.int .u64 x] w fun e w' => e = .returned (.int .i64 (Lib.bitLen x.toNat)) ∧ w' = w := Any.bits_Len64 Tryz.lays129 x w h0 h1
def Tryz.laysM316_ren : Go.Shelf.Ren := ⟨fun | 316 => 279 | n => n, fun | 9 => 9 | 3 => 3 | 4 => 4 | 37 => 75 | 0 => 0 | 127 => 369 | 5 => 5 | n => n, fun | n => n⟩
theorem Tryz.laysM316 : Go.Proofs.LaysM.n316 Tryz.prog Tryz.laysM316_ren := {
  mixed := by kernel_rfl
  f316 := Tryz.func279.trans (congrArg some (by kernel_rfl))
  t0 := Tryz.underlying0
  a0 := Tryz.isAgg0
  z0 := Tryz.sizeOf0
  v0 := Tryz.zeroValue0
  t3 := Tryz.underlying3
  a3 := Tryz.isAgg3
  z3 := Tryz.sizeOf3
  v3 := Tryz.zeroValue3
  t4 := Tryz.underlying4
  a4 := Tryz.isAgg4
  z4 := Tryz.sizeOf4
  v4 := Tryz.zeroValue4
  t9 := Tryz.underlying9
  a9 := Tryz.isAgg9
  z9 := Tryz.sizeOf9
  v9 := Tryz.zeroValue9
  t37 := Tryz.underlying75
  a37 := Tryz.isAgg75
  z37 := Tryz.sizeOf75
  v37 := Tryz.zeroValue75
  t127 := Tryz.underlying369
  a127 := Tryz.isAgg369
  z127 := Tryz.sizeOf369
  v127 := Tryz.zeroValue369
  t5 := Tryz.underlying5
  a5 := Tryz.isAgg5
  z5 := Tryz.sizeOf5
  v5 := Tryz.zeroValue5
  i0 := by kernel_rfl
  i3 := by kernel_rfl
  i4 := by kernel_rfl
  i5 := by kernel_rfl
  i9 := by kernel_rfl
  i37 := by kernel_rfl
  i127 := by kernel_rfl }
open Go.RowKit in
/-- internal/stringslite.Clone (what strings.Clone calls): "Clone returns a fresh copy of s.": THE SAME BYTES. Of what was there nothing has turned (a new row is laid, and frozen, where s is not empty). (LAID: no walk: one application.) -/
theorem Tryz.stringslite_Clone (s : ByteArray) (w : World) (hlim : s.size ≤ 281474976710656) :
    Calls Tryz.prog 279 #[.string s] w fun e w' => e = .returned (.string s) ∧ Below w.heap.size w w' := Any.stringslite_Clone Tryz.laysM316 s w hlim
def Tryz.laysM279_ren : Go.Shelf.Ren := ⟨fun | 279 => 251 | 316 => 279 | n => n, fun | 9 => 9 | 168 => 275 | 75 => 80 | 210 => 278 | 3 => 3 | 4 => 4 | 37 => 75 | 0 => 0 | 127 => 369 | 80 => 239 | 5 => 5 | n => n, fun | 15 => 10 | n => n⟩
theorem Tryz.laysM279 : Go.Proofs.LaysM.n279 Tryz.prog Tryz.laysM279_ren := {
  mixed := by kernel_rfl
  f279 := Tryz.func251.trans (congrArg some (by kernel_rfl))
  f316 := Tryz.func279.trans (congrArg some (by kernel_rfl))
  t0 := Tryz.underlying0
  a0 := Tryz.isAgg0
  z0 := Tryz.sizeOf0
  v0 := Tryz.zeroValue0
  t3 := Tryz.underlying3
  a3 := Tryz.isAgg3
  z3 := Tryz.sizeOf3
  v3 := Tryz.zeroValue3
  t4 := Tryz.underlying4
  a4 := Tryz.isAgg4
  z4 := Tryz.sizeOf4
  v4 := Tryz.zeroValue4
  t9 := Tryz.underlying9
  a9 := Tryz.isAgg9
  z9 := Tryz.sizeOf9
  v9 := Tryz.zeroValue9
  t37 := Tryz.underlying75
  a37 := Tryz.isAgg75
  z37 := Tryz.sizeOf75
  v37 := Tryz.zeroValue75
  t75 := Tryz.underlying80
  a75 := Tryz.isAgg80
  z75 := Tryz.sizeOf80
  v75 := Tryz.zeroValue80
  t127 := Tryz.underlying369
  a127 := Tryz.isAgg369
  z127 := Tryz.sizeOf369
  v127 := Tryz.zeroValue369
  t168 := Tryz.underlying275
  a168 := Tryz.isAgg275
  z168 := Tryz.sizeOf275
  v168 := Tryz.zeroValue275
  t210 := Tryz.underlying278
  a210 := Tryz.isAgg278
  z210 := Tryz.sizeOf278
  v210 := Tryz.zeroValue278
  g15 := by kernel_rfl
  t5 := Tryz.underlying5
  a5 := Tryz.isAgg5
  z5 := Tryz.sizeOf5
  v5 := Tryz.zeroValue5
  t80 := Tryz.underlying239
  a80 := Tryz.isAgg239
  z80 := Tryz.sizeOf239
  v80 := Tryz.zeroValue239
  i0 := by kernel_rfl
  i3 := by kernel_rfl
  i4 := by kernel_rfl
  i5 := by kernel_rfl
  i9 := by kernel_rfl
  i37 := by kernel_rfl
  i75 := by kernel_rfl
  i80 := by kernel_rfl
  i127 := by kernel_rfl
  i168 := by kernel_rfl
  i210 := by kernel_rfl
  m15 := by kernel_rfl }
open Go.RowKit in
/-- strconv.syntaxError: '&NumError{fn, stringslite.Clone(str), ErrSyntax}': A POINTER TO A NEW BLOCK that holds fn, str's bytes, and what the variable ErrSyntax holds. Of what was there nothing has turned. (LAID: no walk: one application.) -/
theorem Tryz.strconv_syntaxError (fn s : ByteArray) (ev : Value) (w : World) (hlim : s.size ≤ 281474976710656) (hv : w.cell? ⟨10, 0, none⟩ = some ev) (hev : ev = .nilIface ∨ ∃ te pe, ev = .iface te pe) :
    Calls Tryz.prog 251 #[.string fn, .string s] w fun e w' => ∃ N, e = .returned (.pointer (some ⟨N, 0, none⟩)) ∧ w.heap.size ≤ N ∧ w'.heap[N]? = some (.cells #[.string fn, .string s, ev] 278 (0, 0)) ∧ Below w.heap.size w w' := Any.strconv_syntaxError Tryz.laysM279 fn s ev w hlim hv hev
def Tryz.lays321_ren : Go.Shelf.Ren := ⟨fun | 321 => 255 | n => n, fun | 5 => 5 | n => n, fun | n => n⟩
theorem Tryz.lays321 : Go.Proofs.Lays.n321 Tryz.prog Tryz.lays321_ren := {
  mixed := by kernel_rfl
  f321 := Tryz.func255.trans (congrArg some (by kernel_rfl))
  t5 := Tryz.underlying5
  a5 := Tryz.isAgg5
  z5 := Tryz.sizeOf5
  v5 := Tryz.zeroValue5 }
open Go.RowKit in
/-- internal/strconv.lower: 'c | ('x' - 'X')': the bit 32 set. The world is as it was. (LAID: no walk: one application.) -/
theorem Tryz.internal_strconv_lower (c : Int) (w : World) :
    Calls Tryz.prog 255 #[.int .u8 c] w fun e w' => e = .returned (.int .u8 (bits .or .u8 c 32)) ∧ w' = w := Any.internal_strconv_lower Tryz.lays321 c w
def Tryz.laysM280_ren : Go.Shelf.Ren := ⟨fun | 280 => 252 | 316 => 279 | n => n, fun | 9 => 9 | 168 => 275 | 75 => 80 | 210 => 278 | 3 => 3 | 4 => 4 | 37 => 75 | 0 => 0 | 127 => 369 | 80 => 239 | 5 => 5 | n => n, fun | 16 => 4 | n => n⟩
theorem Tryz.laysM280 : Go.Proofs.LaysM.n280 Tryz.prog Tryz.laysM280_ren := {
  mixed := by kernel_rfl
  f280 := Tryz.func252.trans (congrArg some (by kernel_rfl))
  f316 := Tryz.func279.trans (congrArg some (by kernel_rfl))
  t0 := Tryz.underlying0
  a0 := Tryz.isAgg0
  z0 := Tryz.sizeOf0
  v0 := Tryz.zeroValue0
  t3 := Tryz.underlying3
  a3 := Tryz.isAgg3
  z3 := Tryz.sizeOf3
  v3 := Tryz.zeroValue3
  t4 := Tryz.underlying4
  a4 := Tryz.isAgg4
  z4 := Tryz.sizeOf4
  v4 := Tryz.zeroValue4
  t9 := Tryz.underlying9
  a9 := Tryz.isAgg9
  z9 := Tryz.sizeOf9
  v9 := Tryz.zeroValue9
  t37 := Tryz.underlying75
  a37 := Tryz.isAgg75
  z37 := Tryz.sizeOf75
  v37 := Tryz.zeroValue75
  t75 := Tryz.underlying80
  a75 := Tryz.isAgg80
  z75 := Tryz.sizeOf80
  v75 := Tryz.zeroValue80
  t127 := Tryz.underlying369
  a127 := Tryz.isAgg369
  z127 := Tryz.sizeOf369
  v127 := Tryz.zeroValue369
  t168 := Tryz.underlying275
  a168 := Tryz.isAgg275
  z168 := Tryz.sizeOf275
  v168 := Tryz.zeroValue275
  t210 := Tryz.underlying278
  a210 := Tryz.isAgg278
  z210 := Tryz.sizeOf278
  v210 := Tryz.zeroValue278
  g16 := by kernel_rfl
  t5 := Tryz.underlying5
  a5 := Tryz.isAgg5
  z5 := Tryz.sizeOf5
  v5 := Tryz.zeroValue5
  t80 := Tryz.underlying239
  a80 := Tryz.isAgg239
  z80 := Tryz.sizeOf239
  v80 := Tryz.zeroValue239
  i0 := by kernel_rfl
  i3 := by kernel_rfl
  i4 := by kernel_rfl
  i5 := by kernel_rfl
  i9 := by kernel_rfl
  i37 := by kernel_rfl
  i75 := by kernel_rfl
  i80 := by kernel_rfl
  i127 := by kernel_rfl
  i168 := by kernel_rfl
  i210 := by kernel_rfl
  m16 := by kernel_rfl }
open Go.RowKit in
/-- strconv.rangeError: '&NumError{fn, stringslite.Clone(str), ErrRange}': A POINTER TO A NEW BLOCK that holds fn, str's bytes, and what the variable ErrRange holds. Of what was there nothing has turned. (LAID: no walk: one application.) -/
theorem Tryz.strconv_rangeError (fn s : ByteArray) (ev : Value) (w : World) (hlim : s.size ≤ 281474976710656) (hv : w.cell? ⟨4, 0, none⟩ = some ev) (hev : ev = .nilIface ∨ ∃ te pe, ev = .iface te pe) :
    Calls Tryz.prog 252 #[.string fn, .string s] w fun e w' => ∃ N, e = .returned (.pointer (some ⟨N, 0, none⟩)) ∧ w.heap.size ≤ N ∧ w'.heap[N]? = some (.cells #[.string fn, .string s, ev] 278 (0, 0)) ∧ Below w.heap.size w w' := Any.strconv_rangeError Tryz.laysM280 fn s ev w hlim hv hev
def Tryz.laysC174_ren : Go.Shelf.Ren := ⟨fun | 174 => 216 | 247 => 248 | 245 => 228 | 287 => 249 | 279 => 251 | 280 => 252 | 281 => 253 | 282 => 254 | 321 => 255 | 322 => 276 | 316 => 279 | 171 => 280 | 205 => 111 | 243 => 299 | 246 => 309 | 283 => 208 | 284 => 209 | 285 => 210 | 286 => 211 | 129 => 234 | 317 => 237 | 318 => 243 | 319 => 244 | 320 => 245 | 337 => 272 | 338 => 273 | n => n, fun | 9 => 9 | 3 => 3 | 2 => 2 | 75 => 80 | 85 => 144 | 4 => 4 | 167 => 315 | 5 => 5 | 53 => 32 | 175 => 233 | 46 => 260 | 168 => 275 | 37 => 75 | 0 => 0 | 210 => 278 | 21 => 21 | 127 => 369 | 145 => 242 | 143 => 240 | 171 => 265 | 173 => 268 | 212 => 309 | 51 => 292 | 20 => 20 | 213 => 310 | 232 => 297 | 233 => 348 | 80 => 239 | n => n, fun | 15 => 10 | 16 => 4 | 17 => 8 | 18 => 13 | 19 => 14 | n => n⟩
theorem Tryz.laysC174 : Go.Proofs.LaysC.n174 Tryz.prog Tryz.laysC174_ren := {
  mixed := by kernel_rfl
  f129 := Tryz.func234.trans (congrArg some (by kernel_rfl))
  f171 := Tryz.func280.trans (congrArg some (by kernel_rfl))
  f174 := Tryz.func216.trans (congrArg some (by kernel_rfl))
  f205 := Tryz.func111.trans (congrArg some (by kernel_rfl))
  f243 := Tryz.func299.trans (congrArg some (by kernel_rfl))
  f245 := Tryz.func228.trans (congrArg some (by kernel_rfl))
  f246 := Tryz.func309.trans (congrArg some (by kernel_rfl))
  f247 := Tryz.func248.trans (congrArg some (by kernel_rfl))
  f279 := Tryz.func251.trans (congrArg some (by kernel_rfl))
  f280 := Tryz.func252.trans (congrArg some (by kernel_rfl))
  f281 := Tryz.func253.trans (congrArg some (by kernel_rfl))
  f282 := Tryz.func254.trans (congrArg some (by kernel_rfl))
  f283 := Tryz.func208.trans (congrArg some (by kernel_rfl))
  f284 := Tryz.func209.trans (congrArg some (by kernel_rfl))
  f285 := Tryz.func210.trans (congrArg some (by kernel_rfl))
  f286 := Tryz.func211.trans (congrArg some (by kernel_rfl))
  f287 := Tryz.func249.trans (congrArg some (by kernel_rfl))
  f316 := Tryz.func279.trans (congrArg some (by kernel_rfl))
  f317 := Tryz.func237.trans (congrArg some (by kernel_rfl))
  f318 := Tryz.func243.trans (congrArg some (by kernel_rfl))
  f319 := Tryz.func244.trans (congrArg some (by kernel_rfl))
  f320 := Tryz.func245.trans (congrArg some (by kernel_rfl))
  f321 := Tryz.func255.trans (congrArg some (by kernel_rfl))
  f322 := Tryz.func276.trans (congrArg some (by kernel_rfl))
  f337 := Tryz.func272.trans (congrArg some (by kernel_rfl))
  f338 := Tryz.func273.trans (congrArg some (by kernel_rfl))
  t0 := Tryz.underlying0
  a0 := Tryz.isAgg0
  z0 := Tryz.sizeOf0
  v0 := Tryz.zeroValue0
  t2 := Tryz.underlying2
  a2 := Tryz.isAgg2
  z2 := Tryz.sizeOf2
  v2 := Tryz.zeroValue2
  t3 := Tryz.underlying3
  a3 := Tryz.isAgg3
  z3 := Tryz.sizeOf3
  v3 := Tryz.zeroValue3
  t4 := Tryz.underlying4
  a4 := Tryz.isAgg4
  z4 := Tryz.sizeOf4
  v4 := Tryz.zeroValue4
  t5 := Tryz.underlying5
  a5 := Tryz.isAgg5
  z5 := Tryz.sizeOf5
  v5 := Tryz.zeroValue5
  t9 := Tryz.underlying9
  a9 := Tryz.isAgg9
  z9 := Tryz.sizeOf9
  v9 := Tryz.zeroValue9
  t20 := Tryz.underlying20
  a20 := Tryz.isAgg20
  z20 := Tryz.sizeOf20
  v20 := Tryz.zeroValue20
  t21 := Tryz.underlying21
  a21 := Tryz.isAgg21
  z21 := Tryz.sizeOf21
  v21 := Tryz.zeroValue21
  t37 := Tryz.underlying75
  a37 := Tryz.isAgg75
  z37 := Tryz.sizeOf75
  v37 := Tryz.zeroValue75
  t46 := Tryz.underlying260
  a46 := Tryz.isAgg260
  z46 := Tryz.sizeOf260
  v46 := Tryz.zeroValue260
  t51 := Tryz.underlying292
  a51 := Tryz.isAgg292
  z51 := Tryz.sizeOf292
  v51 := Tryz.zeroValue292
  t53 := Tryz.underlying32
  a53 := Tryz.isAgg32
  z53 := Tryz.sizeOf32
  v53 := Tryz.zeroValue32
  t75 := Tryz.underlying80
  a75 := Tryz.isAgg80
  z75 := Tryz.sizeOf80
  v75 := Tryz.zeroValue80
  t85 := Tryz.underlying144
  a85 := Tryz.isAgg144
  z85 := Tryz.sizeOf144
  v85 := Tryz.zeroValue144
  t127 := Tryz.underlying369
  a127 := Tryz.isAgg369
  z127 := Tryz.sizeOf369
  v127 := Tryz.zeroValue369
  t143 := Tryz.underlying240
  a143 := Tryz.isAgg240
  z143 := Tryz.sizeOf240
  v143 := Tryz.zeroValue240
  t145 := Tryz.underlying242
  a145 := Tryz.isAgg242
  z145 := Tryz.sizeOf242
  v145 := Tryz.zeroValue242
  t167 := Tryz.underlying315
  a167 := Tryz.isAgg315
  z167 := Tryz.sizeOf315
  v167 := Tryz.zeroValue315
  t168 := Tryz.underlying275
  a168 := Tryz.isAgg275
  z168 := Tryz.sizeOf275
  v168 := Tryz.zeroValue275
  t171 := Tryz.underlying265
  a171 := Tryz.isAgg265
  z171 := Tryz.sizeOf265
  v171 := Tryz.zeroValue265
  t173 := Tryz.underlying268
  a173 := Tryz.isAgg268
  z173 := Tryz.sizeOf268
  v173 := Tryz.zeroValue268
  t175 := Tryz.underlying233
  a175 := Tryz.isAgg233
  z175 := Tryz.sizeOf233
  v175 := Tryz.zeroValue233
  t210 := Tryz.underlying278
  a210 := Tryz.isAgg278
  z210 := Tryz.sizeOf278
  v210 := Tryz.zeroValue278
  t212 := Tryz.underlying309
  a212 := Tryz.isAgg309
  z212 := Tryz.sizeOf309
  v212 := Tryz.zeroValue309
  t213 := Tryz.underlying310
  a213 := Tryz.isAgg310
  z213 := Tryz.sizeOf310
  t232 := Tryz.underlying297
  a232 := Tryz.isAgg297
  z232 := Tryz.sizeOf297
  v232 := Tryz.zeroValue297
  t233 := Tryz.underlying348
  a233 := Tryz.isAgg348
  z233 := Tryz.sizeOf348
  v233 := Tryz.zeroValue348
  g15 := by kernel_rfl
  g16 := by kernel_rfl
  g17 := by kernel_rfl
  g18 := by kernel_rfl
  g19 := by kernel_rfl
  t80 := Tryz.underlying239
  a80 := Tryz.isAgg239
  z80 := Tryz.sizeOf239
  v80 := Tryz.zeroValue239
  i0 := by kernel_rfl
  i2 := by kernel_rfl
  i3 := by kernel_rfl
  i4 := by kernel_rfl
  i5 := by kernel_rfl
  i9 := by kernel_rfl
  i20 := by kernel_rfl
  i21 := by kernel_rfl
  i37 := by kernel_rfl
  i46 := by kernel_rfl
  i51 := by kernel_rfl
  i53 := by kernel_rfl
  i75 := by kernel_rfl
  i80 := by kernel_rfl
  i85 := by kernel_rfl
  i127 := by kernel_rfl
  i143 := by kernel_rfl
  i145 := by kernel_rfl
  i167 := by kernel_rfl
  i168 := by kernel_rfl
  i171 := by kernel_rfl
  i173 := by kernel_rfl
  i175 := by kernel_rfl
  i210 := by kernel_rfl
  i212 := by kernel_rfl
  i232 := by kernel_rfl
  i233 := by kernel_rfl
  m15 := by kernel_rfl
  m16 := by kernel_rfl
  m17 := by kernel_rfl
  m18 := by kernel_rfl
  m19 := by kernel_rfl
  c0 := by kernel_rfl
  c2 := by kernel_rfl
  c3 := by kernel_rfl
  c4 := by kernel_rfl
  c5 := by kernel_rfl
  c9 := by kernel_rfl
  c20 := by kernel_rfl
  c21 := by kernel_rfl
  c37 := by kernel_rfl
  c46 := by kernel_rfl
  c51 := by kernel_rfl
  c53 := by kernel_rfl
  c75 := by kernel_rfl
  c80 := by kernel_rfl
  c85 := by kernel_rfl
  c127 := by kernel_rfl
  c143 := by kernel_rfl
  c145 := by kernel_rfl
  c167 := by kernel_rfl
  c168 := by kernel_rfl
  c171 := by kernel_rfl
  c173 := by kernel_rfl
  c175 := by kernel_rfl
  c210 := by kernel_rfl
  c212 := by kernel_rfl
  c213 := by kernel_rfl
  c232 := by kernel_rfl
  c233 := by kernel_rfl }
open Go.RowKit in
/-- strconv.ParseInt(s, 10, 64), AT EVERY STRING THAT SPELLS AN int64 ('Lib.parseIntB 64 s.data.toList = .ok v'): v, AND NO ERROR. (LAID: no walk: one application.) -/
theorem Tryz.strconv_ParseInt_10_at64_ok (s : ByteArray) (hmax : s.size ≤ 9223372036854775806) (v : Int) (h : Lib.parseIntB 64 s.data.toList = .ok v) (w : World) :
    Calls Tryz.prog 216 #[.string s, .int .i64 10, .int .i64 64] w fun e w' => e = .returned (.tuple #[.int .i64 v, .nilIface]) ∧ (w' = w ∨ ∃ t, w' = Lib.bytesWorld w 5 t) := Any.strconv_ParseInt_10_at64_ok Tryz.laysC174 s hmax v h w
open Go.RowKit in
/-- strconv.ParseInt(s, 10, 64), AT EVERY STRING THAT IS NO DECIMAL NUMERAL: 0, AND AN ERROR THAT IS NOT nil: a *NumError in a new block N: {Func: "ParseInt", Num: s's bytes, Err: what the variable ErrSyntax holds}. Of what was there nothing has turned. (LAID: no walk: one application.) -/
theorem Tryz.strconv_ParseInt_10_at64_syntax (s : ByteArray) (hlim : s.size ≤ 281474976710656) (h : Lib.parseIntB 64 s.data.toList = Lib.parseIntB 64 []) (ev : Value) (w : World) (hv : w.cell? ⟨10, 0, none⟩ = some ev) (hev : ev = .nilIface ∨ ∃ te pe, ev = .iface te pe) :
    Calls Tryz.prog 216 #[.string s, .int .i64 10, .int .i64 64] w fun e w' => ∃ N, e = .returned (.tuple #[.int .i64 (0), .iface 275 (.pointer (some ⟨N, 0, none⟩))]) ∧ w.heap.size ≤ N ∧ w'.heap[N]? = some (.cells #[.string ⟨#[80, 97, 114, 115, 101, 73, 110, 116]⟩, .string s, ev] 278 (0, 0)) ∧ Below w.heap.size w w' := Any.strconv_ParseInt_10_at64_syntax Tryz.laysC174 s hlim (h.trans (by rfl)) ev w hv hev
open Go.RowKit in
/-- strconv.ParseInt(s, 10, 64), AT EVERY NUMERAL THAT NO int64 HOLDS: THE GREATEST OR THE LEAST int64, BY THE SIGN ('Lib.intSat 64'), AND AN ERROR THAT IS NOT nil: a *NumError in a new block N: {Func: "ParseInt", Num: s's bytes, Err: what the variable ErrRange holds}. Of what was there nothing has turned. (LAID: no walk: one application.) -/
theorem Tryz.strconv_ParseInt_10_at64_range (s : ByteArray) (hlim : s.size ≤ 281474976710656) (h : Lib.parseIntB 64 s.data.toList = .range) (ev : Value) (w : World) (hv : w.cell? ⟨4, 0, none⟩ = some ev) (hev : ev = .nilIface ∨ ∃ te pe, ev = .iface te pe) :
    Calls Tryz.prog 216 #[.string s, .int .i64 10, .int .i64 64] w fun e w' => ∃ N, e = .returned (.tuple #[.int .i64 (Lib.intSat 64 s.data.toList), .iface 275 (.pointer (some ⟨N, 0, none⟩))]) ∧ w.heap.size ≤ N ∧ w'.heap[N]? = some (.cells #[.string ⟨#[80, 97, 114, 115, 101, 73, 110, 116]⟩, .string s, ev] 278 (0, 0)) ∧ Below w.heap.size w w' := Any.strconv_ParseInt_10_at64_range Tryz.laysC174 s hlim h ev w hv hev
def Tryz.laysPu14_ren : Go.Shelf.Ren := ⟨fun | 14 => 217 | 16 => 249 | 17 => 228 | 19 => 255 | 20 => 276 | 21 => 251 | 22 => 252 | 23 => 253 | 24 => 254 | 25 => 279 | 27 => 280 | 26 => 111 | 28 => 299 | 29 => 309 | 30 => 208 | 31 => 209 | 32 => 210 | 33 => 211 | 35 => 234 | 34 => 237 | 36 => 243 | 37 => 244 | 38 => 245 | 39 => 272 | 40 => 273 | n => n, fun | 9 => 9 | 3 => 3 | 22 => 32 | 24 => 80 | 25 => 233 | 4 => 4 | 34 => 315 | 5 => 5 | 36 => 260 | 37 => 75 | 0 => 0 | 39 => 275 | 21 => 21 | 44 => 278 | 47 => 369 | 50 => 242 | 48 => 240 | 2 => 2 | 52 => 265 | 55 => 268 | 59 => 309 | 60 => 292 | 20 => 20 | 61 => 310 | 65 => 297 | 66 => 348 | 67 => 239 | n => n, fun | 0 => 10 | 1 => 4 | 2 => 8 | 3 => 13 | 4 => 14 | n => n⟩
theorem Tryz.laysPu14 : Go.Proofs.LaysPu.n14 Tryz.prog Tryz.laysPu14_ren := {
  mixed := by kernel_rfl
  f14 := Tryz.func217.trans (congrArg some (by kernel_rfl))
  f16 := Tryz.func249.trans (congrArg some (by kernel_rfl))
  f17 := Tryz.func228.trans (congrArg some (by kernel_rfl))
  f19 := Tryz.func255.trans (congrArg some (by kernel_rfl))
  f20 := Tryz.func276.trans (congrArg some (by kernel_rfl))
  f21 := Tryz.func251.trans (congrArg some (by kernel_rfl))
  f22 := Tryz.func252.trans (congrArg some (by kernel_rfl))
  f23 := Tryz.func253.trans (congrArg some (by kernel_rfl))
  f24 := Tryz.func254.trans (congrArg some (by kernel_rfl))
  f25 := Tryz.func279.trans (congrArg some (by kernel_rfl))
  f26 := Tryz.func111.trans (congrArg some (by kernel_rfl))
  f27 := Tryz.func280.trans (congrArg some (by kernel_rfl))
  f28 := Tryz.func299.trans (congrArg some (by kernel_rfl))
  f29 := Tryz.func309.trans (congrArg some (by kernel_rfl))
  f30 := Tryz.func208.trans (congrArg some (by kernel_rfl))
  f31 := Tryz.func209.trans (congrArg some (by kernel_rfl))
  f32 := Tryz.func210.trans (congrArg some (by kernel_rfl))
  f33 := Tryz.func211.trans (congrArg some (by kernel_rfl))
  f34 := Tryz.func237.trans (congrArg some (by kernel_rfl))
  f35 := Tryz.func234.trans (congrArg some (by kernel_rfl))
  f36 := Tryz.func243.trans (congrArg some (by kernel_rfl))
  f37 := Tryz.func244.trans (congrArg some (by kernel_rfl))
  f38 := Tryz.func245.trans (congrArg some (by kernel_rfl))
  f39 := Tryz.func272.trans (congrArg some (by kernel_rfl))
  f40 := Tryz.func273.trans (congrArg some (by kernel_rfl))
  t0 := Tryz.underlying0
  a0 := Tryz.isAgg0
  z0 := Tryz.sizeOf0
  v0 := Tryz.zeroValue0
  i0 := by kernel_rfl
  t2 := Tryz.underlying2
  a2 := Tryz.isAgg2
  z2 := Tryz.sizeOf2
  v2 := Tryz.zeroValue2
  i2 := by kernel_rfl
  t3 := Tryz.underlying3
  a3 := Tryz.isAgg3
  z3 := Tryz.sizeOf3
  v3 := Tryz.zeroValue3
  i3 := by kernel_rfl
  t4 := Tryz.underlying4
  a4 := Tryz.isAgg4
  z4 := Tryz.sizeOf4
  v4 := Tryz.zeroValue4
  i4 := by kernel_rfl
  t5 := Tryz.underlying5
  a5 := Tryz.isAgg5
  z5 := Tryz.sizeOf5
  v5 := Tryz.zeroValue5
  i5 := by kernel_rfl
  t9 := Tryz.underlying9
  a9 := Tryz.isAgg9
  z9 := Tryz.sizeOf9
  v9 := Tryz.zeroValue9
  i9 := by kernel_rfl
  t20 := Tryz.underlying20
  a20 := Tryz.isAgg20
  z20 := Tryz.sizeOf20
  v20 := Tryz.zeroValue20
  i20 := by kernel_rfl
  t21 := Tryz.underlying21
  a21 := Tryz.isAgg21
  z21 := Tryz.sizeOf21
  v21 := Tryz.zeroValue21
  i21 := by kernel_rfl
  t22 := Tryz.underlying32
  a22 := Tryz.isAgg32
  z22 := Tryz.sizeOf32
  v22 := Tryz.zeroValue32
  i22 := by kernel_rfl
  t24 := Tryz.underlying80
  a24 := Tryz.isAgg80
  z24 := Tryz.sizeOf80
  v24 := Tryz.zeroValue80
  i24 := by kernel_rfl
  t25 := Tryz.underlying233
  a25 := Tryz.isAgg233
  z25 := Tryz.sizeOf233
  v25 := Tryz.zeroValue233
  i25 := by kernel_rfl
  t34 := Tryz.underlying315
  a34 := Tryz.isAgg315
  z34 := Tryz.sizeOf315
  v34 := Tryz.zeroValue315
  i34 := by kernel_rfl
  c34 := by kernel_rfl
  t36 := Tryz.underlying260
  a36 := Tryz.isAgg260
  z36 := Tryz.sizeOf260
  v36 := Tryz.zeroValue260
  i36 := by kernel_rfl
  t37 := Tryz.underlying75
  a37 := Tryz.isAgg75
  z37 := Tryz.sizeOf75
  v37 := Tryz.zeroValue75
  i37 := by kernel_rfl
  t39 := Tryz.underlying275
  a39 := Tryz.isAgg275
  z39 := Tryz.sizeOf275
  v39 := Tryz.zeroValue275
  i39 := by kernel_rfl
  t44 := Tryz.underlying278
  a44 := Tryz.isAgg278
  z44 := Tryz.sizeOf278
  v44 := Tryz.zeroValue278
  i44 := by kernel_rfl
  t47 := Tryz.underlying369
  a47 := Tryz.isAgg369
  z47 := Tryz.sizeOf369
  v47 := Tryz.zeroValue369
  i47 := by kernel_rfl
  t48 := Tryz.underlying240
  a48 := Tryz.isAgg240
  z48 := Tryz.sizeOf240
  v48 := Tryz.zeroValue240
  i48 := by kernel_rfl
  t50 := Tryz.underlying242
  a50 := Tryz.isAgg242
  z50 := Tryz.sizeOf242
  v50 := Tryz.zeroValue242
  i50 := by kernel_rfl
  t52 := Tryz.underlying265
  a52 := Tryz.isAgg265
  z52 := Tryz.sizeOf265
  v52 := Tryz.zeroValue265
  i52 := by kernel_rfl
  t55 := Tryz.underlying268
  a55 := Tryz.isAgg268
  z55 := Tryz.sizeOf268
  v55 := Tryz.zeroValue268
  i55 := by kernel_rfl
  t59 := Tryz.underlying309
  a59 := Tryz.isAgg309
  z59 := Tryz.sizeOf309
  v59 := Tryz.zeroValue309
  i59 := by kernel_rfl
  t60 := Tryz.underlying292
  a60 := Tryz.isAgg292
  z60 := Tryz.sizeOf292
  v60 := Tryz.zeroValue292
  i60 := by kernel_rfl
  t61 := Tryz.underlying310
  a61 := Tryz.isAgg310
  z61 := Tryz.sizeOf310
  t65 := Tryz.underlying297
  a65 := Tryz.isAgg297
  z65 := Tryz.sizeOf297
  v65 := Tryz.zeroValue297
  i65 := by kernel_rfl
  t66 := Tryz.underlying348
  a66 := Tryz.isAgg348
  z66 := Tryz.sizeOf348
  v66 := Tryz.zeroValue348
  i66 := by kernel_rfl
  t67 := Tryz.underlying239
  a67 := Tryz.isAgg239
  z67 := Tryz.sizeOf239
  v67 := Tryz.zeroValue239
  i67 := by kernel_rfl
  g0 := by kernel_rfl
  m0 := by kernel_rfl
  g1 := by kernel_rfl
  m1 := by kernel_rfl
  g2 := by kernel_rfl
  m2 := by kernel_rfl
  g3 := by kernel_rfl
  m3 := by kernel_rfl
  g4 := by kernel_rfl
  m4 := by kernel_rfl }
open Go.RowKit in
/-- strconv.ParseUint(s, 10, 64), AT EVERY STRING THAT SPELLS A uint64 ('Lib.parseUintB 64 s.data.toList = .ok u'): u, AND NO ERROR. (LAID: no walk: one application.) -/
theorem Tryz.strconv_ParseUint_10_at64_ok (s : ByteArray) (hmax : s.size ≤ 9223372036854775806) (u : Nat) (h : Lib.parseUintB 64 s.data.toList = .ok u) (w : World) :
    Calls Tryz.prog 217 #[.string s, .int .i64 10, .int .i64 64] w fun e w' => e = .returned (.tuple #[.int .u64 u, .nilIface]) ∧ (w' = w ∨ w' = Lib.bytesWorld w 5 s) := Any.strconv_ParseUint_10_at64_ok Tryz.laysPu14 s hmax u h w
open Go.RowKit in
/-- strconv.ParseUint(s, 10, 64), AT EVERY STRING THAT IS NO ROW OF DECIMAL DIGITS (a sign is a fault): 0, AND AN ERROR THAT IS NOT nil: a *NumError in a new block N: {Func: "ParseUint", Num: s's bytes, Err: what the variable ErrSyntax holds}. Of what was there nothing has turned. (LAID: no walk: one application.) -/
theorem Tryz.strconv_ParseUint_10_at64_syntax (s : ByteArray) (hlim : s.size ≤ 281474976710656) (h : Lib.parseUintB 64 s.data.toList = Lib.parseUintB 64 []) (ev : Value) (w : World) (hv : w.cell? ⟨10, 0, none⟩ = some ev) (hev : ev = .nilIface ∨ ∃ te pe, ev = .iface te pe) :
    Calls Tryz.prog 217 #[.string s, .int .i64 10, .int .i64 64] w fun e w' => ∃ N, e = .returned (.tuple #[.int .u64 0, .iface 275 (.pointer (some ⟨N, 0, none⟩))]) ∧ w.heap.size ≤ N ∧ w'.heap[N]? = some (.cells #[.string ⟨#[80, 97, 114, 115, 101, 85, 105, 110, 116]⟩, .string s, ev] 278 (0, 0)) ∧ Below w.heap.size w w' := Any.strconv_ParseUint_10_at64_syntax Tryz.laysPu14 s hlim (h.trans (by rfl)) ev w hv hev
open Go.RowKit in
/-- strconv.ParseUint(s, 10, 64), AT EVERY NUMERAL THAT NO uint64 HOLDS: THE GREATEST uint64, AND AN ERROR THAT IS NOT nil: a *NumError in a new block N: {Func: "ParseUint", Num: s's bytes, Err: what the variable ErrRange holds}. Of what was there nothing has turned. (LAID: no walk: one application.) -/
theorem Tryz.strconv_ParseUint_10_at64_range (s : ByteArray) (hlim : s.size ≤ 281474976710656) (h : Lib.parseUintB 64 s.data.toList = .range) (ev : Value) (w : World) (hv : w.cell? ⟨4, 0, none⟩ = some ev) (hev : ev = .nilIface ∨ ∃ te pe, ev = .iface te pe) :
    Calls Tryz.prog 217 #[.string s, .int .i64 10, .int .i64 64] w fun e w' => ∃ N, e = .returned (.tuple #[.int .u64 18446744073709551615, .iface 275 (.pointer (some ⟨N, 0, none⟩))]) ∧ w.heap.size ≤ N ∧ w'.heap[N]? = some (.cells #[.string ⟨#[80, 97, 114, 115, 101, 85, 105, 110, 116]⟩, .string s, ev] 278 (0, 0)) ∧ Below w.heap.size w w' := Any.strconv_ParseUint_10_at64_range Tryz.laysPu14 s hlim h ev w hv hev
def Tryz.lays101_ren : Go.Shelf.Ren := ⟨fun | 101 => 213 | 208 => 247 | 206 => 275 | n => n, fun | 9 => 9 | 4 => 4 | 3 => 3 | n => n, fun | n => n⟩
theorem Tryz.lays101 : Go.Proofs.Lays.n101 Tryz.prog Tryz.lays101_ren := {
  mixed := by kernel_rfl
  f101 := Tryz.func213.trans (congrArg some (by kernel_rfl))
  f206 := Tryz.func275.trans (congrArg some (by kernel_rfl))
  f208 := Tryz.func247.trans (congrArg some (by kernel_rfl))
  t3 := Tryz.underlying3
  a3 := Tryz.isAgg3
  z3 := Tryz.sizeOf3
  v3 := Tryz.zeroValue3
  t4 := Tryz.underlying4
  a4 := Tryz.isAgg4
  z4 := Tryz.sizeOf4
  v4 := Tryz.zeroValue4
  t9 := Tryz.underlying9
  a9 := Tryz.isAgg9
  z9 := Tryz.sizeOf9
  v9 := Tryz.zeroValue9 }
open Go.RowKit Go.Lib in
/-- strings.TrimPrefix: "TrimPrefix returns s without the provided leading prefix string. If s doesn't start with prefix, s is returned unchanged.": IT RETURNS 'Lib.trimPrefix s prefix'; the world is as it was. (LAID: no walk: one application.) -/
theorem Tryz.strings_TrimPrefix (s p : ByteArray) (w : World) :
    Calls Tryz.prog 213 #[.string s, .string p] w fun e w' => e = .returned (.string ⟨(Lib.trimPrefix s.data.toList p.data.toList).toArray⟩) ∧ w' = w := Any.strings_TrimPrefix Tryz.lays101 s p w
end Go.Proofs
