/-
  DERIVED: THE SHELF's CONTRACTS AT THIS DUMP, IN PLAIN WORDS (tools/lay-plain.mjs out of 'TryzShelf.lean', which tools/lay-shelf.mjs wrote): THE SAME DECLARATIONS UNDER THE SAME NAMES: 'import', 'namespace', 'open', 'def', 'theorem' AND NOTHING ELSE: no command of the shelf's: FOR A HAND-IN. Each laying: the table of numbers ('.._ren') and one theorem, a field a fact of the dump's own or the kernel's comparison; each contract: ONE APPLICATION.
-/
import Derived.Shelf.Strings.Builder1
import Derived.Shelf.Strings.Builder2
import Derived.Shelf.Strings.OnBuilder
import Derived.Shelf.Small.Bits
import Derived.Shelf.Strings.BuilderF
import Derived.Shelf.Strings.BuilderK
import Derived.Shelf.Strings.Builder2Cap
import Derived.Shelf.Strconv.Itoa0
import Derived.Shelf.Strconv.Itoa1
import Derived.Shelf.LaysM
import Derived.Shelf.Strconv.Itoa2
import Derived.Shelf.Strconv.Itoa3
import Derived.Shelf.Strconv.Itoa4
import Derived.Shelf.Strconv.Clone
import Derived.Shelf.Strconv.SyntaxError
import Derived.Shelf.LaysC
import Derived.Shelf.Strconv.ToError
import Derived.Shelf.Strconv.Lower
import Derived.Shelf.Strconv.ParseUint10
import Derived.Shelf.Strconv.ParseUint10Empty
import Derived.Shelf.Strconv.ParseUint10Any
import Derived.Shelf.Strconv.RangeError
import Derived.Shelf.Strconv.ToErrorRange
import Derived.Shelf.Strconv.ParseUintEmpty
import Derived.Shelf.Strconv.ParseUint10b64
import Derived.Shelf.Strconv.ParseUint10b32
import Derived.Shelf.Strconv.ParseUint10b16
import Derived.Shelf.Strconv.ParseUint10b8
import Derived.Shelf.Strconv.ParseUint10At
import Derived.Ground.MpProg
import Derived.Shelf.Pu.ParseUintPublic10
import Derived.Shelf.Pu.ErrVarParseUint
import Derived.Shelf.Strings.Prefix
import Derived.Shelf.Unicode.Latin
import Derived.Shelf.Unicode.Decode
import Derived.Shelf.Unicode.DecodeSlow
import Derived.Shelf.Unicode.DecodeAny
import Derived.Shelf.Unicode.Is16White
import Derived.Shelf.Unicode.IsSpaceAny
import Derived.Shelf.Unicode.Is16WhiteD
import Derived.Shelf.Unicode.IsSpaceAnyD
import Derived.Shelf.Unicode.Is16Any
import Derived.Shelf.Unicode.Is32Any
import Derived.Shelf.Unicode.ExclAny
import Derived.Shelf.Strings.BuilderCap
import Derived.Ground.Names2Prog
import Derived.Shelf.Slices.SearchI
import Derived.Test.YtifhhejohdmiaaaGreatDoorProg
namespace Go.Proofs
open Go.Shelf
def Tryz.lays156_ren : Go.Shelf.Ren := ⟨fun | 156 => 73 | 165 => 92 | 166 => 93 | 169 => 94 | 240 => 122 | 241 => 123 | 276 => 139 | 277 => 140 | n => n, fun | 31 => 125 | 9 => 9 | 3 => 3 | 4 => 4 | 0 => 0 | 20 => 20 | 72 => 165 | 76 => 167 | 70 => 163 | 37 => 124 | 75 => 104 | 127 => 204 | 164 => 217 | 5 => 5 | 80 => 76 | n => n, fun | n => n⟩
theorem Tryz.lays156 : Go.Proofs.Lays.n156 Tryz.prog Tryz.lays156_ren := {
  mixed := by kernel_rfl
  f156 := Tryz.func73.trans (congrArg some (by kernel_rfl))
  f165 := Tryz.func92.trans (congrArg some (by kernel_rfl))
  f166 := Tryz.func93.trans (congrArg some (by kernel_rfl))
  f169 := Tryz.func94.trans (congrArg some (by kernel_rfl))
  f240 := Tryz.func122.trans (congrArg some (by kernel_rfl))
  f241 := Tryz.func123.trans (congrArg some (by kernel_rfl))
  f276 := Tryz.func139.trans (congrArg some (by kernel_rfl))
  f277 := Tryz.func140.trans (congrArg some (by kernel_rfl))
  t0 := Tryz.underlying0
  a0 := Tryz.isAgg0
  z0 := Tryz.sizeOf0
  v0 := Tryz.zeroValue0
  t3 := Tryz.underlying3
  a3 := Tryz.isAgg3
  z3 := Tryz.sizeOf3
  v3 := Tryz.zeroValue3
  t4 := Tryz.underlying4
  a4 := Tryz.isAgg4
  z4 := Tryz.sizeOf4
  v4 := Tryz.zeroValue4
  t9 := Tryz.underlying9
  a9 := Tryz.isAgg9
  z9 := Tryz.sizeOf9
  v9 := Tryz.zeroValue9
  t20 := Tryz.underlying20
  a20 := Tryz.isAgg20
  z20 := Tryz.sizeOf20
  v20 := Tryz.zeroValue20
  t31 := Tryz.underlying125
  a31 := Tryz.isAgg125
  z31 := Tryz.sizeOf125
  v31 := Tryz.zeroValue125
  t37 := Tryz.underlying124
  a37 := Tryz.isAgg124
  z37 := Tryz.sizeOf124
  v37 := Tryz.zeroValue124
  t70 := Tryz.underlying163
  a70 := Tryz.isAgg163
  z70 := Tryz.sizeOf163
  v70 := Tryz.zeroValue163
  t72 := Tryz.underlying165
  a72 := Tryz.isAgg165
  z72 := Tryz.sizeOf165
  v72 := Tryz.zeroValue165
  t75 := Tryz.underlying104
  a75 := Tryz.isAgg104
  z75 := Tryz.sizeOf104
  v75 := Tryz.zeroValue104
  t76 := Tryz.underlying167
  a76 := Tryz.isAgg167
  z76 := Tryz.sizeOf167
  v76 := Tryz.zeroValue167
  t127 := Tryz.underlying204
  a127 := Tryz.isAgg204
  z127 := Tryz.sizeOf204
  v127 := Tryz.zeroValue204
  t164 := Tryz.underlying217
  a164 := Tryz.isAgg217
  z164 := Tryz.sizeOf217
  v164 := Tryz.zeroValue217 }
theorem Tryz.Builder_Extra_156 : Builder.Extra Tryz.prog Tryz.lays156_ren := {
  sizeBuilder := by kernel_rfl
  liesBuilder := by kernel_rfl
  t5 := Tryz.underlying5
  a5 := Tryz.isAgg5
  z5 := Tryz.sizeOf5
  v5 := Tryz.zeroValue5
  infoByte := by kernel_rfl
  cellsByte := by kernel_rfl
  sizeByte := by kernel_rfl
  neB5 := by decide }
open Go.RowKit in
/-- No element: the empty string; the world is as it was. (Whatever the slice's address and capacity: a nil slice too.) (LAID: no walk: one application.) -/
theorem Tryz.strings_Join_none (a : Option Addr) (c : Nat) (sep : ByteArray) (w : World) :
    Calls Tryz.prog 73 #[.slice a 0 c, .string sep] w fun e w' => e = .returned (.string ⟨#[]⟩) ∧ w' = w := Any.strings_Join_none Tryz.lays156 Tryz.Builder_Extra_156 a c sep w
open Go.RowKit in
/-- strings.Join: "Join concatenates the elements of its first argument to create a single string. The separator string sep is placed between elements in the resulting string.": HOWEVER MANY ELEMENTS. Below the heap's end the world is as it was. (LAID: no walk: one application.) -/
theorem Tryz.strings_Join (bk o c : Nat) (xs : List ByteArray) (sep : ByteArray) (w : World) (hcells : ∀ (j : Nat) x, xs[j]? = some x → w.cell? ⟨bk, o + j, none⟩ = some (.string x)) (hbk : bk < w.heap.size) (hN : xs.length ≤ 140737488355328) (hcap : xs.length ≤ c) (hlen : (Lib.join (xs.map (·.data.toList)) sep.data.toList).length ≤ 140737488355328) :
    Calls Tryz.prog 73 #[.slice (some ⟨bk, o, none⟩) xs.length c, .string sep] w fun e w' => e = .returned (.string ⟨(Lib.join (xs.map (·.data.toList)) sep.data.toList).toArray⟩) ∧ Below w.heap.size w w' := Any.strings_Join Tryz.lays156 Tryz.Builder_Extra_156 bk o c xs sep w hcells hbk hN hcap hlen
def Tryz.laysC245_ren : Go.Shelf.Ren := ⟨fun | 245 => 146 | 279 => 157 | 280 => 158 | 281 => 159 | 282 => 160 | 316 => 165 | 171 => 166 | 205 => 84 | 243 => 169 | 246 => 138 | 283 => 148 | 284 => 149 | 285 => 150 | 286 => 151 | 129 => 117 | 317 => 161 | 318 => 162 | 319 => 163 | 320 => 164 | 337 => 167 | 338 => 168 | n => n, fun | 9 => 9 | 3 => 3 | 75 => 104 | 167 => 247 | 4 => 4 | 168 => 249 | 210 => 258 | 37 => 124 | 0 => 0 | 127 => 204 | 145 => 183 | 143 => 181 | 2 => 2 | 171 => 228 | 53 => 201 | 5 => 5 | 173 => 230 | 212 => 253 | 51 => 199 | 20 => 20 | 213 => 254 | 46 => 159 | 232 => 259 | 233 => 260 | 80 => 76 | n => n, fun | 15 => 6 | 16 => 7 | 17 => 5 | 18 => 8 | 19 => 9 | n => n⟩
theorem Tryz.laysC245 : Go.Proofs.LaysC.n245 Tryz.prog Tryz.laysC245_ren := {
  mixed := by kernel_rfl
  f129 := Tryz.func117.trans (congrArg some (by kernel_rfl))
  f171 := Tryz.func166.trans (congrArg some (by kernel_rfl))
  f205 := Tryz.func84.trans (congrArg some (by kernel_rfl))
  f243 := Tryz.func169.trans (congrArg some (by kernel_rfl))
  f245 := Tryz.func146.trans (congrArg some (by kernel_rfl))
  f246 := Tryz.func138.trans (congrArg some (by kernel_rfl))
  f279 := Tryz.func157.trans (congrArg some (by kernel_rfl))
  f280 := Tryz.func158.trans (congrArg some (by kernel_rfl))
  f281 := Tryz.func159.trans (congrArg some (by kernel_rfl))
  f282 := Tryz.func160.trans (congrArg some (by kernel_rfl))
  f283 := Tryz.func148.trans (congrArg some (by kernel_rfl))
  f284 := Tryz.func149.trans (congrArg some (by kernel_rfl))
  f285 := Tryz.func150.trans (congrArg some (by kernel_rfl))
  f286 := Tryz.func151.trans (congrArg some (by kernel_rfl))
  f316 := Tryz.func165.trans (congrArg some (by kernel_rfl))
  f317 := Tryz.func161.trans (congrArg some (by kernel_rfl))
  f318 := Tryz.func162.trans (congrArg some (by kernel_rfl))
  f319 := Tryz.func163.trans (congrArg some (by kernel_rfl))
  f320 := Tryz.func164.trans (congrArg some (by kernel_rfl))
  f337 := Tryz.func167.trans (congrArg some (by kernel_rfl))
  f338 := Tryz.func168.trans (congrArg some (by kernel_rfl))
  t0 := Tryz.underlying0
  a0 := Tryz.isAgg0
  z0 := Tryz.sizeOf0
  v0 := Tryz.zeroValue0
  t2 := Tryz.underlying2
  a2 := Tryz.isAgg2
  z2 := Tryz.sizeOf2
  v2 := Tryz.zeroValue2
  t3 := Tryz.underlying3
  a3 := Tryz.isAgg3
  z3 := Tryz.sizeOf3
  v3 := Tryz.zeroValue3
  t4 := Tryz.underlying4
  a4 := Tryz.isAgg4
  z4 := Tryz.sizeOf4
  v4 := Tryz.zeroValue4
  t5 := Tryz.underlying5
  a5 := Tryz.isAgg5
  z5 := Tryz.sizeOf5
  v5 := Tryz.zeroValue5
  t9 := Tryz.underlying9
  a9 := Tryz.isAgg9
  z9 := Tryz.sizeOf9
  v9 := Tryz.zeroValue9
  t20 := Tryz.underlying20
  a20 := Tryz.isAgg20
  z20 := Tryz.sizeOf20
  v20 := Tryz.zeroValue20
  t37 := Tryz.underlying124
  a37 := Tryz.isAgg124
  z37 := Tryz.sizeOf124
  v37 := Tryz.zeroValue124
  t46 := Tryz.underlying159
  a46 := Tryz.isAgg159
  z46 := Tryz.sizeOf159
  v46 := Tryz.zeroValue159
  t51 := Tryz.underlying199
  a51 := Tryz.isAgg199
  z51 := Tryz.sizeOf199
  v51 := Tryz.zeroValue199
  t53 := Tryz.underlying201
  a53 := Tryz.isAgg201
  z53 := Tryz.sizeOf201
  v53 := Tryz.zeroValue201
  t75 := Tryz.underlying104
  a75 := Tryz.isAgg104
  z75 := Tryz.sizeOf104
  v75 := Tryz.zeroValue104
  t127 := Tryz.underlying204
  a127 := Tryz.isAgg204
  z127 := Tryz.sizeOf204
  v127 := Tryz.zeroValue204
  t143 := Tryz.underlying181
  a143 := Tryz.isAgg181
  z143 := Tryz.sizeOf181
  v143 := Tryz.zeroValue181
  t145 := Tryz.underlying183
  a145 := Tryz.isAgg183
  z145 := Tryz.sizeOf183
  v145 := Tryz.zeroValue183
  t167 := Tryz.underlying247
  a167 := Tryz.isAgg247
  z167 := Tryz.sizeOf247
  v167 := Tryz.zeroValue247
  t168 := Tryz.underlying249
  a168 := Tryz.isAgg249
  z168 := Tryz.sizeOf249
  v168 := Tryz.zeroValue249
  t171 := Tryz.underlying228
  a171 := Tryz.isAgg228
  z171 := Tryz.sizeOf228
  v171 := Tryz.zeroValue228
  t173 := Tryz.underlying230
  a173 := Tryz.isAgg230
  z173 := Tryz.sizeOf230
  v173 := Tryz.zeroValue230
  t210 := Tryz.underlying258
  a210 := Tryz.isAgg258
  z210 := Tryz.sizeOf258
  v210 := Tryz.zeroValue258
  t212 := Tryz.underlying253
  a212 := Tryz.isAgg253
  z212 := Tryz.sizeOf253
  v212 := Tryz.zeroValue253
  t213 := Tryz.underlying254
  a213 := Tryz.isAgg254
  z213 := Tryz.sizeOf254
  t232 := Tryz.underlying259
  a232 := Tryz.isAgg259
  z232 := Tryz.sizeOf259
  v232 := Tryz.zeroValue259
  t233 := Tryz.underlying260
  a233 := Tryz.isAgg260
  z233 := Tryz.sizeOf260
  v233 := Tryz.zeroValue260
  g15 := by kernel_rfl
  g16 := by kernel_rfl
  g17 := by kernel_rfl
  g18 := by kernel_rfl
  g19 := by kernel_rfl
  t80 := Tryz.underlying76
  a80 := Tryz.isAgg76
  z80 := Tryz.sizeOf76
  v80 := Tryz.zeroValue76
  i0 := by kernel_rfl
  i2 := by kernel_rfl
  i3 := by kernel_rfl
  i4 := by kernel_rfl
  i5 := by kernel_rfl
  i9 := by kernel_rfl
  i20 := by kernel_rfl
  i37 := by kernel_rfl
  i46 := by kernel_rfl
  i51 := by kernel_rfl
  i53 := by kernel_rfl
  i75 := by kernel_rfl
  i80 := by kernel_rfl
  i127 := by kernel_rfl
  i143 := by kernel_rfl
  i145 := by kernel_rfl
  i167 := by kernel_rfl
  i168 := by kernel_rfl
  i171 := by kernel_rfl
  i173 := by kernel_rfl
  i210 := by kernel_rfl
  i212 := by kernel_rfl
  i232 := by kernel_rfl
  i233 := by kernel_rfl
  m15 := by kernel_rfl
  m16 := by kernel_rfl
  m17 := by kernel_rfl
  m18 := by kernel_rfl
  m19 := by kernel_rfl
  c0 := by kernel_rfl
  c2 := by kernel_rfl
  c3 := by kernel_rfl
  c4 := by kernel_rfl
  c5 := by kernel_rfl
  c9 := by kernel_rfl
  c20 := by kernel_rfl
  c37 := by kernel_rfl
  c46 := by kernel_rfl
  c51 := by kernel_rfl
  c53 := by kernel_rfl
  c75 := by kernel_rfl
  c80 := by kernel_rfl
  c127 := by kernel_rfl
  c143 := by kernel_rfl
  c145 := by kernel_rfl
  c167 := by kernel_rfl
  c168 := by kernel_rfl
  c171 := by kernel_rfl
  c173 := by kernel_rfl
  c210 := by kernel_rfl
  c212 := by kernel_rfl
  c213 := by kernel_rfl
  c232 := by kernel_rfl
  c233 := by kernel_rfl }
open Go.RowKit in
/-- strconv.toError, at the inner package's ErrSyntax: 'syntaxError(fn, s)' as an error: A *NumError IN A NEW BLOCK. (LAID: no walk: one application.) -/
theorem Tryz.strconv_toError_syntax (fn s : ByteArray) (base bits : Int) (ev : Value) (w : World) (hlim : s.size ≤ 281474976710656) (hv : w.cell? ⟨6, 0, none⟩ = some ev) (hev : ev = .nilIface ∨ ∃ te pe, ev = .iface te pe) :
    Calls Tryz.prog 146 #[.string fn, .string s, .int .i64 base, .int .i64 bits, .iface 247 (.int .i64 2)] w fun e w' => ∃ N, e = .returned (.iface 249 (.pointer (some ⟨N, 0, none⟩))) ∧ w.heap.size ≤ N ∧ w'.heap[N]? = some (.cells #[.string fn, .string s, ev] 258 (0, 0)) ∧ Below w.heap.size w w' := Any.strconv_toError_syntax Tryz.laysC245 fn s base bits ev w hlim hv hev
def Tryz.lays321_ren : Go.Shelf.Ren := ⟨fun | 321 => 155 | n => n, fun | 5 => 5 | n => n, fun | n => n⟩
theorem Tryz.lays321 : Go.Proofs.Lays.n321 Tryz.prog Tryz.lays321_ren := {
  mixed := by kernel_rfl
  f321 := Tryz.func155.trans (congrArg some (by kernel_rfl))
  t5 := Tryz.underlying5
  a5 := Tryz.isAgg5
  z5 := Tryz.sizeOf5
  v5 := Tryz.zeroValue5 }
open Go.RowKit in
/-- internal/strconv.lower: 'c | ('x' - 'X')': the bit 32 set. The world is as it was. (LAID: no walk: one application.) -/
theorem Tryz.internal_strconv_lower (c : Int) (w : World) :
    Calls Tryz.prog 155 #[.int .u8 c] w fun e w' => e = .returned (.int .u8 (bits .or .u8 c 32)) ∧ w' = w := Any.internal_strconv_lower Tryz.lays321 c w
open Go.RowKit in
/-- strconv.toError, at the inner package's ErrRange: 'rangeError(fn, s)' as an error: A *NumError IN A NEW BLOCK. (LAID: no walk: one application.) -/
theorem Tryz.strconv_toError_range (fn s : ByteArray) (base bits : Int) (ev : Value) (w : World) (hlim : s.size ≤ 281474976710656) (hv : w.cell? ⟨7, 0, none⟩ = some ev) (hev : ev = .nilIface ∨ ∃ te pe, ev = .iface te pe) :
    Calls Tryz.prog 146 #[.string fn, .string s, .int .i64 base, .int .i64 bits, .iface 247 (.int .i64 1)] w fun e w' => ∃ N, e = .returned (.iface 249 (.pointer (some ⟨N, 0, none⟩))) ∧ w.heap.size ≤ N ∧ w'.heap[N]? = some (.cells #[.string fn, .string s, ev] 258 (0, 0)) ∧ Below w.heap.size w w' := Any.strconv_toError_range Tryz.laysC245 fn s base bits ev w hlim hv hev
def Tryz.lays99_ren : Go.Shelf.Ren := ⟨fun | 99 => 103 | 206 => 129 | n => n, fun | 9 => 9 | 4 => 4 | 3 => 3 | n => n, fun | n => n⟩
theorem Tryz.lays99 : Go.Proofs.Lays.n99 Tryz.prog Tryz.lays99_ren := {
  mixed := by kernel_rfl
  f99 := Tryz.func103.trans (congrArg some (by kernel_rfl))
  f206 := Tryz.func129.trans (congrArg some (by kernel_rfl))
  t3 := Tryz.underlying3
  a3 := Tryz.isAgg3
  z3 := Tryz.sizeOf3
  v3 := Tryz.zeroValue3
  t4 := Tryz.underlying4
  a4 := Tryz.isAgg4
  z4 := Tryz.sizeOf4
  v4 := Tryz.zeroValue4
  t9 := Tryz.underlying9
  a9 := Tryz.isAgg9
  z9 := Tryz.sizeOf9
  v9 := Tryz.zeroValue9 }
open Go.RowKit Go.Lib in
/-- strings.HasPrefix: "HasPrefix reports whether the string s begins with prefix.": IT RETURNS 'Lib.hasPrefix s prefix'; the world is as it was. (LAID: no walk: one application.) -/
theorem Tryz.strings_HasPrefix (s p : ByteArray) (w : World) :
    Calls Tryz.prog 103 #[.string s, .string p] w fun e w' => e = .returned (.bool (Lib.hasPrefix s.data.toList p.data.toList)) ∧ w' = w := Any.strings_HasPrefix Tryz.lays99 s p w
def Tryz.lays199_ren : Go.Shelf.Ren := ⟨fun | 199 => 128 | 261 => 143 | 311 => 153 | 312 => 154 | n => n, fun | 21 => 21 | 4 => 4 | 51 => 199 | 141 => 221 | 0 => 0 | 196 => 239 | 193 => 236 | 3 => 3 | 198 => 242 | 49 => 240 | 194 => 237 | 201 => 245 | 226 => 255 | 46 => 159 | 227 => 256 | n => n, fun | 6 => 1 | n => n⟩
theorem Tryz.lays199 : Go.Proofs.Lays.n199 Tryz.prog Tryz.lays199_ren := {
  mixed := by kernel_rfl
  f199 := Tryz.func128.trans (congrArg some (by kernel_rfl))
  f261 := Tryz.func143.trans (congrArg some (by kernel_rfl))
  f311 := Tryz.func153.trans (congrArg some (by kernel_rfl))
  f312 := Tryz.func154.trans (congrArg some (by kernel_rfl))
  t0 := Tryz.underlying0
  a0 := Tryz.isAgg0
  z0 := Tryz.sizeOf0
  v0 := Tryz.zeroValue0
  t3 := Tryz.underlying3
  a3 := Tryz.isAgg3
  z3 := Tryz.sizeOf3
  v3 := Tryz.zeroValue3
  t4 := Tryz.underlying4
  a4 := Tryz.isAgg4
  z4 := Tryz.sizeOf4
  v4 := Tryz.zeroValue4
  t21 := Tryz.underlying21
  a21 := Tryz.isAgg21
  z21 := Tryz.sizeOf21
  v21 := Tryz.zeroValue21
  t46 := Tryz.underlying159
  a46 := Tryz.isAgg159
  z46 := Tryz.sizeOf159
  v46 := Tryz.zeroValue159
  t49 := Tryz.underlying240
  a49 := Tryz.isAgg240
  z49 := Tryz.sizeOf240
  v49 := Tryz.zeroValue240
  t51 := Tryz.underlying199
  a51 := Tryz.isAgg199
  z51 := Tryz.sizeOf199
  v51 := Tryz.zeroValue199
  t141 := Tryz.underlying221
  a141 := Tryz.isAgg221
  z141 := Tryz.sizeOf221
  v141 := Tryz.zeroValue221
  t193 := Tryz.underlying236
  a193 := Tryz.isAgg236
  z193 := Tryz.sizeOf236
  v193 := Tryz.zeroValue236
  t194 := Tryz.underlying237
  a194 := Tryz.isAgg237
  z194 := Tryz.sizeOf237
  v194 := Tryz.zeroValue237
  t196 := Tryz.underlying239
  a196 := Tryz.isAgg239
  z196 := Tryz.sizeOf239
  v196 := Tryz.zeroValue239
  t198 := Tryz.underlying242
  a198 := Tryz.isAgg242
  z198 := Tryz.sizeOf242
  v198 := Tryz.zeroValue242
  t201 := Tryz.underlying245
  a201 := Tryz.isAgg245
  z201 := Tryz.sizeOf245
  v201 := Tryz.zeroValue245
  t226 := Tryz.underlying255
  a226 := Tryz.isAgg255
  z226 := Tryz.sizeOf255
  v226 := Tryz.zeroValue255
  t227 := Tryz.underlying256
  a227 := Tryz.isAgg256
  z227 := Tryz.sizeOf256
  v227 := Tryz.zeroValue256
  g6 := by kernel_rfl }
def Tryz.lays197_ren : Go.Shelf.Ren := ⟨fun | 197 => 127 | 260 => 142 | n => n, fun | 9 => 9 | 21 => 21 | 3 => 3 | 4 => 4 | 5 => 5 | 105 => 154 | 119 => 208 | 0 => 0 | 46 => 159 | 139 => 235 | 138 => 234 | n => n, fun | 3 => 3 | 4 => 4 | n => n⟩
theorem Tryz.lays197 : Go.Proofs.Lays.n197 Tryz.prog Tryz.lays197_ren := {
  mixed := by kernel_rfl
  f197 := Tryz.func127.trans (congrArg some (by kernel_rfl))
  f260 := Tryz.func142.trans (congrArg some (by kernel_rfl))
  t0 := Tryz.underlying0
  a0 := Tryz.isAgg0
  z0 := Tryz.sizeOf0
  v0 := Tryz.zeroValue0
  t3 := Tryz.underlying3
  a3 := Tryz.isAgg3
  z3 := Tryz.sizeOf3
  v3 := Tryz.zeroValue3
  t4 := Tryz.underlying4
  a4 := Tryz.isAgg4
  z4 := Tryz.sizeOf4
  v4 := Tryz.zeroValue4
  t5 := Tryz.underlying5
  a5 := Tryz.isAgg5
  z5 := Tryz.sizeOf5
  v5 := Tryz.zeroValue5
  t9 := Tryz.underlying9
  a9 := Tryz.isAgg9
  z9 := Tryz.sizeOf9
  v9 := Tryz.zeroValue9
  t21 := Tryz.underlying21
  a21 := Tryz.isAgg21
  z21 := Tryz.sizeOf21
  v21 := Tryz.zeroValue21
  t46 := Tryz.underlying159
  a46 := Tryz.isAgg159
  z46 := Tryz.sizeOf159
  v46 := Tryz.zeroValue159
  t105 := Tryz.underlying154
  a105 := Tryz.isAgg154
  z105 := Tryz.sizeOf154
  v105 := Tryz.zeroValue154
  t119 := Tryz.underlying208
  a119 := Tryz.isAgg208
  z119 := Tryz.sizeOf208
  t138 := Tryz.underlying234
  a138 := Tryz.isAgg234
  z138 := Tryz.sizeOf234
  v138 := Tryz.zeroValue234
  t139 := Tryz.underlying235
  a139 := Tryz.isAgg235
  z139 := Tryz.sizeOf235
  v139 := Tryz.zeroValue235
  g3 := by kernel_rfl
  g4 := by kernel_rfl }
def Tryz.lays260_ren : Go.Shelf.Ren := ⟨fun | 260 => 142 | n => n, fun | 9 => 9 | 21 => 21 | 3 => 3 | 4 => 4 | 5 => 5 | 119 => 208 | 0 => 0 | 46 => 159 | 139 => 235 | 138 => 234 | n => n, fun | 3 => 3 | 4 => 4 | n => n⟩
theorem Tryz.lays260 : Go.Proofs.Lays.n260 Tryz.prog Tryz.lays260_ren := {
  mixed := by kernel_rfl
  f260 := Tryz.func142.trans (congrArg some (by kernel_rfl))
  t0 := Tryz.underlying0
  a0 := Tryz.isAgg0
  z0 := Tryz.sizeOf0
  v0 := Tryz.zeroValue0
  t3 := Tryz.underlying3
  a3 := Tryz.isAgg3
  z3 := Tryz.sizeOf3
  v3 := Tryz.zeroValue3
  t4 := Tryz.underlying4
  a4 := Tryz.isAgg4
  z4 := Tryz.sizeOf4
  v4 := Tryz.zeroValue4
  t5 := Tryz.underlying5
  a5 := Tryz.isAgg5
  z5 := Tryz.sizeOf5
  v5 := Tryz.zeroValue5
  t9 := Tryz.underlying9
  a9 := Tryz.isAgg9
  z9 := Tryz.sizeOf9
  v9 := Tryz.zeroValue9
  t21 := Tryz.underlying21
  a21 := Tryz.isAgg21
  z21 := Tryz.sizeOf21
  v21 := Tryz.zeroValue21
  t46 := Tryz.underlying159
  a46 := Tryz.isAgg159
  z46 := Tryz.sizeOf159
  v46 := Tryz.zeroValue159
  t119 := Tryz.underlying208
  a119 := Tryz.isAgg208
  z119 := Tryz.sizeOf208
  t138 := Tryz.underlying234
  a138 := Tryz.isAgg234
  z138 := Tryz.sizeOf234
  v138 := Tryz.zeroValue234
  t139 := Tryz.underlying235
  a139 := Tryz.isAgg235
  z139 := Tryz.sizeOf235
  v139 := Tryz.zeroValue235
  g3 := by kernel_rfl
  g4 := by kernel_rfl }
open Go.RowKit Go.Lib in
/-- **unicode/utf8.DecodeRuneInString AT EVERY STRING.** (LAID: no walk: one application.) -/
theorem Tryz.utf8_DecodeRuneInString (s : ByteArray) (w : World) (hT : Lib.Utf8Tabs 3 4 w) :
    Calls Tryz.prog 127 #[.string s] w fun e w' => e = .returned (.tuple #[.int .i32 (Lib.decodeGo s).1, .int .i64 (Lib.decodeGo s).2]) ∧ Below w.heap.size w w' := Any.utf8_DecodeRuneInString Tryz.lays197 s w hT
open Go.RowKit Go.Lib in
/-- **unicode.IsSpace AT EVERY int32.** (LAID: no walk: one application.) -/
theorem Tryz.unicode_IsSpace_any (r : Int) (w : World) (hlo : -2147483648 ≤ r) (hhi : r ≤ 2147483647) (hW : Lib.WhiteTab 1 w) :
    Calls Tryz.prog 128 #[.int .i32 r] w fun e w' => e = .returned (.bool (Lib.isSpaceZ r)) ∧ Below w.heap.size w w' := Any.unicode_IsSpace_any Tryz.lays199 r w hlo hhi hW
end Go.Proofs
