/-
  DERIVED: THE SHELF's CONTRACTS AT THIS DUMP, IN PLAIN WORDS (tools/lay-plain.mjs out of 'TryzShelf.lean', which tools/lay-shelf.mjs wrote): THE SAME DECLARATIONS UNDER THE SAME NAMES: 'import', 'namespace', 'open', 'def', 'theorem' AND NOTHING ELSE: no command of the shelf's: FOR A HAND-IN. Each laying: the table of numbers ('.._ren') and one theorem, a field a fact of the dump's own or the kernel's comparison; each contract: ONE APPLICATION.
-/
import Derived.Shelf.Strings.Builder1
import Derived.Shelf.Strings.Builder2
import Derived.Shelf.Small.Bits
import Derived.Shelf.Small.Wraps
import Derived.Shelf.Strconv.Itoa0
import Derived.Shelf.Strconv.Itoa1
import Derived.Shelf.LaysM
import Derived.Shelf.Strconv.Itoa2
import Derived.Shelf.Strconv.Itoa3
import Derived.Shelf.Strconv.Itoa4
import Derived.Shelf.Strconv.Clone
import Derived.Shelf.Strconv.SyntaxError
import Derived.Shelf.LaysC
import Derived.Shelf.Strconv.ToError
import Derived.Shelf.Strconv.Lower
import Derived.Shelf.Strconv.ParseUint10
import Derived.Shelf.Strconv.ParseUint10Empty
import Derived.Shelf.Strconv.ParseUint10Any
import Derived.Shelf.Strconv.RangeError
import Derived.Shelf.Strconv.ToErrorRange
import Derived.Shelf.Strconv.ParseUintEmpty
import Derived.Shelf.Strconv.ParseUint10b64
import Derived.Shelf.Strconv.ParseUint10b32
import Derived.Shelf.Strconv.ParseUint10b16
import Derived.Shelf.Strconv.ParseUint10b8
import Derived.Shelf.Strconv.ParseUint10At
import Derived.Ground.MpProg
import Derived.Shelf.Pu.ParseUintPublic10
import Derived.Shelf.Pu.ErrVarParseUint
import Derived.Shelf.Sort.Plain
import Derived.Shelf.Strings.Prefix
import Derived.Shelf.Unicode.Latin
import Derived.Shelf.Unicode.Decode
import Derived.Shelf.Unicode.DecodeSlow
import Derived.Shelf.Unicode.DecodeAny
import Derived.Shelf.Unicode.Is16White
import Derived.Shelf.Unicode.IsSpaceAny
import Derived.Shelf.Unicode.Is16WhiteD
import Derived.Shelf.Unicode.IsSpaceAnyD
import Derived.Shelf.Unicode.Is16Any
import Derived.Shelf.Unicode.Is32Any
import Derived.Shelf.Unicode.ExclAny
import Derived.Ground.Names2Prog
import Derived.Shelf.Slices.SearchI
import Derived.Shelf.Slices.In.SortNone
import Derived.Test.YtjemdgmihbmgeaaGreatDoorProg
namespace Go.Proofs
open Go.Shelf
def Tryz.laysC245_ren : Go.Shelf.Ren := ⟨fun | 245 => 139 | 279 => 152 | 280 => 153 | 281 => 154 | 282 => 155 | 316 => 160 | 171 => 161 | 205 => 79 | 243 => 164 | 246 => 132 | 283 => 142 | 284 => 143 | 285 => 144 | 286 => 145 | 129 => 109 | 317 => 156 | 318 => 157 | 319 => 158 | 320 => 159 | 337 => 162 | 338 => 163 | n => n, fun | 9 => 9 | 3 => 3 | 75 => 104 | 167 => 244 | 4 => 4 | 168 => 246 | 210 => 255 | 37 => 162 | 0 => 0 | 127 => 213 | 145 => 179 | 143 => 177 | 2 => 2 | 171 => 223 | 53 => 192 | 5 => 5 | 173 => 225 | 212 => 250 | 51 => 190 | 20 => 20 | 213 => 251 | 46 => 152 | 232 => 256 | 233 => 257 | 80 => 121 | n => n, fun | 15 => 6 | 16 => 7 | 17 => 4 | 18 => 8 | 19 => 9 | n => n⟩
theorem Tryz.laysC245 : Go.Proofs.LaysC.n245 Tryz.prog Tryz.laysC245_ren := {
  mixed := by kernel_rfl
  f129 := Tryz.func109.trans (congrArg some (by kernel_rfl))
  f171 := Tryz.func161.trans (congrArg some (by kernel_rfl))
  f205 := Tryz.func79.trans (congrArg some (by kernel_rfl))
  f243 := Tryz.func164.trans (congrArg some (by kernel_rfl))
  f245 := Tryz.func139.trans (congrArg some (by kernel_rfl))
  f246 := Tryz.func132.trans (congrArg some (by kernel_rfl))
  f279 := Tryz.func152.trans (congrArg some (by kernel_rfl))
  f280 := Tryz.func153.trans (congrArg some (by kernel_rfl))
  f281 := Tryz.func154.trans (congrArg some (by kernel_rfl))
  f282 := Tryz.func155.trans (congrArg some (by kernel_rfl))
  f283 := Tryz.func142.trans (congrArg some (by kernel_rfl))
  f284 := Tryz.func143.trans (congrArg some (by kernel_rfl))
  f285 := Tryz.func144.trans (congrArg some (by kernel_rfl))
  f286 := Tryz.func145.trans (congrArg some (by kernel_rfl))
  f316 := Tryz.func160.trans (congrArg some (by kernel_rfl))
  f317 := Tryz.func156.trans (congrArg some (by kernel_rfl))
  f318 := Tryz.func157.trans (congrArg some (by kernel_rfl))
  f319 := Tryz.func158.trans (congrArg some (by kernel_rfl))
  f320 := Tryz.func159.trans (congrArg some (by kernel_rfl))
  f337 := Tryz.func162.trans (congrArg some (by kernel_rfl))
  f338 := Tryz.func163.trans (congrArg some (by kernel_rfl))
  t0 := Tryz.underlying0
  a0 := Tryz.isAgg0
  z0 := Tryz.sizeOf0
  v0 := Tryz.zeroValue0
  t2 := Tryz.underlying2
  a2 := Tryz.isAgg2
  z2 := Tryz.sizeOf2
  v2 := Tryz.zeroValue2
  t3 := Tryz.underlying3
  a3 := Tryz.isAgg3
  z3 := Tryz.sizeOf3
  v3 := Tryz.zeroValue3
  t4 := Tryz.underlying4
  a4 := Tryz.isAgg4
  z4 := Tryz.sizeOf4
  v4 := Tryz.zeroValue4
  t5 := Tryz.underlying5
  a5 := Tryz.isAgg5
  z5 := Tryz.sizeOf5
  v5 := Tryz.zeroValue5
  t9 := Tryz.underlying9
  a9 := Tryz.isAgg9
  z9 := Tryz.sizeOf9
  v9 := Tryz.zeroValue9
  t20 := Tryz.underlying20
  a20 := Tryz.isAgg20
  z20 := Tryz.sizeOf20
  v20 := Tryz.zeroValue20
  t37 := Tryz.underlying162
  a37 := Tryz.isAgg162
  z37 := Tryz.sizeOf162
  v37 := Tryz.zeroValue162
  t46 := Tryz.underlying152
  a46 := Tryz.isAgg152
  z46 := Tryz.sizeOf152
  v46 := Tryz.zeroValue152
  t51 := Tryz.underlying190
  a51 := Tryz.isAgg190
  z51 := Tryz.sizeOf190
  v51 := Tryz.zeroValue190
  t53 := Tryz.underlying192
  a53 := Tryz.isAgg192
  z53 := Tryz.sizeOf192
  v53 := Tryz.zeroValue192
  t75 := Tryz.underlying104
  a75 := Tryz.isAgg104
  z75 := Tryz.sizeOf104
  v75 := Tryz.zeroValue104
  t127 := Tryz.underlying213
  a127 := Tryz.isAgg213
  z127 := Tryz.sizeOf213
  v127 := Tryz.zeroValue213
  t143 := Tryz.underlying177
  a143 := Tryz.isAgg177
  z143 := Tryz.sizeOf177
  v143 := Tryz.zeroValue177
  t145 := Tryz.underlying179
  a145 := Tryz.isAgg179
  z145 := Tryz.sizeOf179
  v145 := Tryz.zeroValue179
  t167 := Tryz.underlying244
  a167 := Tryz.isAgg244
  z167 := Tryz.sizeOf244
  v167 := Tryz.zeroValue244
  t168 := Tryz.underlying246
  a168 := Tryz.isAgg246
  z168 := Tryz.sizeOf246
  v168 := Tryz.zeroValue246
  t171 := Tryz.underlying223
  a171 := Tryz.isAgg223
  z171 := Tryz.sizeOf223
  v171 := Tryz.zeroValue223
  t173 := Tryz.underlying225
  a173 := Tryz.isAgg225
  z173 := Tryz.sizeOf225
  v173 := Tryz.zeroValue225
  t210 := Tryz.underlying255
  a210 := Tryz.isAgg255
  z210 := Tryz.sizeOf255
  v210 := Tryz.zeroValue255
  t212 := Tryz.underlying250
  a212 := Tryz.isAgg250
  z212 := Tryz.sizeOf250
  v212 := Tryz.zeroValue250
  t213 := Tryz.underlying251
  a213 := Tryz.isAgg251
  z213 := Tryz.sizeOf251
  t232 := Tryz.underlying256
  a232 := Tryz.isAgg256
  z232 := Tryz.sizeOf256
  v232 := Tryz.zeroValue256
  t233 := Tryz.underlying257
  a233 := Tryz.isAgg257
  z233 := Tryz.sizeOf257
  v233 := Tryz.zeroValue257
  g15 := by kernel_rfl
  g16 := by kernel_rfl
  g17 := by kernel_rfl
  g18 := by kernel_rfl
  g19 := by kernel_rfl
  t80 := Tryz.underlying121
  a80 := Tryz.isAgg121
  z80 := Tryz.sizeOf121
  v80 := Tryz.zeroValue121
  i0 := by kernel_rfl
  i2 := by kernel_rfl
  i3 := by kernel_rfl
  i4 := by kernel_rfl
  i5 := by kernel_rfl
  i9 := by kernel_rfl
  i20 := by kernel_rfl
  i37 := by kernel_rfl
  i46 := by kernel_rfl
  i51 := by kernel_rfl
  i53 := by kernel_rfl
  i75 := by kernel_rfl
  i80 := by kernel_rfl
  i127 := by kernel_rfl
  i143 := by kernel_rfl
  i145 := by kernel_rfl
  i167 := by kernel_rfl
  i168 := by kernel_rfl
  i171 := by kernel_rfl
  i173 := by kernel_rfl
  i210 := by kernel_rfl
  i212 := by kernel_rfl
  i232 := by kernel_rfl
  i233 := by kernel_rfl
  m15 := by kernel_rfl
  m16 := by kernel_rfl
  m17 := by kernel_rfl
  m18 := by kernel_rfl
  m19 := by kernel_rfl
  c0 := by kernel_rfl
  c2 := by kernel_rfl
  c3 := by kernel_rfl
  c4 := by kernel_rfl
  c5 := by kernel_rfl
  c9 := by kernel_rfl
  c20 := by kernel_rfl
  c37 := by kernel_rfl
  c46 := by kernel_rfl
  c51 := by kernel_rfl
  c53 := by kernel_rfl
  c75 := by kernel_rfl
  c80 := by kernel_rfl
  c127 := by kernel_rfl
  c143 := by kernel_rfl
  c145 := by kernel_rfl
  c167 := by kernel_rfl
  c168 := by kernel_rfl
  c171 := by kernel_rfl
  c173 := by kernel_rfl
  c210 := by kernel_rfl
  c212 := by kernel_rfl
  c213 := by kernel_rfl
  c232 := by kernel_rfl
  c233 := by kernel_rfl }
open Go.RowKit in
/-- strconv.toError, at the inner package's ErrSyntax: 'syntaxError(fn, s)' as an error: A *NumError IN A NEW BLOCK. (LAID: no walk: one application.) -/
theorem Tryz.strconv_toError_syntax (fn s : ByteArray) (base bits : Int) (ev : Value) (w : World) (hlim : s.size ≤ 281474976710656) (hv : w.cell? ⟨6, 0, none⟩ = some ev) (hev : ev = .nilIface ∨ ∃ te pe, ev = .iface te pe) :
    Calls Tryz.prog 139 #[.string fn, .string s, .int .i64 base, .int .i64 bits, .iface 244 (.int .i64 2)] w fun e w' => ∃ N, e = .returned (.iface 246 (.pointer (some ⟨N, 0, none⟩))) ∧ w.heap.size ≤ N ∧ w'.heap[N]? = some (.cells #[.string fn, .string s, ev] 255 (0, 0)) ∧ Below w.heap.size w w' := Any.strconv_toError_syntax Tryz.laysC245 fn s base bits ev w hlim hv hev
def Tryz.lays321_ren : Go.Shelf.Ren := ⟨fun | 321 => 150 | n => n, fun | 5 => 5 | n => n, fun | n => n⟩
theorem Tryz.lays321 : Go.Proofs.Lays.n321 Tryz.prog Tryz.lays321_ren := {
  mixed := by kernel_rfl
  f321 := Tryz.func150.trans (congrArg some (by kernel_rfl))
  t5 := Tryz.underlying5
  a5 := Tryz.isAgg5
  z5 := Tryz.sizeOf5
  v5 := Tryz.zeroValue5 }
open Go.RowKit in
/-- internal/strconv.lower: 'c | ('x' - 'X')': the bit 32 set. The world is as it was. (LAID: no walk: one application.) -/
theorem Tryz.internal_strconv_lower (c : Int) (w : World) :
    Calls Tryz.prog 150 #[.int .u8 c] w fun e w' => e = .returned (.int .u8 (bits .or .u8 c 32)) ∧ w' = w := Any.internal_strconv_lower Tryz.lays321 c w
open Go.RowKit in
/-- strconv.toError, at the inner package's ErrRange: 'rangeError(fn, s)' as an error: A *NumError IN A NEW BLOCK. (LAID: no walk: one application.) -/
theorem Tryz.strconv_toError_range (fn s : ByteArray) (base bits : Int) (ev : Value) (w : World) (hlim : s.size ≤ 281474976710656) (hv : w.cell? ⟨7, 0, none⟩ = some ev) (hev : ev = .nilIface ∨ ∃ te pe, ev = .iface te pe) :
    Calls Tryz.prog 139 #[.string fn, .string s, .int .i64 base, .int .i64 bits, .iface 244 (.int .i64 1)] w fun e w' => ∃ N, e = .returned (.iface 246 (.pointer (some ⟨N, 0, none⟩))) ∧ w.heap.size ≤ N ∧ w'.heap[N]? = some (.cells #[.string fn, .string s, ev] 255 (0, 0)) ∧ Below w.heap.size w w' := Any.strconv_toError_range Tryz.laysC245 fn s base bits ev w hlim hv hev
def Tryz.lays99_ren : Go.Shelf.Ren := ⟨fun | 99 => 95 | 206 => 122 | n => n, fun | 9 => 9 | 4 => 4 | 3 => 3 | n => n, fun | n => n⟩
theorem Tryz.lays99 : Go.Proofs.Lays.n99 Tryz.prog Tryz.lays99_ren := {
  mixed := by kernel_rfl
  f99 := Tryz.func95.trans (congrArg some (by kernel_rfl))
  f206 := Tryz.func122.trans (congrArg some (by kernel_rfl))
  t3 := Tryz.underlying3
  a3 := Tryz.isAgg3
  z3 := Tryz.sizeOf3
  v3 := Tryz.zeroValue3
  t4 := Tryz.underlying4
  a4 := Tryz.isAgg4
  z4 := Tryz.sizeOf4
  v4 := Tryz.zeroValue4
  t9 := Tryz.underlying9
  a9 := Tryz.isAgg9
  z9 := Tryz.sizeOf9
  v9 := Tryz.zeroValue9 }
open Go.RowKit Go.Lib in
/-- strings.HasPrefix: "HasPrefix reports whether the string s begins with prefix.": IT RETURNS 'Lib.hasPrefix s prefix'; the world is as it was. (LAID: no walk: one application.) -/
theorem Tryz.strings_HasPrefix (s p : ByteArray) (w : World) :
    Calls Tryz.prog 95 #[.string s, .string p] w fun e w' => e = .returned (.bool (Lib.hasPrefix s.data.toList p.data.toList)) ∧ w' = w := Any.strings_HasPrefix Tryz.lays99 s p w
def Tryz.lays199_ren : Go.Shelf.Ren := ⟨fun | 199 => 121 | 261 => 136 | 311 => 148 | 312 => 149 | n => n, fun | 21 => 21 | 4 => 4 | 51 => 190 | 141 => 215 | 0 => 0 | 196 => 236 | 193 => 233 | 3 => 3 | 198 => 239 | 49 => 237 | 194 => 234 | 201 => 242 | 226 => 252 | 46 => 152 | 227 => 253 | n => n, fun | 6 => 1 | n => n⟩
theorem Tryz.lays199 : Go.Proofs.Lays.n199 Tryz.prog Tryz.lays199_ren := {
  mixed := by kernel_rfl
  f199 := Tryz.func121.trans (congrArg some (by kernel_rfl))
  f261 := Tryz.func136.trans (congrArg some (by kernel_rfl))
  f311 := Tryz.func148.trans (congrArg some (by kernel_rfl))
  f312 := Tryz.func149.trans (congrArg some (by kernel_rfl))
  t0 := Tryz.underlying0
  a0 := Tryz.isAgg0
  z0 := Tryz.sizeOf0
  v0 := Tryz.zeroValue0
  t3 := Tryz.underlying3
  a3 := Tryz.isAgg3
  z3 := Tryz.sizeOf3
  v3 := Tryz.zeroValue3
  t4 := Tryz.underlying4
  a4 := Tryz.isAgg4
  z4 := Tryz.sizeOf4
  v4 := Tryz.zeroValue4
  t21 := Tryz.underlying21
  a21 := Tryz.isAgg21
  z21 := Tryz.sizeOf21
  v21 := Tryz.zeroValue21
  t46 := Tryz.underlying152
  a46 := Tryz.isAgg152
  z46 := Tryz.sizeOf152
  v46 := Tryz.zeroValue152
  t49 := Tryz.underlying237
  a49 := Tryz.isAgg237
  z49 := Tryz.sizeOf237
  v49 := Tryz.zeroValue237
  t51 := Tryz.underlying190
  a51 := Tryz.isAgg190
  z51 := Tryz.sizeOf190
  v51 := Tryz.zeroValue190
  t141 := Tryz.underlying215
  a141 := Tryz.isAgg215
  z141 := Tryz.sizeOf215
  v141 := Tryz.zeroValue215
  t193 := Tryz.underlying233
  a193 := Tryz.isAgg233
  z193 := Tryz.sizeOf233
  v193 := Tryz.zeroValue233
  t194 := Tryz.underlying234
  a194 := Tryz.isAgg234
  z194 := Tryz.sizeOf234
  v194 := Tryz.zeroValue234
  t196 := Tryz.underlying236
  a196 := Tryz.isAgg236
  z196 := Tryz.sizeOf236
  v196 := Tryz.zeroValue236
  t198 := Tryz.underlying239
  a198 := Tryz.isAgg239
  z198 := Tryz.sizeOf239
  v198 := Tryz.zeroValue239
  t201 := Tryz.underlying242
  a201 := Tryz.isAgg242
  z201 := Tryz.sizeOf242
  v201 := Tryz.zeroValue242
  t226 := Tryz.underlying252
  a226 := Tryz.isAgg252
  z226 := Tryz.sizeOf252
  v226 := Tryz.zeroValue252
  t227 := Tryz.underlying253
  a227 := Tryz.isAgg253
  z227 := Tryz.sizeOf253
  v227 := Tryz.zeroValue253
  g6 := by kernel_rfl }
def Tryz.lays197_ren : Go.Shelf.Ren := ⟨fun | 197 => 120 | 260 => 135 | n => n, fun | 9 => 9 | 21 => 21 | 3 => 3 | 4 => 4 | 5 => 5 | 105 => 128 | 119 => 204 | 0 => 0 | 46 => 152 | 139 => 232 | 138 => 231 | n => n, fun | 3 => 2 | 4 => 3 | n => n⟩
theorem Tryz.lays197 : Go.Proofs.Lays.n197 Tryz.prog Tryz.lays197_ren := {
  mixed := by kernel_rfl
  f197 := Tryz.func120.trans (congrArg some (by kernel_rfl))
  f260 := Tryz.func135.trans (congrArg some (by kernel_rfl))
  t0 := Tryz.underlying0
  a0 := Tryz.isAgg0
  z0 := Tryz.sizeOf0
  v0 := Tryz.zeroValue0
  t3 := Tryz.underlying3
  a3 := Tryz.isAgg3
  z3 := Tryz.sizeOf3
  v3 := Tryz.zeroValue3
  t4 := Tryz.underlying4
  a4 := Tryz.isAgg4
  z4 := Tryz.sizeOf4
  v4 := Tryz.zeroValue4
  t5 := Tryz.underlying5
  a5 := Tryz.isAgg5
  z5 := Tryz.sizeOf5
  v5 := Tryz.zeroValue5
  t9 := Tryz.underlying9
  a9 := Tryz.isAgg9
  z9 := Tryz.sizeOf9
  v9 := Tryz.zeroValue9
  t21 := Tryz.underlying21
  a21 := Tryz.isAgg21
  z21 := Tryz.sizeOf21
  v21 := Tryz.zeroValue21
  t46 := Tryz.underlying152
  a46 := Tryz.isAgg152
  z46 := Tryz.sizeOf152
  v46 := Tryz.zeroValue152
  t105 := Tryz.underlying128
  a105 := Tryz.isAgg128
  z105 := Tryz.sizeOf128
  v105 := Tryz.zeroValue128
  t119 := Tryz.underlying204
  a119 := Tryz.isAgg204
  z119 := Tryz.sizeOf204
  t138 := Tryz.underlying231
  a138 := Tryz.isAgg231
  z138 := Tryz.sizeOf231
  v138 := Tryz.zeroValue231
  t139 := Tryz.underlying232
  a139 := Tryz.isAgg232
  z139 := Tryz.sizeOf232
  v139 := Tryz.zeroValue232
  g3 := by kernel_rfl
  g4 := by kernel_rfl }
def Tryz.lays260_ren : Go.Shelf.Ren := ⟨fun | 260 => 135 | n => n, fun | 9 => 9 | 21 => 21 | 3 => 3 | 4 => 4 | 5 => 5 | 119 => 204 | 0 => 0 | 46 => 152 | 139 => 232 | 138 => 231 | n => n, fun | 3 => 2 | 4 => 3 | n => n⟩
theorem Tryz.lays260 : Go.Proofs.Lays.n260 Tryz.prog Tryz.lays260_ren := {
  mixed := by kernel_rfl
  f260 := Tryz.func135.trans (congrArg some (by kernel_rfl))
  t0 := Tryz.underlying0
  a0 := Tryz.isAgg0
  z0 := Tryz.sizeOf0
  v0 := Tryz.zeroValue0
  t3 := Tryz.underlying3
  a3 := Tryz.isAgg3
  z3 := Tryz.sizeOf3
  v3 := Tryz.zeroValue3
  t4 := Tryz.underlying4
  a4 := Tryz.isAgg4
  z4 := Tryz.sizeOf4
  v4 := Tryz.zeroValue4
  t5 := Tryz.underlying5
  a5 := Tryz.isAgg5
  z5 := Tryz.sizeOf5
  v5 := Tryz.zeroValue5
  t9 := Tryz.underlying9
  a9 := Tryz.isAgg9
  z9 := Tryz.sizeOf9
  v9 := Tryz.zeroValue9
  t21 := Tryz.underlying21
  a21 := Tryz.isAgg21
  z21 := Tryz.sizeOf21
  v21 := Tryz.zeroValue21
  t46 := Tryz.underlying152
  a46 := Tryz.isAgg152
  z46 := Tryz.sizeOf152
  v46 := Tryz.zeroValue152
  t119 := Tryz.underlying204
  a119 := Tryz.isAgg204
  z119 := Tryz.sizeOf204
  t138 := Tryz.underlying231
  a138 := Tryz.isAgg231
  z138 := Tryz.sizeOf231
  v138 := Tryz.zeroValue231
  t139 := Tryz.underlying232
  a139 := Tryz.isAgg232
  z139 := Tryz.sizeOf232
  v139 := Tryz.zeroValue232
  g3 := by kernel_rfl
  g4 := by kernel_rfl }
open Go.RowKit Go.Lib in
/-- **unicode/utf8.DecodeRuneInString AT EVERY STRING.** (LAID: no walk: one application.) -/
theorem Tryz.utf8_DecodeRuneInString (s : ByteArray) (w : World) (hT : Lib.Utf8Tabs 2 3 w) :
    Calls Tryz.prog 120 #[.string s] w fun e w' => e = .returned (.tuple #[.int .i32 (Lib.decodeGo s).1, .int .i64 (Lib.decodeGo s).2]) ∧ Below w.heap.size w w' := Any.utf8_DecodeRuneInString Tryz.lays197 s w hT
open Go.RowKit Go.Lib in
/-- **unicode.IsSpace AT EVERY int32.** (LAID: no walk: one application.) -/
theorem Tryz.unicode_IsSpace_any (r : Int) (w : World) (hlo : -2147483648 ≤ r) (hhi : r ≤ 2147483647) (hW : Lib.WhiteTab 1 w) :
    Calls Tryz.prog 121 #[.int .i32 r] w fun e w' => e = .returned (.bool (Lib.isSpaceZ r)) ∧ Below w.heap.size w w' := Any.unicode_IsSpace_any Tryz.lays199 r w hlo hhi hW
end Go.Proofs
