/-
  DERIVED: THE SHELF's CONTRACTS AT THIS DUMP, IN PLAIN WORDS (tools/lay-plain.mjs out of 'TrydShelf.lean', which tools/lay-shelf.mjs wrote): THE SAME DECLARATIONS UNDER THE SAME NAMES: 'import', 'namespace', 'open', 'def', 'theorem' AND NOTHING ELSE: no command of the shelf's: FOR A HAND-IN. Each laying: the table of numbers ('.._ren') and one theorem, a field a fact of the dump's own or the kernel's comparison; each contract: ONE APPLICATION.
-/
import Derived.Shelf.Strings.Builder1
import Derived.Shelf.Strings.Builder2
import Derived.Shelf.Strings.OnBuilder
import Derived.Shelf.Strings.BuilderF
import Derived.Shelf.Strings.BuilderK
import Derived.Shelf.Strings.Builder2Cap
import Derived.Shelf.Strconv.Itoa0
import Derived.Shelf.Strconv.Itoa1
import Derived.Shelf.LaysM
import Derived.Shelf.Strconv.Itoa2
import Derived.Shelf.Strconv.Itoa3
import Derived.Shelf.Strconv.Itoa4
import Derived.Shelf.Strconv.Clone
import Derived.Shelf.Strconv.SyntaxError
import Derived.Shelf.LaysC
import Derived.Shelf.Strconv.ToError
import Derived.Shelf.Strconv.Lower
import Derived.Shelf.Strconv.ParseUint10
import Derived.Shelf.Strconv.ParseUint10Empty
import Derived.Shelf.Strconv.ParseUint10Any
import Derived.Shelf.Strconv.RangeError
import Derived.Shelf.Strconv.ToErrorRange
import Derived.Shelf.Strconv.ParseUintEmpty
import Derived.Shelf.Strconv.ParseUint10b64
import Derived.Shelf.Strconv.ParseUint10b32
import Derived.Shelf.Strconv.ParseUint10b16
import Derived.Shelf.Strconv.ParseUint10b8
import Derived.Shelf.Strconv.ParseUint10At
import Derived.Ground.MpProg
import Derived.Shelf.Pu.ParseUintPublic10
import Derived.Shelf.Pu.ErrVarParseUint
import Derived.Shelf.Strings.Prefix
import Derived.Shelf.Unicode.Latin
import Derived.Shelf.Unicode.Decode
import Derived.Shelf.Unicode.DecodeSlow
import Derived.Shelf.Unicode.DecodeAny
import Derived.Shelf.Unicode.Is16White
import Derived.Shelf.Unicode.IsSpaceAny
import Derived.Shelf.Unicode.Is16WhiteD
import Derived.Shelf.Unicode.IsSpaceAnyD
import Derived.Shelf.Unicode.Is16Any
import Derived.Shelf.Unicode.Is32Any
import Derived.Shelf.Unicode.ExclAny
import Derived.Shelf.Strings.BuilderCap
import Derived.Test.YtifhhejohdmiaaaDoorProg
namespace Go.Proofs
open Go.Shelf
def Tryd.lays156_ren : Go.Shelf.Ren := ⟨fun | 156 => 52 | 165 => 63 | 166 => 64 | 169 => 65 | 240 => 78 | 241 => 79 | 276 => 92 | 277 => 93 | n => n, fun | 31 => 60 | 9 => 9 | 3 => 3 | 4 => 4 | 0 => 0 | 20 => 20 | 72 => 114 | 76 => 116 | 70 => 112 | 37 => 81 | 75 => 67 | 127 => 131 | 164 => 159 | 5 => 5 | 80 => 76 | n => n, fun | n => n⟩
theorem Tryd.lays156 : Go.Proofs.Lays.n156 Tryd.prog Tryd.lays156_ren := {
  mixed := by kernel_rfl
  f156 := Tryd.func52.trans (congrArg some (by kernel_rfl))
  f165 := Tryd.func63.trans (congrArg some (by kernel_rfl))
  f166 := Tryd.func64.trans (congrArg some (by kernel_rfl))
  f169 := Tryd.func65.trans (congrArg some (by kernel_rfl))
  f240 := Tryd.func78.trans (congrArg some (by kernel_rfl))
  f241 := Tryd.func79.trans (congrArg some (by kernel_rfl))
  f276 := Tryd.func92.trans (congrArg some (by kernel_rfl))
  f277 := Tryd.func93.trans (congrArg some (by kernel_rfl))
  t0 := Tryd.underlying0
  a0 := Tryd.isAgg0
  z0 := Tryd.sizeOf0
  v0 := Tryd.zeroValue0
  t3 := Tryd.underlying3
  a3 := Tryd.isAgg3
  z3 := Tryd.sizeOf3
  v3 := Tryd.zeroValue3
  t4 := Tryd.underlying4
  a4 := Tryd.isAgg4
  z4 := Tryd.sizeOf4
  v4 := Tryd.zeroValue4
  t9 := Tryd.underlying9
  a9 := Tryd.isAgg9
  z9 := Tryd.sizeOf9
  v9 := Tryd.zeroValue9
  t20 := Tryd.underlying20
  a20 := Tryd.isAgg20
  z20 := Tryd.sizeOf20
  v20 := Tryd.zeroValue20
  t31 := Tryd.underlying60
  a31 := Tryd.isAgg60
  z31 := Tryd.sizeOf60
  v31 := Tryd.zeroValue60
  t37 := Tryd.underlying81
  a37 := Tryd.isAgg81
  z37 := Tryd.sizeOf81
  v37 := Tryd.zeroValue81
  t70 := Tryd.underlying112
  a70 := Tryd.isAgg112
  z70 := Tryd.sizeOf112
  v70 := Tryd.zeroValue112
  t72 := Tryd.underlying114
  a72 := Tryd.isAgg114
  z72 := Tryd.sizeOf114
  v72 := Tryd.zeroValue114
  t75 := Tryd.underlying67
  a75 := Tryd.isAgg67
  z75 := Tryd.sizeOf67
  v75 := Tryd.zeroValue67
  t76 := Tryd.underlying116
  a76 := Tryd.isAgg116
  z76 := Tryd.sizeOf116
  v76 := Tryd.zeroValue116
  t127 := Tryd.underlying131
  a127 := Tryd.isAgg131
  z127 := Tryd.sizeOf131
  v127 := Tryd.zeroValue131
  t164 := Tryd.underlying159
  a164 := Tryd.isAgg159
  z164 := Tryd.sizeOf159
  v164 := Tryd.zeroValue159 }
theorem Tryd.Builder_Extra_156 : Builder.Extra Tryd.prog Tryd.lays156_ren := {
  sizeBuilder := by kernel_rfl
  liesBuilder := by kernel_rfl
  t5 := Tryd.underlying5
  a5 := Tryd.isAgg5
  z5 := Tryd.sizeOf5
  v5 := Tryd.zeroValue5
  infoByte := by kernel_rfl
  cellsByte := by kernel_rfl
  sizeByte := by kernel_rfl
  neB5 := by decide }
open Go.RowKit in
/-- No element: the empty string; the world is as it was. (Whatever the slice's address and capacity: a nil slice too.) (LAID: no walk: one application.) -/
theorem Tryd.strings_Join_none (a : Option Addr) (c : Nat) (sep : ByteArray) (w : World) :
    Calls Tryd.prog 52 #[.slice a 0 c, .string sep] w fun e w' => e = .returned (.string ⟨#[]⟩) ∧ w' = w := Any.strings_Join_none Tryd.lays156 Tryd.Builder_Extra_156 a c sep w
open Go.RowKit in
/-- strings.Join: "Join concatenates the elements of its first argument to create a single string. The separator string sep is placed between elements in the resulting string.": HOWEVER MANY ELEMENTS. Below the heap's end the world is as it was. (LAID: no walk: one application.) -/
theorem Tryd.strings_Join (bk o c : Nat) (xs : List ByteArray) (sep : ByteArray) (w : World) (hcells : ∀ (j : Nat) x, xs[j]? = some x → w.cell? ⟨bk, o + j, none⟩ = some (.string x)) (hbk : bk < w.heap.size) (hN : xs.length ≤ 140737488355328) (hcap : xs.length ≤ c) (hlen : (Lib.join (xs.map (·.data.toList)) sep.data.toList).length ≤ 140737488355328) :
    Calls Tryd.prog 52 #[.slice (some ⟨bk, o, none⟩) xs.length c, .string sep] w fun e w' => e = .returned (.string ⟨(Lib.join (xs.map (·.data.toList)) sep.data.toList).toArray⟩) ∧ Below w.heap.size w w' := Any.strings_Join Tryd.lays156 Tryd.Builder_Extra_156 bk o c xs sep w hcells hbk hN hcap hlen
def Tryd.laysC245_ren : Go.Shelf.Ren := ⟨fun | 245 => 77 | 279 => 88 | 280 => 89 | 281 => 90 | 282 => 91 | 316 => 99 | 171 => 100 | 205 => 49 | 243 => 108 | 246 => 83 | 283 => 95 | 284 => 96 | 285 => 97 | 286 => 98 | 129 => 104 | 317 => 103 | 318 => 105 | 319 => 106 | 320 => 107 | 337 => 113 | 338 => 114 | n => n, fun | 9 => 9 | 3 => 3 | 75 => 67 | 167 => 154 | 4 => 4 | 168 => 156 | 210 => 172 | 37 => 81 | 0 => 0 | 127 => 131 | 145 => 110 | 143 => 108 | 2 => 2 | 171 => 164 | 53 => 105 | 5 => 5 | 173 => 167 | 212 => 176 | 51 => 124 | 20 => 20 | 213 => 177 | 46 => 139 | 232 => 183 | 233 => 184 | 80 => 76 | n => n, fun | 15 => 4 | 16 => 5 | 17 => 7 | 18 => 8 | 19 => 9 | n => n⟩
theorem Tryd.laysC245 : Go.Proofs.LaysC.n245 Tryd.prog Tryd.laysC245_ren := {
  mixed := by kernel_rfl
  f129 := Tryd.func104.trans (congrArg some (by kernel_rfl))
  f171 := Tryd.func100.trans (congrArg some (by kernel_rfl))
  f205 := Tryd.func49.trans (congrArg some (by kernel_rfl))
  f243 := Tryd.func108.trans (congrArg some (by kernel_rfl))
  f245 := Tryd.func77.trans (congrArg some (by kernel_rfl))
  f246 := Tryd.func83.trans (congrArg some (by kernel_rfl))
  f279 := Tryd.func88.trans (congrArg some (by kernel_rfl))
  f280 := Tryd.func89.trans (congrArg some (by kernel_rfl))
  f281 := Tryd.func90.trans (congrArg some (by kernel_rfl))
  f282 := Tryd.func91.trans (congrArg some (by kernel_rfl))
  f283 := Tryd.func95.trans (congrArg some (by kernel_rfl))
  f284 := Tryd.func96.trans (congrArg some (by kernel_rfl))
  f285 := Tryd.func97.trans (congrArg some (by kernel_rfl))
  f286 := Tryd.func98.trans (congrArg some (by kernel_rfl))
  f316 := Tryd.func99.trans (congrArg some (by kernel_rfl))
  f317 := Tryd.func103.trans (congrArg some (by kernel_rfl))
  f318 := Tryd.func105.trans (congrArg some (by kernel_rfl))
  f319 := Tryd.func106.trans (congrArg some (by kernel_rfl))
  f320 := Tryd.func107.trans (congrArg some (by kernel_rfl))
  f337 := Tryd.func113.trans (congrArg some (by kernel_rfl))
  f338 := Tryd.func114.trans (congrArg some (by kernel_rfl))
  t0 := Tryd.underlying0
  a0 := Tryd.isAgg0
  z0 := Tryd.sizeOf0
  v0 := Tryd.zeroValue0
  t2 := Tryd.underlying2
  a2 := Tryd.isAgg2
  z2 := Tryd.sizeOf2
  v2 := Tryd.zeroValue2
  t3 := Tryd.underlying3
  a3 := Tryd.isAgg3
  z3 := Tryd.sizeOf3
  v3 := Tryd.zeroValue3
  t4 := Tryd.underlying4
  a4 := Tryd.isAgg4
  z4 := Tryd.sizeOf4
  v4 := Tryd.zeroValue4
  t5 := Tryd.underlying5
  a5 := Tryd.isAgg5
  z5 := Tryd.sizeOf5
  v5 := Tryd.zeroValue5
  t9 := Tryd.underlying9
  a9 := Tryd.isAgg9
  z9 := Tryd.sizeOf9
  v9 := Tryd.zeroValue9
  t20 := Tryd.underlying20
  a20 := Tryd.isAgg20
  z20 := Tryd.sizeOf20
  v20 := Tryd.zeroValue20
  t37 := Tryd.underlying81
  a37 := Tryd.isAgg81
  z37 := Tryd.sizeOf81
  v37 := Tryd.zeroValue81
  t46 := Tryd.underlying139
  a46 := Tryd.isAgg139
  z46 := Tryd.sizeOf139
  v46 := Tryd.zeroValue139
  t51 := Tryd.underlying124
  a51 := Tryd.isAgg124
  z51 := Tryd.sizeOf124
  v51 := Tryd.zeroValue124
  t53 := Tryd.underlying105
  a53 := Tryd.isAgg105
  z53 := Tryd.sizeOf105
  v53 := Tryd.zeroValue105
  t75 := Tryd.underlying67
  a75 := Tryd.isAgg67
  z75 := Tryd.sizeOf67
  v75 := Tryd.zeroValue67
  t127 := Tryd.underlying131
  a127 := Tryd.isAgg131
  z127 := Tryd.sizeOf131
  v127 := Tryd.zeroValue131
  t143 := Tryd.underlying108
  a143 := Tryd.isAgg108
  z143 := Tryd.sizeOf108
  v143 := Tryd.zeroValue108
  t145 := Tryd.underlying110
  a145 := Tryd.isAgg110
  z145 := Tryd.sizeOf110
  v145 := Tryd.zeroValue110
  t167 := Tryd.underlying154
  a167 := Tryd.isAgg154
  z167 := Tryd.sizeOf154
  v167 := Tryd.zeroValue154
  t168 := Tryd.underlying156
  a168 := Tryd.isAgg156
  z168 := Tryd.sizeOf156
  v168 := Tryd.zeroValue156
  t171 := Tryd.underlying164
  a171 := Tryd.isAgg164
  z171 := Tryd.sizeOf164
  v171 := Tryd.zeroValue164
  t173 := Tryd.underlying167
  a173 := Tryd.isAgg167
  z173 := Tryd.sizeOf167
  v173 := Tryd.zeroValue167
  t210 := Tryd.underlying172
  a210 := Tryd.isAgg172
  z210 := Tryd.sizeOf172
  v210 := Tryd.zeroValue172
  t212 := Tryd.underlying176
  a212 := Tryd.isAgg176
  z212 := Tryd.sizeOf176
  v212 := Tryd.zeroValue176
  t213 := Tryd.underlying177
  a213 := Tryd.isAgg177
  z213 := Tryd.sizeOf177
  t232 := Tryd.underlying183
  a232 := Tryd.isAgg183
  z232 := Tryd.sizeOf183
  v232 := Tryd.zeroValue183
  t233 := Tryd.underlying184
  a233 := Tryd.isAgg184
  z233 := Tryd.sizeOf184
  v233 := Tryd.zeroValue184
  g15 := by kernel_rfl
  g16 := by kernel_rfl
  g17 := by kernel_rfl
  g18 := by kernel_rfl
  g19 := by kernel_rfl
  t80 := Tryd.underlying76
  a80 := Tryd.isAgg76
  z80 := Tryd.sizeOf76
  v80 := Tryd.zeroValue76
  i0 := by kernel_rfl
  i2 := by kernel_rfl
  i3 := by kernel_rfl
  i4 := by kernel_rfl
  i5 := by kernel_rfl
  i9 := by kernel_rfl
  i20 := by kernel_rfl
  i37 := by kernel_rfl
  i46 := by kernel_rfl
  i51 := by kernel_rfl
  i53 := by kernel_rfl
  i75 := by kernel_rfl
  i80 := by kernel_rfl
  i127 := by kernel_rfl
  i143 := by kernel_rfl
  i145 := by kernel_rfl
  i167 := by kernel_rfl
  i168 := by kernel_rfl
  i171 := by kernel_rfl
  i173 := by kernel_rfl
  i210 := by kernel_rfl
  i212 := by kernel_rfl
  i232 := by kernel_rfl
  i233 := by kernel_rfl
  m15 := by kernel_rfl
  m16 := by kernel_rfl
  m17 := by kernel_rfl
  m18 := by kernel_rfl
  m19 := by kernel_rfl
  c0 := by kernel_rfl
  c2 := by kernel_rfl
  c3 := by kernel_rfl
  c4 := by kernel_rfl
  c5 := by kernel_rfl
  c9 := by kernel_rfl
  c20 := by kernel_rfl
  c37 := by kernel_rfl
  c46 := by kernel_rfl
  c51 := by kernel_rfl
  c53 := by kernel_rfl
  c75 := by kernel_rfl
  c80 := by kernel_rfl
  c127 := by kernel_rfl
  c143 := by kernel_rfl
  c145 := by kernel_rfl
  c167 := by kernel_rfl
  c168 := by kernel_rfl
  c171 := by kernel_rfl
  c173 := by kernel_rfl
  c210 := by kernel_rfl
  c212 := by kernel_rfl
  c213 := by kernel_rfl
  c232 := by kernel_rfl
  c233 := by kernel_rfl }
open Go.RowKit in
/-- strconv.toError, at the inner package's ErrSyntax: 'syntaxError(fn, s)' as an error: A *NumError IN A NEW BLOCK. (LAID: no walk: one application.) -/
theorem Tryd.strconv_toError_syntax (fn s : ByteArray) (base bits : Int) (ev : Value) (w : World) (hlim : s.size ≤ 281474976710656) (hv : w.cell? ⟨4, 0, none⟩ = some ev) (hev : ev = .nilIface ∨ ∃ te pe, ev = .iface te pe) :
    Calls Tryd.prog 77 #[.string fn, .string s, .int .i64 base, .int .i64 bits, .iface 154 (.int .i64 2)] w fun e w' => ∃ N, e = .returned (.iface 156 (.pointer (some ⟨N, 0, none⟩))) ∧ w.heap.size ≤ N ∧ w'.heap[N]? = some (.cells #[.string fn, .string s, ev] 172 (0, 0)) ∧ Below w.heap.size w w' := Any.strconv_toError_syntax Tryd.laysC245 fn s base bits ev w hlim hv hev
def Tryd.lays321_ren : Go.Shelf.Ren := ⟨fun | 321 => 86 | n => n, fun | 5 => 5 | n => n, fun | n => n⟩
theorem Tryd.lays321 : Go.Proofs.Lays.n321 Tryd.prog Tryd.lays321_ren := {
  mixed := by kernel_rfl
  f321 := Tryd.func86.trans (congrArg some (by kernel_rfl))
  t5 := Tryd.underlying5
  a5 := Tryd.isAgg5
  z5 := Tryd.sizeOf5
  v5 := Tryd.zeroValue5 }
open Go.RowKit in
/-- internal/strconv.lower: 'c | ('x' - 'X')': the bit 32 set. The world is as it was. (LAID: no walk: one application.) -/
theorem Tryd.internal_strconv_lower (c : Int) (w : World) :
    Calls Tryd.prog 86 #[.int .u8 c] w fun e w' => e = .returned (.int .u8 (bits .or .u8 c 32)) ∧ w' = w := Any.internal_strconv_lower Tryd.lays321 c w
open Go.RowKit in
/-- strconv.toError, at the inner package's ErrRange: 'rangeError(fn, s)' as an error: A *NumError IN A NEW BLOCK. (LAID: no walk: one application.) -/
theorem Tryd.strconv_toError_range (fn s : ByteArray) (base bits : Int) (ev : Value) (w : World) (hlim : s.size ≤ 281474976710656) (hv : w.cell? ⟨5, 0, none⟩ = some ev) (hev : ev = .nilIface ∨ ∃ te pe, ev = .iface te pe) :
    Calls Tryd.prog 77 #[.string fn, .string s, .int .i64 base, .int .i64 bits, .iface 154 (.int .i64 1)] w fun e w' => ∃ N, e = .returned (.iface 156 (.pointer (some ⟨N, 0, none⟩))) ∧ w.heap.size ≤ N ∧ w'.heap[N]? = some (.cells #[.string fn, .string s, ev] 172 (0, 0)) ∧ Below w.heap.size w w' := Any.strconv_toError_range Tryd.laysC245 fn s base bits ev w hlim hv hev
def Tryd.lays99_ren : Go.Shelf.Ren := ⟨fun | 99 => 46 | 206 => 59 | n => n, fun | 9 => 9 | 4 => 4 | 3 => 3 | n => n, fun | n => n⟩
theorem Tryd.lays99 : Go.Proofs.Lays.n99 Tryd.prog Tryd.lays99_ren := {
  mixed := by kernel_rfl
  f99 := Tryd.func46.trans (congrArg some (by kernel_rfl))
  f206 := Tryd.func59.trans (congrArg some (by kernel_rfl))
  t3 := Tryd.underlying3
  a3 := Tryd.isAgg3
  z3 := Tryd.sizeOf3
  v3 := Tryd.zeroValue3
  t4 := Tryd.underlying4
  a4 := Tryd.isAgg4
  z4 := Tryd.sizeOf4
  v4 := Tryd.zeroValue4
  t9 := Tryd.underlying9
  a9 := Tryd.isAgg9
  z9 := Tryd.sizeOf9
  v9 := Tryd.zeroValue9 }
open Go.RowKit Go.Lib in
/-- strings.HasPrefix: "HasPrefix reports whether the string s begins with prefix.": IT RETURNS 'Lib.hasPrefix s prefix'; the world is as it was. (LAID: no walk: one application.) -/
theorem Tryd.strings_HasPrefix (s p : ByteArray) (w : World) :
    Calls Tryd.prog 46 #[.string s, .string p] w fun e w' => e = .returned (.bool (Lib.hasPrefix s.data.toList p.data.toList)) ∧ w' = w := Any.strings_HasPrefix Tryd.lays99 s p w
def Tryd.lays199_ren : Go.Shelf.Ren := ⟨fun | 199 => 58 | 261 => 74 | 311 => 84 | 312 => 85 | n => n, fun | 21 => 21 | 4 => 4 | 51 => 124 | 141 => 126 | 0 => 0 | 196 => 146 | 193 => 143 | 3 => 3 | 198 => 149 | 49 => 147 | 194 => 144 | 201 => 152 | 226 => 169 | 46 => 139 | 227 => 170 | n => n, fun | 6 => 1 | n => n⟩
theorem Tryd.lays199 : Go.Proofs.Lays.n199 Tryd.prog Tryd.lays199_ren := {
  mixed := by kernel_rfl
  f199 := Tryd.func58.trans (congrArg some (by kernel_rfl))
  f261 := Tryd.func74.trans (congrArg some (by kernel_rfl))
  f311 := Tryd.func84.trans (congrArg some (by kernel_rfl))
  f312 := Tryd.func85.trans (congrArg some (by kernel_rfl))
  t0 := Tryd.underlying0
  a0 := Tryd.isAgg0
  z0 := Tryd.sizeOf0
  v0 := Tryd.zeroValue0
  t3 := Tryd.underlying3
  a3 := Tryd.isAgg3
  z3 := Tryd.sizeOf3
  v3 := Tryd.zeroValue3
  t4 := Tryd.underlying4
  a4 := Tryd.isAgg4
  z4 := Tryd.sizeOf4
  v4 := Tryd.zeroValue4
  t21 := Tryd.underlying21
  a21 := Tryd.isAgg21
  z21 := Tryd.sizeOf21
  v21 := Tryd.zeroValue21
  t46 := Tryd.underlying139
  a46 := Tryd.isAgg139
  z46 := Tryd.sizeOf139
  v46 := Tryd.zeroValue139
  t49 := Tryd.underlying147
  a49 := Tryd.isAgg147
  z49 := Tryd.sizeOf147
  v49 := Tryd.zeroValue147
  t51 := Tryd.underlying124
  a51 := Tryd.isAgg124
  z51 := Tryd.sizeOf124
  v51 := Tryd.zeroValue124
  t141 := Tryd.underlying126
  a141 := Tryd.isAgg126
  z141 := Tryd.sizeOf126
  v141 := Tryd.zeroValue126
  t193 := Tryd.underlying143
  a193 := Tryd.isAgg143
  z193 := Tryd.sizeOf143
  v193 := Tryd.zeroValue143
  t194 := Tryd.underlying144
  a194 := Tryd.isAgg144
  z194 := Tryd.sizeOf144
  v194 := Tryd.zeroValue144
  t196 := Tryd.underlying146
  a196 := Tryd.isAgg146
  z196 := Tryd.sizeOf146
  v196 := Tryd.zeroValue146
  t198 := Tryd.underlying149
  a198 := Tryd.isAgg149
  z198 := Tryd.sizeOf149
  v198 := Tryd.zeroValue149
  t201 := Tryd.underlying152
  a201 := Tryd.isAgg152
  z201 := Tryd.sizeOf152
  v201 := Tryd.zeroValue152
  t226 := Tryd.underlying169
  a226 := Tryd.isAgg169
  z226 := Tryd.sizeOf169
  v226 := Tryd.zeroValue169
  t227 := Tryd.underlying170
  a227 := Tryd.isAgg170
  z227 := Tryd.sizeOf170
  v227 := Tryd.zeroValue170
  g6 := by kernel_rfl }
def Tryd.lays197_ren : Go.Shelf.Ren := ⟨fun | 197 => 57 | 260 => 73 | n => n, fun | 9 => 9 | 21 => 21 | 3 => 3 | 4 => 4 | 5 => 5 | 105 => 64 | 119 => 104 | 0 => 0 | 46 => 139 | 139 => 142 | 138 => 141 | n => n, fun | 3 => 2 | 4 => 3 | n => n⟩
theorem Tryd.lays197 : Go.Proofs.Lays.n197 Tryd.prog Tryd.lays197_ren := {
  mixed := by kernel_rfl
  f197 := Tryd.func57.trans (congrArg some (by kernel_rfl))
  f260 := Tryd.func73.trans (congrArg some (by kernel_rfl))
  t0 := Tryd.underlying0
  a0 := Tryd.isAgg0
  z0 := Tryd.sizeOf0
  v0 := Tryd.zeroValue0
  t3 := Tryd.underlying3
  a3 := Tryd.isAgg3
  z3 := Tryd.sizeOf3
  v3 := Tryd.zeroValue3
  t4 := Tryd.underlying4
  a4 := Tryd.isAgg4
  z4 := Tryd.sizeOf4
  v4 := Tryd.zeroValue4
  t5 := Tryd.underlying5
  a5 := Tryd.isAgg5
  z5 := Tryd.sizeOf5
  v5 := Tryd.zeroValue5
  t9 := Tryd.underlying9
  a9 := Tryd.isAgg9
  z9 := Tryd.sizeOf9
  v9 := Tryd.zeroValue9
  t21 := Tryd.underlying21
  a21 := Tryd.isAgg21
  z21 := Tryd.sizeOf21
  v21 := Tryd.zeroValue21
  t46 := Tryd.underlying139
  a46 := Tryd.isAgg139
  z46 := Tryd.sizeOf139
  v46 := Tryd.zeroValue139
  t105 := Tryd.underlying64
  a105 := Tryd.isAgg64
  z105 := Tryd.sizeOf64
  v105 := Tryd.zeroValue64
  t119 := Tryd.underlying104
  a119 := Tryd.isAgg104
  z119 := Tryd.sizeOf104
  t138 := Tryd.underlying141
  a138 := Tryd.isAgg141
  z138 := Tryd.sizeOf141
  v138 := Tryd.zeroValue141
  t139 := Tryd.underlying142
  a139 := Tryd.isAgg142
  z139 := Tryd.sizeOf142
  v139 := Tryd.zeroValue142
  g3 := by kernel_rfl
  g4 := by kernel_rfl }
def Tryd.lays260_ren : Go.Shelf.Ren := ⟨fun | 260 => 73 | n => n, fun | 9 => 9 | 21 => 21 | 3 => 3 | 4 => 4 | 5 => 5 | 119 => 104 | 0 => 0 | 46 => 139 | 139 => 142 | 138 => 141 | n => n, fun | 3 => 2 | 4 => 3 | n => n⟩
theorem Tryd.lays260 : Go.Proofs.Lays.n260 Tryd.prog Tryd.lays260_ren := {
  mixed := by kernel_rfl
  f260 := Tryd.func73.trans (congrArg some (by kernel_rfl))
  t0 := Tryd.underlying0
  a0 := Tryd.isAgg0
  z0 := Tryd.sizeOf0
  v0 := Tryd.zeroValue0
  t3 := Tryd.underlying3
  a3 := Tryd.isAgg3
  z3 := Tryd.sizeOf3
  v3 := Tryd.zeroValue3
  t4 := Tryd.underlying4
  a4 := Tryd.isAgg4
  z4 := Tryd.sizeOf4
  v4 := Tryd.zeroValue4
  t5 := Tryd.underlying5
  a5 := Tryd.isAgg5
  z5 := Tryd.sizeOf5
  v5 := Tryd.zeroValue5
  t9 := Tryd.underlying9
  a9 := Tryd.isAgg9
  z9 := Tryd.sizeOf9
  v9 := Tryd.zeroValue9
  t21 := Tryd.underlying21
  a21 := Tryd.isAgg21
  z21 := Tryd.sizeOf21
  v21 := Tryd.zeroValue21
  t46 := Tryd.underlying139
  a46 := Tryd.isAgg139
  z46 := Tryd.sizeOf139
  v46 := Tryd.zeroValue139
  t119 := Tryd.underlying104
  a119 := Tryd.isAgg104
  z119 := Tryd.sizeOf104
  t138 := Tryd.underlying141
  a138 := Tryd.isAgg141
  z138 := Tryd.sizeOf141
  v138 := Tryd.zeroValue141
  t139 := Tryd.underlying142
  a139 := Tryd.isAgg142
  z139 := Tryd.sizeOf142
  v139 := Tryd.zeroValue142
  g3 := by kernel_rfl
  g4 := by kernel_rfl }
open Go.RowKit Go.Lib in
/-- **unicode/utf8.DecodeRuneInString AT EVERY STRING.** (LAID: no walk: one application.) -/
theorem Tryd.utf8_DecodeRuneInString (s : ByteArray) (w : World) (hT : Lib.Utf8Tabs 2 3 w) :
    Calls Tryd.prog 57 #[.string s] w fun e w' => e = .returned (.tuple #[.int .i32 (Lib.decodeGo s).1, .int .i64 (Lib.decodeGo s).2]) ∧ Below w.heap.size w w' := Any.utf8_DecodeRuneInString Tryd.lays197 s w hT
open Go.RowKit Go.Lib in
/-- **unicode.IsSpace AT EVERY int32.** (LAID: no walk: one application.) -/
theorem Tryd.unicode_IsSpace_any (r : Int) (w : World) (hlo : -2147483648 ≤ r) (hhi : r ≤ 2147483647) (hW : Lib.WhiteTab 1 w) :
    Calls Tryd.prog 58 #[.int .i32 r] w fun e w' => e = .returned (.bool (Lib.isSpaceZ r)) ∧ Below w.heap.size w w' := Any.unicode_IsSpace_any Tryd.lays199 r w hlo hhi hW
end Go.Proofs
