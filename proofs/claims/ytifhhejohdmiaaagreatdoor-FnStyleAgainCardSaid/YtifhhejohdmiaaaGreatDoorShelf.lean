/-
  DERIVED: THE SHELF's CONTRACTS AT THIS DUMP, IN PLAIN WORDS (tools/lay-plain.mjs out of 'TryzShelf.lean', which tools/lay-shelf.mjs wrote): THE SAME DECLARATIONS UNDER THE SAME NAMES: 'import', 'namespace', 'open', 'def', 'theorem' AND NOTHING ELSE: no command of the shelf's: FOR A HAND-IN. Each laying: the table of numbers ('.._ren') and one theorem, a field a fact of the dump's own or the kernel's comparison; each contract: ONE APPLICATION.
-/
import Derived.Shelf.Strings.Builder1
import Derived.Shelf.Strings.Builder2
import Derived.Shelf.Strings.OnBuilder
import Derived.Shelf.Small.Bits
import Derived.Shelf.Strings.BuilderF
import Derived.Shelf.Strings.BuilderK
import Derived.Shelf.Strings.Builder2Cap
import Derived.Shelf.Strconv.Itoa0
import Derived.Shelf.Strconv.Itoa1
import Derived.Shelf.LaysM
import Derived.Shelf.Strconv.Itoa2
import Derived.Shelf.Strconv.Itoa3
import Derived.Shelf.Strconv.Itoa4
import Derived.Shelf.Strconv.Clone
import Derived.Shelf.Strconv.SyntaxError
import Derived.Shelf.LaysC
import Derived.Shelf.Strconv.ToError
import Derived.Shelf.Strconv.Lower
import Derived.Shelf.Strconv.ParseUint10
import Derived.Shelf.Strconv.ParseUint10Empty
import Derived.Shelf.Strconv.ParseUint10Any
import Derived.Shelf.Strconv.RangeError
import Derived.Shelf.Strconv.ToErrorRange
import Derived.Shelf.Strconv.ParseUintEmpty
import Derived.Shelf.Strconv.ParseUint10b64
import Derived.Shelf.Strconv.ParseUint10b32
import Derived.Shelf.Strconv.ParseUint10b16
import Derived.Shelf.Strconv.ParseUint10b8
import Derived.Shelf.Strconv.ParseUint10At
import Derived.Ground.MpProg
import Derived.Shelf.Pu.ParseUintPublic10
import Derived.Shelf.Pu.ErrVarParseUint
import Derived.Shelf.Strings.Prefix
import Derived.Shelf.Unicode.Latin
import Derived.Shelf.Unicode.Decode
import Derived.Shelf.Unicode.DecodeSlow
import Derived.Shelf.Unicode.DecodeAny
import Derived.Shelf.Unicode.Is16White
import Derived.Shelf.Unicode.IsSpaceAny
import Derived.Shelf.Unicode.Is16WhiteD
import Derived.Shelf.Unicode.IsSpaceAnyD
import Derived.Shelf.Unicode.Is16Any
import Derived.Shelf.Unicode.Is32Any
import Derived.Shelf.Unicode.ExclAny
import Derived.Shelf.Strings.BuilderCap
import Derived.Ground.Names2Prog
import Derived.Shelf.Slices.SearchI
import Derived.Test.YtifhhejohdmiaaaGreatDoorProg
namespace Go.Proofs
open Go.Shelf
def Tryz.lays169_ren : Go.Shelf.Ren := ⟨fun | 169 => 94 | n => n, fun | 70 => 163 | 9 => 9 | 0 => 0 | 72 => 165 | 37 => 124 | 127 => 204 | 3 => 3 | 5 => 5 | n => n, fun | n => n⟩
theorem Tryz.lays169 : Go.Proofs.Lays.n169 Tryz.prog Tryz.lays169_ren := {
  mixed := by kernel_rfl
  f169 := Tryz.func94.trans (congrArg some (by kernel_rfl))
  t0 := Tryz.underlying0
  a0 := Tryz.isAgg0
  z0 := Tryz.sizeOf0
  v0 := Tryz.zeroValue0
  t3 := Tryz.underlying3
  a3 := Tryz.isAgg3
  z3 := Tryz.sizeOf3
  v3 := Tryz.zeroValue3
  t9 := Tryz.underlying9
  a9 := Tryz.isAgg9
  z9 := Tryz.sizeOf9
  v9 := Tryz.zeroValue9
  t37 := Tryz.underlying124
  a37 := Tryz.isAgg124
  z37 := Tryz.sizeOf124
  v37 := Tryz.zeroValue124
  t70 := Tryz.underlying163
  a70 := Tryz.isAgg163
  z70 := Tryz.sizeOf163
  v70 := Tryz.zeroValue163
  t72 := Tryz.underlying165
  a72 := Tryz.isAgg165
  z72 := Tryz.sizeOf165
  v72 := Tryz.zeroValue165
  t127 := Tryz.underlying204
  a127 := Tryz.isAgg204
  z127 := Tryz.sizeOf204
  v127 := Tryz.zeroValue204 }
theorem Tryz.Builder_Extra_169 : Builder.Extra Tryz.prog Tryz.lays169_ren := {
  sizeBuilder := by kernel_rfl
  liesBuilder := by kernel_rfl
  t5 := Tryz.underlying5
  a5 := Tryz.isAgg5
  z5 := Tryz.sizeOf5
  v5 := Tryz.zeroValue5
  infoByte := by kernel_rfl
  cellsByte := by kernel_rfl
  sizeByte := by kernel_rfl
  neB5 := by decide }
open Go.RowKit in
/-- (*strings.Builder).String: "String returns the accumulated string.": OF A BUILDER THAT HOLDS AT LEAST ONE BYTE. ✋ THE MODEL FREEZES THOSE BYTES IN THE BUFFER (unsafe.String): a later write INTO them ends the model's run without an answer; a later append BEHIND them goes on. The statement's order of evaluation is drawn: one draw. (LAID: no walk: one application.) -/
theorem Tryz.Builder_String (B b : Nat) (l : List UInt8) (w : World) (h : Lib.IsBuilder 165 5 B b (Lib.byteCells l) w) (h0 : l ≠ []) :
    Calls Tryz.prog 94 #[.pointer (some ⟨b, 0, none⟩)] w fun e w' => e = .returned (.string ⟨l.toArray⟩) ∧ Below B w w' := Any.Builder_String Tryz.lays169 Tryz.Builder_Extra_169 B b l w h h0
open Go.RowKit in
/-- (*strings.Builder).String OF A BUILDER THAT HOLDS NO BYTE: the empty string. (Its buffer is nil, or a row of which it has taken nothing yet; where that row has NO capacity the model lays one new block for unsafe.SliceData's 'some address'.) One draw. (LAID: no walk: one application.) -/
theorem Tryz.Builder_String_empty (B b : Nat) (w : World) (h : Lib.IsBuilder 165 5 B b [] w) (hBw : B ≤ w.heap.size) :
    Calls Tryz.prog 94 #[.pointer (some ⟨b, 0, none⟩)] w fun e w' => e = .returned (.string ⟨#[]⟩) ∧ Below B w w' := Any.Builder_String_empty Tryz.lays169 Tryz.Builder_Extra_169 B b w h hBw
open Go.RowKit in
/-- (*strings.Builder).String: "String returns the accumulated string.": WHATEVER THE BUILDER HOLDS. (LAID: no walk: one application.) -/
theorem Tryz.Builder_String_any (B b : Nat) (l : List UInt8) (w : World) (h : Lib.IsBuilder 165 5 B b (Lib.byteCells l) w) (hBw : B ≤ w.heap.size) :
    Calls Tryz.prog 94 #[.pointer (some ⟨b, 0, none⟩)] w fun e w' => e = .returned (.string ⟨l.toArray⟩) ∧ Below B w w' := Any.Builder_String_any Tryz.lays169 Tryz.Builder_Extra_169 B b l w h hBw
def Tryz.lays241_ren : Go.Shelf.Ren := ⟨fun | 241 => 123 | 277 => 140 | n => n, fun | 70 => 163 | 3 => 3 | 0 => 0 | 72 => 165 | 37 => 124 | 5 => 5 | n => n, fun | n => n⟩
theorem Tryz.lays241 : Go.Proofs.Lays.n241 Tryz.prog Tryz.lays241_ren := {
  mixed := by kernel_rfl
  f241 := Tryz.func123.trans (congrArg some (by kernel_rfl))
  f277 := Tryz.func140.trans (congrArg some (by kernel_rfl))
  t0 := Tryz.underlying0
  a0 := Tryz.isAgg0
  z0 := Tryz.sizeOf0
  v0 := Tryz.zeroValue0
  t3 := Tryz.underlying3
  a3 := Tryz.isAgg3
  z3 := Tryz.sizeOf3
  v3 := Tryz.zeroValue3
  t37 := Tryz.underlying124
  a37 := Tryz.isAgg124
  z37 := Tryz.sizeOf124
  v37 := Tryz.zeroValue124
  t70 := Tryz.underlying163
  a70 := Tryz.isAgg163
  z70 := Tryz.sizeOf163
  v70 := Tryz.zeroValue163
  t72 := Tryz.underlying165
  a72 := Tryz.isAgg165
  z72 := Tryz.sizeOf165
  v72 := Tryz.zeroValue165 }
theorem Tryz.Builder_Extra_241 : Builder.Extra Tryz.prog Tryz.lays241_ren := {
  sizeBuilder := by kernel_rfl
  liesBuilder := by kernel_rfl
  t5 := Tryz.underlying5
  a5 := Tryz.isAgg5
  z5 := Tryz.sizeOf5
  v5 := Tryz.zeroValue5
  infoByte := by kernel_rfl
  cellsByte := by kernel_rfl
  sizeByte := by kernel_rfl
  neB5 := by decide }
open Go.RowKit in
/-- (*strings.Builder).grow (no doc but "grow copies the buffer to a new, larger buffer so that there are at least n bytes of capacity beyond len(b.buf)."): AT A BUILDER WITHOUT A BUFFER: a new row of whatever bytes for its buffer, none of them its own yet. Three draws. (LAID: no walk: one application.) -/
theorem Tryz.Builder_grow_fresh (B b n : Nat) (w : World) (hB : B ≤ b) (hbk : w.heap[b]? = some (.cells #[.pointer (some ⟨b, 0, none⟩), .slice none 0 0] 165 (0, 0))) (hBw : B ≤ w.heap.size) (hn : n ≤ 281474976710656) :
    Calls Tryz.prog 123 #[.pointer (some ⟨b, 0, none⟩), .int .i64 n] w fun e w' => e = .returned (.tuple #[]) ∧ (Lib.BuilderAt 165 5 B b (.pointer (some ⟨b, 0, none⟩)) [] w' ∧ Below B w w') := Any.Builder_grow_fresh Tryz.lays241 Tryz.Builder_Extra_241 B b n w hB hbk hBw hn
def Tryz.lays165_ren : Go.Shelf.Ren := ⟨fun | 165 => 92 | 240 => 122 | 241 => 123 | 276 => 139 | 277 => 140 | n => n, fun | 70 => 163 | 3 => 3 | 0 => 0 | 4 => 4 | 9 => 9 | 20 => 20 | 72 => 165 | 37 => 124 | 164 => 217 | 5 => 5 | n => n, fun | n => n⟩
theorem Tryz.lays165 : Go.Proofs.Lays.n165 Tryz.prog Tryz.lays165_ren := {
  mixed := by kernel_rfl
  f165 := Tryz.func92.trans (congrArg some (by kernel_rfl))
  f240 := Tryz.func122.trans (congrArg some (by kernel_rfl))
  f241 := Tryz.func123.trans (congrArg some (by kernel_rfl))
  f276 := Tryz.func139.trans (congrArg some (by kernel_rfl))
  f277 := Tryz.func140.trans (congrArg some (by kernel_rfl))
  t0 := Tryz.underlying0
  a0 := Tryz.isAgg0
  z0 := Tryz.sizeOf0
  v0 := Tryz.zeroValue0
  t3 := Tryz.underlying3
  a3 := Tryz.isAgg3
  z3 := Tryz.sizeOf3
  v3 := Tryz.zeroValue3
  t4 := Tryz.underlying4
  a4 := Tryz.isAgg4
  z4 := Tryz.sizeOf4
  v4 := Tryz.zeroValue4
  t9 := Tryz.underlying9
  a9 := Tryz.isAgg9
  z9 := Tryz.sizeOf9
  v9 := Tryz.zeroValue9
  t20 := Tryz.underlying20
  a20 := Tryz.isAgg20
  z20 := Tryz.sizeOf20
  v20 := Tryz.zeroValue20
  t37 := Tryz.underlying124
  a37 := Tryz.isAgg124
  z37 := Tryz.sizeOf124
  v37 := Tryz.zeroValue124
  t70 := Tryz.underlying163
  a70 := Tryz.isAgg163
  z70 := Tryz.sizeOf163
  v70 := Tryz.zeroValue163
  t72 := Tryz.underlying165
  a72 := Tryz.isAgg165
  z72 := Tryz.sizeOf165
  v72 := Tryz.zeroValue165
  t164 := Tryz.underlying217
  a164 := Tryz.isAgg217
  z164 := Tryz.sizeOf217
  v164 := Tryz.zeroValue217 }
theorem Tryz.Builder_Extra_165 : Builder.Extra Tryz.prog Tryz.lays165_ren := {
  sizeBuilder := by kernel_rfl
  liesBuilder := by kernel_rfl
  t5 := Tryz.underlying5
  a5 := Tryz.isAgg5
  z5 := Tryz.sizeOf5
  v5 := Tryz.zeroValue5
  infoByte := by kernel_rfl
  cellsByte := by kernel_rfl
  sizeByte := by kernel_rfl
  neB5 := by decide }
open Go.RowKit in
/-- (*strings.Builder).Grow AT A BUILDER THAT HAS NOT BEEN WRITTEN ('var b strings.Builder; b.Grow(n)'): "Grow grows b's capacity, if necessary, to guarantee space for another n bytes.": it holds no byte behind it as before it. (LAID: no walk: one application.) -/
theorem Tryz.Builder_Grow_fresh (B b n : Nat) (w : World) (hB : B ≤ b) (hbk : w.heap[b]? = some (.cells #[.pointer none, .slice none 0 0] 165 (0, 0))) (hBw : B ≤ w.heap.size) (hn : n ≤ 281474976710656) :
    Calls Tryz.prog 92 #[.pointer (some ⟨b, 0, none⟩), .int .i64 n] w fun e w' => e = .returned (.tuple #[]) ∧ (Lib.BuilderAt 165 5 B b (.pointer (some ⟨b, 0, none⟩)) [] w' ∧ Below B w w') := Any.Builder_Grow_fresh Tryz.lays165 Tryz.Builder_Extra_165 B b n w hB hbk hBw hn
def Tryz.lays156_ren : Go.Shelf.Ren := ⟨fun | 156 => 73 | 165 => 92 | 166 => 93 | 169 => 94 | 240 => 122 | 241 => 123 | 276 => 139 | 277 => 140 | n => n, fun | 31 => 125 | 9 => 9 | 3 => 3 | 4 => 4 | 0 => 0 | 20 => 20 | 72 => 165 | 76 => 167 | 70 => 163 | 37 => 124 | 75 => 104 | 127 => 204 | 164 => 217 | 5 => 5 | 80 => 76 | n => n, fun | n => n⟩
theorem Tryz.lays156 : Go.Proofs.Lays.n156 Tryz.prog Tryz.lays156_ren := {
  mixed := by kernel_rfl
  f156 := Tryz.func73.trans (congrArg some (by kernel_rfl))
  f165 := Tryz.func92.trans (congrArg some (by kernel_rfl))
  f166 := Tryz.func93.trans (congrArg some (by kernel_rfl))
  f169 := Tryz.func94.trans (congrArg some (by kernel_rfl))
  f240 := Tryz.func122.trans (congrArg some (by kernel_rfl))
  f241 := Tryz.func123.trans (congrArg some (by kernel_rfl))
  f276 := Tryz.func139.trans (congrArg some (by kernel_rfl))
  f277 := Tryz.func140.trans (congrArg some (by kernel_rfl))
  t0 := Tryz.underlying0
  a0 := Tryz.isAgg0
  z0 := Tryz.sizeOf0
  v0 := Tryz.zeroValue0
  t3 := Tryz.underlying3
  a3 := Tryz.isAgg3
  z3 := Tryz.sizeOf3
  v3 := Tryz.zeroValue3
  t4 := Tryz.underlying4
  a4 := Tryz.isAgg4
  z4 := Tryz.sizeOf4
  v4 := Tryz.zeroValue4
  t9 := Tryz.underlying9
  a9 := Tryz.isAgg9
  z9 := Tryz.sizeOf9
  v9 := Tryz.zeroValue9
  t20 := Tryz.underlying20
  a20 := Tryz.isAgg20
  z20 := Tryz.sizeOf20
  v20 := Tryz.zeroValue20
  t31 := Tryz.underlying125
  a31 := Tryz.isAgg125
  z31 := Tryz.sizeOf125
  v31 := Tryz.zeroValue125
  t37 := Tryz.underlying124
  a37 := Tryz.isAgg124
  z37 := Tryz.sizeOf124
  v37 := Tryz.zeroValue124
  t70 := Tryz.underlying163
  a70 := Tryz.isAgg163
  z70 := Tryz.sizeOf163
  v70 := Tryz.zeroValue163
  t72 := Tryz.underlying165
  a72 := Tryz.isAgg165
  z72 := Tryz.sizeOf165
  v72 := Tryz.zeroValue165
  t75 := Tryz.underlying104
  a75 := Tryz.isAgg104
  z75 := Tryz.sizeOf104
  v75 := Tryz.zeroValue104
  t76 := Tryz.underlying167
  a76 := Tryz.isAgg167
  z76 := Tryz.sizeOf167
  v76 := Tryz.zeroValue167
  t127 := Tryz.underlying204
  a127 := Tryz.isAgg204
  z127 := Tryz.sizeOf204
  v127 := Tryz.zeroValue204
  t164 := Tryz.underlying217
  a164 := Tryz.isAgg217
  z164 := Tryz.sizeOf217
  v164 := Tryz.zeroValue217 }
theorem Tryz.Builder_Extra_156 : Builder.Extra Tryz.prog Tryz.lays156_ren := {
  sizeBuilder := by kernel_rfl
  liesBuilder := by kernel_rfl
  t5 := Tryz.underlying5
  a5 := Tryz.isAgg5
  z5 := Tryz.sizeOf5
  v5 := Tryz.zeroValue5
  infoByte := by kernel_rfl
  cellsByte := by kernel_rfl
  sizeByte := by kernel_rfl
  neB5 := by decide }
open Go.RowKit in
/-- No element: the empty string; the world is as it was. (Whatever the slice's address and capacity: a nil slice too.) (LAID: no walk: one application.) -/
theorem Tryz.strings_Join_none (a : Option Addr) (c : Nat) (sep : ByteArray) (w : World) :
    Calls Tryz.prog 73 #[.slice a 0 c, .string sep] w fun e w' => e = .returned (.string ⟨#[]⟩) ∧ w' = w := Any.strings_Join_none Tryz.lays156 Tryz.Builder_Extra_156 a c sep w
open Go.RowKit in
/-- strings.Join: "Join concatenates the elements of its first argument to create a single string. The separator string sep is placed between elements in the resulting string.": HOWEVER MANY ELEMENTS. Below the heap's end the world is as it was. (LAID: no walk: one application.) -/
theorem Tryz.strings_Join (bk o c : Nat) (xs : List ByteArray) (sep : ByteArray) (w : World) (hcells : ∀ (j : Nat) x, xs[j]? = some x → w.cell? ⟨bk, o + j, none⟩ = some (.string x)) (hbk : bk < w.heap.size) (hN : xs.length ≤ 140737488355328) (hcap : xs.length ≤ c) (hlen : (Lib.join (xs.map (·.data.toList)) sep.data.toList).length ≤ 140737488355328) :
    Calls Tryz.prog 73 #[.slice (some ⟨bk, o, none⟩) xs.length c, .string sep] w fun e w' => e = .returned (.string ⟨(Lib.join (xs.map (·.data.toList)) sep.data.toList).toArray⟩) ∧ Below w.heap.size w w' := Any.strings_Join Tryz.lays156 Tryz.Builder_Extra_156 bk o c xs sep w hcells hbk hN hcap hlen
def Tryz.lays128_ren : Go.Shelf.Ren := ⟨fun | 128 => 116 | n => n, fun | 51 => 199 | 3 => 3 | 4 => 4 | 46 => 159 | 5 => 5 | 9 => 9 | n => n, fun | n => n⟩
theorem Tryz.lays128 : Go.Proofs.Lays.n128 Tryz.prog Tryz.lays128_ren := {
  mixed := by kernel_rfl
  f128 := Tryz.func116.trans (congrArg some (by kernel_rfl))
  t3 := Tryz.underlying3
  a3 := Tryz.isAgg3
  z3 := Tryz.sizeOf3
  v3 := Tryz.zeroValue3
  t4 := Tryz.underlying4
  a4 := Tryz.isAgg4
  z4 := Tryz.sizeOf4
  v4 := Tryz.zeroValue4
  t5 := Tryz.underlying5
  a5 := Tryz.isAgg5
  z5 := Tryz.sizeOf5
  v5 := Tryz.zeroValue5
  t9 := Tryz.underlying9
  a9 := Tryz.isAgg9
  z9 := Tryz.sizeOf9
  v9 := Tryz.zeroValue9
  t46 := Tryz.underlying159
  a46 := Tryz.isAgg159
  z46 := Tryz.sizeOf159
  v46 := Tryz.zeroValue159
  t51 := Tryz.underlying199
  a51 := Tryz.isAgg199
  z51 := Tryz.sizeOf199
  v51 := Tryz.zeroValue199 }
/-- bits.Len32: "Len32 returns the minimum number of bits required to represent x; the result is 0 for x == 0.": IT RETURNS 'Lib.bitLen x'; the world is as it was. ('h0', 'h1': x is a uint32.) (LAID: no walk: one application.) -/
theorem Tryz.bits_Len32 (x : Int) (w : World) (h0 : 0 ≤ x) (h1 : x ≤ 4294967295) :
    Calls Tryz.prog 116 #[.int .u32 x] w fun e w' => e = .returned (.int .i64 (Lib.bitLen x.toNat)) ∧ w' = w := Any.bits_Len32 Tryz.lays128 x w h0 h1
def Tryz.lays125_ren : Go.Shelf.Ren := ⟨fun | 125 => 89 | 128 => 116 | 129 => 117 | n => n, fun | 46 => 159 | 3 => 3 | 51 => 199 | 53 => 201 | 4 => 4 | 5 => 5 | 9 => 9 | n => n, fun | n => n⟩
theorem Tryz.lays125 : Go.Proofs.Lays.n125 Tryz.prog Tryz.lays125_ren := {
  mixed := by kernel_rfl
  f125 := Tryz.func89.trans (congrArg some (by kernel_rfl))
  f128 := Tryz.func116.trans (congrArg some (by kernel_rfl))
  f129 := Tryz.func117.trans (congrArg some (by kernel_rfl))
  t3 := Tryz.underlying3
  a3 := Tryz.isAgg3
  z3 := Tryz.sizeOf3
  v3 := Tryz.zeroValue3
  t4 := Tryz.underlying4
  a4 := Tryz.isAgg4
  z4 := Tryz.sizeOf4
  v4 := Tryz.zeroValue4
  t5 := Tryz.underlying5
  a5 := Tryz.isAgg5
  z5 := Tryz.sizeOf5
  v5 := Tryz.zeroValue5
  t9 := Tryz.underlying9
  a9 := Tryz.isAgg9
  z9 := Tryz.sizeOf9
  v9 := Tryz.zeroValue9
  t46 := Tryz.underlying159
  a46 := Tryz.isAgg159
  z46 := Tryz.sizeOf159
  v46 := Tryz.zeroValue159
  t51 := Tryz.underlying199
  a51 := Tryz.isAgg199
  z51 := Tryz.sizeOf199
  v51 := Tryz.zeroValue199
  t53 := Tryz.underlying201
  a53 := Tryz.isAgg201
  z53 := Tryz.sizeOf201
  v53 := Tryz.zeroValue201 }
/-- bits.Len: "Len returns the minimum number of bits required to represent x; the result is 0 for x == 0.": IT RETURNS 'Lib.bitLen x'; the world is as it was. (A uint has 64 bits in the model.) ITS CALLEE bits.Len64 IS MET BY ITS OWN CONTRACT OFF THE SHELF (lay that first). (LAID: no walk: one application.) -/
theorem Tryz.bits_Len (x : Int) (w : World) (h0 : 0 ≤ x) (h1 : x ≤ 18446744073709551615) :
    Calls Tryz.prog 89 #[.int .u64 x] w fun e w' => e = .returned (.int .i64 (Lib.bitLen x.toNat)) ∧ w' = w := Any.bits_Len Tryz.lays125 x w h0 h1
open Go.RowKit in
/-- (*strings.Builder).String: "String returns the accumulated string.": OF A BUILDER THAT HOLDS AT LEAST ONE BYTE. ✋ THE MODEL FREEZES THOSE BYTES IN THE BUFFER (unsafe.String): a later write INTO them ends the model's run without an answer; a later append BEHIND them goes on. The statement's order of evaluation is drawn: one draw. THE FORM '_f': IT SAYS BESIDES THAT THE BUILDER IS A BUILDER STILL ('Lib.IsBuilderF', the same bytes): SO IT CAN BE WRITTEN ON: 'b.WriteString(b.String()[:k])'. (LAID: no walk: one application.) -/
theorem Tryz.Builder_String_f (B b : Nat) (l : List UInt8) (w : World) (h : Lib.IsBuilderF 165 5 B b (Lib.byteCells l) w) (h0 : l ≠ []) :
    Calls Tryz.prog 94 #[.pointer (some ⟨b, 0, none⟩)] w fun e w' => e = .returned (.string ⟨l.toArray⟩) ∧ (Lib.IsBuilderF 165 5 B b (Lib.byteCells l) w' ∧ Below B w w') := Any.Builder_String_f Tryz.lays169 Tryz.Builder_Extra_169 B b l w h h0
open Go.RowKit in
/-- (*strings.Builder).String OF A BUILDER THAT HOLDS NO BYTE: the empty string; THE FORM '_f': a builder still. (LAID: no walk: one application.) -/
theorem Tryz.Builder_String_empty_f (B b : Nat) (w : World) (h : Lib.IsBuilderF 165 5 B b [] w) (hBw : B ≤ w.heap.size) :
    Calls Tryz.prog 94 #[.pointer (some ⟨b, 0, none⟩)] w fun e w' => e = .returned (.string ⟨#[]⟩) ∧ (Lib.IsBuilderF 165 5 B b [] w' ∧ Below B w w') := Any.Builder_String_empty_f Tryz.lays169 Tryz.Builder_Extra_169 B b w h hBw
open Go.RowKit in
/-- (*strings.Builder).String: "String returns the accumulated string.": WHATEVER THE BUILDER HOLDS; THE FORM '_f': OF A BUILDER THAT MAY HAVE BEEN READ BEFORE; AND IT IS A BUILDER STILL, holding the same bytes: it can be written on. (LAID: no walk: one application.) -/
theorem Tryz.Builder_String_any_f (B b : Nat) (l : List UInt8) (w : World) (h : Lib.IsBuilderF 165 5 B b (Lib.byteCells l) w) (hBw : B ≤ w.heap.size) :
    Calls Tryz.prog 94 #[.pointer (some ⟨b, 0, none⟩)] w fun e w' => e = .returned (.string ⟨l.toArray⟩) ∧ (Lib.IsBuilderF 165 5 B b (Lib.byteCells l) w' ∧ Below B w w') := Any.Builder_String_any_f Tryz.lays169 Tryz.Builder_Extra_169 B b l w h hBw
open Go.RowKit in
/-- (*strings.Builder).String: "String returns the accumulated string.": OF A BUILDER THAT HOLDS AT LEAST ONE BYTE. ✋ THE MODEL FREEZES THOSE BYTES IN THE BUFFER (unsafe.String): a later write INTO them ends the model's run without an answer; a later append BEHIND them goes on. The statement's order of evaluation is drawn: one draw. THE FORM '_k': OVER 'Lib.IsBuilderF' (a builder that 'String()' may have read), AND WITH THE FRAME THAT REACHES ABOVE THE BUILDER: 'Lib.OthersKept': every block that is not b and is no row of uint8's stands as it stood: the iterator of a range among them. (LAID: no walk: one application.) -/
theorem Tryz.Builder_String_k (B b : Nat) (l : List UInt8) (w : World) (h : Lib.IsBuilderF 165 5 B b (Lib.byteCells l) w) (h0 : l ≠ []) :
    Calls Tryz.prog 94 #[.pointer (some ⟨b, 0, none⟩)] w fun e w' => e = .returned (.string ⟨l.toArray⟩) ∧ (Lib.IsBuilderF 165 5 B b (Lib.byteCells l) w' ∧ Below B w w' ∧ Lib.OthersKept 5 (some b) w w') := Any.Builder_String_k Tryz.lays169 Tryz.Builder_Extra_169 B b l w h h0
open Go.RowKit in
/-- (*strings.Builder).String OF A BUILDER THAT HOLDS NO BYTE: the empty string; THE FORM '_k': OVER 'Lib.IsBuilderF' (a builder that 'String()' may have read), AND WITH THE FRAME THAT REACHES ABOVE THE BUILDER: 'Lib.OthersKept': every block that is not b and is no row of uint8's stands as it stood: the iterator of a range among them. (LAID: no walk: one application.) -/
theorem Tryz.Builder_String_empty_k (B b : Nat) (w : World) (h : Lib.IsBuilderF 165 5 B b [] w) (hBw : B ≤ w.heap.size) :
    Calls Tryz.prog 94 #[.pointer (some ⟨b, 0, none⟩)] w fun e w' => e = .returned (.string ⟨#[]⟩) ∧ (Lib.IsBuilderF 165 5 B b [] w' ∧ Below B w w' ∧ Lib.OthersKept 5 (some b) w w') := Any.Builder_String_empty_k Tryz.lays169 Tryz.Builder_Extra_169 B b w h hBw
open Go.RowKit in
/-- (*strings.Builder).String: "String returns the accumulated string.": WHATEVER THE BUILDER HOLDS; THE FORM '_k': OVER 'Lib.IsBuilderF' (a builder that 'String()' may have read), AND WITH THE FRAME THAT REACHES ABOVE THE BUILDER: 'Lib.OthersKept': every block that is not b and is no row of uint8's stands as it stood: the iterator of a range among them. (LAID: no walk: one application.) -/
theorem Tryz.Builder_String_any_k (B b : Nat) (l : List UInt8) (w : World) (h : Lib.IsBuilderF 165 5 B b (Lib.byteCells l) w) (hBw : B ≤ w.heap.size) :
    Calls Tryz.prog 94 #[.pointer (some ⟨b, 0, none⟩)] w fun e w' => e = .returned (.string ⟨l.toArray⟩) ∧ (Lib.IsBuilderF 165 5 B b (Lib.byteCells l) w' ∧ Below B w w' ∧ Lib.OthersKept 5 (some b) w w') := Any.Builder_String_any_k Tryz.lays169 Tryz.Builder_Extra_169 B b l w h hBw
open Go.RowKit in
/-- (*strings.Builder).grow (no doc but "grow copies the buffer to a new, larger buffer so that there are at least n bytes of capacity beyond len(b.buf)."): AT A BUILDER WITHOUT A BUFFER: a new row of whatever bytes for its buffer, none of them its own yet. Three draws. (LAID: no walk: one application.) -/
theorem Tryz.Builder_grow_fresh_cap (B b n : Nat) (w : World) (hB : B ≤ b) (hbk : w.heap[b]? = some (.cells #[.pointer (some ⟨b, 0, none⟩), .slice none 0 0] 165 (0, 0))) (hBw : B ≤ w.heap.size) (hn : n ≤ 281474976710656) :
    Calls Tryz.prog 123 #[.pointer (some ⟨b, 0, none⟩), .int .i64 n] w fun e w' => e = .returned (.tuple #[]) ∧ (Lib.BuilderAt 165 5 B b (.pointer (some ⟨b, 0, none⟩)) [] w' ∧ Below B w w') ∧ ∃ p cap, w'.cell? ⟨b, 1, none⟩ = some (.slice p 0 cap) ∧ n ≤ cap := Any.Builder_grow_fresh_cap Tryz.lays241 Tryz.Builder_Extra_241 B b n w hB hbk hBw hn
open Go.RowKit in
/-- (*strings.Builder).Grow AT A BUILDER THAT HAS NOT BEEN WRITTEN ('var b strings.Builder; b.Grow(n)'): "Grow grows b's capacity, if necessary, to guarantee space for another n bytes.": it holds no byte behind it as before it. (LAID: no walk: one application.) -/
theorem Tryz.Builder_Grow_fresh_cap (B b n : Nat) (w : World) (hB : B ≤ b) (hbk : w.heap[b]? = some (.cells #[.pointer none, .slice none 0 0] 165 (0, 0))) (hBw : B ≤ w.heap.size) (hn : n ≤ 281474976710656) :
    Calls Tryz.prog 92 #[.pointer (some ⟨b, 0, none⟩), .int .i64 n] w fun e w' => e = .returned (.tuple #[]) ∧ (Lib.BuilderAt 165 5 B b (.pointer (some ⟨b, 0, none⟩)) [] w' ∧ Below B w w') ∧ ∃ p cap, w'.cell? ⟨b, 1, none⟩ = some (.slice p 0 cap) ∧ n ≤ cap := Any.Builder_Grow_fresh_cap Tryz.lays165 Tryz.Builder_Extra_165 B b n w hB hbk hBw hn
def Tryz.lays129_ren : Go.Shelf.Ren := ⟨fun | 129 => 117 | n => n, fun | 53 => 201 | 3 => 3 | 4 => 4 | 46 => 159 | 5 => 5 | 9 => 9 | n => n, fun | n => n⟩
theorem Tryz.lays129 : Go.Proofs.Lays.n129 Tryz.prog Tryz.lays129_ren := {
  mixed := by kernel_rfl
  f129 := Tryz.func117.trans (congrArg some (by kernel_rfl))
  t3 := Tryz.underlying3
  a3 := Tryz.isAgg3
  z3 := Tryz.sizeOf3
  v3 := Tryz.zeroValue3
  t4 := Tryz.underlying4
  a4 := Tryz.isAgg4
  z4 := Tryz.sizeOf4
  v4 := Tryz.zeroValue4
  t5 := Tryz.underlying5
  a5 := Tryz.isAgg5
  z5 := Tryz.sizeOf5
  v5 := Tryz.zeroValue5
  t9 := Tryz.underlying9
  a9 := Tryz.isAgg9
  z9 := Tryz.sizeOf9
  v9 := Tryz.zeroValue9
  t46 := Tryz.underlying159
  a46 := Tryz.isAgg159
  z46 := Tryz.sizeOf159
  v46 := Tryz.zeroValue159
  t53 := Tryz.underlying201
  a53 := Tryz.isAgg201
  z53 := Tryz.sizeOf201
  v53 := Tryz.zeroValue201 }
/-- bits.Len64: "Len64 returns the minimum number of bits required to represent x; the result is 0 for x == 0.": IT RETURNS 'Lib.bitLen x'; the world is as it was. ('h0', 'h1': x is a uint64.) (LAID: no walk: one application.) -/
theorem Tryz.bits_Len64 (x : Int) (w : World) (h0 : 0 ≤ x) (h1 : x ≤ 18446744073709551615) :
    Calls Tryz.prog 117 #[.int .u64 x] w fun e w' => e = .returned (.int .i64 (Lib.bitLen x.toNat)) ∧ w' = w := Any.bits_Len64 Tryz.lays129 x w h0 h1
def Tryz.lays317_ren : Go.Shelf.Ren := ⟨fun | 317 => 161 | n => n, fun | 3 => 3 | 46 => 159 | n => n, fun | n => n⟩
theorem Tryz.lays317 : Go.Proofs.Lays.n317 Tryz.prog Tryz.lays317_ren := {
  mixed := by kernel_rfl
  f317 := Tryz.func161.trans (congrArg some (by kernel_rfl))
  t3 := Tryz.underlying3
  a3 := Tryz.isAgg3
  z3 := Tryz.sizeOf3
  v3 := Tryz.zeroValue3
  t46 := Tryz.underlying159
  a46 := Tryz.isAgg159
  z46 := Tryz.sizeOf159
  v46 := Tryz.zeroValue159 }
open Go.Lib in
/-- internal/strconv.log10Pow2: "log10Pow2(x) returns ⌊log₁₀ 2**x⌋ = ⌊x * log₁₀ 2⌋.": '(x * 78913) >> 18', at an x up to 64 (a length in bits). The world is as it was. (LAID: no walk: one application.) -/
theorem Tryz.internal_strconv_log10Pow2 (x : Nat) (h : x ≤ 64) (w : World) :
    Calls Tryz.prog 161 #[.int .i64 x] w fun e w' => e = .returned (.int .i64 (Lib.l10 x)) ∧ w' = w := Any.internal_strconv_log10Pow2 Tryz.lays317 x h w
def Tryz.lays318_ren : Go.Shelf.Ren := ⟨fun | 318 => 162 | n => n, fun | 3 => 3 | 4 => 4 | n => n, fun | n => n⟩
theorem Tryz.lays318 : Go.Proofs.Lays.n318 Tryz.prog Tryz.lays318_ren := {
  mixed := by kernel_rfl
  f318 := Tryz.func162.trans (congrArg some (by kernel_rfl))
  t3 := Tryz.underlying3
  a3 := Tryz.isAgg3
  z3 := Tryz.sizeOf3
  v3 := Tryz.zeroValue3
  t4 := Tryz.underlying4
  a4 := Tryz.isAgg4
  z4 := Tryz.sizeOf4
  v4 := Tryz.zeroValue4 }
open Go.Lib in
/-- internal/strconv.bool2: "bool2 converts b to an integer: 1 for true, 0 for false." The world is as it was. (LAID: no walk: one application.) -/
theorem Tryz.internal_strconv_bool2_int (b : Bool) (w : World) :
    Calls Tryz.prog 162 #[.bool b] w fun e w' => e = .returned (.int .i64 (if b then 1 else 0)) ∧ w' = w := Any.internal_strconv_bool2_int Tryz.lays318 b w
def Tryz.lays283_ren : Go.Shelf.Ren := ⟨fun | 283 => 148 | n => n, fun | 3 => 3 | 9 => 9 | 4 => 4 | n => n, fun | n => n⟩
theorem Tryz.lays283 : Go.Proofs.Lays.n283 Tryz.prog Tryz.lays283_ren := {
  mixed := by kernel_rfl
  f283 := Tryz.func148.trans (congrArg some (by kernel_rfl))
  t3 := Tryz.underlying3
  a3 := Tryz.isAgg3
  z3 := Tryz.sizeOf3
  v3 := Tryz.zeroValue3
  t4 := Tryz.underlying4
  a4 := Tryz.isAgg4
  z4 := Tryz.sizeOf4
  v4 := Tryz.zeroValue4
  t9 := Tryz.underlying9
  a9 := Tryz.isAgg9
  z9 := Tryz.sizeOf9
  v9 := Tryz.zeroValue9 }
open Go.Lib in
/-- internal/strconv.small: "small returns the string for an i with 0 <= i < nSmalls.": i's decimal numeral. The world is as it was. (LAID: no walk: one application.) -/
theorem Tryz.internal_strconv_small (i : Nat) (h : i < 100) (w : World) :
    Calls Tryz.prog 148 #[.int .i64 i] w fun e w' => e = .returned (.string ⟨(Lib.decDigits i).toArray⟩) ∧ w' = w := Any.internal_strconv_small Tryz.lays283 i h w
def Tryz.laysM284_ren : Go.Shelf.Ren := ⟨fun | 284 => 149 | 129 => 117 | 317 => 161 | 318 => 162 | n => n, fun | 53 => 201 | 3 => 3 | 212 => 253 | 0 => 0 | 4 => 4 | 46 => 159 | 5 => 5 | 9 => 9 | n => n, fun | 17 => 5 | n => n⟩
theorem Tryz.laysM284 : Go.Proofs.LaysM.n284 Tryz.prog Tryz.laysM284_ren := {
  mixed := by kernel_rfl
  f129 := Tryz.func117.trans (congrArg some (by kernel_rfl))
  f284 := Tryz.func149.trans (congrArg some (by kernel_rfl))
  f317 := Tryz.func161.trans (congrArg some (by kernel_rfl))
  f318 := Tryz.func162.trans (congrArg some (by kernel_rfl))
  t0 := Tryz.underlying0
  a0 := Tryz.isAgg0
  z0 := Tryz.sizeOf0
  v0 := Tryz.zeroValue0
  t3 := Tryz.underlying3
  a3 := Tryz.isAgg3
  z3 := Tryz.sizeOf3
  v3 := Tryz.zeroValue3
  t4 := Tryz.underlying4
  a4 := Tryz.isAgg4
  z4 := Tryz.sizeOf4
  v4 := Tryz.zeroValue4
  t5 := Tryz.underlying5
  a5 := Tryz.isAgg5
  z5 := Tryz.sizeOf5
  v5 := Tryz.zeroValue5
  t9 := Tryz.underlying9
  a9 := Tryz.isAgg9
  z9 := Tryz.sizeOf9
  v9 := Tryz.zeroValue9
  t46 := Tryz.underlying159
  a46 := Tryz.isAgg159
  z46 := Tryz.sizeOf159
  v46 := Tryz.zeroValue159
  t53 := Tryz.underlying201
  a53 := Tryz.isAgg201
  z53 := Tryz.sizeOf201
  v53 := Tryz.zeroValue201
  t212 := Tryz.underlying253
  a212 := Tryz.isAgg253
  z212 := Tryz.sizeOf253
  v212 := Tryz.zeroValue253
  g17 := by kernel_rfl
  i0 := by kernel_rfl
  i3 := by kernel_rfl
  i4 := by kernel_rfl
  i5 := by kernel_rfl
  i9 := by kernel_rfl
  i46 := by kernel_rfl
  i53 := by kernel_rfl
  i212 := by kernel_rfl
  m17 := by kernel_rfl }
open Go.Lib in
/-- internal/strconv.numDigits, at a d that is not 0: THE NUMBER OF d's DECIMAL DIGITS. The world is as it was. (LAID: no walk: one application.) -/
theorem Tryz.internal_strconv_numDigits (u : Nat) (h1 : 1 ≤ u) (h2 : u < 18446744073709551616) (w : World) (htab : Lib.TabIs Tryz.prog w "internal/strconv.uint64pow10" .u64 Lib.pow10Tab) :
    Calls Tryz.prog 149 #[.int .u64 u] w fun e w' => e = .returned (.int .i64 (Lib.nDigits u)) ∧ w' = w := Any.internal_strconv_numDigits Tryz.laysM284 u h1 h2 w htab
def Tryz.lays285_ren : Go.Shelf.Ren := ⟨fun | 285 => 150 | n => n, fun | 37 => 124 | 53 => 201 | 3 => 3 | 4 => 4 | 51 => 199 | 9 => 9 | 5 => 5 | 0 => 0 | n => n, fun | n => n⟩
theorem Tryz.lays285 : Go.Proofs.Lays.n285 Tryz.prog Tryz.lays285_ren := {
  mixed := by kernel_rfl
  f285 := Tryz.func150.trans (congrArg some (by kernel_rfl))
  t0 := Tryz.underlying0
  a0 := Tryz.isAgg0
  z0 := Tryz.sizeOf0
  v0 := Tryz.zeroValue0
  t3 := Tryz.underlying3
  a3 := Tryz.isAgg3
  z3 := Tryz.sizeOf3
  v3 := Tryz.zeroValue3
  t4 := Tryz.underlying4
  a4 := Tryz.isAgg4
  z4 := Tryz.sizeOf4
  v4 := Tryz.zeroValue4
  t5 := Tryz.underlying5
  a5 := Tryz.isAgg5
  z5 := Tryz.sizeOf5
  v5 := Tryz.zeroValue5
  t9 := Tryz.underlying9
  a9 := Tryz.isAgg9
  z9 := Tryz.sizeOf9
  v9 := Tryz.zeroValue9
  t37 := Tryz.underlying124
  a37 := Tryz.isAgg124
  z37 := Tryz.sizeOf124
  v37 := Tryz.zeroValue124
  t51 := Tryz.underlying199
  a51 := Tryz.isAgg199
  z51 := Tryz.sizeOf199
  v51 := Tryz.zeroValue199
  t53 := Tryz.underlying201
  a53 := Tryz.isAgg201
  z53 := Tryz.sizeOf201
  v53 := Tryz.zeroValue201 }
open Go.RowKit Go.Sort Go.Lib in
/-- internal/strconv.formatBase10: "formatBase10 formats the decimal representation of u into a. The caller is responsible for ensuring that a is big enough to hold u. If a is too big, leading zeros will be filled in as needed.": THE ROW HOLDS u's DIGITS ('FmtInv .. 0 ..': every place t holds 'dg u (len - 1 - t)'); all else is as it was but for the count of draws. (LAID: no walk: one application.) -/
theorem Tryz.internal_strconv_formatBase10 (blk off cap : Nat) (u : Nat) (d : Array UInt8) (w : World) (hH : Holds (fun (b : UInt8) => Value.int .u8 (b.toNat : Int)) w blk off d) (hu : u < 10 ^ d.size) (hu64 : u < 18446744073709551616) (hsz : d.size < 4611686018427387904) :
    Calls Tryz.prog 150 #[.slice (some ⟨blk, off, none⟩) d.size cap, .int .u64 u] w fun e w' =>
      e = .returned (.tuple #[]) ∧ ∃ (n v' : Nat) (dk : Array UInt8), w' = (putRow (fun (b : UInt8) => Value.int .u8 (b.toNat : Int)) w blk off dk).drewN n ∧ FmtInv d.size u 0 v' dk := Any.internal_strconv_formatBase10 Tryz.lays285 blk off cap u d w hH hu hu64 hsz
def Tryz.laysM246_ren : Go.Shelf.Ren := ⟨fun | 246 => 138 | 283 => 148 | 284 => 149 | 285 => 150 | 286 => 151 | 129 => 117 | 317 => 161 | 318 => 162 | 319 => 163 | 320 => 164 | 337 => 167 | 338 => 168 | n => n, fun | 2 => 2 | 3 => 3 | 9 => 9 | 4 => 4 | 171 => 228 | 0 => 0 | 53 => 201 | 37 => 124 | 5 => 5 | 173 => 230 | 212 => 253 | 51 => 199 | 20 => 20 | 213 => 254 | 46 => 159 | 232 => 259 | 233 => 260 | n => n, fun | 17 => 5 | 18 => 8 | 19 => 9 | n => n⟩
theorem Tryz.laysM246 : Go.Proofs.LaysM.n246 Tryz.prog Tryz.laysM246_ren := {
  mixed := by kernel_rfl
  f129 := Tryz.func117.trans (congrArg some (by kernel_rfl))
  f246 := Tryz.func138.trans (congrArg some (by kernel_rfl))
  f283 := Tryz.func148.trans (congrArg some (by kernel_rfl))
  f284 := Tryz.func149.trans (congrArg some (by kernel_rfl))
  f285 := Tryz.func150.trans (congrArg some (by kernel_rfl))
  f286 := Tryz.func151.trans (congrArg some (by kernel_rfl))
  f317 := Tryz.func161.trans (congrArg some (by kernel_rfl))
  f318 := Tryz.func162.trans (congrArg some (by kernel_rfl))
  f319 := Tryz.func163.trans (congrArg some (by kernel_rfl))
  f320 := Tryz.func164.trans (congrArg some (by kernel_rfl))
  f337 := Tryz.func167.trans (congrArg some (by kernel_rfl))
  f338 := Tryz.func168.trans (congrArg some (by kernel_rfl))
  t0 := Tryz.underlying0
  a0 := Tryz.isAgg0
  z0 := Tryz.sizeOf0
  v0 := Tryz.zeroValue0
  t2 := Tryz.underlying2
  a2 := Tryz.isAgg2
  z2 := Tryz.sizeOf2
  v2 := Tryz.zeroValue2
  t3 := Tryz.underlying3
  a3 := Tryz.isAgg3
  z3 := Tryz.sizeOf3
  v3 := Tryz.zeroValue3
  t4 := Tryz.underlying4
  a4 := Tryz.isAgg4
  z4 := Tryz.sizeOf4
  v4 := Tryz.zeroValue4
  t5 := Tryz.underlying5
  a5 := Tryz.isAgg5
  z5 := Tryz.sizeOf5
  v5 := Tryz.zeroValue5
  t9 := Tryz.underlying9
  a9 := Tryz.isAgg9
  z9 := Tryz.sizeOf9
  v9 := Tryz.zeroValue9
  t20 := Tryz.underlying20
  a20 := Tryz.isAgg20
  z20 := Tryz.sizeOf20
  v20 := Tryz.zeroValue20
  t37 := Tryz.underlying124
  a37 := Tryz.isAgg124
  z37 := Tryz.sizeOf124
  v37 := Tryz.zeroValue124
  t46 := Tryz.underlying159
  a46 := Tryz.isAgg159
  z46 := Tryz.sizeOf159
  v46 := Tryz.zeroValue159
  t51 := Tryz.underlying199
  a51 := Tryz.isAgg199
  z51 := Tryz.sizeOf199
  v51 := Tryz.zeroValue199
  t53 := Tryz.underlying201
  a53 := Tryz.isAgg201
  z53 := Tryz.sizeOf201
  v53 := Tryz.zeroValue201
  t171 := Tryz.underlying228
  a171 := Tryz.isAgg228
  z171 := Tryz.sizeOf228
  v171 := Tryz.zeroValue228
  t173 := Tryz.underlying230
  a173 := Tryz.isAgg230
  z173 := Tryz.sizeOf230
  v173 := Tryz.zeroValue230
  t212 := Tryz.underlying253
  a212 := Tryz.isAgg253
  z212 := Tryz.sizeOf253
  v212 := Tryz.zeroValue253
  t213 := Tryz.underlying254
  a213 := Tryz.isAgg254
  z213 := Tryz.sizeOf254
  t232 := Tryz.underlying259
  a232 := Tryz.isAgg259
  z232 := Tryz.sizeOf259
  v232 := Tryz.zeroValue259
  t233 := Tryz.underlying260
  a233 := Tryz.isAgg260
  z233 := Tryz.sizeOf260
  v233 := Tryz.zeroValue260
  g17 := by kernel_rfl
  g18 := by kernel_rfl
  g19 := by kernel_rfl
  i0 := by kernel_rfl
  i2 := by kernel_rfl
  i3 := by kernel_rfl
  i4 := by kernel_rfl
  i5 := by kernel_rfl
  i9 := by kernel_rfl
  i20 := by kernel_rfl
  i37 := by kernel_rfl
  i46 := by kernel_rfl
  i51 := by kernel_rfl
  i53 := by kernel_rfl
  i171 := by kernel_rfl
  i173 := by kernel_rfl
  i212 := by kernel_rfl
  i232 := by kernel_rfl
  i233 := by kernel_rfl
  m17 := by kernel_rfl
  m18 := by kernel_rfl
  m19 := by kernel_rfl }
open Go.RowKit Go.Sort Go.Lib in
/-- internal/strconv.FormatInt: "FormatInt returns the string representation of i in the given base": AT BASE 10: i's decimal numeral, for every int64. The world behind the call: the world before it, new blocks behind the heap, draws. (LAID: no walk: one application.) -/
theorem Tryz.internal_strconv_FormatInt_10 (n : Int) (h0 : -9223372036854775808 ≤ n) (h1 : n ≤ 9223372036854775807) (w : World) (htab : Lib.TabIs Tryz.prog w "internal/strconv.uint64pow10" .u64 Lib.pow10Tab) :
    Calls Tryz.prog 138 #[.int .i64 n, .int .i64 10] w fun e w' => e = .returned (.string ⟨(Lib.itoa n).toArray⟩) ∧ ∃ k os, w' = grow (w.drewN k) os := Any.internal_strconv_FormatInt_10 Tryz.laysM246 n h0 h1 w htab
def Tryz.lays246_ren : Go.Shelf.Ren := ⟨fun | 246 => 138 | 283 => 148 | 284 => 149 | 285 => 150 | 286 => 151 | 129 => 117 | 317 => 161 | 318 => 162 | 319 => 163 | 320 => 164 | 337 => 167 | 338 => 168 | n => n, fun | 2 => 2 | 3 => 3 | 9 => 9 | 4 => 4 | 171 => 228 | 0 => 0 | 53 => 201 | 37 => 124 | 5 => 5 | 173 => 230 | 212 => 253 | 51 => 199 | 20 => 20 | 213 => 254 | 46 => 159 | 232 => 259 | 233 => 260 | n => n, fun | 17 => 5 | 18 => 8 | 19 => 9 | n => n⟩
theorem Tryz.lays246 : Go.Proofs.Lays.n246 Tryz.prog Tryz.lays246_ren := {
  mixed := by kernel_rfl
  f129 := Tryz.func117.trans (congrArg some (by kernel_rfl))
  f246 := Tryz.func138.trans (congrArg some (by kernel_rfl))
  f283 := Tryz.func148.trans (congrArg some (by kernel_rfl))
  f284 := Tryz.func149.trans (congrArg some (by kernel_rfl))
  f285 := Tryz.func150.trans (congrArg some (by kernel_rfl))
  f286 := Tryz.func151.trans (congrArg some (by kernel_rfl))
  f317 := Tryz.func161.trans (congrArg some (by kernel_rfl))
  f318 := Tryz.func162.trans (congrArg some (by kernel_rfl))
  f319 := Tryz.func163.trans (congrArg some (by kernel_rfl))
  f320 := Tryz.func164.trans (congrArg some (by kernel_rfl))
  f337 := Tryz.func167.trans (congrArg some (by kernel_rfl))
  f338 := Tryz.func168.trans (congrArg some (by kernel_rfl))
  t0 := Tryz.underlying0
  a0 := Tryz.isAgg0
  z0 := Tryz.sizeOf0
  v0 := Tryz.zeroValue0
  t2 := Tryz.underlying2
  a2 := Tryz.isAgg2
  z2 := Tryz.sizeOf2
  v2 := Tryz.zeroValue2
  t3 := Tryz.underlying3
  a3 := Tryz.isAgg3
  z3 := Tryz.sizeOf3
  v3 := Tryz.zeroValue3
  t4 := Tryz.underlying4
  a4 := Tryz.isAgg4
  z4 := Tryz.sizeOf4
  v4 := Tryz.zeroValue4
  t5 := Tryz.underlying5
  a5 := Tryz.isAgg5
  z5 := Tryz.sizeOf5
  v5 := Tryz.zeroValue5
  t9 := Tryz.underlying9
  a9 := Tryz.isAgg9
  z9 := Tryz.sizeOf9
  v9 := Tryz.zeroValue9
  t20 := Tryz.underlying20
  a20 := Tryz.isAgg20
  z20 := Tryz.sizeOf20
  v20 := Tryz.zeroValue20
  t37 := Tryz.underlying124
  a37 := Tryz.isAgg124
  z37 := Tryz.sizeOf124
  v37 := Tryz.zeroValue124
  t46 := Tryz.underlying159
  a46 := Tryz.isAgg159
  z46 := Tryz.sizeOf159
  v46 := Tryz.zeroValue159
  t51 := Tryz.underlying199
  a51 := Tryz.isAgg199
  z51 := Tryz.sizeOf199
  v51 := Tryz.zeroValue199
  t53 := Tryz.underlying201
  a53 := Tryz.isAgg201
  z53 := Tryz.sizeOf201
  v53 := Tryz.zeroValue201
  t171 := Tryz.underlying228
  a171 := Tryz.isAgg228
  z171 := Tryz.sizeOf228
  v171 := Tryz.zeroValue228
  t173 := Tryz.underlying230
  a173 := Tryz.isAgg230
  z173 := Tryz.sizeOf230
  v173 := Tryz.zeroValue230
  t212 := Tryz.underlying253
  a212 := Tryz.isAgg253
  z212 := Tryz.sizeOf253
  v212 := Tryz.zeroValue253
  t213 := Tryz.underlying254
  a213 := Tryz.isAgg254
  z213 := Tryz.sizeOf254
  t232 := Tryz.underlying259
  a232 := Tryz.isAgg259
  z232 := Tryz.sizeOf259
  v232 := Tryz.zeroValue259
  t233 := Tryz.underlying260
  a233 := Tryz.isAgg260
  z233 := Tryz.sizeOf260
  v233 := Tryz.zeroValue260
  g17 := by kernel_rfl
  g18 := by kernel_rfl
  g19 := by kernel_rfl }
open Go.RowKit Go.Sort Go.Lib in
/-- THE ROAD WITHOUT THE TABLE: 0 <= i < 100: two constants are read, nothing is laid: no premise on the world, and the world is as it was. (LAID: no walk: one application.) -/
theorem Tryz.internal_strconv_FormatInt_10_small (i : Nat) (hi : i < 100) (w : World) :
    Calls Tryz.prog 138 #[.int .i64 i, .int .i64 10] w fun e w' => e = .returned (.string ⟨(Lib.decDigits i).toArray⟩) ∧ w' = w := Any.internal_strconv_FormatInt_10_small Tryz.lays246 i hi w
def Tryz.laysM243_ren : Go.Shelf.Ren := ⟨fun | 243 => 169 | 246 => 138 | 283 => 148 | 284 => 149 | 285 => 150 | 286 => 151 | 129 => 117 | 317 => 161 | 318 => 162 | 319 => 163 | 320 => 164 | 337 => 167 | 338 => 168 | n => n, fun | 3 => 3 | 9 => 9 | 2 => 2 | 4 => 4 | 171 => 228 | 0 => 0 | 53 => 201 | 37 => 124 | 5 => 5 | 173 => 230 | 212 => 253 | 51 => 199 | 20 => 20 | 213 => 254 | 46 => 159 | 232 => 259 | 233 => 260 | n => n, fun | 17 => 5 | 18 => 8 | 19 => 9 | n => n⟩
theorem Tryz.laysM243 : Go.Proofs.LaysM.n243 Tryz.prog Tryz.laysM243_ren := {
  mixed := by kernel_rfl
  f129 := Tryz.func117.trans (congrArg some (by kernel_rfl))
  f243 := Tryz.func169.trans (congrArg some (by kernel_rfl))
  f246 := Tryz.func138.trans (congrArg some (by kernel_rfl))
  f283 := Tryz.func148.trans (congrArg some (by kernel_rfl))
  f284 := Tryz.func149.trans (congrArg some (by kernel_rfl))
  f285 := Tryz.func150.trans (congrArg some (by kernel_rfl))
  f286 := Tryz.func151.trans (congrArg some (by kernel_rfl))
  f317 := Tryz.func161.trans (congrArg some (by kernel_rfl))
  f318 := Tryz.func162.trans (congrArg some (by kernel_rfl))
  f319 := Tryz.func163.trans (congrArg some (by kernel_rfl))
  f320 := Tryz.func164.trans (congrArg some (by kernel_rfl))
  f337 := Tryz.func167.trans (congrArg some (by kernel_rfl))
  f338 := Tryz.func168.trans (congrArg some (by kernel_rfl))
  t0 := Tryz.underlying0
  a0 := Tryz.isAgg0
  z0 := Tryz.sizeOf0
  v0 := Tryz.zeroValue0
  t2 := Tryz.underlying2
  a2 := Tryz.isAgg2
  z2 := Tryz.sizeOf2
  v2 := Tryz.zeroValue2
  t3 := Tryz.underlying3
  a3 := Tryz.isAgg3
  z3 := Tryz.sizeOf3
  v3 := Tryz.zeroValue3
  t4 := Tryz.underlying4
  a4 := Tryz.isAgg4
  z4 := Tryz.sizeOf4
  v4 := Tryz.zeroValue4
  t5 := Tryz.underlying5
  a5 := Tryz.isAgg5
  z5 := Tryz.sizeOf5
  v5 := Tryz.zeroValue5
  t9 := Tryz.underlying9
  a9 := Tryz.isAgg9
  z9 := Tryz.sizeOf9
  v9 := Tryz.zeroValue9
  t20 := Tryz.underlying20
  a20 := Tryz.isAgg20
  z20 := Tryz.sizeOf20
  v20 := Tryz.zeroValue20
  t37 := Tryz.underlying124
  a37 := Tryz.isAgg124
  z37 := Tryz.sizeOf124
  v37 := Tryz.zeroValue124
  t46 := Tryz.underlying159
  a46 := Tryz.isAgg159
  z46 := Tryz.sizeOf159
  v46 := Tryz.zeroValue159
  t51 := Tryz.underlying199
  a51 := Tryz.isAgg199
  z51 := Tryz.sizeOf199
  v51 := Tryz.zeroValue199
  t53 := Tryz.underlying201
  a53 := Tryz.isAgg201
  z53 := Tryz.sizeOf201
  v53 := Tryz.zeroValue201
  t171 := Tryz.underlying228
  a171 := Tryz.isAgg228
  z171 := Tryz.sizeOf228
  v171 := Tryz.zeroValue228
  t173 := Tryz.underlying230
  a173 := Tryz.isAgg230
  z173 := Tryz.sizeOf230
  v173 := Tryz.zeroValue230
  t212 := Tryz.underlying253
  a212 := Tryz.isAgg253
  z212 := Tryz.sizeOf253
  v212 := Tryz.zeroValue253
  t213 := Tryz.underlying254
  a213 := Tryz.isAgg254
  z213 := Tryz.sizeOf254
  t232 := Tryz.underlying259
  a232 := Tryz.isAgg259
  z232 := Tryz.sizeOf259
  v232 := Tryz.zeroValue259
  t233 := Tryz.underlying260
  a233 := Tryz.isAgg260
  z233 := Tryz.sizeOf260
  v233 := Tryz.zeroValue260
  g17 := by kernel_rfl
  g18 := by kernel_rfl
  g19 := by kernel_rfl
  i0 := by kernel_rfl
  i2 := by kernel_rfl
  i3 := by kernel_rfl
  i4 := by kernel_rfl
  i5 := by kernel_rfl
  i9 := by kernel_rfl
  i20 := by kernel_rfl
  i37 := by kernel_rfl
  i46 := by kernel_rfl
  i51 := by kernel_rfl
  i53 := by kernel_rfl
  i171 := by kernel_rfl
  i173 := by kernel_rfl
  i212 := by kernel_rfl
  i232 := by kernel_rfl
  i233 := by kernel_rfl
  m17 := by kernel_rfl
  m18 := by kernel_rfl
  m19 := by kernel_rfl }
open Go.RowKit Go.Sort Go.Lib in
/-- internal/strconv.Itoa: "Itoa is equivalent to FormatInt(int64(i), 10).": i's decimal numeral, for every int. (LAID: no walk: one application.) -/
theorem Tryz.internal_strconv_Itoa (n : Int) (h0 : -9223372036854775808 ≤ n) (h1 : n ≤ 9223372036854775807) (w : World) (htab : Lib.TabIs Tryz.prog w "internal/strconv.uint64pow10" .u64 Lib.pow10Tab) :
    Calls Tryz.prog 169 #[.int .i64 n] w fun e w' => e = .returned (.string ⟨(Lib.itoa n).toArray⟩) ∧ ∃ k os, w' = grow (w.drewN k) os := Any.internal_strconv_Itoa Tryz.laysM243 n h0 h1 w htab
def Tryz.lays243_ren : Go.Shelf.Ren := ⟨fun | 243 => 169 | 246 => 138 | 283 => 148 | 284 => 149 | 285 => 150 | 286 => 151 | 129 => 117 | 317 => 161 | 318 => 162 | 319 => 163 | 320 => 164 | 337 => 167 | 338 => 168 | n => n, fun | 3 => 3 | 9 => 9 | 2 => 2 | 4 => 4 | 171 => 228 | 0 => 0 | 53 => 201 | 37 => 124 | 5 => 5 | 173 => 230 | 212 => 253 | 51 => 199 | 20 => 20 | 213 => 254 | 46 => 159 | 232 => 259 | 233 => 260 | n => n, fun | 17 => 5 | 18 => 8 | 19 => 9 | n => n⟩
theorem Tryz.lays243 : Go.Proofs.Lays.n243 Tryz.prog Tryz.lays243_ren := {
  mixed := by kernel_rfl
  f129 := Tryz.func117.trans (congrArg some (by kernel_rfl))
  f243 := Tryz.func169.trans (congrArg some (by kernel_rfl))
  f246 := Tryz.func138.trans (congrArg some (by kernel_rfl))
  f283 := Tryz.func148.trans (congrArg some (by kernel_rfl))
  f284 := Tryz.func149.trans (congrArg some (by kernel_rfl))
  f285 := Tryz.func150.trans (congrArg some (by kernel_rfl))
  f286 := Tryz.func151.trans (congrArg some (by kernel_rfl))
  f317 := Tryz.func161.trans (congrArg some (by kernel_rfl))
  f318 := Tryz.func162.trans (congrArg some (by kernel_rfl))
  f319 := Tryz.func163.trans (congrArg some (by kernel_rfl))
  f320 := Tryz.func164.trans (congrArg some (by kernel_rfl))
  f337 := Tryz.func167.trans (congrArg some (by kernel_rfl))
  f338 := Tryz.func168.trans (congrArg some (by kernel_rfl))
  t0 := Tryz.underlying0
  a0 := Tryz.isAgg0
  z0 := Tryz.sizeOf0
  v0 := Tryz.zeroValue0
  t2 := Tryz.underlying2
  a2 := Tryz.isAgg2
  z2 := Tryz.sizeOf2
  v2 := Tryz.zeroValue2
  t3 := Tryz.underlying3
  a3 := Tryz.isAgg3
  z3 := Tryz.sizeOf3
  v3 := Tryz.zeroValue3
  t4 := Tryz.underlying4
  a4 := Tryz.isAgg4
  z4 := Tryz.sizeOf4
  v4 := Tryz.zeroValue4
  t5 := Tryz.underlying5
  a5 := Tryz.isAgg5
  z5 := Tryz.sizeOf5
  v5 := Tryz.zeroValue5
  t9 := Tryz.underlying9
  a9 := Tryz.isAgg9
  z9 := Tryz.sizeOf9
  v9 := Tryz.zeroValue9
  t20 := Tryz.underlying20
  a20 := Tryz.isAgg20
  z20 := Tryz.sizeOf20
  v20 := Tryz.zeroValue20
  t37 := Tryz.underlying124
  a37 := Tryz.isAgg124
  z37 := Tryz.sizeOf124
  v37 := Tryz.zeroValue124
  t46 := Tryz.underlying159
  a46 := Tryz.isAgg159
  z46 := Tryz.sizeOf159
  v46 := Tryz.zeroValue159
  t51 := Tryz.underlying199
  a51 := Tryz.isAgg199
  z51 := Tryz.sizeOf199
  v51 := Tryz.zeroValue199
  t53 := Tryz.underlying201
  a53 := Tryz.isAgg201
  z53 := Tryz.sizeOf201
  v53 := Tryz.zeroValue201
  t171 := Tryz.underlying228
  a171 := Tryz.isAgg228
  z171 := Tryz.sizeOf228
  v171 := Tryz.zeroValue228
  t173 := Tryz.underlying230
  a173 := Tryz.isAgg230
  z173 := Tryz.sizeOf230
  v173 := Tryz.zeroValue230
  t212 := Tryz.underlying253
  a212 := Tryz.isAgg253
  z212 := Tryz.sizeOf253
  v212 := Tryz.zeroValue253
  t213 := Tryz.underlying254
  a213 := Tryz.isAgg254
  z213 := Tryz.sizeOf254
  t232 := Tryz.underlying259
  a232 := Tryz.isAgg259
  z232 := Tryz.sizeOf259
  v232 := Tryz.zeroValue259
  t233 := Tryz.underlying260
  a233 := Tryz.isAgg260
  z233 := Tryz.sizeOf260
  v233 := Tryz.zeroValue260
  g17 := by kernel_rfl
  g18 := by kernel_rfl
  g19 := by kernel_rfl }
open Go.RowKit Go.Sort Go.Lib in
/-- THE ROAD WITHOUT THE TABLE: 0 <= i < 100. (LAID: no walk: one application.) -/
theorem Tryz.internal_strconv_Itoa_small (i : Nat) (hi : i < 100) (w : World) :
    Calls Tryz.prog 169 #[.int .i64 i] w fun e w' => e = .returned (.string ⟨(Lib.decDigits i).toArray⟩) ∧ w' = w := Any.internal_strconv_Itoa_small Tryz.lays243 i hi w
def Tryz.laysM171_ren : Go.Shelf.Ren := ⟨fun | 171 => 166 | 243 => 169 | 246 => 138 | 283 => 148 | 284 => 149 | 285 => 150 | 286 => 151 | 129 => 117 | 317 => 161 | 318 => 162 | 319 => 163 | 320 => 164 | 337 => 167 | 338 => 168 | n => n, fun | 3 => 3 | 9 => 9 | 2 => 2 | 4 => 4 | 171 => 228 | 0 => 0 | 53 => 201 | 37 => 124 | 5 => 5 | 173 => 230 | 212 => 253 | 51 => 199 | 20 => 20 | 213 => 254 | 46 => 159 | 232 => 259 | 233 => 260 | n => n, fun | 17 => 5 | 18 => 8 | 19 => 9 | n => n⟩
theorem Tryz.laysM171 : Go.Proofs.LaysM.n171 Tryz.prog Tryz.laysM171_ren := {
  mixed := by kernel_rfl
  f129 := Tryz.func117.trans (congrArg some (by kernel_rfl))
  f171 := Tryz.func166.trans (congrArg some (by kernel_rfl))
  f243 := Tryz.func169.trans (congrArg some (by kernel_rfl))
  f246 := Tryz.func138.trans (congrArg some (by kernel_rfl))
  f283 := Tryz.func148.trans (congrArg some (by kernel_rfl))
  f284 := Tryz.func149.trans (congrArg some (by kernel_rfl))
  f285 := Tryz.func150.trans (congrArg some (by kernel_rfl))
  f286 := Tryz.func151.trans (congrArg some (by kernel_rfl))
  f317 := Tryz.func161.trans (congrArg some (by kernel_rfl))
  f318 := Tryz.func162.trans (congrArg some (by kernel_rfl))
  f319 := Tryz.func163.trans (congrArg some (by kernel_rfl))
  f320 := Tryz.func164.trans (congrArg some (by kernel_rfl))
  f337 := Tryz.func167.trans (congrArg some (by kernel_rfl))
  f338 := Tryz.func168.trans (congrArg some (by kernel_rfl))
  t0 := Tryz.underlying0
  a0 := Tryz.isAgg0
  z0 := Tryz.sizeOf0
  v0 := Tryz.zeroValue0
  t2 := Tryz.underlying2
  a2 := Tryz.isAgg2
  z2 := Tryz.sizeOf2
  v2 := Tryz.zeroValue2
  t3 := Tryz.underlying3
  a3 := Tryz.isAgg3
  z3 := Tryz.sizeOf3
  v3 := Tryz.zeroValue3
  t4 := Tryz.underlying4
  a4 := Tryz.isAgg4
  z4 := Tryz.sizeOf4
  v4 := Tryz.zeroValue4
  t5 := Tryz.underlying5
  a5 := Tryz.isAgg5
  z5 := Tryz.sizeOf5
  v5 := Tryz.zeroValue5
  t9 := Tryz.underlying9
  a9 := Tryz.isAgg9
  z9 := Tryz.sizeOf9
  v9 := Tryz.zeroValue9
  t20 := Tryz.underlying20
  a20 := Tryz.isAgg20
  z20 := Tryz.sizeOf20
  v20 := Tryz.zeroValue20
  t37 := Tryz.underlying124
  a37 := Tryz.isAgg124
  z37 := Tryz.sizeOf124
  v37 := Tryz.zeroValue124
  t46 := Tryz.underlying159
  a46 := Tryz.isAgg159
  z46 := Tryz.sizeOf159
  v46 := Tryz.zeroValue159
  t51 := Tryz.underlying199
  a51 := Tryz.isAgg199
  z51 := Tryz.sizeOf199
  v51 := Tryz.zeroValue199
  t53 := Tryz.underlying201
  a53 := Tryz.isAgg201
  z53 := Tryz.sizeOf201
  v53 := Tryz.zeroValue201
  t171 := Tryz.underlying228
  a171 := Tryz.isAgg228
  z171 := Tryz.sizeOf228
  v171 := Tryz.zeroValue228
  t173 := Tryz.underlying230
  a173 := Tryz.isAgg230
  z173 := Tryz.sizeOf230
  v173 := Tryz.zeroValue230
  t212 := Tryz.underlying253
  a212 := Tryz.isAgg253
  z212 := Tryz.sizeOf253
  v212 := Tryz.zeroValue253
  t213 := Tryz.underlying254
  a213 := Tryz.isAgg254
  z213 := Tryz.sizeOf254
  t232 := Tryz.underlying259
  a232 := Tryz.isAgg259
  z232 := Tryz.sizeOf259
  v232 := Tryz.zeroValue259
  t233 := Tryz.underlying260
  a233 := Tryz.isAgg260
  z233 := Tryz.sizeOf260
  v233 := Tryz.zeroValue260
  g17 := by kernel_rfl
  g18 := by kernel_rfl
  g19 := by kernel_rfl
  i0 := by kernel_rfl
  i2 := by kernel_rfl
  i3 := by kernel_rfl
  i4 := by kernel_rfl
  i5 := by kernel_rfl
  i9 := by kernel_rfl
  i20 := by kernel_rfl
  i37 := by kernel_rfl
  i46 := by kernel_rfl
  i51 := by kernel_rfl
  i53 := by kernel_rfl
  i171 := by kernel_rfl
  i173 := by kernel_rfl
  i212 := by kernel_rfl
  i232 := by kernel_rfl
  i233 := by kernel_rfl
  m17 := by kernel_rfl
  m18 := by kernel_rfl
  m19 := by kernel_rfl }
open Go.RowKit Go.Sort Go.Lib in
/-- strconv.Itoa: "Itoa is equivalent to FormatInt(int64(i), 10).": i's DECIMAL NUMERAL ('Lib.itoa': a '-' where i is negative, then the digits), FOR EVERY int. The world behind the call: the world before it, new blocks behind the heap (the library's 'var a [24]byte'), draws. (LAID: no walk: one application.) -/
theorem Tryz.strconv_Itoa (n : Int) (h0 : -9223372036854775808 ≤ n) (h1 : n ≤ 9223372036854775807) (w : World) (htab : Lib.TabIs Tryz.prog w "internal/strconv.uint64pow10" .u64 Lib.pow10Tab) :
    Calls Tryz.prog 166 #[.int .i64 n] w fun e w' => e = .returned (.string ⟨(Lib.itoa n).toArray⟩) ∧ ∃ k os, w' = grow (w.drewN k) os := Any.strconv_Itoa Tryz.laysM171 n h0 h1 w htab
def Tryz.lays171_ren : Go.Shelf.Ren := ⟨fun | 171 => 166 | 243 => 169 | 246 => 138 | 283 => 148 | 284 => 149 | 285 => 150 | 286 => 151 | 129 => 117 | 317 => 161 | 318 => 162 | 319 => 163 | 320 => 164 | 337 => 167 | 338 => 168 | n => n, fun | 3 => 3 | 9 => 9 | 2 => 2 | 4 => 4 | 171 => 228 | 0 => 0 | 53 => 201 | 37 => 124 | 5 => 5 | 173 => 230 | 212 => 253 | 51 => 199 | 20 => 20 | 213 => 254 | 46 => 159 | 232 => 259 | 233 => 260 | n => n, fun | 17 => 5 | 18 => 8 | 19 => 9 | n => n⟩
theorem Tryz.lays171 : Go.Proofs.Lays.n171 Tryz.prog Tryz.lays171_ren := {
  mixed := by kernel_rfl
  f129 := Tryz.func117.trans (congrArg some (by kernel_rfl))
  f171 := Tryz.func166.trans (congrArg some (by kernel_rfl))
  f243 := Tryz.func169.trans (congrArg some (by kernel_rfl))
  f246 := Tryz.func138.trans (congrArg some (by kernel_rfl))
  f283 := Tryz.func148.trans (congrArg some (by kernel_rfl))
  f284 := Tryz.func149.trans (congrArg some (by kernel_rfl))
  f285 := Tryz.func150.trans (congrArg some (by kernel_rfl))
  f286 := Tryz.func151.trans (congrArg some (by kernel_rfl))
  f317 := Tryz.func161.trans (congrArg some (by kernel_rfl))
  f318 := Tryz.func162.trans (congrArg some (by kernel_rfl))
  f319 := Tryz.func163.trans (congrArg some (by kernel_rfl))
  f320 := Tryz.func164.trans (congrArg some (by kernel_rfl))
  f337 := Tryz.func167.trans (congrArg some (by kernel_rfl))
  f338 := Tryz.func168.trans (congrArg some (by kernel_rfl))
  t0 := Tryz.underlying0
  a0 := Tryz.isAgg0
  z0 := Tryz.sizeOf0
  v0 := Tryz.zeroValue0
  t2 := Tryz.underlying2
  a2 := Tryz.isAgg2
  z2 := Tryz.sizeOf2
  v2 := Tryz.zeroValue2
  t3 := Tryz.underlying3
  a3 := Tryz.isAgg3
  z3 := Tryz.sizeOf3
  v3 := Tryz.zeroValue3
  t4 := Tryz.underlying4
  a4 := Tryz.isAgg4
  z4 := Tryz.sizeOf4
  v4 := Tryz.zeroValue4
  t5 := Tryz.underlying5
  a5 := Tryz.isAgg5
  z5 := Tryz.sizeOf5
  v5 := Tryz.zeroValue5
  t9 := Tryz.underlying9
  a9 := Tryz.isAgg9
  z9 := Tryz.sizeOf9
  v9 := Tryz.zeroValue9
  t20 := Tryz.underlying20
  a20 := Tryz.isAgg20
  z20 := Tryz.sizeOf20
  v20 := Tryz.zeroValue20
  t37 := Tryz.underlying124
  a37 := Tryz.isAgg124
  z37 := Tryz.sizeOf124
  v37 := Tryz.zeroValue124
  t46 := Tryz.underlying159
  a46 := Tryz.isAgg159
  z46 := Tryz.sizeOf159
  v46 := Tryz.zeroValue159
  t51 := Tryz.underlying199
  a51 := Tryz.isAgg199
  z51 := Tryz.sizeOf199
  v51 := Tryz.zeroValue199
  t53 := Tryz.underlying201
  a53 := Tryz.isAgg201
  z53 := Tryz.sizeOf201
  v53 := Tryz.zeroValue201
  t171 := Tryz.underlying228
  a171 := Tryz.isAgg228
  z171 := Tryz.sizeOf228
  v171 := Tryz.zeroValue228
  t173 := Tryz.underlying230
  a173 := Tryz.isAgg230
  z173 := Tryz.sizeOf230
  v173 := Tryz.zeroValue230
  t212 := Tryz.underlying253
  a212 := Tryz.isAgg253
  z212 := Tryz.sizeOf253
  v212 := Tryz.zeroValue253
  t213 := Tryz.underlying254
  a213 := Tryz.isAgg254
  z213 := Tryz.sizeOf254
  t232 := Tryz.underlying259
  a232 := Tryz.isAgg259
  z232 := Tryz.sizeOf259
  v232 := Tryz.zeroValue259
  t233 := Tryz.underlying260
  a233 := Tryz.isAgg260
  z233 := Tryz.sizeOf260
  v233 := Tryz.zeroValue260
  g17 := by kernel_rfl
  g18 := by kernel_rfl
  g19 := by kernel_rfl }
open Go.RowKit Go.Sort Go.Lib in
/-- THE ROAD WITHOUT THE TABLE: 0 <= i < 100: NO PREMISE ON THE WORLD, AND THE WORLD IS AS IT WAS: a row that keeps its argument in that range need list no table ('laid = []'). (LAID: no walk: one application.) -/
theorem Tryz.strconv_Itoa_small (i : Nat) (hi : i < 100) (w : World) :
    Calls Tryz.prog 166 #[.int .i64 i] w fun e w' => e = .returned (.string ⟨(Lib.decDigits i).toArray⟩) ∧ w' = w := Any.strconv_Itoa_small Tryz.lays171 i hi w
def Tryz.laysM173_ren : Go.Shelf.Ren := ⟨fun | 173 => 121 | 246 => 138 | 283 => 148 | 284 => 149 | 285 => 150 | 286 => 151 | 129 => 117 | 317 => 161 | 318 => 162 | 319 => 163 | 320 => 164 | 337 => 167 | 338 => 168 | n => n, fun | 2 => 2 | 3 => 3 | 9 => 9 | 4 => 4 | 171 => 228 | 0 => 0 | 53 => 201 | 37 => 124 | 5 => 5 | 173 => 230 | 212 => 253 | 51 => 199 | 20 => 20 | 213 => 254 | 46 => 159 | 232 => 259 | 233 => 260 | n => n, fun | 17 => 5 | 18 => 8 | 19 => 9 | n => n⟩
theorem Tryz.laysM173 : Go.Proofs.LaysM.n173 Tryz.prog Tryz.laysM173_ren := {
  mixed := by kernel_rfl
  f129 := Tryz.func117.trans (congrArg some (by kernel_rfl))
  f173 := Tryz.func121.trans (congrArg some (by kernel_rfl))
  f246 := Tryz.func138.trans (congrArg some (by kernel_rfl))
  f283 := Tryz.func148.trans (congrArg some (by kernel_rfl))
  f284 := Tryz.func149.trans (congrArg some (by kernel_rfl))
  f285 := Tryz.func150.trans (congrArg some (by kernel_rfl))
  f286 := Tryz.func151.trans (congrArg some (by kernel_rfl))
  f317 := Tryz.func161.trans (congrArg some (by kernel_rfl))
  f318 := Tryz.func162.trans (congrArg some (by kernel_rfl))
  f319 := Tryz.func163.trans (congrArg some (by kernel_rfl))
  f320 := Tryz.func164.trans (congrArg some (by kernel_rfl))
  f337 := Tryz.func167.trans (congrArg some (by kernel_rfl))
  f338 := Tryz.func168.trans (congrArg some (by kernel_rfl))
  t0 := Tryz.underlying0
  a0 := Tryz.isAgg0
  z0 := Tryz.sizeOf0
  v0 := Tryz.zeroValue0
  t2 := Tryz.underlying2
  a2 := Tryz.isAgg2
  z2 := Tryz.sizeOf2
  v2 := Tryz.zeroValue2
  t3 := Tryz.underlying3
  a3 := Tryz.isAgg3
  z3 := Tryz.sizeOf3
  v3 := Tryz.zeroValue3
  t4 := Tryz.underlying4
  a4 := Tryz.isAgg4
  z4 := Tryz.sizeOf4
  v4 := Tryz.zeroValue4
  t5 := Tryz.underlying5
  a5 := Tryz.isAgg5
  z5 := Tryz.sizeOf5
  v5 := Tryz.zeroValue5
  t9 := Tryz.underlying9
  a9 := Tryz.isAgg9
  z9 := Tryz.sizeOf9
  v9 := Tryz.zeroValue9
  t20 := Tryz.underlying20
  a20 := Tryz.isAgg20
  z20 := Tryz.sizeOf20
  v20 := Tryz.zeroValue20
  t37 := Tryz.underlying124
  a37 := Tryz.isAgg124
  z37 := Tryz.sizeOf124
  v37 := Tryz.zeroValue124
  t46 := Tryz.underlying159
  a46 := Tryz.isAgg159
  z46 := Tryz.sizeOf159
  v46 := Tryz.zeroValue159
  t51 := Tryz.underlying199
  a51 := Tryz.isAgg199
  z51 := Tryz.sizeOf199
  v51 := Tryz.zeroValue199
  t53 := Tryz.underlying201
  a53 := Tryz.isAgg201
  z53 := Tryz.sizeOf201
  v53 := Tryz.zeroValue201
  t171 := Tryz.underlying228
  a171 := Tryz.isAgg228
  z171 := Tryz.sizeOf228
  v171 := Tryz.zeroValue228
  t173 := Tryz.underlying230
  a173 := Tryz.isAgg230
  z173 := Tryz.sizeOf230
  v173 := Tryz.zeroValue230
  t212 := Tryz.underlying253
  a212 := Tryz.isAgg253
  z212 := Tryz.sizeOf253
  v212 := Tryz.zeroValue253
  t213 := Tryz.underlying254
  a213 := Tryz.isAgg254
  z213 := Tryz.sizeOf254
  t232 := Tryz.underlying259
  a232 := Tryz.isAgg259
  z232 := Tryz.sizeOf259
  v232 := Tryz.zeroValue259
  t233 := Tryz.underlying260
  a233 := Tryz.isAgg260
  z233 := Tryz.sizeOf260
  v233 := Tryz.zeroValue260
  g17 := by kernel_rfl
  g18 := by kernel_rfl
  g19 := by kernel_rfl
  i0 := by kernel_rfl
  i2 := by kernel_rfl
  i3 := by kernel_rfl
  i4 := by kernel_rfl
  i5 := by kernel_rfl
  i9 := by kernel_rfl
  i20 := by kernel_rfl
  i37 := by kernel_rfl
  i46 := by kernel_rfl
  i51 := by kernel_rfl
  i53 := by kernel_rfl
  i171 := by kernel_rfl
  i173 := by kernel_rfl
  i212 := by kernel_rfl
  i232 := by kernel_rfl
  i233 := by kernel_rfl
  m17 := by kernel_rfl
  m18 := by kernel_rfl
  m19 := by kernel_rfl }
open Go.RowKit Go.Sort Go.Lib in
/-- strconv.FormatInt: "FormatInt returns the string representation of i in the given base": AT BASE 10: i's decimal numeral, for every int64. (LAID: no walk: one application.) -/
theorem Tryz.strconv_FormatInt_10 (n : Int) (h0 : -9223372036854775808 ≤ n) (h1 : n ≤ 9223372036854775807) (w : World) (htab : Lib.TabIs Tryz.prog w "internal/strconv.uint64pow10" .u64 Lib.pow10Tab) :
    Calls Tryz.prog 121 #[.int .i64 n, .int .i64 10] w fun e w' => e = .returned (.string ⟨(Lib.itoa n).toArray⟩) ∧ ∃ k os, w' = grow (w.drewN k) os := Any.strconv_FormatInt_10 Tryz.laysM173 n h0 h1 w htab
def Tryz.lays173_ren : Go.Shelf.Ren := ⟨fun | 173 => 121 | 246 => 138 | 283 => 148 | 284 => 149 | 285 => 150 | 286 => 151 | 129 => 117 | 317 => 161 | 318 => 162 | 319 => 163 | 320 => 164 | 337 => 167 | 338 => 168 | n => n, fun | 2 => 2 | 3 => 3 | 9 => 9 | 4 => 4 | 171 => 228 | 0 => 0 | 53 => 201 | 37 => 124 | 5 => 5 | 173 => 230 | 212 => 253 | 51 => 199 | 20 => 20 | 213 => 254 | 46 => 159 | 232 => 259 | 233 => 260 | n => n, fun | 17 => 5 | 18 => 8 | 19 => 9 | n => n⟩
theorem Tryz.lays173 : Go.Proofs.Lays.n173 Tryz.prog Tryz.lays173_ren := {
  mixed := by kernel_rfl
  f129 := Tryz.func117.trans (congrArg some (by kernel_rfl))
  f173 := Tryz.func121.trans (congrArg some (by kernel_rfl))
  f246 := Tryz.func138.trans (congrArg some (by kernel_rfl))
  f283 := Tryz.func148.trans (congrArg some (by kernel_rfl))
  f284 := Tryz.func149.trans (congrArg some (by kernel_rfl))
  f285 := Tryz.func150.trans (congrArg some (by kernel_rfl))
  f286 := Tryz.func151.trans (congrArg some (by kernel_rfl))
  f317 := Tryz.func161.trans (congrArg some (by kernel_rfl))
  f318 := Tryz.func162.trans (congrArg some (by kernel_rfl))
  f319 := Tryz.func163.trans (congrArg some (by kernel_rfl))
  f320 := Tryz.func164.trans (congrArg some (by kernel_rfl))
  f337 := Tryz.func167.trans (congrArg some (by kernel_rfl))
  f338 := Tryz.func168.trans (congrArg some (by kernel_rfl))
  t0 := Tryz.underlying0
  a0 := Tryz.isAgg0
  z0 := Tryz.sizeOf0
  v0 := Tryz.zeroValue0
  t2 := Tryz.underlying2
  a2 := Tryz.isAgg2
  z2 := Tryz.sizeOf2
  v2 := Tryz.zeroValue2
  t3 := Tryz.underlying3
  a3 := Tryz.isAgg3
  z3 := Tryz.sizeOf3
  v3 := Tryz.zeroValue3
  t4 := Tryz.underlying4
  a4 := Tryz.isAgg4
  z4 := Tryz.sizeOf4
  v4 := Tryz.zeroValue4
  t5 := Tryz.underlying5
  a5 := Tryz.isAgg5
  z5 := Tryz.sizeOf5
  v5 := Tryz.zeroValue5
  t9 := Tryz.underlying9
  a9 := Tryz.isAgg9
  z9 := Tryz.sizeOf9
  v9 := Tryz.zeroValue9
  t20 := Tryz.underlying20
  a20 := Tryz.isAgg20
  z20 := Tryz.sizeOf20
  v20 := Tryz.zeroValue20
  t37 := Tryz.underlying124
  a37 := Tryz.isAgg124
  z37 := Tryz.sizeOf124
  v37 := Tryz.zeroValue124
  t46 := Tryz.underlying159
  a46 := Tryz.isAgg159
  z46 := Tryz.sizeOf159
  v46 := Tryz.zeroValue159
  t51 := Tryz.underlying199
  a51 := Tryz.isAgg199
  z51 := Tryz.sizeOf199
  v51 := Tryz.zeroValue199
  t53 := Tryz.underlying201
  a53 := Tryz.isAgg201
  z53 := Tryz.sizeOf201
  v53 := Tryz.zeroValue201
  t171 := Tryz.underlying228
  a171 := Tryz.isAgg228
  z171 := Tryz.sizeOf228
  v171 := Tryz.zeroValue228
  t173 := Tryz.underlying230
  a173 := Tryz.isAgg230
  z173 := Tryz.sizeOf230
  v173 := Tryz.zeroValue230
  t212 := Tryz.underlying253
  a212 := Tryz.isAgg253
  z212 := Tryz.sizeOf253
  v212 := Tryz.zeroValue253
  t213 := Tryz.underlying254
  a213 := Tryz.isAgg254
  z213 := Tryz.sizeOf254
  t232 := Tryz.underlying259
  a232 := Tryz.isAgg259
  z232 := Tryz.sizeOf259
  v232 := Tryz.zeroValue259
  t233 := Tryz.underlying260
  a233 := Tryz.isAgg260
  z233 := Tryz.sizeOf260
  v233 := Tryz.zeroValue260
  g17 := by kernel_rfl
  g18 := by kernel_rfl
  g19 := by kernel_rfl }
open Go.RowKit Go.Sort Go.Lib in
/-- THE ROAD WITHOUT THE TABLE: 0 <= i < 100. (LAID: no walk: one application.) -/
theorem Tryz.strconv_FormatInt_10_small (i : Nat) (hi : i < 100) (w : World) :
    Calls Tryz.prog 121 #[.int .i64 i, .int .i64 10] w fun e w' => e = .returned (.string ⟨(Lib.decDigits i).toArray⟩) ∧ w' = w := Any.strconv_FormatInt_10_small Tryz.lays173 i hi w
def Tryz.laysM316_ren : Go.Shelf.Ren := ⟨fun | 316 => 165 | n => n, fun | 9 => 9 | 3 => 3 | 4 => 4 | 37 => 124 | 0 => 0 | 127 => 204 | 5 => 5 | n => n, fun | n => n⟩
theorem Tryz.laysM316 : Go.Proofs.LaysM.n316 Tryz.prog Tryz.laysM316_ren := {
  mixed := by kernel_rfl
  f316 := Tryz.func165.trans (congrArg some (by kernel_rfl))
  t0 := Tryz.underlying0
  a0 := Tryz.isAgg0
  z0 := Tryz.sizeOf0
  v0 := Tryz.zeroValue0
  t3 := Tryz.underlying3
  a3 := Tryz.isAgg3
  z3 := Tryz.sizeOf3
  v3 := Tryz.zeroValue3
  t4 := Tryz.underlying4
  a4 := Tryz.isAgg4
  z4 := Tryz.sizeOf4
  v4 := Tryz.zeroValue4
  t9 := Tryz.underlying9
  a9 := Tryz.isAgg9
  z9 := Tryz.sizeOf9
  v9 := Tryz.zeroValue9
  t37 := Tryz.underlying124
  a37 := Tryz.isAgg124
  z37 := Tryz.sizeOf124
  v37 := Tryz.zeroValue124
  t127 := Tryz.underlying204
  a127 := Tryz.isAgg204
  z127 := Tryz.sizeOf204
  v127 := Tryz.zeroValue204
  t5 := Tryz.underlying5
  a5 := Tryz.isAgg5
  z5 := Tryz.sizeOf5
  v5 := Tryz.zeroValue5
  i0 := by kernel_rfl
  i3 := by kernel_rfl
  i4 := by kernel_rfl
  i5 := by kernel_rfl
  i9 := by kernel_rfl
  i37 := by kernel_rfl
  i127 := by kernel_rfl }
open Go.RowKit in
/-- internal/stringslite.Clone (what strings.Clone calls): "Clone returns a fresh copy of s.": THE SAME BYTES. Of what was there nothing has turned (a new row is laid, and frozen, where s is not empty). (LAID: no walk: one application.) -/
theorem Tryz.stringslite_Clone (s : ByteArray) (w : World) (hlim : s.size ≤ 281474976710656) :
    Calls Tryz.prog 165 #[.string s] w fun e w' => e = .returned (.string s) ∧ Below w.heap.size w w' := Any.stringslite_Clone Tryz.laysM316 s w hlim
def Tryz.laysM279_ren : Go.Shelf.Ren := ⟨fun | 279 => 157 | 316 => 165 | n => n, fun | 9 => 9 | 168 => 249 | 75 => 104 | 210 => 258 | 3 => 3 | 4 => 4 | 37 => 124 | 0 => 0 | 127 => 204 | 80 => 76 | 5 => 5 | n => n, fun | 15 => 6 | n => n⟩
theorem Tryz.laysM279 : Go.Proofs.LaysM.n279 Tryz.prog Tryz.laysM279_ren := {
  mixed := by kernel_rfl
  f279 := Tryz.func157.trans (congrArg some (by kernel_rfl))
  f316 := Tryz.func165.trans (congrArg some (by kernel_rfl))
  t0 := Tryz.underlying0
  a0 := Tryz.isAgg0
  z0 := Tryz.sizeOf0
  v0 := Tryz.zeroValue0
  t3 := Tryz.underlying3
  a3 := Tryz.isAgg3
  z3 := Tryz.sizeOf3
  v3 := Tryz.zeroValue3
  t4 := Tryz.underlying4
  a4 := Tryz.isAgg4
  z4 := Tryz.sizeOf4
  v4 := Tryz.zeroValue4
  t9 := Tryz.underlying9
  a9 := Tryz.isAgg9
  z9 := Tryz.sizeOf9
  v9 := Tryz.zeroValue9
  t37 := Tryz.underlying124
  a37 := Tryz.isAgg124
  z37 := Tryz.sizeOf124
  v37 := Tryz.zeroValue124
  t75 := Tryz.underlying104
  a75 := Tryz.isAgg104
  z75 := Tryz.sizeOf104
  v75 := Tryz.zeroValue104
  t127 := Tryz.underlying204
  a127 := Tryz.isAgg204
  z127 := Tryz.sizeOf204
  v127 := Tryz.zeroValue204
  t168 := Tryz.underlying249
  a168 := Tryz.isAgg249
  z168 := Tryz.sizeOf249
  v168 := Tryz.zeroValue249
  t210 := Tryz.underlying258
  a210 := Tryz.isAgg258
  z210 := Tryz.sizeOf258
  v210 := Tryz.zeroValue258
  g15 := by kernel_rfl
  t5 := Tryz.underlying5
  a5 := Tryz.isAgg5
  z5 := Tryz.sizeOf5
  v5 := Tryz.zeroValue5
  t80 := Tryz.underlying76
  a80 := Tryz.isAgg76
  z80 := Tryz.sizeOf76
  v80 := Tryz.zeroValue76
  i0 := by kernel_rfl
  i3 := by kernel_rfl
  i4 := by kernel_rfl
  i5 := by kernel_rfl
  i9 := by kernel_rfl
  i37 := by kernel_rfl
  i75 := by kernel_rfl
  i80 := by kernel_rfl
  i127 := by kernel_rfl
  i168 := by kernel_rfl
  i210 := by kernel_rfl
  m15 := by kernel_rfl }
open Go.RowKit in
/-- strconv.syntaxError: '&NumError{fn, stringslite.Clone(str), ErrSyntax}': A POINTER TO A NEW BLOCK that holds fn, str's bytes, and what the variable ErrSyntax holds. Of what was there nothing has turned. (LAID: no walk: one application.) -/
theorem Tryz.strconv_syntaxError (fn s : ByteArray) (ev : Value) (w : World) (hlim : s.size ≤ 281474976710656) (hv : w.cell? ⟨6, 0, none⟩ = some ev) (hev : ev = .nilIface ∨ ∃ te pe, ev = .iface te pe) :
    Calls Tryz.prog 157 #[.string fn, .string s] w fun e w' => ∃ N, e = .returned (.pointer (some ⟨N, 0, none⟩)) ∧ w.heap.size ≤ N ∧ w'.heap[N]? = some (.cells #[.string fn, .string s, ev] 258 (0, 0)) ∧ Below w.heap.size w w' := Any.strconv_syntaxError Tryz.laysM279 fn s ev w hlim hv hev
def Tryz.laysC245_ren : Go.Shelf.Ren := ⟨fun | 245 => 146 | 279 => 157 | 280 => 158 | 281 => 159 | 282 => 160 | 316 => 165 | 171 => 166 | 205 => 84 | 243 => 169 | 246 => 138 | 283 => 148 | 284 => 149 | 285 => 150 | 286 => 151 | 129 => 117 | 317 => 161 | 318 => 162 | 319 => 163 | 320 => 164 | 337 => 167 | 338 => 168 | n => n, fun | 9 => 9 | 3 => 3 | 75 => 104 | 167 => 247 | 4 => 4 | 168 => 249 | 210 => 258 | 37 => 124 | 0 => 0 | 127 => 204 | 145 => 183 | 143 => 181 | 2 => 2 | 171 => 228 | 53 => 201 | 5 => 5 | 173 => 230 | 212 => 253 | 51 => 199 | 20 => 20 | 213 => 254 | 46 => 159 | 232 => 259 | 233 => 260 | 80 => 76 | n => n, fun | 15 => 6 | 16 => 7 | 17 => 5 | 18 => 8 | 19 => 9 | n => n⟩
theorem Tryz.laysC245 : Go.Proofs.LaysC.n245 Tryz.prog Tryz.laysC245_ren := {
  mixed := by kernel_rfl
  f129 := Tryz.func117.trans (congrArg some (by kernel_rfl))
  f171 := Tryz.func166.trans (congrArg some (by kernel_rfl))
  f205 := Tryz.func84.trans (congrArg some (by kernel_rfl))
  f243 := Tryz.func169.trans (congrArg some (by kernel_rfl))
  f245 := Tryz.func146.trans (congrArg some (by kernel_rfl))
  f246 := Tryz.func138.trans (congrArg some (by kernel_rfl))
  f279 := Tryz.func157.trans (congrArg some (by kernel_rfl))
  f280 := Tryz.func158.trans (congrArg some (by kernel_rfl))
  f281 := Tryz.func159.trans (congrArg some (by kernel_rfl))
  f282 := Tryz.func160.trans (congrArg some (by kernel_rfl))
  f283 := Tryz.func148.trans (congrArg some (by kernel_rfl))
  f284 := Tryz.func149.trans (congrArg some (by kernel_rfl))
  f285 := Tryz.func150.trans (congrArg some (by kernel_rfl))
  f286 := Tryz.func151.trans (congrArg some (by kernel_rfl))
  f316 := Tryz.func165.trans (congrArg some (by kernel_rfl))
  f317 := Tryz.func161.trans (congrArg some (by kernel_rfl))
  f318 := Tryz.func162.trans (congrArg some (by kernel_rfl))
  f319 := Tryz.func163.trans (congrArg some (by kernel_rfl))
  f320 := Tryz.func164.trans (congrArg some (by kernel_rfl))
  f337 := Tryz.func167.trans (congrArg some (by kernel_rfl))
  f338 := Tryz.func168.trans (congrArg some (by kernel_rfl))
  t0 := Tryz.underlying0
  a0 := Tryz.isAgg0
  z0 := Tryz.sizeOf0
  v0 := Tryz.zeroValue0
  t2 := Tryz.underlying2
  a2 := Tryz.isAgg2
  z2 := Tryz.sizeOf2
  v2 := Tryz.zeroValue2
  t3 := Tryz.underlying3
  a3 := Tryz.isAgg3
  z3 := Tryz.sizeOf3
  v3 := Tryz.zeroValue3
  t4 := Tryz.underlying4
  a4 := Tryz.isAgg4
  z4 := Tryz.sizeOf4
  v4 := Tryz.zeroValue4
  t5 := Tryz.underlying5
  a5 := Tryz.isAgg5
  z5 := Tryz.sizeOf5
  v5 := Tryz.zeroValue5
  t9 := Tryz.underlying9
  a9 := Tryz.isAgg9
  z9 := Tryz.sizeOf9
  v9 := Tryz.zeroValue9
  t20 := Tryz.underlying20
  a20 := Tryz.isAgg20
  z20 := Tryz.sizeOf20
  v20 := Tryz.zeroValue20
  t37 := Tryz.underlying124
  a37 := Tryz.isAgg124
  z37 := Tryz.sizeOf124
  v37 := Tryz.zeroValue124
  t46 := Tryz.underlying159
  a46 := Tryz.isAgg159
  z46 := Tryz.sizeOf159
  v46 := Tryz.zeroValue159
  t51 := Tryz.underlying199
  a51 := Tryz.isAgg199
  z51 := Tryz.sizeOf199
  v51 := Tryz.zeroValue199
  t53 := Tryz.underlying201
  a53 := Tryz.isAgg201
  z53 := Tryz.sizeOf201
  v53 := Tryz.zeroValue201
  t75 := Tryz.underlying104
  a75 := Tryz.isAgg104
  z75 := Tryz.sizeOf104
  v75 := Tryz.zeroValue104
  t127 := Tryz.underlying204
  a127 := Tryz.isAgg204
  z127 := Tryz.sizeOf204
  v127 := Tryz.zeroValue204
  t143 := Tryz.underlying181
  a143 := Tryz.isAgg181
  z143 := Tryz.sizeOf181
  v143 := Tryz.zeroValue181
  t145 := Tryz.underlying183
  a145 := Tryz.isAgg183
  z145 := Tryz.sizeOf183
  v145 := Tryz.zeroValue183
  t167 := Tryz.underlying247
  a167 := Tryz.isAgg247
  z167 := Tryz.sizeOf247
  v167 := Tryz.zeroValue247
  t168 := Tryz.underlying249
  a168 := Tryz.isAgg249
  z168 := Tryz.sizeOf249
  v168 := Tryz.zeroValue249
  t171 := Tryz.underlying228
  a171 := Tryz.isAgg228
  z171 := Tryz.sizeOf228
  v171 := Tryz.zeroValue228
  t173 := Tryz.underlying230
  a173 := Tryz.isAgg230
  z173 := Tryz.sizeOf230
  v173 := Tryz.zeroValue230
  t210 := Tryz.underlying258
  a210 := Tryz.isAgg258
  z210 := Tryz.sizeOf258
  v210 := Tryz.zeroValue258
  t212 := Tryz.underlying253
  a212 := Tryz.isAgg253
  z212 := Tryz.sizeOf253
  v212 := Tryz.zeroValue253
  t213 := Tryz.underlying254
  a213 := Tryz.isAgg254
  z213 := Tryz.sizeOf254
  t232 := Tryz.underlying259
  a232 := Tryz.isAgg259
  z232 := Tryz.sizeOf259
  v232 := Tryz.zeroValue259
  t233 := Tryz.underlying260
  a233 := Tryz.isAgg260
  z233 := Tryz.sizeOf260
  v233 := Tryz.zeroValue260
  g15 := by kernel_rfl
  g16 := by kernel_rfl
  g17 := by kernel_rfl
  g18 := by kernel_rfl
  g19 := by kernel_rfl
  t80 := Tryz.underlying76
  a80 := Tryz.isAgg76
  z80 := Tryz.sizeOf76
  v80 := Tryz.zeroValue76
  i0 := by kernel_rfl
  i2 := by kernel_rfl
  i3 := by kernel_rfl
  i4 := by kernel_rfl
  i5 := by kernel_rfl
  i9 := by kernel_rfl
  i20 := by kernel_rfl
  i37 := by kernel_rfl
  i46 := by kernel_rfl
  i51 := by kernel_rfl
  i53 := by kernel_rfl
  i75 := by kernel_rfl
  i80 := by kernel_rfl
  i127 := by kernel_rfl
  i143 := by kernel_rfl
  i145 := by kernel_rfl
  i167 := by kernel_rfl
  i168 := by kernel_rfl
  i171 := by kernel_rfl
  i173 := by kernel_rfl
  i210 := by kernel_rfl
  i212 := by kernel_rfl
  i232 := by kernel_rfl
  i233 := by kernel_rfl
  m15 := by kernel_rfl
  m16 := by kernel_rfl
  m17 := by kernel_rfl
  m18 := by kernel_rfl
  m19 := by kernel_rfl
  c0 := by kernel_rfl
  c2 := by kernel_rfl
  c3 := by kernel_rfl
  c4 := by kernel_rfl
  c5 := by kernel_rfl
  c9 := by kernel_rfl
  c20 := by kernel_rfl
  c37 := by kernel_rfl
  c46 := by kernel_rfl
  c51 := by kernel_rfl
  c53 := by kernel_rfl
  c75 := by kernel_rfl
  c80 := by kernel_rfl
  c127 := by kernel_rfl
  c143 := by kernel_rfl
  c145 := by kernel_rfl
  c167 := by kernel_rfl
  c168 := by kernel_rfl
  c171 := by kernel_rfl
  c173 := by kernel_rfl
  c210 := by kernel_rfl
  c212 := by kernel_rfl
  c213 := by kernel_rfl
  c232 := by kernel_rfl
  c233 := by kernel_rfl }
open Go.RowKit in
/-- strconv.toError, at the inner package's ErrSyntax: 'syntaxError(fn, s)' as an error: A *NumError IN A NEW BLOCK. (LAID: no walk: one application.) -/
theorem Tryz.strconv_toError_syntax (fn s : ByteArray) (base bits : Int) (ev : Value) (w : World) (hlim : s.size ≤ 281474976710656) (hv : w.cell? ⟨6, 0, none⟩ = some ev) (hev : ev = .nilIface ∨ ∃ te pe, ev = .iface te pe) :
    Calls Tryz.prog 146 #[.string fn, .string s, .int .i64 base, .int .i64 bits, .iface 247 (.int .i64 2)] w fun e w' => ∃ N, e = .returned (.iface 249 (.pointer (some ⟨N, 0, none⟩))) ∧ w.heap.size ≤ N ∧ w'.heap[N]? = some (.cells #[.string fn, .string s, ev] 258 (0, 0)) ∧ Below w.heap.size w w' := Any.strconv_toError_syntax Tryz.laysC245 fn s base bits ev w hlim hv hev
def Tryz.lays321_ren : Go.Shelf.Ren := ⟨fun | 321 => 155 | n => n, fun | 5 => 5 | n => n, fun | n => n⟩
theorem Tryz.lays321 : Go.Proofs.Lays.n321 Tryz.prog Tryz.lays321_ren := {
  mixed := by kernel_rfl
  f321 := Tryz.func155.trans (congrArg some (by kernel_rfl))
  t5 := Tryz.underlying5
  a5 := Tryz.isAgg5
  z5 := Tryz.sizeOf5
  v5 := Tryz.zeroValue5 }
open Go.RowKit in
/-- internal/strconv.lower: 'c | ('x' - 'X')': the bit 32 set. The world is as it was. (LAID: no walk: one application.) -/
theorem Tryz.internal_strconv_lower (c : Int) (w : World) :
    Calls Tryz.prog 155 #[.int .u8 c] w fun e w' => e = .returned (.int .u8 (bits .or .u8 c 32)) ∧ w' = w := Any.internal_strconv_lower Tryz.lays321 c w
def Tryz.lays287_ren : Go.Shelf.Ren := ⟨fun | 287 => 145 | 321 => 155 | 322 => 156 | n => n, fun | 9 => 9 | 3 => 3 | 53 => 201 | 75 => 104 | 4 => 4 | 167 => 247 | 5 => 5 | 46 => 159 | 37 => 124 | 0 => 0 | 21 => 21 | 80 => 76 | n => n, fun | n => n⟩
theorem Tryz.lays287 : Go.Proofs.Lays.n287 Tryz.prog Tryz.lays287_ren := {
  mixed := by kernel_rfl
  f287 := Tryz.func145.trans (congrArg some (by kernel_rfl))
  f321 := Tryz.func155.trans (congrArg some (by kernel_rfl))
  f322 := Tryz.func156.trans (congrArg some (by kernel_rfl))
  t0 := Tryz.underlying0
  a0 := Tryz.isAgg0
  z0 := Tryz.sizeOf0
  v0 := Tryz.zeroValue0
  t3 := Tryz.underlying3
  a3 := Tryz.isAgg3
  z3 := Tryz.sizeOf3
  v3 := Tryz.zeroValue3
  t4 := Tryz.underlying4
  a4 := Tryz.isAgg4
  z4 := Tryz.sizeOf4
  v4 := Tryz.zeroValue4
  t5 := Tryz.underlying5
  a5 := Tryz.isAgg5
  z5 := Tryz.sizeOf5
  v5 := Tryz.zeroValue5
  t9 := Tryz.underlying9
  a9 := Tryz.isAgg9
  z9 := Tryz.sizeOf9
  v9 := Tryz.zeroValue9
  t21 := Tryz.underlying21
  a21 := Tryz.isAgg21
  z21 := Tryz.sizeOf21
  v21 := Tryz.zeroValue21
  t37 := Tryz.underlying124
  a37 := Tryz.isAgg124
  z37 := Tryz.sizeOf124
  v37 := Tryz.zeroValue124
  t46 := Tryz.underlying159
  a46 := Tryz.isAgg159
  z46 := Tryz.sizeOf159
  v46 := Tryz.zeroValue159
  t53 := Tryz.underlying201
  a53 := Tryz.isAgg201
  z53 := Tryz.sizeOf201
  v53 := Tryz.zeroValue201
  t75 := Tryz.underlying104
  a75 := Tryz.isAgg104
  z75 := Tryz.sizeOf104
  v75 := Tryz.zeroValue104
  t167 := Tryz.underlying247
  a167 := Tryz.isAgg247
  z167 := Tryz.sizeOf247
  v167 := Tryz.zeroValue247 }
open Go.RowKit in
/-- internal/strconv.ParseUint(s, 10, 0), s NOT EMPTY: 'Lib.parseUint10 0' OF ITS BYTES: the number; or (0, ErrSyntax); or (the greatest uint64, ErrRange). The world behind the call: the one new row that '[]byte(s)' lays. (LAID: no walk: one application.) -/
theorem Tryz.internal_strconv_ParseUint_10 (t : ByteArray) (hne : t.size ≠ 0) (hmax : t.size ≤ 9223372036854775806) (w : World) :
    Calls Tryz.prog 145 #[.string t, .int .i64 10, .int .i64 0] w fun e w' => e = .returned (Lib.uintTuple 247 (Lib.parseUint10 0 t.data.toList)) ∧ w' = Lib.bytesWorld w 5 t := Any.internal_strconv_ParseUint_10 Tryz.lays287 t hne hmax w
open Go.RowKit in
/-- internal/strconv.ParseUint("", 10, 0): (0, ErrSyntax). The world is as it was. (LAID: no walk: one application.) -/
theorem Tryz.internal_strconv_ParseUint_10_empty (w : World) :
    Calls Tryz.prog 145 #[.string ⟨#[]⟩, .int .i64 10, .int .i64 0] w fun e w' => e = .returned (Lib.uintTuple 247 .syntax) ∧ w' = w := Any.internal_strconv_ParseUint_10_empty Tryz.lays287 w
open Go.RowKit in
/-- internal/strconv.ParseUint(s, 10, 0): 'Lib.parseMag' OF ITS BYTES. The world: as it was (the empty string), or with the one new row that '[]byte(s)' lays. (LAID: no walk: one application.) -/
theorem Tryz.internal_strconv_ParseUint_10_any (t : ByteArray) (hmax : t.size ≤ 9223372036854775806) (w : World) :
    Calls Tryz.prog 145 #[.string t, .int .i64 10, .int .i64 0] w fun e w' => e = .returned (Lib.uintTuple 247 (Lib.parseMag t.data.toList)) ∧ (w' = w ∨ w' = Lib.bytesWorld w 5 t) := Any.internal_strconv_ParseUint_10_any Tryz.lays287 t hmax w
def Tryz.laysM280_ren : Go.Shelf.Ren := ⟨fun | 280 => 158 | 316 => 165 | n => n, fun | 9 => 9 | 168 => 249 | 75 => 104 | 210 => 258 | 3 => 3 | 4 => 4 | 37 => 124 | 0 => 0 | 127 => 204 | 80 => 76 | 5 => 5 | n => n, fun | 16 => 7 | n => n⟩
theorem Tryz.laysM280 : Go.Proofs.LaysM.n280 Tryz.prog Tryz.laysM280_ren := {
  mixed := by kernel_rfl
  f280 := Tryz.func158.trans (congrArg some (by kernel_rfl))
  f316 := Tryz.func165.trans (congrArg some (by kernel_rfl))
  t0 := Tryz.underlying0
  a0 := Tryz.isAgg0
  z0 := Tryz.sizeOf0
  v0 := Tryz.zeroValue0
  t3 := Tryz.underlying3
  a3 := Tryz.isAgg3
  z3 := Tryz.sizeOf3
  v3 := Tryz.zeroValue3
  t4 := Tryz.underlying4
  a4 := Tryz.isAgg4
  z4 := Tryz.sizeOf4
  v4 := Tryz.zeroValue4
  t9 := Tryz.underlying9
  a9 := Tryz.isAgg9
  z9 := Tryz.sizeOf9
  v9 := Tryz.zeroValue9
  t37 := Tryz.underlying124
  a37 := Tryz.isAgg124
  z37 := Tryz.sizeOf124
  v37 := Tryz.zeroValue124
  t75 := Tryz.underlying104
  a75 := Tryz.isAgg104
  z75 := Tryz.sizeOf104
  v75 := Tryz.zeroValue104
  t127 := Tryz.underlying204
  a127 := Tryz.isAgg204
  z127 := Tryz.sizeOf204
  v127 := Tryz.zeroValue204
  t168 := Tryz.underlying249
  a168 := Tryz.isAgg249
  z168 := Tryz.sizeOf249
  v168 := Tryz.zeroValue249
  t210 := Tryz.underlying258
  a210 := Tryz.isAgg258
  z210 := Tryz.sizeOf258
  v210 := Tryz.zeroValue258
  g16 := by kernel_rfl
  t5 := Tryz.underlying5
  a5 := Tryz.isAgg5
  z5 := Tryz.sizeOf5
  v5 := Tryz.zeroValue5
  t80 := Tryz.underlying76
  a80 := Tryz.isAgg76
  z80 := Tryz.sizeOf76
  v80 := Tryz.zeroValue76
  i0 := by kernel_rfl
  i3 := by kernel_rfl
  i4 := by kernel_rfl
  i5 := by kernel_rfl
  i9 := by kernel_rfl
  i37 := by kernel_rfl
  i75 := by kernel_rfl
  i80 := by kernel_rfl
  i127 := by kernel_rfl
  i168 := by kernel_rfl
  i210 := by kernel_rfl
  m16 := by kernel_rfl }
open Go.RowKit in
/-- strconv.rangeError: '&NumError{fn, stringslite.Clone(str), ErrRange}': A POINTER TO A NEW BLOCK that holds fn, str's bytes, and what the variable ErrRange holds. Of what was there nothing has turned. (LAID: no walk: one application.) -/
theorem Tryz.strconv_rangeError (fn s : ByteArray) (ev : Value) (w : World) (hlim : s.size ≤ 281474976710656) (hv : w.cell? ⟨7, 0, none⟩ = some ev) (hev : ev = .nilIface ∨ ∃ te pe, ev = .iface te pe) :
    Calls Tryz.prog 158 #[.string fn, .string s] w fun e w' => ∃ N, e = .returned (.pointer (some ⟨N, 0, none⟩)) ∧ w.heap.size ≤ N ∧ w'.heap[N]? = some (.cells #[.string fn, .string s, ev] 258 (0, 0)) ∧ Below w.heap.size w w' := Any.strconv_rangeError Tryz.laysM280 fn s ev w hlim hv hev
open Go.RowKit in
/-- strconv.toError, at the inner package's ErrRange: 'rangeError(fn, s)' as an error: A *NumError IN A NEW BLOCK. (LAID: no walk: one application.) -/
theorem Tryz.strconv_toError_range (fn s : ByteArray) (base bits : Int) (ev : Value) (w : World) (hlim : s.size ≤ 281474976710656) (hv : w.cell? ⟨7, 0, none⟩ = some ev) (hev : ev = .nilIface ∨ ∃ te pe, ev = .iface te pe) :
    Calls Tryz.prog 146 #[.string fn, .string s, .int .i64 base, .int .i64 bits, .iface 247 (.int .i64 1)] w fun e w' => ∃ N, e = .returned (.iface 249 (.pointer (some ⟨N, 0, none⟩))) ∧ w.heap.size ≤ N ∧ w'.heap[N]? = some (.cells #[.string fn, .string s, ev] 258 (0, 0)) ∧ Below w.heap.size w w' := Any.strconv_toError_range Tryz.laysC245 fn s base bits ev w hlim hv hev
open Go.RowKit in
/-- internal/strconv.ParseUint("", base, bitSize): (0, ErrSyntax): the first test of the text. The world is as it was. (LAID: no walk: one application.) -/
theorem Tryz.internal_strconv_ParseUint_empty (base bits : Int) (w : World) :
    Calls Tryz.prog 145 #[.string ⟨#[]⟩, .int .i64 base, .int .i64 bits] w fun e w' => e = .returned (.tuple #[.int .u64 0, .iface 247 (.int .i64 2)]) ∧ w' = w := Any.internal_strconv_ParseUint_empty Tryz.lays287 base bits w
open Go.RowKit in
/-- internal/strconv.ParseUint(s, 10, 64), s NOT EMPTY: 'Lib.parseUint10 0' OF ITS BYTES: the number; or (0, ErrSyntax); or (the greatest uint64, ErrRange). The world behind the call: the one new row that '[]byte(s)' lays. (LAID: no walk: one application.) -/
theorem Tryz.internal_strconv_ParseUint_10_b64 (t : ByteArray) (hne : t.size ≠ 0) (hmax : t.size ≤ 9223372036854775806) (w : World) :
    Calls Tryz.prog 145 #[.string t, .int .i64 10, .int .i64 64] w fun e w' => e = .returned (Lib.uintTuple 247 (Lib.parseUint10 0 t.data.toList)) ∧ w' = Lib.bytesWorld w 5 t := Any.internal_strconv_ParseUint_10_b64 Tryz.lays287 t hne hmax w
open Go.RowKit in
/-- internal/strconv.ParseUint(s, 10, 32), s NOT EMPTY: 'Lib.parseUintM 4294967295 0' OF ITS BYTES: the number; or (0, ErrSyntax); or (the greatest uint32, ErrRange). The world behind the call: the one new row that '[]byte(s)' lays. (LAID: no walk: one application.) -/
theorem Tryz.internal_strconv_ParseUint_10_b32 (t : ByteArray) (hne : t.size ≠ 0) (hmax : t.size ≤ 9223372036854775806) (w : World) :
    Calls Tryz.prog 145 #[.string t, .int .i64 10, .int .i64 32] w fun e w' => e = .returned (Lib.uintTupleM 247 4294967295 (Lib.parseUintM 4294967295 0 t.data.toList)) ∧ w' = Lib.bytesWorld w 5 t := Any.internal_strconv_ParseUint_10_b32 Tryz.lays287 t hne hmax w
open Go.RowKit in
/-- internal/strconv.ParseUint(s, 10, 16), s NOT EMPTY: 'Lib.parseUintM 65535 0' OF ITS BYTES: the number; or (0, ErrSyntax); or (the greatest uint16, ErrRange). The world behind the call: the one new row that '[]byte(s)' lays. (LAID: no walk: one application.) -/
theorem Tryz.internal_strconv_ParseUint_10_b16 (t : ByteArray) (hne : t.size ≠ 0) (hmax : t.size ≤ 9223372036854775806) (w : World) :
    Calls Tryz.prog 145 #[.string t, .int .i64 10, .int .i64 16] w fun e w' => e = .returned (Lib.uintTupleM 247 65535 (Lib.parseUintM 65535 0 t.data.toList)) ∧ w' = Lib.bytesWorld w 5 t := Any.internal_strconv_ParseUint_10_b16 Tryz.lays287 t hne hmax w
open Go.RowKit in
/-- internal/strconv.ParseUint(s, 10, 8), s NOT EMPTY: 'Lib.parseUintM 255 0' OF ITS BYTES: the number; or (0, ErrSyntax); or (the greatest uint8, ErrRange). The world behind the call: the one new row that '[]byte(s)' lays. (LAID: no walk: one application.) -/
theorem Tryz.internal_strconv_ParseUint_10_b8 (t : ByteArray) (hne : t.size ≠ 0) (hmax : t.size ≤ 9223372036854775806) (w : World) :
    Calls Tryz.prog 145 #[.string t, .int .i64 10, .int .i64 8] w fun e w' => e = .returned (Lib.uintTupleM 247 255 (Lib.parseUintM 255 0 t.data.toList)) ∧ w' = Lib.bytesWorld w 5 t := Any.internal_strconv_ParseUint_10_b8 Tryz.lays287 t hne hmax w
open Go.RowKit in
/-- internal/strconv.ParseUint(s, 10, 0): 'Lib.parseUintB 64' OF ITS BYTES. The world: as it was (the empty string), or with the one new row that '[]byte(s)' lays. (LAID: no walk: one application.) -/
theorem Tryz.internal_strconv_ParseUint_10_at0 (t : ByteArray) (hmax : t.size ≤ 9223372036854775806) (w : World) :
    Calls Tryz.prog 145 #[.string t, .int .i64 10, .int .i64 0] w fun e w' => e = .returned (Lib.uintTupleM 247 18446744073709551615 (Lib.parseUintB 64 t.data.toList)) ∧ (w' = w ∨ w' = Lib.bytesWorld w 5 t) := Any.internal_strconv_ParseUint_10_at0 Tryz.lays287 t hmax w
open Go.RowKit in
/-- internal/strconv.ParseUint(s, 10, 64): 'Lib.parseUintB 64' OF ITS BYTES. The world: as it was (the empty string), or with the one new row that '[]byte(s)' lays. (LAID: no walk: one application.) -/
theorem Tryz.internal_strconv_ParseUint_10_at64 (t : ByteArray) (hmax : t.size ≤ 9223372036854775806) (w : World) :
    Calls Tryz.prog 145 #[.string t, .int .i64 10, .int .i64 64] w fun e w' => e = .returned (Lib.uintTupleM 247 18446744073709551615 (Lib.parseUintB 64 t.data.toList)) ∧ (w' = w ∨ w' = Lib.bytesWorld w 5 t) := Any.internal_strconv_ParseUint_10_at64 Tryz.lays287 t hmax w
open Go.RowKit in
/-- internal/strconv.ParseUint(s, 10, 32): 'Lib.parseUintB 32' OF ITS BYTES. The world: as it was (the empty string), or with the one new row that '[]byte(s)' lays. (LAID: no walk: one application.) -/
theorem Tryz.internal_strconv_ParseUint_10_at32 (t : ByteArray) (hmax : t.size ≤ 9223372036854775806) (w : World) :
    Calls Tryz.prog 145 #[.string t, .int .i64 10, .int .i64 32] w fun e w' => e = .returned (Lib.uintTupleM 247 4294967295 (Lib.parseUintB 32 t.data.toList)) ∧ (w' = w ∨ w' = Lib.bytesWorld w 5 t) := Any.internal_strconv_ParseUint_10_at32 Tryz.lays287 t hmax w
open Go.RowKit in
/-- internal/strconv.ParseUint(s, 10, 16): 'Lib.parseUintB 16' OF ITS BYTES. The world: as it was (the empty string), or with the one new row that '[]byte(s)' lays. (LAID: no walk: one application.) -/
theorem Tryz.internal_strconv_ParseUint_10_at16 (t : ByteArray) (hmax : t.size ≤ 9223372036854775806) (w : World) :
    Calls Tryz.prog 145 #[.string t, .int .i64 10, .int .i64 16] w fun e w' => e = .returned (Lib.uintTupleM 247 65535 (Lib.parseUintB 16 t.data.toList)) ∧ (w' = w ∨ w' = Lib.bytesWorld w 5 t) := Any.internal_strconv_ParseUint_10_at16 Tryz.lays287 t hmax w
open Go.RowKit in
/-- internal/strconv.ParseUint(s, 10, 8): 'Lib.parseUintB 8' OF ITS BYTES. The world: as it was (the empty string), or with the one new row that '[]byte(s)' lays. (LAID: no walk: one application.) -/
theorem Tryz.internal_strconv_ParseUint_10_at8 (t : ByteArray) (hmax : t.size ≤ 9223372036854775806) (w : World) :
    Calls Tryz.prog 145 #[.string t, .int .i64 10, .int .i64 8] w fun e w' => e = .returned (Lib.uintTupleM 247 255 (Lib.parseUintB 8 t.data.toList)) ∧ (w' = w ∨ w' = Lib.bytesWorld w 5 t) := Any.internal_strconv_ParseUint_10_at8 Tryz.lays287 t hmax w
def Tryz.laysPu14_ren : Go.Shelf.Ren := ⟨fun | 14 => 131 | 16 => 145 | 17 => 146 | 19 => 155 | 20 => 156 | 21 => 157 | 22 => 158 | 23 => 159 | 24 => 160 | 25 => 165 | 27 => 166 | 26 => 84 | 28 => 169 | 29 => 138 | 30 => 148 | 31 => 149 | 32 => 150 | 33 => 151 | 35 => 117 | 34 => 161 | 36 => 162 | 37 => 163 | 38 => 164 | 39 => 167 | 40 => 168 | n => n, fun | 9 => 9 | 3 => 3 | 22 => 201 | 24 => 104 | 25 => 209 | 4 => 4 | 34 => 247 | 5 => 5 | 36 => 159 | 37 => 124 | 0 => 0 | 39 => 249 | 21 => 21 | 44 => 258 | 47 => 204 | 50 => 183 | 48 => 181 | 2 => 2 | 52 => 228 | 55 => 230 | 59 => 253 | 60 => 199 | 20 => 20 | 61 => 254 | 65 => 259 | 66 => 260 | 67 => 76 | n => n, fun | 0 => 6 | 1 => 7 | 2 => 5 | 3 => 8 | 4 => 9 | n => n⟩
theorem Tryz.laysPu14 : Go.Proofs.LaysPu.n14 Tryz.prog Tryz.laysPu14_ren := {
  mixed := by kernel_rfl
  f14 := Tryz.func131.trans (congrArg some (by kernel_rfl))
  f16 := Tryz.func145.trans (congrArg some (by kernel_rfl))
  f17 := Tryz.func146.trans (congrArg some (by kernel_rfl))
  f19 := Tryz.func155.trans (congrArg some (by kernel_rfl))
  f20 := Tryz.func156.trans (congrArg some (by kernel_rfl))
  f21 := Tryz.func157.trans (congrArg some (by kernel_rfl))
  f22 := Tryz.func158.trans (congrArg some (by kernel_rfl))
  f23 := Tryz.func159.trans (congrArg some (by kernel_rfl))
  f24 := Tryz.func160.trans (congrArg some (by kernel_rfl))
  f25 := Tryz.func165.trans (congrArg some (by kernel_rfl))
  f26 := Tryz.func84.trans (congrArg some (by kernel_rfl))
  f27 := Tryz.func166.trans (congrArg some (by kernel_rfl))
  f28 := Tryz.func169.trans (congrArg some (by kernel_rfl))
  f29 := Tryz.func138.trans (congrArg some (by kernel_rfl))
  f30 := Tryz.func148.trans (congrArg some (by kernel_rfl))
  f31 := Tryz.func149.trans (congrArg some (by kernel_rfl))
  f32 := Tryz.func150.trans (congrArg some (by kernel_rfl))
  f33 := Tryz.func151.trans (congrArg some (by kernel_rfl))
  f34 := Tryz.func161.trans (congrArg some (by kernel_rfl))
  f35 := Tryz.func117.trans (congrArg some (by kernel_rfl))
  f36 := Tryz.func162.trans (congrArg some (by kernel_rfl))
  f37 := Tryz.func163.trans (congrArg some (by kernel_rfl))
  f38 := Tryz.func164.trans (congrArg some (by kernel_rfl))
  f39 := Tryz.func167.trans (congrArg some (by kernel_rfl))
  f40 := Tryz.func168.trans (congrArg some (by kernel_rfl))
  t0 := Tryz.underlying0
  a0 := Tryz.isAgg0
  z0 := Tryz.sizeOf0
  v0 := Tryz.zeroValue0
  i0 := by kernel_rfl
  t2 := Tryz.underlying2
  a2 := Tryz.isAgg2
  z2 := Tryz.sizeOf2
  v2 := Tryz.zeroValue2
  i2 := by kernel_rfl
  t3 := Tryz.underlying3
  a3 := Tryz.isAgg3
  z3 := Tryz.sizeOf3
  v3 := Tryz.zeroValue3
  i3 := by kernel_rfl
  t4 := Tryz.underlying4
  a4 := Tryz.isAgg4
  z4 := Tryz.sizeOf4
  v4 := Tryz.zeroValue4
  i4 := by kernel_rfl
  t5 := Tryz.underlying5
  a5 := Tryz.isAgg5
  z5 := Tryz.sizeOf5
  v5 := Tryz.zeroValue5
  i5 := by kernel_rfl
  t9 := Tryz.underlying9
  a9 := Tryz.isAgg9
  z9 := Tryz.sizeOf9
  v9 := Tryz.zeroValue9
  i9 := by kernel_rfl
  t20 := Tryz.underlying20
  a20 := Tryz.isAgg20
  z20 := Tryz.sizeOf20
  v20 := Tryz.zeroValue20
  i20 := by kernel_rfl
  t21 := Tryz.underlying21
  a21 := Tryz.isAgg21
  z21 := Tryz.sizeOf21
  v21 := Tryz.zeroValue21
  i21 := by kernel_rfl
  t22 := Tryz.underlying201
  a22 := Tryz.isAgg201
  z22 := Tryz.sizeOf201
  v22 := Tryz.zeroValue201
  i22 := by kernel_rfl
  t24 := Tryz.underlying104
  a24 := Tryz.isAgg104
  z24 := Tryz.sizeOf104
  v24 := Tryz.zeroValue104
  i24 := by kernel_rfl
  t25 := Tryz.underlying209
  a25 := Tryz.isAgg209
  z25 := Tryz.sizeOf209
  v25 := Tryz.zeroValue209
  i25 := by kernel_rfl
  t34 := Tryz.underlying247
  a34 := Tryz.isAgg247
  z34 := Tryz.sizeOf247
  v34 := Tryz.zeroValue247
  i34 := by kernel_rfl
  c34 := by kernel_rfl
  t36 := Tryz.underlying159
  a36 := Tryz.isAgg159
  z36 := Tryz.sizeOf159
  v36 := Tryz.zeroValue159
  i36 := by kernel_rfl
  t37 := Tryz.underlying124
  a37 := Tryz.isAgg124
  z37 := Tryz.sizeOf124
  v37 := Tryz.zeroValue124
  i37 := by kernel_rfl
  t39 := Tryz.underlying249
  a39 := Tryz.isAgg249
  z39 := Tryz.sizeOf249
  v39 := Tryz.zeroValue249
  i39 := by kernel_rfl
  t44 := Tryz.underlying258
  a44 := Tryz.isAgg258
  z44 := Tryz.sizeOf258
  v44 := Tryz.zeroValue258
  i44 := by kernel_rfl
  t47 := Tryz.underlying204
  a47 := Tryz.isAgg204
  z47 := Tryz.sizeOf204
  v47 := Tryz.zeroValue204
  i47 := by kernel_rfl
  t48 := Tryz.underlying181
  a48 := Tryz.isAgg181
  z48 := Tryz.sizeOf181
  v48 := Tryz.zeroValue181
  i48 := by kernel_rfl
  t50 := Tryz.underlying183
  a50 := Tryz.isAgg183
  z50 := Tryz.sizeOf183
  v50 := Tryz.zeroValue183
  i50 := by kernel_rfl
  t52 := Tryz.underlying228
  a52 := Tryz.isAgg228
  z52 := Tryz.sizeOf228
  v52 := Tryz.zeroValue228
  i52 := by kernel_rfl
  t55 := Tryz.underlying230
  a55 := Tryz.isAgg230
  z55 := Tryz.sizeOf230
  v55 := Tryz.zeroValue230
  i55 := by kernel_rfl
  t59 := Tryz.underlying253
  a59 := Tryz.isAgg253
  z59 := Tryz.sizeOf253
  v59 := Tryz.zeroValue253
  i59 := by kernel_rfl
  t60 := Tryz.underlying199
  a60 := Tryz.isAgg199
  z60 := Tryz.sizeOf199
  v60 := Tryz.zeroValue199
  i60 := by kernel_rfl
  t61 := Tryz.underlying254
  a61 := Tryz.isAgg254
  z61 := Tryz.sizeOf254
  t65 := Tryz.underlying259
  a65 := Tryz.isAgg259
  z65 := Tryz.sizeOf259
  v65 := Tryz.zeroValue259
  i65 := by kernel_rfl
  t66 := Tryz.underlying260
  a66 := Tryz.isAgg260
  z66 := Tryz.sizeOf260
  v66 := Tryz.zeroValue260
  i66 := by kernel_rfl
  t67 := Tryz.underlying76
  a67 := Tryz.isAgg76
  z67 := Tryz.sizeOf76
  v67 := Tryz.zeroValue76
  i67 := by kernel_rfl
  g0 := by kernel_rfl
  m0 := by kernel_rfl
  g1 := by kernel_rfl
  m1 := by kernel_rfl
  g2 := by kernel_rfl
  m2 := by kernel_rfl
  g3 := by kernel_rfl
  m3 := by kernel_rfl
  g4 := by kernel_rfl
  m4 := by kernel_rfl }
open Go.RowKit in
/-- strconv.ParseUint(s, 10, 0), AT EVERY STRING THAT SPELLS A uint64 ('Lib.parseUintB 64 s.data.toList = .ok u'): u, AND NO ERROR. (LAID: no walk: one application.) -/
theorem Tryz.strconv_ParseUint_10_at0_ok (s : ByteArray) (hmax : s.size ≤ 9223372036854775806) (u : Nat) (h : Lib.parseUintB 64 s.data.toList = .ok u) (w : World) :
    Calls Tryz.prog 131 #[.string s, .int .i64 10, .int .i64 0] w fun e w' => e = .returned (.tuple #[.int .u64 u, .nilIface]) ∧ (w' = w ∨ w' = Lib.bytesWorld w 5 s) := Any.strconv_ParseUint_10_at0_ok Tryz.laysPu14 s hmax u h w
open Go.RowKit in
/-- strconv.ParseUint(s, 10, 0), AT EVERY STRING THAT IS NO ROW OF DECIMAL DIGITS (a sign is a fault): 0, AND AN ERROR THAT IS NOT nil: a *NumError in a new block N: {Func: "ParseUint", Num: s's bytes, Err: what the variable ErrSyntax holds}. Of what was there nothing has turned. (LAID: no walk: one application.) -/
theorem Tryz.strconv_ParseUint_10_at0_syntax (s : ByteArray) (hlim : s.size ≤ 281474976710656) (h : Lib.parseUintB 64 s.data.toList = .«syntax») (ev : Value) (w : World) (hv : w.cell? ⟨6, 0, none⟩ = some ev) (hev : ev = .nilIface ∨ ∃ te pe, ev = .iface te pe) :
    Calls Tryz.prog 131 #[.string s, .int .i64 10, .int .i64 0] w fun e w' => ∃ N, e = .returned (.tuple #[.int .u64 0, .iface 249 (.pointer (some ⟨N, 0, none⟩))]) ∧ w.heap.size ≤ N ∧ w'.heap[N]? = some (.cells #[.string ⟨#[80, 97, 114, 115, 101, 85, 105, 110, 116]⟩, .string s, ev] 258 (0, 0)) ∧ Below w.heap.size w w' := Any.strconv_ParseUint_10_at0_syntax Tryz.laysPu14 s hlim h ev w hv hev
open Go.RowKit in
/-- strconv.ParseUint(s, 10, 0), AT EVERY NUMERAL THAT NO uint64 HOLDS: THE GREATEST uint64, AND AN ERROR THAT IS NOT nil: a *NumError in a new block N: {Func: "ParseUint", Num: s's bytes, Err: what the variable ErrRange holds}. Of what was there nothing has turned. (LAID: no walk: one application.) -/
theorem Tryz.strconv_ParseUint_10_at0_range (s : ByteArray) (hlim : s.size ≤ 281474976710656) (h : Lib.parseUintB 64 s.data.toList = .range) (ev : Value) (w : World) (hv : w.cell? ⟨7, 0, none⟩ = some ev) (hev : ev = .nilIface ∨ ∃ te pe, ev = .iface te pe) :
    Calls Tryz.prog 131 #[.string s, .int .i64 10, .int .i64 0] w fun e w' => ∃ N, e = .returned (.tuple #[.int .u64 18446744073709551615, .iface 249 (.pointer (some ⟨N, 0, none⟩))]) ∧ w.heap.size ≤ N ∧ w'.heap[N]? = some (.cells #[.string ⟨#[80, 97, 114, 115, 101, 85, 105, 110, 116]⟩, .string s, ev] 258 (0, 0)) ∧ Below w.heap.size w w' := Any.strconv_ParseUint_10_at0_range Tryz.laysPu14 s hlim h ev w hv hev
open Go.RowKit in
/-- strconv.ParseUint(s, 10, 64), AT EVERY STRING THAT SPELLS A uint64 ('Lib.parseUintB 64 s.data.toList = .ok u'): u, AND NO ERROR. (LAID: no walk: one application.) -/
theorem Tryz.strconv_ParseUint_10_at64_ok (s : ByteArray) (hmax : s.size ≤ 9223372036854775806) (u : Nat) (h : Lib.parseUintB 64 s.data.toList = .ok u) (w : World) :
    Calls Tryz.prog 131 #[.string s, .int .i64 10, .int .i64 64] w fun e w' => e = .returned (.tuple #[.int .u64 u, .nilIface]) ∧ (w' = w ∨ w' = Lib.bytesWorld w 5 s) := Any.strconv_ParseUint_10_at64_ok Tryz.laysPu14 s hmax u h w
open Go.RowKit in
/-- strconv.ParseUint(s, 10, 64), AT EVERY STRING THAT IS NO ROW OF DECIMAL DIGITS (a sign is a fault): 0, AND AN ERROR THAT IS NOT nil: a *NumError in a new block N: {Func: "ParseUint", Num: s's bytes, Err: what the variable ErrSyntax holds}. Of what was there nothing has turned. (LAID: no walk: one application.) -/
theorem Tryz.strconv_ParseUint_10_at64_syntax (s : ByteArray) (hlim : s.size ≤ 281474976710656) (h : Lib.parseUintB 64 s.data.toList = .«syntax») (ev : Value) (w : World) (hv : w.cell? ⟨6, 0, none⟩ = some ev) (hev : ev = .nilIface ∨ ∃ te pe, ev = .iface te pe) :
    Calls Tryz.prog 131 #[.string s, .int .i64 10, .int .i64 64] w fun e w' => ∃ N, e = .returned (.tuple #[.int .u64 0, .iface 249 (.pointer (some ⟨N, 0, none⟩))]) ∧ w.heap.size ≤ N ∧ w'.heap[N]? = some (.cells #[.string ⟨#[80, 97, 114, 115, 101, 85, 105, 110, 116]⟩, .string s, ev] 258 (0, 0)) ∧ Below w.heap.size w w' := Any.strconv_ParseUint_10_at64_syntax Tryz.laysPu14 s hlim h ev w hv hev
open Go.RowKit in
/-- strconv.ParseUint(s, 10, 64), AT EVERY NUMERAL THAT NO uint64 HOLDS: THE GREATEST uint64, AND AN ERROR THAT IS NOT nil: a *NumError in a new block N: {Func: "ParseUint", Num: s's bytes, Err: what the variable ErrRange holds}. Of what was there nothing has turned. (LAID: no walk: one application.) -/
theorem Tryz.strconv_ParseUint_10_at64_range (s : ByteArray) (hlim : s.size ≤ 281474976710656) (h : Lib.parseUintB 64 s.data.toList = .range) (ev : Value) (w : World) (hv : w.cell? ⟨7, 0, none⟩ = some ev) (hev : ev = .nilIface ∨ ∃ te pe, ev = .iface te pe) :
    Calls Tryz.prog 131 #[.string s, .int .i64 10, .int .i64 64] w fun e w' => ∃ N, e = .returned (.tuple #[.int .u64 18446744073709551615, .iface 249 (.pointer (some ⟨N, 0, none⟩))]) ∧ w.heap.size ≤ N ∧ w'.heap[N]? = some (.cells #[.string ⟨#[80, 97, 114, 115, 101, 85, 105, 110, 116]⟩, .string s, ev] 258 (0, 0)) ∧ Below w.heap.size w w' := Any.strconv_ParseUint_10_at64_range Tryz.laysPu14 s hlim h ev w hv hev
open Go.RowKit in
/-- strconv.ParseUint(s, 10, 32), AT EVERY STRING THAT SPELLS A uint32 ('Lib.parseUintB 32 s.data.toList = .ok u'): u, AND NO ERROR. (LAID: no walk: one application.) -/
theorem Tryz.strconv_ParseUint_10_at32_ok (s : ByteArray) (hmax : s.size ≤ 9223372036854775806) (u : Nat) (h : Lib.parseUintB 32 s.data.toList = .ok u) (w : World) :
    Calls Tryz.prog 131 #[.string s, .int .i64 10, .int .i64 32] w fun e w' => e = .returned (.tuple #[.int .u64 u, .nilIface]) ∧ (w' = w ∨ w' = Lib.bytesWorld w 5 s) := Any.strconv_ParseUint_10_at32_ok Tryz.laysPu14 s hmax u h w
open Go.RowKit in
/-- strconv.ParseUint(s, 10, 32), AT EVERY STRING THAT IS NO ROW OF DECIMAL DIGITS (a sign is a fault): 0, AND AN ERROR THAT IS NOT nil: a *NumError in a new block N: {Func: "ParseUint", Num: s's bytes, Err: what the variable ErrSyntax holds}. Of what was there nothing has turned. (LAID: no walk: one application.) -/
theorem Tryz.strconv_ParseUint_10_at32_syntax (s : ByteArray) (hlim : s.size ≤ 281474976710656) (h : Lib.parseUintB 32 s.data.toList = .«syntax») (ev : Value) (w : World) (hv : w.cell? ⟨6, 0, none⟩ = some ev) (hev : ev = .nilIface ∨ ∃ te pe, ev = .iface te pe) :
    Calls Tryz.prog 131 #[.string s, .int .i64 10, .int .i64 32] w fun e w' => ∃ N, e = .returned (.tuple #[.int .u64 0, .iface 249 (.pointer (some ⟨N, 0, none⟩))]) ∧ w.heap.size ≤ N ∧ w'.heap[N]? = some (.cells #[.string ⟨#[80, 97, 114, 115, 101, 85, 105, 110, 116]⟩, .string s, ev] 258 (0, 0)) ∧ Below w.heap.size w w' := Any.strconv_ParseUint_10_at32_syntax Tryz.laysPu14 s hlim h ev w hv hev
open Go.RowKit in
/-- strconv.ParseUint(s, 10, 32), AT EVERY NUMERAL THAT NO uint32 HOLDS: THE GREATEST uint32, AND AN ERROR THAT IS NOT nil: a *NumError in a new block N: {Func: "ParseUint", Num: s's bytes, Err: what the variable ErrRange holds}. Of what was there nothing has turned. (LAID: no walk: one application.) -/
theorem Tryz.strconv_ParseUint_10_at32_range (s : ByteArray) (hlim : s.size ≤ 281474976710656) (h : Lib.parseUintB 32 s.data.toList = .range) (ev : Value) (w : World) (hv : w.cell? ⟨7, 0, none⟩ = some ev) (hev : ev = .nilIface ∨ ∃ te pe, ev = .iface te pe) :
    Calls Tryz.prog 131 #[.string s, .int .i64 10, .int .i64 32] w fun e w' => ∃ N, e = .returned (.tuple #[.int .u64 4294967295, .iface 249 (.pointer (some ⟨N, 0, none⟩))]) ∧ w.heap.size ≤ N ∧ w'.heap[N]? = some (.cells #[.string ⟨#[80, 97, 114, 115, 101, 85, 105, 110, 116]⟩, .string s, ev] 258 (0, 0)) ∧ Below w.heap.size w w' := Any.strconv_ParseUint_10_at32_range Tryz.laysPu14 s hlim h ev w hv hev
open Go.RowKit in
/-- strconv.ParseUint(s, 10, 16), AT EVERY STRING THAT SPELLS A uint16 ('Lib.parseUintB 16 s.data.toList = .ok u'): u, AND NO ERROR. (LAID: no walk: one application.) -/
theorem Tryz.strconv_ParseUint_10_at16_ok (s : ByteArray) (hmax : s.size ≤ 9223372036854775806) (u : Nat) (h : Lib.parseUintB 16 s.data.toList = .ok u) (w : World) :
    Calls Tryz.prog 131 #[.string s, .int .i64 10, .int .i64 16] w fun e w' => e = .returned (.tuple #[.int .u64 u, .nilIface]) ∧ (w' = w ∨ w' = Lib.bytesWorld w 5 s) := Any.strconv_ParseUint_10_at16_ok Tryz.laysPu14 s hmax u h w
open Go.RowKit in
/-- strconv.ParseUint(s, 10, 16), AT EVERY STRING THAT IS NO ROW OF DECIMAL DIGITS (a sign is a fault): 0, AND AN ERROR THAT IS NOT nil: a *NumError in a new block N: {Func: "ParseUint", Num: s's bytes, Err: what the variable ErrSyntax holds}. Of what was there nothing has turned. (LAID: no walk: one application.) -/
theorem Tryz.strconv_ParseUint_10_at16_syntax (s : ByteArray) (hlim : s.size ≤ 281474976710656) (h : Lib.parseUintB 16 s.data.toList = .«syntax») (ev : Value) (w : World) (hv : w.cell? ⟨6, 0, none⟩ = some ev) (hev : ev = .nilIface ∨ ∃ te pe, ev = .iface te pe) :
    Calls Tryz.prog 131 #[.string s, .int .i64 10, .int .i64 16] w fun e w' => ∃ N, e = .returned (.tuple #[.int .u64 0, .iface 249 (.pointer (some ⟨N, 0, none⟩))]) ∧ w.heap.size ≤ N ∧ w'.heap[N]? = some (.cells #[.string ⟨#[80, 97, 114, 115, 101, 85, 105, 110, 116]⟩, .string s, ev] 258 (0, 0)) ∧ Below w.heap.size w w' := Any.strconv_ParseUint_10_at16_syntax Tryz.laysPu14 s hlim h ev w hv hev
open Go.RowKit in
/-- strconv.ParseUint(s, 10, 16), AT EVERY NUMERAL THAT NO uint16 HOLDS: THE GREATEST uint16, AND AN ERROR THAT IS NOT nil: a *NumError in a new block N: {Func: "ParseUint", Num: s's bytes, Err: what the variable ErrRange holds}. Of what was there nothing has turned. (LAID: no walk: one application.) -/
theorem Tryz.strconv_ParseUint_10_at16_range (s : ByteArray) (hlim : s.size ≤ 281474976710656) (h : Lib.parseUintB 16 s.data.toList = .range) (ev : Value) (w : World) (hv : w.cell? ⟨7, 0, none⟩ = some ev) (hev : ev = .nilIface ∨ ∃ te pe, ev = .iface te pe) :
    Calls Tryz.prog 131 #[.string s, .int .i64 10, .int .i64 16] w fun e w' => ∃ N, e = .returned (.tuple #[.int .u64 65535, .iface 249 (.pointer (some ⟨N, 0, none⟩))]) ∧ w.heap.size ≤ N ∧ w'.heap[N]? = some (.cells #[.string ⟨#[80, 97, 114, 115, 101, 85, 105, 110, 116]⟩, .string s, ev] 258 (0, 0)) ∧ Below w.heap.size w w' := Any.strconv_ParseUint_10_at16_range Tryz.laysPu14 s hlim h ev w hv hev
open Go.RowKit in
/-- strconv.ParseUint(s, 10, 8), AT EVERY STRING THAT SPELLS A uint8 ('Lib.parseUintB 8 s.data.toList = .ok u'): u, AND NO ERROR. (LAID: no walk: one application.) -/
theorem Tryz.strconv_ParseUint_10_at8_ok (s : ByteArray) (hmax : s.size ≤ 9223372036854775806) (u : Nat) (h : Lib.parseUintB 8 s.data.toList = .ok u) (w : World) :
    Calls Tryz.prog 131 #[.string s, .int .i64 10, .int .i64 8] w fun e w' => e = .returned (.tuple #[.int .u64 u, .nilIface]) ∧ (w' = w ∨ w' = Lib.bytesWorld w 5 s) := Any.strconv_ParseUint_10_at8_ok Tryz.laysPu14 s hmax u h w
open Go.RowKit in
/-- strconv.ParseUint(s, 10, 8), AT EVERY STRING THAT IS NO ROW OF DECIMAL DIGITS (a sign is a fault): 0, AND AN ERROR THAT IS NOT nil: a *NumError in a new block N: {Func: "ParseUint", Num: s's bytes, Err: what the variable ErrSyntax holds}. Of what was there nothing has turned. (LAID: no walk: one application.) -/
theorem Tryz.strconv_ParseUint_10_at8_syntax (s : ByteArray) (hlim : s.size ≤ 281474976710656) (h : Lib.parseUintB 8 s.data.toList = .«syntax») (ev : Value) (w : World) (hv : w.cell? ⟨6, 0, none⟩ = some ev) (hev : ev = .nilIface ∨ ∃ te pe, ev = .iface te pe) :
    Calls Tryz.prog 131 #[.string s, .int .i64 10, .int .i64 8] w fun e w' => ∃ N, e = .returned (.tuple #[.int .u64 0, .iface 249 (.pointer (some ⟨N, 0, none⟩))]) ∧ w.heap.size ≤ N ∧ w'.heap[N]? = some (.cells #[.string ⟨#[80, 97, 114, 115, 101, 85, 105, 110, 116]⟩, .string s, ev] 258 (0, 0)) ∧ Below w.heap.size w w' := Any.strconv_ParseUint_10_at8_syntax Tryz.laysPu14 s hlim h ev w hv hev
open Go.RowKit in
/-- strconv.ParseUint(s, 10, 8), AT EVERY NUMERAL THAT NO uint8 HOLDS: THE GREATEST uint8, AND AN ERROR THAT IS NOT nil: a *NumError in a new block N: {Func: "ParseUint", Num: s's bytes, Err: what the variable ErrRange holds}. Of what was there nothing has turned. (LAID: no walk: one application.) -/
theorem Tryz.strconv_ParseUint_10_at8_range (s : ByteArray) (hlim : s.size ≤ 281474976710656) (h : Lib.parseUintB 8 s.data.toList = .range) (ev : Value) (w : World) (hv : w.cell? ⟨7, 0, none⟩ = some ev) (hev : ev = .nilIface ∨ ∃ te pe, ev = .iface te pe) :
    Calls Tryz.prog 131 #[.string s, .int .i64 10, .int .i64 8] w fun e w' => ∃ N, e = .returned (.tuple #[.int .u64 255, .iface 249 (.pointer (some ⟨N, 0, none⟩))]) ∧ w.heap.size ≤ N ∧ w'.heap[N]? = some (.cells #[.string ⟨#[80, 97, 114, 115, 101, 85, 105, 110, 116]⟩, .string s, ev] 258 (0, 0)) ∧ Below w.heap.size w w' := Any.strconv_ParseUint_10_at8_range Tryz.laysPu14 s hlim h ev w hv hev
open Go.RowKit in
theorem Tryz.strconv_ParseUint_10_at0_syntax_var (s : ByteArray) (hlim : s.size ≤ 281474976710656) (h : Lib.parseUintB 64 s.data.toList = .«syntax») (tp : TypeId) (p : Value) (w : World) (hvar : w.var? Tryz.prog "strconv.ErrSyntax" = some #[.iface tp p]) :
    Calls Tryz.prog 131 #[.string s, .int .i64 10, .int .i64 0] w fun e w' => ∃ N, e = .returned (.tuple #[.int .u64 0, .iface 249 (.pointer (some ⟨N, 0, none⟩))]) ∧ w.heap.size ≤ N ∧ w'.heap[N]? = some (.cells #[.string ⟨#[80, 97, 114, 115, 101, 85, 105, 110, 116]⟩, .string s, .iface tp p] 258 (0, 0)) ∧ Below w.heap.size w w' := Any.strconv_ParseUint_10_at0_syntax_var Tryz.laysPu14 s hlim h tp p w hvar
open Go.RowKit in
theorem Tryz.strconv_ParseUint_10_at0_range_var (s : ByteArray) (hlim : s.size ≤ 281474976710656) (h : Lib.parseUintB 64 s.data.toList = .range) (tp : TypeId) (p : Value) (w : World) (hvar : w.var? Tryz.prog "strconv.ErrRange" = some #[.iface tp p]) :
    Calls Tryz.prog 131 #[.string s, .int .i64 10, .int .i64 0] w fun e w' => ∃ N, e = .returned (.tuple #[.int .u64 18446744073709551615, .iface 249 (.pointer (some ⟨N, 0, none⟩))]) ∧ w.heap.size ≤ N ∧ w'.heap[N]? = some (.cells #[.string ⟨#[80, 97, 114, 115, 101, 85, 105, 110, 116]⟩, .string s, .iface tp p] 258 (0, 0)) ∧ Below w.heap.size w w' := Any.strconv_ParseUint_10_at0_range_var Tryz.laysPu14 s hlim h tp p w hvar
open Go.RowKit in
theorem Tryz.strconv_ParseUint_10_at64_syntax_var (s : ByteArray) (hlim : s.size ≤ 281474976710656) (h : Lib.parseUintB 64 s.data.toList = .«syntax») (tp : TypeId) (p : Value) (w : World) (hvar : w.var? Tryz.prog "strconv.ErrSyntax" = some #[.iface tp p]) :
    Calls Tryz.prog 131 #[.string s, .int .i64 10, .int .i64 64] w fun e w' => ∃ N, e = .returned (.tuple #[.int .u64 0, .iface 249 (.pointer (some ⟨N, 0, none⟩))]) ∧ w.heap.size ≤ N ∧ w'.heap[N]? = some (.cells #[.string ⟨#[80, 97, 114, 115, 101, 85, 105, 110, 116]⟩, .string s, .iface tp p] 258 (0, 0)) ∧ Below w.heap.size w w' := Any.strconv_ParseUint_10_at64_syntax_var Tryz.laysPu14 s hlim h tp p w hvar
open Go.RowKit in
theorem Tryz.strconv_ParseUint_10_at64_range_var (s : ByteArray) (hlim : s.size ≤ 281474976710656) (h : Lib.parseUintB 64 s.data.toList = .range) (tp : TypeId) (p : Value) (w : World) (hvar : w.var? Tryz.prog "strconv.ErrRange" = some #[.iface tp p]) :
    Calls Tryz.prog 131 #[.string s, .int .i64 10, .int .i64 64] w fun e w' => ∃ N, e = .returned (.tuple #[.int .u64 18446744073709551615, .iface 249 (.pointer (some ⟨N, 0, none⟩))]) ∧ w.heap.size ≤ N ∧ w'.heap[N]? = some (.cells #[.string ⟨#[80, 97, 114, 115, 101, 85, 105, 110, 116]⟩, .string s, .iface tp p] 258 (0, 0)) ∧ Below w.heap.size w w' := Any.strconv_ParseUint_10_at64_range_var Tryz.laysPu14 s hlim h tp p w hvar
open Go.RowKit in
theorem Tryz.strconv_ParseUint_10_at32_syntax_var (s : ByteArray) (hlim : s.size ≤ 281474976710656) (h : Lib.parseUintB 32 s.data.toList = .«syntax») (tp : TypeId) (p : Value) (w : World) (hvar : w.var? Tryz.prog "strconv.ErrSyntax" = some #[.iface tp p]) :
    Calls Tryz.prog 131 #[.string s, .int .i64 10, .int .i64 32] w fun e w' => ∃ N, e = .returned (.tuple #[.int .u64 0, .iface 249 (.pointer (some ⟨N, 0, none⟩))]) ∧ w.heap.size ≤ N ∧ w'.heap[N]? = some (.cells #[.string ⟨#[80, 97, 114, 115, 101, 85, 105, 110, 116]⟩, .string s, .iface tp p] 258 (0, 0)) ∧ Below w.heap.size w w' := Any.strconv_ParseUint_10_at32_syntax_var Tryz.laysPu14 s hlim h tp p w hvar
open Go.RowKit in
theorem Tryz.strconv_ParseUint_10_at32_range_var (s : ByteArray) (hlim : s.size ≤ 281474976710656) (h : Lib.parseUintB 32 s.data.toList = .range) (tp : TypeId) (p : Value) (w : World) (hvar : w.var? Tryz.prog "strconv.ErrRange" = some #[.iface tp p]) :
    Calls Tryz.prog 131 #[.string s, .int .i64 10, .int .i64 32] w fun e w' => ∃ N, e = .returned (.tuple #[.int .u64 4294967295, .iface 249 (.pointer (some ⟨N, 0, none⟩))]) ∧ w.heap.size ≤ N ∧ w'.heap[N]? = some (.cells #[.string ⟨#[80, 97, 114, 115, 101, 85, 105, 110, 116]⟩, .string s, .iface tp p] 258 (0, 0)) ∧ Below w.heap.size w w' := Any.strconv_ParseUint_10_at32_range_var Tryz.laysPu14 s hlim h tp p w hvar
open Go.RowKit in
theorem Tryz.strconv_ParseUint_10_at16_syntax_var (s : ByteArray) (hlim : s.size ≤ 281474976710656) (h : Lib.parseUintB 16 s.data.toList = .«syntax») (tp : TypeId) (p : Value) (w : World) (hvar : w.var? Tryz.prog "strconv.ErrSyntax" = some #[.iface tp p]) :
    Calls Tryz.prog 131 #[.string s, .int .i64 10, .int .i64 16] w fun e w' => ∃ N, e = .returned (.tuple #[.int .u64 0, .iface 249 (.pointer (some ⟨N, 0, none⟩))]) ∧ w.heap.size ≤ N ∧ w'.heap[N]? = some (.cells #[.string ⟨#[80, 97, 114, 115, 101, 85, 105, 110, 116]⟩, .string s, .iface tp p] 258 (0, 0)) ∧ Below w.heap.size w w' := Any.strconv_ParseUint_10_at16_syntax_var Tryz.laysPu14 s hlim h tp p w hvar
open Go.RowKit in
theorem Tryz.strconv_ParseUint_10_at16_range_var (s : ByteArray) (hlim : s.size ≤ 281474976710656) (h : Lib.parseUintB 16 s.data.toList = .range) (tp : TypeId) (p : Value) (w : World) (hvar : w.var? Tryz.prog "strconv.ErrRange" = some #[.iface tp p]) :
    Calls Tryz.prog 131 #[.string s, .int .i64 10, .int .i64 16] w fun e w' => ∃ N, e = .returned (.tuple #[.int .u64 65535, .iface 249 (.pointer (some ⟨N, 0, none⟩))]) ∧ w.heap.size ≤ N ∧ w'.heap[N]? = some (.cells #[.string ⟨#[80, 97, 114, 115, 101, 85, 105, 110, 116]⟩, .string s, .iface tp p] 258 (0, 0)) ∧ Below w.heap.size w w' := Any.strconv_ParseUint_10_at16_range_var Tryz.laysPu14 s hlim h tp p w hvar
open Go.RowKit in
theorem Tryz.strconv_ParseUint_10_at8_syntax_var (s : ByteArray) (hlim : s.size ≤ 281474976710656) (h : Lib.parseUintB 8 s.data.toList = .«syntax») (tp : TypeId) (p : Value) (w : World) (hvar : w.var? Tryz.prog "strconv.ErrSyntax" = some #[.iface tp p]) :
    Calls Tryz.prog 131 #[.string s, .int .i64 10, .int .i64 8] w fun e w' => ∃ N, e = .returned (.tuple #[.int .u64 0, .iface 249 (.pointer (some ⟨N, 0, none⟩))]) ∧ w.heap.size ≤ N ∧ w'.heap[N]? = some (.cells #[.string ⟨#[80, 97, 114, 115, 101, 85, 105, 110, 116]⟩, .string s, .iface tp p] 258 (0, 0)) ∧ Below w.heap.size w w' := Any.strconv_ParseUint_10_at8_syntax_var Tryz.laysPu14 s hlim h tp p w hvar
open Go.RowKit in
theorem Tryz.strconv_ParseUint_10_at8_range_var (s : ByteArray) (hlim : s.size ≤ 281474976710656) (h : Lib.parseUintB 8 s.data.toList = .range) (tp : TypeId) (p : Value) (w : World) (hvar : w.var? Tryz.prog "strconv.ErrRange" = some #[.iface tp p]) :
    Calls Tryz.prog 131 #[.string s, .int .i64 10, .int .i64 8] w fun e w' => ∃ N, e = .returned (.tuple #[.int .u64 255, .iface 249 (.pointer (some ⟨N, 0, none⟩))]) ∧ w.heap.size ≤ N ∧ w'.heap[N]? = some (.cells #[.string ⟨#[80, 97, 114, 115, 101, 85, 105, 110, 116]⟩, .string s, .iface tp p] 258 (0, 0)) ∧ Below w.heap.size w w' := Any.strconv_ParseUint_10_at8_range_var Tryz.laysPu14 s hlim h tp p w hvar
def Tryz.lays206_ren : Go.Shelf.Ren := ⟨fun | 206 => 129 | n => n, fun | 9 => 9 | 4 => 4 | 3 => 3 | n => n, fun | n => n⟩
theorem Tryz.lays206 : Go.Proofs.Lays.n206 Tryz.prog Tryz.lays206_ren := {
  mixed := by kernel_rfl
  f206 := Tryz.func129.trans (congrArg some (by kernel_rfl))
  t3 := Tryz.underlying3
  a3 := Tryz.isAgg3
  z3 := Tryz.sizeOf3
  v3 := Tryz.zeroValue3
  t4 := Tryz.underlying4
  a4 := Tryz.isAgg4
  z4 := Tryz.sizeOf4
  v4 := Tryz.zeroValue4
  t9 := Tryz.underlying9
  a9 := Tryz.isAgg9
  z9 := Tryz.sizeOf9
  v9 := Tryz.zeroValue9 }
open Go.RowKit Go.Lib in
/-- internal/stringslite.HasPrefix (what strings.HasPrefix calls). (LAID: no walk: one application.) -/
theorem Tryz.stringslite_HasPrefix (s p : ByteArray) (w : World) :
    Calls Tryz.prog 129 #[.string s, .string p] w fun e w' => e = .returned (.bool (Lib.hasPrefix s.data.toList p.data.toList)) ∧ w' = w := Any.stringslite_HasPrefix Tryz.lays206 s p w
def Tryz.lays99_ren : Go.Shelf.Ren := ⟨fun | 99 => 103 | 206 => 129 | n => n, fun | 9 => 9 | 4 => 4 | 3 => 3 | n => n, fun | n => n⟩
theorem Tryz.lays99 : Go.Proofs.Lays.n99 Tryz.prog Tryz.lays99_ren := {
  mixed := by kernel_rfl
  f99 := Tryz.func103.trans (congrArg some (by kernel_rfl))
  f206 := Tryz.func129.trans (congrArg some (by kernel_rfl))
  t3 := Tryz.underlying3
  a3 := Tryz.isAgg3
  z3 := Tryz.sizeOf3
  v3 := Tryz.zeroValue3
  t4 := Tryz.underlying4
  a4 := Tryz.isAgg4
  z4 := Tryz.sizeOf4
  v4 := Tryz.zeroValue4
  t9 := Tryz.underlying9
  a9 := Tryz.isAgg9
  z9 := Tryz.sizeOf9
  v9 := Tryz.zeroValue9 }
open Go.RowKit Go.Lib in
/-- strings.HasPrefix: "HasPrefix reports whether the string s begins with prefix.": IT RETURNS 'Lib.hasPrefix s prefix'; the world is as it was. (LAID: no walk: one application.) -/
theorem Tryz.strings_HasPrefix (s p : ByteArray) (w : World) :
    Calls Tryz.prog 103 #[.string s, .string p] w fun e w' => e = .returned (.bool (Lib.hasPrefix s.data.toList p.data.toList)) ∧ w' = w := Any.strings_HasPrefix Tryz.lays99 s p w
def Tryz.lays199_ren : Go.Shelf.Ren := ⟨fun | 199 => 128 | 261 => 143 | 311 => 153 | 312 => 154 | n => n, fun | 21 => 21 | 4 => 4 | 51 => 199 | 141 => 221 | 0 => 0 | 196 => 239 | 193 => 236 | 3 => 3 | 198 => 242 | 49 => 240 | 194 => 237 | 201 => 245 | 226 => 255 | 46 => 159 | 227 => 256 | n => n, fun | 6 => 1 | n => n⟩
theorem Tryz.lays199 : Go.Proofs.Lays.n199 Tryz.prog Tryz.lays199_ren := {
  mixed := by kernel_rfl
  f199 := Tryz.func128.trans (congrArg some (by kernel_rfl))
  f261 := Tryz.func143.trans (congrArg some (by kernel_rfl))
  f311 := Tryz.func153.trans (congrArg some (by kernel_rfl))
  f312 := Tryz.func154.trans (congrArg some (by kernel_rfl))
  t0 := Tryz.underlying0
  a0 := Tryz.isAgg0
  z0 := Tryz.sizeOf0
  v0 := Tryz.zeroValue0
  t3 := Tryz.underlying3
  a3 := Tryz.isAgg3
  z3 := Tryz.sizeOf3
  v3 := Tryz.zeroValue3
  t4 := Tryz.underlying4
  a4 := Tryz.isAgg4
  z4 := Tryz.sizeOf4
  v4 := Tryz.zeroValue4
  t21 := Tryz.underlying21
  a21 := Tryz.isAgg21
  z21 := Tryz.sizeOf21
  v21 := Tryz.zeroValue21
  t46 := Tryz.underlying159
  a46 := Tryz.isAgg159
  z46 := Tryz.sizeOf159
  v46 := Tryz.zeroValue159
  t49 := Tryz.underlying240
  a49 := Tryz.isAgg240
  z49 := Tryz.sizeOf240
  v49 := Tryz.zeroValue240
  t51 := Tryz.underlying199
  a51 := Tryz.isAgg199
  z51 := Tryz.sizeOf199
  v51 := Tryz.zeroValue199
  t141 := Tryz.underlying221
  a141 := Tryz.isAgg221
  z141 := Tryz.sizeOf221
  v141 := Tryz.zeroValue221
  t193 := Tryz.underlying236
  a193 := Tryz.isAgg236
  z193 := Tryz.sizeOf236
  v193 := Tryz.zeroValue236
  t194 := Tryz.underlying237
  a194 := Tryz.isAgg237
  z194 := Tryz.sizeOf237
  v194 := Tryz.zeroValue237
  t196 := Tryz.underlying239
  a196 := Tryz.isAgg239
  z196 := Tryz.sizeOf239
  v196 := Tryz.zeroValue239
  t198 := Tryz.underlying242
  a198 := Tryz.isAgg242
  z198 := Tryz.sizeOf242
  v198 := Tryz.zeroValue242
  t201 := Tryz.underlying245
  a201 := Tryz.isAgg245
  z201 := Tryz.sizeOf245
  v201 := Tryz.zeroValue245
  t226 := Tryz.underlying255
  a226 := Tryz.isAgg255
  z226 := Tryz.sizeOf255
  v226 := Tryz.zeroValue255
  t227 := Tryz.underlying256
  a227 := Tryz.isAgg256
  z227 := Tryz.sizeOf256
  v227 := Tryz.zeroValue256
  g6 := by kernel_rfl }
open Go.RowKit Go.Lib in
theorem Tryz.unicode_IsSpace (r : Int) (w : World) (h0 : 0 ≤ r) (h : r ≤ 255) :
    Calls Tryz.prog 128 #[.int .i32 r] w fun e w' => e = .returned (.bool (Lib.isSpaceL r)) ∧ w' = w := Any.unicode_IsSpace Tryz.lays199 r w h0 h
def Tryz.lays197_ren : Go.Shelf.Ren := ⟨fun | 197 => 127 | 260 => 142 | n => n, fun | 9 => 9 | 21 => 21 | 3 => 3 | 4 => 4 | 5 => 5 | 105 => 154 | 119 => 208 | 0 => 0 | 46 => 159 | 139 => 235 | 138 => 234 | n => n, fun | 3 => 3 | 4 => 4 | n => n⟩
theorem Tryz.lays197 : Go.Proofs.Lays.n197 Tryz.prog Tryz.lays197_ren := {
  mixed := by kernel_rfl
  f197 := Tryz.func127.trans (congrArg some (by kernel_rfl))
  f260 := Tryz.func142.trans (congrArg some (by kernel_rfl))
  t0 := Tryz.underlying0
  a0 := Tryz.isAgg0
  z0 := Tryz.sizeOf0
  v0 := Tryz.zeroValue0
  t3 := Tryz.underlying3
  a3 := Tryz.isAgg3
  z3 := Tryz.sizeOf3
  v3 := Tryz.zeroValue3
  t4 := Tryz.underlying4
  a4 := Tryz.isAgg4
  z4 := Tryz.sizeOf4
  v4 := Tryz.zeroValue4
  t5 := Tryz.underlying5
  a5 := Tryz.isAgg5
  z5 := Tryz.sizeOf5
  v5 := Tryz.zeroValue5
  t9 := Tryz.underlying9
  a9 := Tryz.isAgg9
  z9 := Tryz.sizeOf9
  v9 := Tryz.zeroValue9
  t21 := Tryz.underlying21
  a21 := Tryz.isAgg21
  z21 := Tryz.sizeOf21
  v21 := Tryz.zeroValue21
  t46 := Tryz.underlying159
  a46 := Tryz.isAgg159
  z46 := Tryz.sizeOf159
  v46 := Tryz.zeroValue159
  t105 := Tryz.underlying154
  a105 := Tryz.isAgg154
  z105 := Tryz.sizeOf154
  v105 := Tryz.zeroValue154
  t119 := Tryz.underlying208
  a119 := Tryz.isAgg208
  z119 := Tryz.sizeOf208
  t138 := Tryz.underlying234
  a138 := Tryz.isAgg234
  z138 := Tryz.sizeOf234
  v138 := Tryz.zeroValue234
  t139 := Tryz.underlying235
  a139 := Tryz.isAgg235
  z139 := Tryz.sizeOf235
  v139 := Tryz.zeroValue235
  g3 := by kernel_rfl
  g4 := by kernel_rfl }
open Go.RowKit Go.Lib in
/-- unicode/utf8.DecodeRuneInString: "DecodeRuneInString is like DecodeRune but its input is a string.": ("DecodeRune unpacks the first UTF-8 encoding in p and returns the rune and its width in bytes."): WHERE s BEGINS WITH AN ASCII BYTE x: (x, 1). (LAID: no walk: one application.) -/
theorem Tryz.utf8_DecodeRuneInString_ascii (s : ByteArray) (x : UInt8) (w : World) (h0 : s.data.toList[0]? = some x) (hx : x.toNat < 128) :
    Calls Tryz.prog 127 #[.string s] w fun e w' => e = .returned (.tuple #[.int .i32 x.toNat, .int .i64 1]) ∧ w' = w := Any.utf8_DecodeRuneInString_ascii Tryz.lays197 s x w h0 hx
def Tryz.lays260_ren : Go.Shelf.Ren := ⟨fun | 260 => 142 | n => n, fun | 9 => 9 | 21 => 21 | 3 => 3 | 4 => 4 | 5 => 5 | 119 => 208 | 0 => 0 | 46 => 159 | 139 => 235 | 138 => 234 | n => n, fun | 3 => 3 | 4 => 4 | n => n⟩
theorem Tryz.lays260 : Go.Proofs.Lays.n260 Tryz.prog Tryz.lays260_ren := {
  mixed := by kernel_rfl
  f260 := Tryz.func142.trans (congrArg some (by kernel_rfl))
  t0 := Tryz.underlying0
  a0 := Tryz.isAgg0
  z0 := Tryz.sizeOf0
  v0 := Tryz.zeroValue0
  t3 := Tryz.underlying3
  a3 := Tryz.isAgg3
  z3 := Tryz.sizeOf3
  v3 := Tryz.zeroValue3
  t4 := Tryz.underlying4
  a4 := Tryz.isAgg4
  z4 := Tryz.sizeOf4
  v4 := Tryz.zeroValue4
  t5 := Tryz.underlying5
  a5 := Tryz.isAgg5
  z5 := Tryz.sizeOf5
  v5 := Tryz.zeroValue5
  t9 := Tryz.underlying9
  a9 := Tryz.isAgg9
  z9 := Tryz.sizeOf9
  v9 := Tryz.zeroValue9
  t21 := Tryz.underlying21
  a21 := Tryz.isAgg21
  z21 := Tryz.sizeOf21
  v21 := Tryz.zeroValue21
  t46 := Tryz.underlying159
  a46 := Tryz.isAgg159
  z46 := Tryz.sizeOf159
  v46 := Tryz.zeroValue159
  t119 := Tryz.underlying208
  a119 := Tryz.isAgg208
  z119 := Tryz.sizeOf208
  t138 := Tryz.underlying234
  a138 := Tryz.isAgg234
  z138 := Tryz.sizeOf234
  v138 := Tryz.zeroValue234
  t139 := Tryz.underlying235
  a139 := Tryz.isAgg235
  z139 := Tryz.sizeOf235
  v139 := Tryz.zeroValue235
  g3 := by kernel_rfl
  g4 := by kernel_rfl }
open Go.RowKit Go.Lib in
theorem Tryz.utf8_decodeRuneInStringSlow (s : ByteArray) (w : World) (hT : Lib.Utf8Tabs 3 4 w) :
    Calls Tryz.prog 142 #[.string s] w fun e w' => e = .returned (.tuple #[.int .i32 (Lib.decodeGo s).1, .int .i64 (Lib.decodeGo s).2]) ∧ Below w.heap.size w w' := Any.utf8_decodeRuneInStringSlow Tryz.lays260 s w hT
open Go.RowKit Go.Lib in
/-- **unicode/utf8.DecodeRuneInString AT EVERY STRING.** (LAID: no walk: one application.) -/
theorem Tryz.utf8_DecodeRuneInString (s : ByteArray) (w : World) (hT : Lib.Utf8Tabs 3 4 w) :
    Calls Tryz.prog 127 #[.string s] w fun e w' => e = .returned (.tuple #[.int .i32 (Lib.decodeGo s).1, .int .i64 (Lib.decodeGo s).2]) ∧ Below w.heap.size w w' := Any.utf8_DecodeRuneInString Tryz.lays197 s w hT
def Tryz.lays311_ren : Go.Shelf.Ren := ⟨fun | 311 => 153 | n => n, fun | 193 => 236 | 49 => 240 | 4 => 4 | 3 => 3 | 0 => 0 | 226 => 255 | 198 => 242 | 46 => 159 | n => n, fun | n => n⟩
theorem Tryz.lays311 : Go.Proofs.Lays.n311 Tryz.prog Tryz.lays311_ren := {
  mixed := by kernel_rfl
  f311 := Tryz.func153.trans (congrArg some (by kernel_rfl))
  t0 := Tryz.underlying0
  a0 := Tryz.isAgg0
  z0 := Tryz.sizeOf0
  v0 := Tryz.zeroValue0
  t3 := Tryz.underlying3
  a3 := Tryz.isAgg3
  z3 := Tryz.sizeOf3
  v3 := Tryz.zeroValue3
  t4 := Tryz.underlying4
  a4 := Tryz.isAgg4
  z4 := Tryz.sizeOf4
  v4 := Tryz.zeroValue4
  t46 := Tryz.underlying159
  a46 := Tryz.isAgg159
  z46 := Tryz.sizeOf159
  v46 := Tryz.zeroValue159
  t49 := Tryz.underlying240
  a49 := Tryz.isAgg240
  z49 := Tryz.sizeOf240
  v49 := Tryz.zeroValue240
  t193 := Tryz.underlying236
  a193 := Tryz.isAgg236
  z193 := Tryz.sizeOf236
  v193 := Tryz.zeroValue236
  t198 := Tryz.underlying242
  a198 := Tryz.isAgg242
  z198 := Tryz.sizeOf242
  v198 := Tryz.zeroValue242
  t226 := Tryz.underlying255
  a226 := Tryz.isAgg255
  z226 := Tryz.sizeOf255
  v226 := Tryz.zeroValue255 }
open Go.RowKit Go.Lib in
theorem Tryz.unicode_is16_white (R oR : Nat) (z : Nat) (w : World) (hz : z < 65536) (hz0 : 255 < z) (c6 : w.cell? ⟨R, oR + 6, none⟩ = some (.int .u16 160)) (c7 : w.cell? ⟨R, oR + 7, none⟩ = some (.int .u16 5760)) (c8 : w.cell? ⟨R, oR + 8, none⟩ = some (.int .u16 5600)) (c9 : w.cell? ⟨R, oR + 9, none⟩ = some (.int .u16 8192)) (c10 : w.cell? ⟨R, oR + 10, none⟩ = some (.int .u16 8202)) (c11 : w.cell? ⟨R, oR + 11, none⟩ = some (.int .u16 1)) (c12 : w.cell? ⟨R, oR + 12, none⟩ = some (.int .u16 8232)) (c13 : w.cell? ⟨R, oR + 13, none⟩ = some (.int .u16 8233)) (c14 : w.cell? ⟨R, oR + 14, none⟩ = some (.int .u16 1)) (c15 : w.cell? ⟨R, oR + 15, none⟩ = some (.int .u16 8239)) (c16 : w.cell? ⟨R, oR + 16, none⟩ = some (.int .u16 8287)) (c17 : w.cell? ⟨R, oR + 17, none⟩ = some (.int .u16 48)) (c18 : w.cell? ⟨R, oR + 18, none⟩ = some (.int .u16 12288)) (c19 : w.cell? ⟨R, oR + 19, none⟩ = some (.int .u16 12288)) (c20 : w.cell? ⟨R, oR + 20, none⟩ = some (.int .u16 1)) :
    Calls Tryz.prog 153 #[.slice (some ⟨R, oR + 6, none⟩) 5 5, .int .u16 z] w fun e w' => e = .returned (.bool (Lib.isSpaceR z)) ∧ Below w.heap.size w w' := Any.unicode_is16_white Tryz.lays311 R oR z w hz hz0 c6 c7 c8 c9 c10 c11 c12 c13 c14 c15 c16 c17 c18 c19 c20
def Tryz.lays261_ren : Go.Shelf.Ren := ⟨fun | 261 => 143 | 311 => 153 | 312 => 154 | n => n, fun | 141 => 221 | 21 => 21 | 4 => 4 | 0 => 0 | 196 => 239 | 193 => 236 | 3 => 3 | 51 => 199 | 198 => 242 | 49 => 240 | 194 => 237 | 201 => 245 | 226 => 255 | 46 => 159 | 227 => 256 | n => n, fun | n => n⟩
theorem Tryz.lays261 : Go.Proofs.Lays.n261 Tryz.prog Tryz.lays261_ren := {
  mixed := by kernel_rfl
  f261 := Tryz.func143.trans (congrArg some (by kernel_rfl))
  f311 := Tryz.func153.trans (congrArg some (by kernel_rfl))
  f312 := Tryz.func154.trans (congrArg some (by kernel_rfl))
  t0 := Tryz.underlying0
  a0 := Tryz.isAgg0
  z0 := Tryz.sizeOf0
  v0 := Tryz.zeroValue0
  t3 := Tryz.underlying3
  a3 := Tryz.isAgg3
  z3 := Tryz.sizeOf3
  v3 := Tryz.zeroValue3
  t4 := Tryz.underlying4
  a4 := Tryz.isAgg4
  z4 := Tryz.sizeOf4
  v4 := Tryz.zeroValue4
  t21 := Tryz.underlying21
  a21 := Tryz.isAgg21
  z21 := Tryz.sizeOf21
  v21 := Tryz.zeroValue21
  t46 := Tryz.underlying159
  a46 := Tryz.isAgg159
  z46 := Tryz.sizeOf159
  v46 := Tryz.zeroValue159
  t49 := Tryz.underlying240
  a49 := Tryz.isAgg240
  z49 := Tryz.sizeOf240
  v49 := Tryz.zeroValue240
  t51 := Tryz.underlying199
  a51 := Tryz.isAgg199
  z51 := Tryz.sizeOf199
  v51 := Tryz.zeroValue199
  t141 := Tryz.underlying221
  a141 := Tryz.isAgg221
  z141 := Tryz.sizeOf221
  v141 := Tryz.zeroValue221
  t193 := Tryz.underlying236
  a193 := Tryz.isAgg236
  z193 := Tryz.sizeOf236
  v193 := Tryz.zeroValue236
  t194 := Tryz.underlying237
  a194 := Tryz.isAgg237
  z194 := Tryz.sizeOf237
  v194 := Tryz.zeroValue237
  t196 := Tryz.underlying239
  a196 := Tryz.isAgg239
  z196 := Tryz.sizeOf239
  v196 := Tryz.zeroValue239
  t198 := Tryz.underlying242
  a198 := Tryz.isAgg242
  z198 := Tryz.sizeOf242
  v198 := Tryz.zeroValue242
  t201 := Tryz.underlying245
  a201 := Tryz.isAgg245
  z201 := Tryz.sizeOf245
  v201 := Tryz.zeroValue245
  t226 := Tryz.underlying255
  a226 := Tryz.isAgg255
  z226 := Tryz.sizeOf255
  v226 := Tryz.zeroValue255
  t227 := Tryz.underlying256
  a227 := Tryz.isAgg256
  z227 := Tryz.sizeOf256
  v227 := Tryz.zeroValue256 }
open Go.RowKit Go.Lib in
/-- unicode.isExcludingLatin(White_Space, r), r beyond U+00FF or negative. (LAID: no walk: one application.) -/
theorem Tryz.unicode_isExcludingLatin_white (T oT R oR : Nat) (r : Int) (w : World) (hlo : -2147483648 ≤ r) (hhi : r ≤ 2147483647) (hr : r < 0 ∨ 255 < r) (h2 : w.cell? ⟨T, oT, none⟩ = some (.slice (some ⟨R, oR, none⟩) 7 7)) (h3 : w.cell? ⟨T, oT + 1, none⟩ = some (.slice none 0 0)) (h4 : w.cell? ⟨T, oT + 2, none⟩ = some (.int .i64 2)) (h5 : ∀ i, i < 21 → w.cell? ⟨R, oR + i, none⟩ = some (.int .u16 (whiteT.getD i 0))) :
    Calls Tryz.prog 143 #[.pointer (some ⟨T, oT, none⟩), .int .i32 r] w fun e w' => e = .returned (.bool (Lib.isSpaceZ r)) ∧ Below w.heap.size w w' := Any.unicode_isExcludingLatin_white Tryz.lays261 T oT R oR r w hlo hhi hr h2 h3 h4 h5
open Go.RowKit Go.Lib in
/-- **unicode.IsSpace AT EVERY int32.** (LAID: no walk: one application.) -/
theorem Tryz.unicode_IsSpace_any (r : Int) (w : World) (hlo : -2147483648 ≤ r) (hhi : r ≤ 2147483647) (hW : Lib.WhiteTab 1 w) :
    Calls Tryz.prog 128 #[.int .i32 r] w fun e w' => e = .returned (.bool (Lib.isSpaceZ r)) ∧ Below w.heap.size w w' := Any.unicode_IsSpace_any Tryz.lays199 r w hlo hhi hW
open Go.RowKit Go.Lib in
theorem Tryz.unicode_is16_white_d (R oR : Nat) (z : Nat) (w : World) (hz : z < 65536) (hz0 : 255 < z) (c6 : w.cell? ⟨R, oR + 6, none⟩ = some (.int .u16 160)) (c7 : w.cell? ⟨R, oR + 7, none⟩ = some (.int .u16 5760)) (c8 : w.cell? ⟨R, oR + 8, none⟩ = some (.int .u16 5600)) (c9 : w.cell? ⟨R, oR + 9, none⟩ = some (.int .u16 8192)) (c10 : w.cell? ⟨R, oR + 10, none⟩ = some (.int .u16 8202)) (c11 : w.cell? ⟨R, oR + 11, none⟩ = some (.int .u16 1)) (c12 : w.cell? ⟨R, oR + 12, none⟩ = some (.int .u16 8232)) (c13 : w.cell? ⟨R, oR + 13, none⟩ = some (.int .u16 8233)) (c14 : w.cell? ⟨R, oR + 14, none⟩ = some (.int .u16 1)) (c15 : w.cell? ⟨R, oR + 15, none⟩ = some (.int .u16 8239)) (c16 : w.cell? ⟨R, oR + 16, none⟩ = some (.int .u16 8287)) (c17 : w.cell? ⟨R, oR + 17, none⟩ = some (.int .u16 48)) (c18 : w.cell? ⟨R, oR + 18, none⟩ = some (.int .u16 12288)) (c19 : w.cell? ⟨R, oR + 19, none⟩ = some (.int .u16 12288)) (c20 : w.cell? ⟨R, oR + 20, none⟩ = some (.int .u16 1)) :
    Calls Tryz.prog 153 #[.slice (some ⟨R, oR + 6, none⟩) 5 5, .int .u16 z] w fun e w' => e = .returned (.bool (Lib.isSpaceR z)) ∧ ∃ q, w' = w.drewN q := Any.unicode_is16_white_d Tryz.lays311 R oR z w hz hz0 c6 c7 c8 c9 c10 c11 c12 c13 c14 c15 c16 c17 c18 c19 c20
open Go.RowKit Go.Lib in
/-- unicode.isExcludingLatin(White_Space, r), r beyond U+00FF or negative. (LAID: no walk: one application.) -/
theorem Tryz.unicode_isExcludingLatin_white_d (T oT R oR : Nat) (r : Int) (w : World) (hlo : -2147483648 ≤ r) (hhi : r ≤ 2147483647) (hr : r < 0 ∨ 255 < r) (h2 : w.cell? ⟨T, oT, none⟩ = some (.slice (some ⟨R, oR, none⟩) 7 7)) (h3 : w.cell? ⟨T, oT + 1, none⟩ = some (.slice none 0 0)) (h4 : w.cell? ⟨T, oT + 2, none⟩ = some (.int .i64 2)) (h5 : ∀ i, i < 21 → w.cell? ⟨R, oR + i, none⟩ = some (.int .u16 (whiteT.getD i 0))) :
    Calls Tryz.prog 143 #[.pointer (some ⟨T, oT, none⟩), .int .i32 r] w fun e w' => e = .returned (.bool (Lib.isSpaceZ r)) ∧ ∃ q, w' = w.drewN q := Any.unicode_isExcludingLatin_white_d Tryz.lays261 T oT R oR r w hlo hhi hr h2 h3 h4 h5
open Go.RowKit Go.Lib in
/-- **unicode.IsSpace AT EVERY int32.** (LAID: no walk: one application.) -/
theorem Tryz.unicode_IsSpace_any_d (r : Int) (w : World) (hlo : -2147483648 ≤ r) (hhi : r ≤ 2147483647) (hW : Lib.WhiteTab 1 w) :
    Calls Tryz.prog 128 #[.int .i32 r] w fun e w' => e = .returned (.bool (Lib.isSpaceZ r)) ∧ ∃ q, w' = w.drewN q := Any.unicode_IsSpace_any_d Tryz.lays199 r w hlo hhi hW
open Go.RowKit Go.Lib in
theorem Tryz.unicode_is16_any (T : Array Rg) (R oR cap : Nat) (z : Nat) (w : World) (hz : z < 65536) (hT : RgTab .u16 R oR T w) (hok : RgOk 65536 T) (hn : T.size ≤ 1000000000) :
    Calls Tryz.prog 153 #[.slice (some ⟨R, oR, none⟩) T.size cap, .int .u16 z] w fun e w' => e = .returned (.bool (is16Go T z)) ∧ ∃ q, w' = w.drewN q := Any.unicode_is16_any Tryz.lays311 T R oR cap z w hz hT hok hn
def Tryz.lays312_ren : Go.Shelf.Ren := ⟨fun | 312 => 154 | n => n, fun | 194 => 237 | 51 => 199 | 4 => 4 | 3 => 3 | 0 => 0 | 227 => 256 | 201 => 245 | 46 => 159 | n => n, fun | n => n⟩
theorem Tryz.lays312 : Go.Proofs.Lays.n312 Tryz.prog Tryz.lays312_ren := {
  mixed := by kernel_rfl
  f312 := Tryz.func154.trans (congrArg some (by kernel_rfl))
  t0 := Tryz.underlying0
  a0 := Tryz.isAgg0
  z0 := Tryz.sizeOf0
  v0 := Tryz.zeroValue0
  t3 := Tryz.underlying3
  a3 := Tryz.isAgg3
  z3 := Tryz.sizeOf3
  v3 := Tryz.zeroValue3
  t4 := Tryz.underlying4
  a4 := Tryz.isAgg4
  z4 := Tryz.sizeOf4
  v4 := Tryz.zeroValue4
  t46 := Tryz.underlying159
  a46 := Tryz.isAgg159
  z46 := Tryz.sizeOf159
  v46 := Tryz.zeroValue159
  t51 := Tryz.underlying199
  a51 := Tryz.isAgg199
  z51 := Tryz.sizeOf199
  v51 := Tryz.zeroValue199
  t194 := Tryz.underlying237
  a194 := Tryz.isAgg237
  z194 := Tryz.sizeOf237
  v194 := Tryz.zeroValue237
  t201 := Tryz.underlying245
  a201 := Tryz.isAgg245
  z201 := Tryz.sizeOf245
  v201 := Tryz.zeroValue245
  t227 := Tryz.underlying256
  a227 := Tryz.isAgg256
  z227 := Tryz.sizeOf256
  v227 := Tryz.zeroValue256 }
open Go.RowKit Go.Lib in
theorem Tryz.unicode_is32_any (T : Array Rg) (R oR cap : Nat) (z : Nat) (w : World) (hz : z < 4294967296) (hT : RgTab .u32 R oR T w) (hok : RgOk 4294967296 T) (hn : T.size ≤ 1000000000) :
    Calls Tryz.prog 154 #[.slice (some ⟨R, oR, none⟩) T.size cap, .int .u32 z] w fun e w' => e = .returned (.bool (is32Go T z)) ∧ Below w.heap.size w w' := Any.unicode_is32_any Tryz.lays312 T R oR cap z w hz hT hok hn
open Go.RowKit Go.Lib in
theorem Tryz.unicode_isExcludingLatin_any (Tb oT : Nat) (T : RTab) (r : Int) (w : World) (hlo : -2147483648 ≤ r) (hhi : r ≤ 2147483647) (hA : RTabAt Tb oT T w) (hok : RTabOk T) :
    Calls Tryz.prog 143 #[.pointer (some ⟨Tb, oT, none⟩), .int .i32 r] w fun e w' => e = .returned (.bool (exclGo T r)) ∧ Below w.heap.size w w' := Any.unicode_isExcludingLatin_any Tryz.lays261 Tb oT T r w hlo hhi hA hok
def Tryz.laysNm237_ren : Go.Shelf.Ren := ⟨fun | 37 => 137 | n => n, fun | 3 => 3 | 4 => 4 | n => n, fun | n => n⟩
theorem Tryz.laysNm237 : Go.Proofs.Lays2.n37 Tryz.prog Tryz.laysNm237_ren := {
  mixed := by kernel_rfl
  f37 := Tryz.func137.trans (congrArg some (by kernel_rfl))
  t3 := Tryz.underlying3
  a3 := Tryz.isAgg3
  z3 := Tryz.sizeOf3
  v3 := Tryz.zeroValue3
  t4 := Tryz.underlying4
  a4 := Tryz.isAgg4
  z4 := Tryz.sizeOf4
  v4 := Tryz.zeroValue4 }
open Go.RowKit Go.Lib in
/-- cmp.isNaN[int]: 'x != x': false. (LAID: no walk: one application.) -/
theorem Tryz.cmp_isNaN_int2 (x : Int) (w : World) :
    Calls Tryz.prog 137 #[.int .i64 x] w fun e w' => e = .returned (.bool false) ∧ w' = w := Any.cmp_isNaN_int2 Tryz.laysNm237 x w
def Tryz.laysNm231_ren : Go.Shelf.Ren := ⟨fun | 31 => 113 | 37 => 137 | n => n, fun | 3 => 3 | 4 => 4 | n => n, fun | n => n⟩
theorem Tryz.laysNm231 : Go.Proofs.Lays2.n31 Tryz.prog Tryz.laysNm231_ren := {
  mixed := by kernel_rfl
  f31 := Tryz.func113.trans (congrArg some (by kernel_rfl))
  f37 := Tryz.func137.trans (congrArg some (by kernel_rfl))
  t3 := Tryz.underlying3
  a3 := Tryz.isAgg3
  z3 := Tryz.sizeOf3
  v3 := Tryz.zeroValue3
  t4 := Tryz.underlying4
  a4 := Tryz.isAgg4
  z4 := Tryz.sizeOf4
  v4 := Tryz.zeroValue4 }
open Go.RowKit Go.Lib in
/-- cmp.Less[int]: "Less reports whether x is less than y.": 'x < y'; the world is as it was. (LAID: no walk: one application.) -/
theorem Tryz.cmp_Less_int2 (x y : Int) (w : World) :
    Calls Tryz.prog 113 #[.int .i64 x, .int .i64 y] w fun e w' => e = .returned (.bool (decide (x < y))) ∧ w' = w := Any.cmp_Less_int2 Tryz.laysNm231 x y w
end Go.Proofs
