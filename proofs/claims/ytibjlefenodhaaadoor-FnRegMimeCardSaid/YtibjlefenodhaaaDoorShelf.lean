/-
  DERIVED: THE SHELF's CONTRACTS AT THIS DUMP, IN PLAIN WORDS (tools/lay-plain.mjs out of 'TrydShelf.lean', which tools/lay-shelf.mjs wrote): THE SAME DECLARATIONS UNDER THE SAME NAMES: 'import', 'namespace', 'open', 'def', 'theorem' AND NOTHING ELSE: no command of the shelf's: FOR A HAND-IN. Each laying: the table of numbers ('.._ren') and one theorem, a field a fact of the dump's own or the kernel's comparison; each contract: ONE APPLICATION.
-/
import Derived.Shelf.Strings.Builder1
import Derived.Shelf.Strings.Builder2
import Derived.Shelf.Strings.OnBuilder
import Derived.Shelf.Small.Utf8
import Derived.Shelf.Small.Bits
import Derived.Shelf.Strconv.Itoa0
import Derived.Shelf.Sort.Plain
import Derived.Ground.GgtProg
import Derived.Shelf.GgSortMore.Iface
import Derived.Shelf.GgSortMore.IfaceD
import Derived.Shelf.GgSortMore.IfacePart
import Derived.Shelf.GgSortMore.IfacePdq
import Derived.Shelf.GgSortMore.SortSort
import Derived.Shelf.Unicode.Latin
import Derived.Shelf.Unicode.DecodeSlow
import Derived.Shelf.Unicode.CaseLookup
import Derived.Shelf.Unicode.CaseConvert
import Derived.Shelf.Unicode.CaseTo
import Derived.Shelf.Unicode.CaseLaid
import Derived.Ground.Names2Prog
import Derived.Shelf.Slices.Clone
import Derived.Shelf.Slices.In.SortNone
import Derived.Shelf.Slices.In.SortNone2
import Derived.Ground.GgsProg
import Derived.Shelf.SlSortFunc.Xorshift
import Derived.Shelf.SlSortIface.SiftDown
import Derived.Shelf.SlSortIface.HeapSort
import Derived.Shelf.SlSortIface.PartialInsertion
import Derived.Test.YtibjlefenodhaaaDoorProg
namespace Go.Proofs
open Go.Shelf
def Tryd.lays170_ren : Go.Shelf.Ren := ⟨fun | 170 => 119 | n => n, fun | 70 => 77 | 3 => 3 | 0 => 0 | 72 => 79 | 37 => 48 | 5 => 5 | n => n, fun | n => n⟩
theorem Tryd.lays170 : Go.Proofs.Lays.n170 Tryd.prog Tryd.lays170_ren := {
  mixed := by kernel_rfl
  f170 := Tryd.func119.trans (congrArg some (by kernel_rfl))
  t0 := Tryd.underlying0
  a0 := Tryd.isAgg0
  z0 := Tryd.sizeOf0
  v0 := Tryd.zeroValue0
  t3 := Tryd.underlying3
  a3 := Tryd.isAgg3
  z3 := Tryd.sizeOf3
  v3 := Tryd.zeroValue3
  t37 := Tryd.underlying48
  a37 := Tryd.isAgg48
  z37 := Tryd.sizeOf48
  v37 := Tryd.zeroValue48
  t70 := Tryd.underlying77
  a70 := Tryd.isAgg77
  z70 := Tryd.sizeOf77
  v70 := Tryd.zeroValue77
  t72 := Tryd.underlying79
  a72 := Tryd.isAgg79
  z72 := Tryd.sizeOf79
  v72 := Tryd.zeroValue79 }
open Go.RowKit in
/-- (*strings.Builder).Len: "Len returns the number of accumulated bytes; b.Len() == len(b.String()).": the world is as it was. (LAID: no walk: one application.) -/
theorem Tryd.Builder_Len (B b : Nat) (bs : List Value) (w : World) (h : Lib.IsBuilder 79 5 B b bs w) :
    Calls Tryd.prog 119 #[.pointer (some ⟨b, 0, none⟩)] w fun e w' => e = .returned (.int .i64 bs.length) ∧ w' = w := Any.Builder_Len Tryd.lays170 B b bs w h
def Tryd.lays169_ren : Go.Shelf.Ren := ⟨fun | 169 => 38 | n => n, fun | 70 => 77 | 9 => 9 | 0 => 0 | 72 => 79 | 37 => 48 | 127 => 95 | 3 => 3 | 5 => 5 | n => n, fun | n => n⟩
theorem Tryd.lays169 : Go.Proofs.Lays.n169 Tryd.prog Tryd.lays169_ren := {
  mixed := by kernel_rfl
  f169 := Tryd.func38.trans (congrArg some (by kernel_rfl))
  t0 := Tryd.underlying0
  a0 := Tryd.isAgg0
  z0 := Tryd.sizeOf0
  v0 := Tryd.zeroValue0
  t3 := Tryd.underlying3
  a3 := Tryd.isAgg3
  z3 := Tryd.sizeOf3
  v3 := Tryd.zeroValue3
  t9 := Tryd.underlying9
  a9 := Tryd.isAgg9
  z9 := Tryd.sizeOf9
  v9 := Tryd.zeroValue9
  t37 := Tryd.underlying48
  a37 := Tryd.isAgg48
  z37 := Tryd.sizeOf48
  v37 := Tryd.zeroValue48
  t70 := Tryd.underlying77
  a70 := Tryd.isAgg77
  z70 := Tryd.sizeOf77
  v70 := Tryd.zeroValue77
  t72 := Tryd.underlying79
  a72 := Tryd.isAgg79
  z72 := Tryd.sizeOf79
  v72 := Tryd.zeroValue79
  t127 := Tryd.underlying95
  a127 := Tryd.isAgg95
  z127 := Tryd.sizeOf95
  v127 := Tryd.zeroValue95 }
theorem Tryd.Builder_Extra_169 : Builder.Extra Tryd.prog Tryd.lays169_ren := {
  sizeBuilder := by kernel_rfl
  liesBuilder := by kernel_rfl
  t5 := Tryd.underlying5
  a5 := Tryd.isAgg5
  z5 := Tryd.sizeOf5
  v5 := Tryd.zeroValue5
  infoByte := by kernel_rfl
  cellsByte := by kernel_rfl
  sizeByte := by kernel_rfl
  neB5 := by decide }
open Go.RowKit in
/-- (*strings.Builder).String: "String returns the accumulated string.": OF A BUILDER THAT HOLDS AT LEAST ONE BYTE. ✋ THE MODEL FREEZES THOSE BYTES IN THE BUFFER (unsafe.String): a later write INTO them ends the model's run without an answer; a later append BEHIND them goes on. The statement's order of evaluation is drawn: one draw. (LAID: no walk: one application.) -/
theorem Tryd.Builder_String (B b : Nat) (l : List UInt8) (w : World) (h : Lib.IsBuilder 79 5 B b (Lib.byteCells l) w) (h0 : l ≠ []) :
    Calls Tryd.prog 38 #[.pointer (some ⟨b, 0, none⟩)] w fun e w' => e = .returned (.string ⟨l.toArray⟩) ∧ Below B w w' := Any.Builder_String Tryd.lays169 Tryd.Builder_Extra_169 B b l w h h0
open Go.RowKit in
/-- (*strings.Builder).String OF A BUILDER THAT HOLDS NO BYTE: the empty string. (Its buffer is nil, or a row of which it has taken nothing yet; where that row has NO capacity the model lays one new block for unsafe.SliceData's 'some address'.) One draw. (LAID: no walk: one application.) -/
theorem Tryd.Builder_String_empty (B b : Nat) (w : World) (h : Lib.IsBuilder 79 5 B b [] w) (hBw : B ≤ w.heap.size) :
    Calls Tryd.prog 38 #[.pointer (some ⟨b, 0, none⟩)] w fun e w' => e = .returned (.string ⟨#[]⟩) ∧ Below B w w' := Any.Builder_String_empty Tryd.lays169 Tryd.Builder_Extra_169 B b w h hBw
open Go.RowKit in
/-- (*strings.Builder).String: "String returns the accumulated string.": WHATEVER THE BUILDER HOLDS. (LAID: no walk: one application.) -/
theorem Tryd.Builder_String_any (B b : Nat) (l : List UInt8) (w : World) (h : Lib.IsBuilder 79 5 B b (Lib.byteCells l) w) (hBw : B ≤ w.heap.size) :
    Calls Tryd.prog 38 #[.pointer (some ⟨b, 0, none⟩)] w fun e w' => e = .returned (.string ⟨l.toArray⟩) ∧ Below B w w' := Any.Builder_String_any Tryd.lays169 Tryd.Builder_Extra_169 B b l w h hBw
def Tryd.lays241_ren : Go.Shelf.Ren := ⟨fun | 241 => 45 | 277 => 63 | n => n, fun | 70 => 77 | 3 => 3 | 0 => 0 | 72 => 79 | 37 => 48 | 5 => 5 | n => n, fun | n => n⟩
theorem Tryd.lays241 : Go.Proofs.Lays.n241 Tryd.prog Tryd.lays241_ren := {
  mixed := by kernel_rfl
  f241 := Tryd.func45.trans (congrArg some (by kernel_rfl))
  f277 := Tryd.func63.trans (congrArg some (by kernel_rfl))
  t0 := Tryd.underlying0
  a0 := Tryd.isAgg0
  z0 := Tryd.sizeOf0
  v0 := Tryd.zeroValue0
  t3 := Tryd.underlying3
  a3 := Tryd.isAgg3
  z3 := Tryd.sizeOf3
  v3 := Tryd.zeroValue3
  t37 := Tryd.underlying48
  a37 := Tryd.isAgg48
  z37 := Tryd.sizeOf48
  v37 := Tryd.zeroValue48
  t70 := Tryd.underlying77
  a70 := Tryd.isAgg77
  z70 := Tryd.sizeOf77
  v70 := Tryd.zeroValue77
  t72 := Tryd.underlying79
  a72 := Tryd.isAgg79
  z72 := Tryd.sizeOf79
  v72 := Tryd.zeroValue79 }
theorem Tryd.Builder_Extra_241 : Builder.Extra Tryd.prog Tryd.lays241_ren := {
  sizeBuilder := by kernel_rfl
  liesBuilder := by kernel_rfl
  t5 := Tryd.underlying5
  a5 := Tryd.isAgg5
  z5 := Tryd.sizeOf5
  v5 := Tryd.zeroValue5
  infoByte := by kernel_rfl
  cellsByte := by kernel_rfl
  sizeByte := by kernel_rfl
  neB5 := by decide }
open Go.RowKit in
/-- (*strings.Builder).grow (no doc but "grow copies the buffer to a new, larger buffer so that there are at least n bytes of capacity beyond len(b.buf)."): AT A BUILDER WITHOUT A BUFFER: a new row of whatever bytes for its buffer, none of them its own yet. Three draws. (LAID: no walk: one application.) -/
theorem Tryd.Builder_grow_fresh (B b n : Nat) (w : World) (hB : B ≤ b) (hbk : w.heap[b]? = some (.cells #[.pointer (some ⟨b, 0, none⟩), .slice none 0 0] 79 (0, 0))) (hBw : B ≤ w.heap.size) (hn : n ≤ 281474976710656) :
    Calls Tryd.prog 45 #[.pointer (some ⟨b, 0, none⟩), .int .i64 n] w fun e w' => e = .returned (.tuple #[]) ∧ (Lib.BuilderAt 79 5 B b (.pointer (some ⟨b, 0, none⟩)) [] w' ∧ Below B w w') := Any.Builder_grow_fresh Tryd.lays241 Tryd.Builder_Extra_241 B b n w hB hbk hBw hn
def Tryd.lays165_ren : Go.Shelf.Ren := ⟨fun | 165 => 35 | 240 => 44 | 241 => 45 | 276 => 62 | 277 => 63 | n => n, fun | 70 => 77 | 3 => 3 | 0 => 0 | 4 => 4 | 9 => 9 | 20 => 20 | 72 => 79 | 37 => 48 | 164 => 114 | 5 => 5 | n => n, fun | n => n⟩
theorem Tryd.lays165 : Go.Proofs.Lays.n165 Tryd.prog Tryd.lays165_ren := {
  mixed := by kernel_rfl
  f165 := Tryd.func35.trans (congrArg some (by kernel_rfl))
  f240 := Tryd.func44.trans (congrArg some (by kernel_rfl))
  f241 := Tryd.func45.trans (congrArg some (by kernel_rfl))
  f276 := Tryd.func62.trans (congrArg some (by kernel_rfl))
  f277 := Tryd.func63.trans (congrArg some (by kernel_rfl))
  t0 := Tryd.underlying0
  a0 := Tryd.isAgg0
  z0 := Tryd.sizeOf0
  v0 := Tryd.zeroValue0
  t3 := Tryd.underlying3
  a3 := Tryd.isAgg3
  z3 := Tryd.sizeOf3
  v3 := Tryd.zeroValue3
  t4 := Tryd.underlying4
  a4 := Tryd.isAgg4
  z4 := Tryd.sizeOf4
  v4 := Tryd.zeroValue4
  t9 := Tryd.underlying9
  a9 := Tryd.isAgg9
  z9 := Tryd.sizeOf9
  v9 := Tryd.zeroValue9
  t20 := Tryd.underlying20
  a20 := Tryd.isAgg20
  z20 := Tryd.sizeOf20
  v20 := Tryd.zeroValue20
  t37 := Tryd.underlying48
  a37 := Tryd.isAgg48
  z37 := Tryd.sizeOf48
  v37 := Tryd.zeroValue48
  t70 := Tryd.underlying77
  a70 := Tryd.isAgg77
  z70 := Tryd.sizeOf77
  v70 := Tryd.zeroValue77
  t72 := Tryd.underlying79
  a72 := Tryd.isAgg79
  z72 := Tryd.sizeOf79
  v72 := Tryd.zeroValue79
  t164 := Tryd.underlying114
  a164 := Tryd.isAgg114
  z164 := Tryd.sizeOf114
  v164 := Tryd.zeroValue114 }
theorem Tryd.Builder_Extra_165 : Builder.Extra Tryd.prog Tryd.lays165_ren := {
  sizeBuilder := by kernel_rfl
  liesBuilder := by kernel_rfl
  t5 := Tryd.underlying5
  a5 := Tryd.isAgg5
  z5 := Tryd.sizeOf5
  v5 := Tryd.zeroValue5
  infoByte := by kernel_rfl
  cellsByte := by kernel_rfl
  sizeByte := by kernel_rfl
  neB5 := by decide }
open Go.RowKit in
/-- (*strings.Builder).Grow AT A BUILDER THAT HAS NOT BEEN WRITTEN ('var b strings.Builder; b.Grow(n)'): "Grow grows b's capacity, if necessary, to guarantee space for another n bytes.": it holds no byte behind it as before it. (LAID: no walk: one application.) -/
theorem Tryd.Builder_Grow_fresh (B b n : Nat) (w : World) (hB : B ≤ b) (hbk : w.heap[b]? = some (.cells #[.pointer none, .slice none 0 0] 79 (0, 0))) (hBw : B ≤ w.heap.size) (hn : n ≤ 281474976710656) :
    Calls Tryd.prog 35 #[.pointer (some ⟨b, 0, none⟩), .int .i64 n] w fun e w' => e = .returned (.tuple #[]) ∧ (Lib.BuilderAt 79 5 B b (.pointer (some ⟨b, 0, none⟩)) [] w' ∧ Below B w w') := Any.Builder_Grow_fresh Tryd.lays165 Tryd.Builder_Extra_165 B b n w hB hbk hBw hn
def Tryd.lays159_ren : Go.Shelf.Ren := ⟨fun | 159 => 31 | 165 => 35 | 166 => 36 | 167 => 37 | 169 => 38 | 230 => 39 | 204 => 40 | 240 => 44 | 241 => 45 | 197 => 46 | 118 => 47 | 168 => 48 | 270 => 49 | 262 => 50 | 276 => 62 | 277 => 63 | 260 => 64 | 242 => 65 | 313 => 66 | 278 => 81 | 274 => 82 | 275 => 83 | n => n, fun | 9 => 9 | 4 => 4 | 3 => 3 | 5 => 5 | 72 => 79 | 0 => 0 | 76 => 83 | 75 => 82 | 107 => 88 | 70 => 77 | 20 => 20 | 37 => 48 | 127 => 95 | 21 => 21 | 105 => 96 | 164 => 114 | 162 => 120 | 203 => 118 | 119 => 136 | 46 => 93 | 139 => 139 | 138 => 138 | 51 => 103 | 160 => 140 | 208 => 152 | 206 => 150 | 80 => 86 | n => n, fun | 13 => 1 | 3 => 3 | 4 => 4 | n => n⟩
theorem Tryd.lays159 : Go.Proofs.Lays.n159 Tryd.prog Tryd.lays159_ren := {
  mixed := by kernel_rfl
  f118 := Tryd.func47.trans (congrArg some (by kernel_rfl))
  f159 := Tryd.func31.trans (congrArg some (by kernel_rfl))
  f165 := Tryd.func35.trans (congrArg some (by kernel_rfl))
  f166 := Tryd.func36.trans (congrArg some (by kernel_rfl))
  f167 := Tryd.func37.trans (congrArg some (by kernel_rfl))
  f168 := Tryd.func48.trans (congrArg some (by kernel_rfl))
  f169 := Tryd.func38.trans (congrArg some (by kernel_rfl))
  f197 := Tryd.func46.trans (congrArg some (by kernel_rfl))
  f204 := Tryd.func40.trans (congrArg some (by kernel_rfl))
  f230 := Tryd.func39.trans (congrArg some (by kernel_rfl))
  f240 := Tryd.func44.trans (congrArg some (by kernel_rfl))
  f241 := Tryd.func45.trans (congrArg some (by kernel_rfl))
  f242 := Tryd.func65.trans (congrArg some (by kernel_rfl))
  f260 := Tryd.func64.trans (congrArg some (by kernel_rfl))
  f262 := Tryd.func50.trans (congrArg some (by kernel_rfl))
  f270 := Tryd.func49.trans (congrArg some (by kernel_rfl))
  f274 := Tryd.func82.trans (congrArg some (by kernel_rfl))
  f275 := Tryd.func83.trans (congrArg some (by kernel_rfl))
  f276 := Tryd.func62.trans (congrArg some (by kernel_rfl))
  f277 := Tryd.func63.trans (congrArg some (by kernel_rfl))
  f278 := Tryd.func81.trans (congrArg some (by kernel_rfl))
  f313 := Tryd.func66.trans (congrArg some (by kernel_rfl))
  t0 := Tryd.underlying0
  a0 := Tryd.isAgg0
  z0 := Tryd.sizeOf0
  v0 := Tryd.zeroValue0
  t3 := Tryd.underlying3
  a3 := Tryd.isAgg3
  z3 := Tryd.sizeOf3
  v3 := Tryd.zeroValue3
  t4 := Tryd.underlying4
  a4 := Tryd.isAgg4
  z4 := Tryd.sizeOf4
  v4 := Tryd.zeroValue4
  t5 := Tryd.underlying5
  a5 := Tryd.isAgg5
  z5 := Tryd.sizeOf5
  v5 := Tryd.zeroValue5
  t9 := Tryd.underlying9
  a9 := Tryd.isAgg9
  z9 := Tryd.sizeOf9
  v9 := Tryd.zeroValue9
  t20 := Tryd.underlying20
  a20 := Tryd.isAgg20
  z20 := Tryd.sizeOf20
  v20 := Tryd.zeroValue20
  t21 := Tryd.underlying21
  a21 := Tryd.isAgg21
  z21 := Tryd.sizeOf21
  v21 := Tryd.zeroValue21
  t37 := Tryd.underlying48
  a37 := Tryd.isAgg48
  z37 := Tryd.sizeOf48
  v37 := Tryd.zeroValue48
  t46 := Tryd.underlying93
  a46 := Tryd.isAgg93
  z46 := Tryd.sizeOf93
  v46 := Tryd.zeroValue93
  t51 := Tryd.underlying103
  a51 := Tryd.isAgg103
  z51 := Tryd.sizeOf103
  v51 := Tryd.zeroValue103
  t70 := Tryd.underlying77
  a70 := Tryd.isAgg77
  z70 := Tryd.sizeOf77
  v70 := Tryd.zeroValue77
  t72 := Tryd.underlying79
  a72 := Tryd.isAgg79
  z72 := Tryd.sizeOf79
  v72 := Tryd.zeroValue79
  t75 := Tryd.underlying82
  a75 := Tryd.isAgg82
  z75 := Tryd.sizeOf82
  v75 := Tryd.zeroValue82
  t76 := Tryd.underlying83
  a76 := Tryd.isAgg83
  z76 := Tryd.sizeOf83
  v76 := Tryd.zeroValue83
  t105 := Tryd.underlying96
  a105 := Tryd.isAgg96
  z105 := Tryd.sizeOf96
  v105 := Tryd.zeroValue96
  t107 := Tryd.underlying88
  a107 := Tryd.isAgg88
  z107 := Tryd.sizeOf88
  v107 := Tryd.zeroValue88
  t119 := Tryd.underlying136
  a119 := Tryd.isAgg136
  z119 := Tryd.sizeOf136
  t127 := Tryd.underlying95
  a127 := Tryd.isAgg95
  z127 := Tryd.sizeOf95
  v127 := Tryd.zeroValue95
  t138 := Tryd.underlying138
  a138 := Tryd.isAgg138
  z138 := Tryd.sizeOf138
  v138 := Tryd.zeroValue138
  t139 := Tryd.underlying139
  a139 := Tryd.isAgg139
  z139 := Tryd.sizeOf139
  v139 := Tryd.zeroValue139
  t160 := Tryd.underlying140
  a160 := Tryd.isAgg140
  z160 := Tryd.sizeOf140
  v160 := Tryd.zeroValue140
  t162 := Tryd.underlying120
  a162 := Tryd.isAgg120
  z162 := Tryd.sizeOf120
  v162 := Tryd.zeroValue120
  t164 := Tryd.underlying114
  a164 := Tryd.isAgg114
  z164 := Tryd.sizeOf114
  v164 := Tryd.zeroValue114
  t203 := Tryd.underlying118
  a203 := Tryd.isAgg118
  z203 := Tryd.sizeOf118
  v203 := Tryd.zeroValue118
  t206 := Tryd.underlying150
  a206 := Tryd.isAgg150
  z206 := Tryd.sizeOf150
  v206 := Tryd.zeroValue150
  t208 := Tryd.underlying152
  a208 := Tryd.isAgg152
  z208 := Tryd.sizeOf152
  v208 := Tryd.zeroValue152
  g3 := by kernel_rfl
  g4 := by kernel_rfl
  g13 := by kernel_rfl }
theorem Tryd.Builder_Extra_159 : Builder.Extra Tryd.prog Tryd.lays159_ren := {
  sizeBuilder := by kernel_rfl
  liesBuilder := by kernel_rfl
  t5 := Tryd.underlying5
  a5 := Tryd.isAgg5
  z5 := Tryd.sizeOf5
  v5 := Tryd.zeroValue5
  infoByte := by kernel_rfl
  cellsByte := by kernel_rfl
  sizeByte := by kernel_rfl
  neB5 := by decide }
open Go.RowKit in
/-- strings.ToLower: "ToLower returns s with all Unicode letters mapped to their lower case.": ON ASCII TEXT OF AT MOST 2^47 BYTES. Below the heap's end the world is as it was: where a letter turns, the call makes a builder and its buffer. (LAID: no walk: one application.) -/
theorem Tryd.strings_ToLower_ascii (s : ByteArray) (w : World) (hs : s.size ≤ 140737488355328) (hascii : ∀ (j : Nat) (b : UInt8), s.data.toList[j]? = some b → b.toNat < 128) :
    Calls Tryd.prog 31 #[.string s] w fun e w' => e = .returned (.string ⟨(Lib.toLowerA s.data.toList).toArray⟩) ∧ Below w.heap.size w w' := Any.strings_ToLower_ascii Tryd.lays159 Tryd.Builder_Extra_159 s w hs hascii
def Tryd.lays118_ren : Go.Shelf.Ren := ⟨fun | 118 => 47 | n => n, fun | 21 => 21 | 3 => 3 | 4 => 4 | n => n, fun | n => n⟩
theorem Tryd.lays118 : Go.Proofs.Lays.n118 Tryd.prog Tryd.lays118_ren := {
  mixed := by kernel_rfl
  f118 := Tryd.func47.trans (congrArg some (by kernel_rfl))
  t3 := Tryd.underlying3
  a3 := Tryd.isAgg3
  z3 := Tryd.sizeOf3
  v3 := Tryd.zeroValue3
  t4 := Tryd.underlying4
  a4 := Tryd.isAgg4
  z4 := Tryd.sizeOf4
  v4 := Tryd.zeroValue4
  t21 := Tryd.underlying21
  a21 := Tryd.isAgg21
  z21 := Tryd.sizeOf21
  v21 := Tryd.zeroValue21 }
/-- utf8.RuneLen: "RuneLen returns the number of bytes in the UTF-8 encoding of the rune. It returns -1 if the rune is not a valid value to encode in UTF-8.": IT RETURNS 'Lib.runeLen r'; the world is as it was. (LAID: no walk: one application.) -/
theorem Tryd.utf8_RuneLen (r : Int) (w : World) :
    Calls Tryd.prog 47 #[.int .i32 r] w fun e w' => e = .returned (.int .i64 (Lib.runeLen r)) ∧ w' = w := Any.utf8_RuneLen Tryd.lays118 r w
def Tryd.lays128_ren : Go.Shelf.Ren := ⟨fun | 128 => 52 | n => n, fun | 51 => 103 | 3 => 3 | 4 => 4 | 46 => 93 | 5 => 5 | 9 => 9 | n => n, fun | n => n⟩
theorem Tryd.lays128 : Go.Proofs.Lays.n128 Tryd.prog Tryd.lays128_ren := {
  mixed := by kernel_rfl
  f128 := Tryd.func52.trans (congrArg some (by kernel_rfl))
  t3 := Tryd.underlying3
  a3 := Tryd.isAgg3
  z3 := Tryd.sizeOf3
  v3 := Tryd.zeroValue3
  t4 := Tryd.underlying4
  a4 := Tryd.isAgg4
  z4 := Tryd.sizeOf4
  v4 := Tryd.zeroValue4
  t5 := Tryd.underlying5
  a5 := Tryd.isAgg5
  z5 := Tryd.sizeOf5
  v5 := Tryd.zeroValue5
  t9 := Tryd.underlying9
  a9 := Tryd.isAgg9
  z9 := Tryd.sizeOf9
  v9 := Tryd.zeroValue9
  t46 := Tryd.underlying93
  a46 := Tryd.isAgg93
  z46 := Tryd.sizeOf93
  v46 := Tryd.zeroValue93
  t51 := Tryd.underlying103
  a51 := Tryd.isAgg103
  z51 := Tryd.sizeOf103
  v51 := Tryd.zeroValue103 }
/-- bits.Len32: "Len32 returns the minimum number of bits required to represent x; the result is 0 for x == 0.": IT RETURNS 'Lib.bitLen x'; the world is as it was. ('h0', 'h1': x is a uint32.) (LAID: no walk: one application.) -/
theorem Tryd.bits_Len32 (x : Int) (w : World) (h0 : 0 ≤ x) (h1 : x ≤ 4294967295) :
    Calls Tryd.prog 52 #[.int .u32 x] w fun e w' => e = .returned (.int .i64 (Lib.bitLen x.toNat)) ∧ w' = w := Any.bits_Len32 Tryd.lays128 x w h0 h1
def Tryd.lays125_ren : Go.Shelf.Ren := ⟨fun | 125 => 42 | 128 => 52 | 129 => 53 | n => n, fun | 46 => 93 | 3 => 3 | 51 => 103 | 53 => 26 | 4 => 4 | 5 => 5 | 9 => 9 | n => n, fun | n => n⟩
theorem Tryd.lays125 : Go.Proofs.Lays.n125 Tryd.prog Tryd.lays125_ren := {
  mixed := by kernel_rfl
  f125 := Tryd.func42.trans (congrArg some (by kernel_rfl))
  f128 := Tryd.func52.trans (congrArg some (by kernel_rfl))
  f129 := Tryd.func53.trans (congrArg some (by kernel_rfl))
  t3 := Tryd.underlying3
  a3 := Tryd.isAgg3
  z3 := Tryd.sizeOf3
  v3 := Tryd.zeroValue3
  t4 := Tryd.underlying4
  a4 := Tryd.isAgg4
  z4 := Tryd.sizeOf4
  v4 := Tryd.zeroValue4
  t5 := Tryd.underlying5
  a5 := Tryd.isAgg5
  z5 := Tryd.sizeOf5
  v5 := Tryd.zeroValue5
  t9 := Tryd.underlying9
  a9 := Tryd.isAgg9
  z9 := Tryd.sizeOf9
  v9 := Tryd.zeroValue9
  t46 := Tryd.underlying93
  a46 := Tryd.isAgg93
  z46 := Tryd.sizeOf93
  v46 := Tryd.zeroValue93
  t51 := Tryd.underlying103
  a51 := Tryd.isAgg103
  z51 := Tryd.sizeOf103
  v51 := Tryd.zeroValue103
  t53 := Tryd.underlying26
  a53 := Tryd.isAgg26
  z53 := Tryd.sizeOf26
  v53 := Tryd.zeroValue26 }
/-- bits.Len: "Len returns the minimum number of bits required to represent x; the result is 0 for x == 0.": IT RETURNS 'Lib.bitLen x'; the world is as it was. (A uint has 64 bits in the model.) ITS CALLEE bits.Len64 IS MET BY ITS OWN CONTRACT OFF THE SHELF (lay that first). (LAID: no walk: one application.) -/
theorem Tryd.bits_Len (x : Int) (w : World) (h0 : 0 ≤ x) (h1 : x ≤ 18446744073709551615) :
    Calls Tryd.prog 42 #[.int .u64 x] w fun e w' => e = .returned (.int .i64 (Lib.bitLen x.toNat)) ∧ w' = w := Any.bits_Len Tryd.lays125 x w h0 h1
def Tryd.lays129_ren : Go.Shelf.Ren := ⟨fun | 129 => 53 | n => n, fun | 53 => 26 | 3 => 3 | 4 => 4 | 46 => 93 | 5 => 5 | 9 => 9 | n => n, fun | n => n⟩
theorem Tryd.lays129 : Go.Proofs.Lays.n129 Tryd.prog Tryd.lays129_ren := {
  mixed := by kernel_rfl
  f129 := Tryd.func53.trans (congrArg some (by kernel_rfl))
  t3 := Tryd.underlying3
  a3 := Tryd.isAgg3
  z3 := Tryd.sizeOf3
  v3 := Tryd.zeroValue3
  t4 := Tryd.underlying4
  a4 := Tryd.isAgg4
  z4 := Tryd.sizeOf4
  v4 := Tryd.zeroValue4
  t5 := Tryd.underlying5
  a5 := Tryd.isAgg5
  z5 := Tryd.sizeOf5
  v5 := Tryd.zeroValue5
  t9 := Tryd.underlying9
  a9 := Tryd.isAgg9
  z9 := Tryd.sizeOf9
  v9 := Tryd.zeroValue9
  t46 := Tryd.underlying93
  a46 := Tryd.isAgg93
  z46 := Tryd.sizeOf93
  v46 := Tryd.zeroValue93
  t53 := Tryd.underlying26
  a53 := Tryd.isAgg26
  z53 := Tryd.sizeOf26
  v53 := Tryd.zeroValue26 }
/-- bits.Len64: "Len64 returns the minimum number of bits required to represent x; the result is 0 for x == 0.": IT RETURNS 'Lib.bitLen x'; the world is as it was. ('h0', 'h1': x is a uint64.) (LAID: no walk: one application.) -/
theorem Tryd.bits_Len64 (x : Int) (w : World) (h0 : 0 ≤ x) (h1 : x ≤ 18446744073709551615) :
    Calls Tryd.prog 53 #[.int .u64 x] w fun e w' => e = .returned (.int .i64 (Lib.bitLen x.toNat)) ∧ w' = w := Any.bits_Len64 Tryd.lays129 x w h0 h1
def Tryd.lays190_ren : Go.Shelf.Ren := ⟨fun | 190 => 41 | 125 => 42 | 258 => 51 | 128 => 52 | 129 => 53 | 302 => 67 | 303 => 68 | 304 => 69 | 305 => 70 | 306 => 71 | 307 => 72 | 308 => 73 | 309 => 74 | 310 => 75 | 333 => 84 | 329 => 85 | 330 => 86 | 334 => 87 | 335 => 88 | 336 => 89 | 344 => 91 | n => n, fun | 31 => 25 | 9 => 9 | 3 => 3 | 46 => 93 | 0 => 0 | 51 => 103 | 53 => 26 | 4 => 4 | 183 => 123 | 182 => 122 | 131 => 112 | 5 => 5 | 218 => 143 | 222 => 134 | 228 => 153 | 229 => 147 | n => n, fun | n => n⟩
theorem Tryd.lays190 : Go.Proofs.Lays.n190 Tryd.prog Tryd.lays190_ren := {
  mixed := by kernel_rfl
  f125 := Tryd.func42.trans (congrArg some (by kernel_rfl))
  f128 := Tryd.func52.trans (congrArg some (by kernel_rfl))
  f129 := Tryd.func53.trans (congrArg some (by kernel_rfl))
  f190 := Tryd.func41.trans (congrArg some (by kernel_rfl))
  f258 := Tryd.func51.trans (congrArg some (by kernel_rfl))
  f302 := Tryd.func67.trans (congrArg some (by kernel_rfl))
  f303 := Tryd.func68.trans (congrArg some (by kernel_rfl))
  f304 := Tryd.func69.trans (congrArg some (by kernel_rfl))
  f305 := Tryd.func70.trans (congrArg some (by kernel_rfl))
  f306 := Tryd.func71.trans (congrArg some (by kernel_rfl))
  f307 := Tryd.func72.trans (congrArg some (by kernel_rfl))
  f308 := Tryd.func73.trans (congrArg some (by kernel_rfl))
  f309 := Tryd.func74.trans (congrArg some (by kernel_rfl))
  f310 := Tryd.func75.trans (congrArg some (by kernel_rfl))
  f329 := Tryd.func85.trans (congrArg some (by kernel_rfl))
  f330 := Tryd.func86.trans (congrArg some (by kernel_rfl))
  f333 := Tryd.func84.trans (congrArg some (by kernel_rfl))
  f334 := Tryd.func87.trans (congrArg some (by kernel_rfl))
  f335 := Tryd.func88.trans (congrArg some (by kernel_rfl))
  f336 := Tryd.func89.trans (congrArg some (by kernel_rfl))
  f344 := Tryd.func91.trans (congrArg some (by kernel_rfl))
  t0 := Tryd.underlying0
  a0 := Tryd.isAgg0
  z0 := Tryd.sizeOf0
  v0 := Tryd.zeroValue0
  t3 := Tryd.underlying3
  a3 := Tryd.isAgg3
  z3 := Tryd.sizeOf3
  v3 := Tryd.zeroValue3
  t4 := Tryd.underlying4
  a4 := Tryd.isAgg4
  z4 := Tryd.sizeOf4
  v4 := Tryd.zeroValue4
  t5 := Tryd.underlying5
  a5 := Tryd.isAgg5
  z5 := Tryd.sizeOf5
  v5 := Tryd.zeroValue5
  t9 := Tryd.underlying9
  a9 := Tryd.isAgg9
  z9 := Tryd.sizeOf9
  v9 := Tryd.zeroValue9
  t31 := Tryd.underlying25
  a31 := Tryd.isAgg25
  z31 := Tryd.sizeOf25
  v31 := Tryd.zeroValue25
  t46 := Tryd.underlying93
  a46 := Tryd.isAgg93
  z46 := Tryd.sizeOf93
  v46 := Tryd.zeroValue93
  t51 := Tryd.underlying103
  a51 := Tryd.isAgg103
  z51 := Tryd.sizeOf103
  v51 := Tryd.zeroValue103
  t53 := Tryd.underlying26
  a53 := Tryd.isAgg26
  z53 := Tryd.sizeOf26
  v53 := Tryd.zeroValue26
  t131 := Tryd.underlying112
  a131 := Tryd.isAgg112
  z131 := Tryd.sizeOf112
  v131 := Tryd.zeroValue112
  t182 := Tryd.underlying122
  a182 := Tryd.isAgg122
  z182 := Tryd.sizeOf122
  v182 := Tryd.zeroValue122
  t183 := Tryd.underlying123
  a183 := Tryd.isAgg123
  z183 := Tryd.sizeOf123
  v183 := Tryd.zeroValue123
  t218 := Tryd.underlying143
  a218 := Tryd.isAgg143
  z218 := Tryd.sizeOf143
  v218 := Tryd.zeroValue143
  t222 := Tryd.underlying134
  a222 := Tryd.isAgg134
  z222 := Tryd.sizeOf134
  v222 := Tryd.zeroValue134
  t228 := Tryd.underlying153
  a228 := Tryd.isAgg153
  z228 := Tryd.sizeOf153
  v228 := Tryd.zeroValue153
  t229 := Tryd.underlying147
  a229 := Tryd.isAgg147
  z229 := Tryd.sizeOf147
  v229 := Tryd.zeroValue147 }
open Go.Sort Go.RowKit in
theorem Tryd.slices_Sort_string (blk off cap : Nat) (ss : List (List UInt8)) (w : World) (hH : Holds encStr w blk off ss.toArray) (hblk : blk < w.heap.size) (hsz : ss.length < 4611686018427387904) :
    Calls Tryd.prog 41 #[.slice (some ⟨blk, off, none⟩) ss.length cap] w fun e w' =>
      e = .returned (.tuple #[]) ∧ ∃ n os, w' = grow (putRow encStr (Sort.ahead w n) blk off (ss.mergeSort fun x y => decide (x ≤ y)).toArray) os := Any.slices_Sort_string Tryd.lays190 blk off cap ss w hH hblk hsz
def Tryd.lays192_ren : Go.Shelf.Ren := ⟨fun | 192 => 32 | 190 => 41 | 125 => 42 | 258 => 51 | 128 => 52 | 129 => 53 | 302 => 67 | 303 => 68 | 304 => 69 | 305 => 70 | 306 => 71 | 307 => 72 | 308 => 73 | 309 => 74 | 310 => 75 | 333 => 84 | 329 => 85 | 330 => 86 | 334 => 87 | 335 => 88 | 336 => 89 | 344 => 91 | n => n, fun | 31 => 25 | 0 => 0 | 9 => 9 | 3 => 3 | 46 => 93 | 51 => 103 | 53 => 26 | 4 => 4 | 183 => 123 | 182 => 122 | 131 => 112 | 5 => 5 | 218 => 143 | 222 => 134 | 228 => 153 | 229 => 147 | n => n, fun | n => n⟩
theorem Tryd.lays192 : Go.Proofs.Lays.n192 Tryd.prog Tryd.lays192_ren := {
  mixed := by kernel_rfl
  f125 := Tryd.func42.trans (congrArg some (by kernel_rfl))
  f128 := Tryd.func52.trans (congrArg some (by kernel_rfl))
  f129 := Tryd.func53.trans (congrArg some (by kernel_rfl))
  f190 := Tryd.func41.trans (congrArg some (by kernel_rfl))
  f192 := Tryd.func32.trans (congrArg some (by kernel_rfl))
  f258 := Tryd.func51.trans (congrArg some (by kernel_rfl))
  f302 := Tryd.func67.trans (congrArg some (by kernel_rfl))
  f303 := Tryd.func68.trans (congrArg some (by kernel_rfl))
  f304 := Tryd.func69.trans (congrArg some (by kernel_rfl))
  f305 := Tryd.func70.trans (congrArg some (by kernel_rfl))
  f306 := Tryd.func71.trans (congrArg some (by kernel_rfl))
  f307 := Tryd.func72.trans (congrArg some (by kernel_rfl))
  f308 := Tryd.func73.trans (congrArg some (by kernel_rfl))
  f309 := Tryd.func74.trans (congrArg some (by kernel_rfl))
  f310 := Tryd.func75.trans (congrArg some (by kernel_rfl))
  f329 := Tryd.func85.trans (congrArg some (by kernel_rfl))
  f330 := Tryd.func86.trans (congrArg some (by kernel_rfl))
  f333 := Tryd.func84.trans (congrArg some (by kernel_rfl))
  f334 := Tryd.func87.trans (congrArg some (by kernel_rfl))
  f335 := Tryd.func88.trans (congrArg some (by kernel_rfl))
  f336 := Tryd.func89.trans (congrArg some (by kernel_rfl))
  f344 := Tryd.func91.trans (congrArg some (by kernel_rfl))
  t0 := Tryd.underlying0
  a0 := Tryd.isAgg0
  z0 := Tryd.sizeOf0
  v0 := Tryd.zeroValue0
  t3 := Tryd.underlying3
  a3 := Tryd.isAgg3
  z3 := Tryd.sizeOf3
  v3 := Tryd.zeroValue3
  t4 := Tryd.underlying4
  a4 := Tryd.isAgg4
  z4 := Tryd.sizeOf4
  v4 := Tryd.zeroValue4
  t5 := Tryd.underlying5
  a5 := Tryd.isAgg5
  z5 := Tryd.sizeOf5
  v5 := Tryd.zeroValue5
  t9 := Tryd.underlying9
  a9 := Tryd.isAgg9
  z9 := Tryd.sizeOf9
  v9 := Tryd.zeroValue9
  t31 := Tryd.underlying25
  a31 := Tryd.isAgg25
  z31 := Tryd.sizeOf25
  v31 := Tryd.zeroValue25
  t46 := Tryd.underlying93
  a46 := Tryd.isAgg93
  z46 := Tryd.sizeOf93
  v46 := Tryd.zeroValue93
  t51 := Tryd.underlying103
  a51 := Tryd.isAgg103
  z51 := Tryd.sizeOf103
  v51 := Tryd.zeroValue103
  t53 := Tryd.underlying26
  a53 := Tryd.isAgg26
  z53 := Tryd.sizeOf26
  v53 := Tryd.zeroValue26
  t131 := Tryd.underlying112
  a131 := Tryd.isAgg112
  z131 := Tryd.sizeOf112
  v131 := Tryd.zeroValue112
  t182 := Tryd.underlying122
  a182 := Tryd.isAgg122
  z182 := Tryd.sizeOf122
  v182 := Tryd.zeroValue122
  t183 := Tryd.underlying123
  a183 := Tryd.isAgg123
  z183 := Tryd.sizeOf123
  v183 := Tryd.zeroValue123
  t218 := Tryd.underlying143
  a218 := Tryd.isAgg143
  z218 := Tryd.sizeOf143
  v218 := Tryd.zeroValue143
  t222 := Tryd.underlying134
  a222 := Tryd.isAgg134
  z222 := Tryd.sizeOf134
  v222 := Tryd.zeroValue134
  t228 := Tryd.underlying153
  a228 := Tryd.isAgg153
  z228 := Tryd.sizeOf153
  v228 := Tryd.zeroValue153
  t229 := Tryd.underlying147
  a229 := Tryd.isAgg147
  z229 := Tryd.sizeOf147
  v229 := Tryd.zeroValue147 }
open Go.Sort Go.RowKit in
theorem Tryd.sort_Strings (blk off cap : Nat) (ss : List (List UInt8)) (w : World) (hH : Holds encStr w blk off ss.toArray) (hblk : blk < w.heap.size) (hsz : ss.length < 4611686018427387904) :
    Calls Tryd.prog 32 #[.slice (some ⟨blk, off, none⟩) ss.length cap] w fun e w' =>
      e = .returned (.tuple #[]) ∧ ∃ n os, w' = grow (putRow encStr (Sort.ahead w n) blk off (ss.mergeSort fun x y => decide (x ≤ y)).toArray) os := Any.sort_Strings Tryd.lays192 blk off cap ss w hH hblk hsz
def Tryd.laysGt33_ren : Go.Shelf.Ren := ⟨fun | 33 => 54 | n => n, fun | 45 => 90 | 3 => 3 | 4 => 4 | 0 => 0 | 43 => 91 | 26 => 110 | 38 => 129 | n => n, fun | n => n⟩
theorem Tryd.laysGt33 : Go.Proofs.LaysGt.n33 Tryd.prog Tryd.laysGt33_ren := {
  mixed := by kernel_rfl
  f33 := Tryd.func54.trans (congrArg some (by kernel_rfl))
  t0 := Tryd.underlying0
  a0 := Tryd.isAgg0
  z0 := Tryd.sizeOf0
  v0 := Tryd.zeroValue0
  i0 := by kernel_rfl
  t3 := Tryd.underlying3
  a3 := Tryd.isAgg3
  z3 := Tryd.sizeOf3
  v3 := Tryd.zeroValue3
  i3 := by kernel_rfl
  t4 := Tryd.underlying4
  a4 := Tryd.isAgg4
  z4 := Tryd.sizeOf4
  v4 := Tryd.zeroValue4
  i4 := by kernel_rfl
  t26 := Tryd.underlying110
  a26 := Tryd.isAgg110
  z26 := Tryd.sizeOf110
  v26 := Tryd.zeroValue110
  i26 := by kernel_rfl
  t38 := Tryd.underlying129
  a38 := Tryd.isAgg129
  z38 := Tryd.sizeOf129
  v38 := Tryd.zeroValue129
  i38 := by kernel_rfl
  t43 := Tryd.underlying91
  a43 := Tryd.isAgg91
  z43 := Tryd.sizeOf91
  v43 := Tryd.zeroValue91
  i43 := by kernel_rfl
  t45 := Tryd.underlying90
  a45 := Tryd.isAgg90
  z45 := Tryd.sizeOf90
  v45 := Tryd.zeroValue90
  i45 := by kernel_rfl }
open Go.RowKit Go.Lib Go.Sort in
theorem Tryd.insertionSort_iface {α : Type} [Inhabited α] (T : TypeId) (rv : Value) (gl gs : Nat) (rL : Reaches Tryd.prog T rv "Less" gl) (rS : Reaches Tryd.prog T rv "Swap" gs) (enc : α → Value) (lt : α → α → Bool) (blk off a b : Nat) (d : Array α) (w : World) (hless : LessM Tryd.prog gl rv enc lt blk off d.size w) (hswap : SwapM Tryd.prog gs rv enc blk off d.size) (hH : Holds enc w blk off d) (hab : a ≤ b) (hb : b ≤ d.size) (hsz : d.size < 4611686018427387904) :
    Calls Tryd.prog 54 #[.iface T rv, .int .i64 a, .int .i64 b] w fun e w' =>
      e = .returned (.tuple #[]) ∧ ∃ n, w' = putRow enc (Sort.ahead w n) blk off (Sort.insertionSort lt d a b) := Any.insertionSort_iface Tryd.laysGt33 T rv gl gs rL rS enc lt blk off a b d w hless hswap hH hab hb hsz
open Go.RowKit Go.Lib Go.Sort in
/-- sort.insertionSort, from a world to a 'sortWorld' of it. (LAID: no walk: one application.) -/
theorem Tryd.insertionSort_iface_w {α : Type} [Inhabited α] (T : TypeId) (rv : Value) (gl gs : Nat) (rL : Reaches Tryd.prog T rv "Less" gl) (rS : Reaches Tryd.prog T rv "Swap" gs) (enc : α → Value) (lt : α → α → Bool) (blk off a b : Nat) (d : Array α) (w : World) (hless : LessM Tryd.prog gl rv enc lt blk off d.size w) (hswap : SwapM Tryd.prog gs rv enc blk off d.size) (hH : Holds enc w blk off d) (hab : a ≤ b) (hb : b ≤ d.size) (hsz : d.size < 4611686018427387904) :
    Calls Tryd.prog 54 #[.iface T rv, .int .i64 a, .int .i64 b] w fun e w' => e = .returned (.tuple #[]) ∧ ∃ n os, w' = sortWorld enc w blk off n (Sort.insertionSort lt d a b) os := Any.insertionSort_iface_w Tryd.laysGt33 T rv gl gs rL rS enc lt blk off a b d w hless hswap hH hab hb hsz
def Tryd.laysGt37_ren : Go.Shelf.Ren := ⟨fun | 37 => 58 | n => n, fun | 45 => 90 | 3 => 3 | 4 => 4 | 0 => 0 | 43 => 91 | 26 => 110 | 38 => 129 | n => n, fun | n => n⟩
theorem Tryd.laysGt37 : Go.Proofs.LaysGt.n37 Tryd.prog Tryd.laysGt37_ren := {
  mixed := by kernel_rfl
  f37 := Tryd.func58.trans (congrArg some (by kernel_rfl))
  t0 := Tryd.underlying0
  a0 := Tryd.isAgg0
  z0 := Tryd.sizeOf0
  v0 := Tryd.zeroValue0
  i0 := by kernel_rfl
  t3 := Tryd.underlying3
  a3 := Tryd.isAgg3
  z3 := Tryd.sizeOf3
  v3 := Tryd.zeroValue3
  i3 := by kernel_rfl
  t4 := Tryd.underlying4
  a4 := Tryd.isAgg4
  z4 := Tryd.sizeOf4
  v4 := Tryd.zeroValue4
  i4 := by kernel_rfl
  t26 := Tryd.underlying110
  a26 := Tryd.isAgg110
  z26 := Tryd.sizeOf110
  v26 := Tryd.zeroValue110
  i26 := by kernel_rfl
  t38 := Tryd.underlying129
  a38 := Tryd.isAgg129
  z38 := Tryd.sizeOf129
  v38 := Tryd.zeroValue129
  i38 := by kernel_rfl
  t43 := Tryd.underlying91
  a43 := Tryd.isAgg91
  z43 := Tryd.sizeOf91
  v43 := Tryd.zeroValue91
  i43 := by kernel_rfl
  t45 := Tryd.underlying90
  a45 := Tryd.isAgg90
  z45 := Tryd.sizeOf90
  v45 := Tryd.zeroValue90
  i45 := by kernel_rfl }
open Go.RowKit Go.Lib Go.Sort in
theorem Tryd.reverseRange_iface {α : Type} [Inhabited α] (T : TypeId) (rv : Value) (gs : Nat) (rS : Reaches Tryd.prog T rv "Swap" gs) (enc : α → Value) (blk off a b : Nat) (d : Array α) (w : World) (hswap : SwapM Tryd.prog gs rv enc blk off d.size) (hH : Holds enc w blk off d) (hab : a ≤ b) (hb : b ≤ d.size) (hsz : d.size < 4611686018427387904) :
    Calls Tryd.prog 58 #[.iface T rv, .int .i64 a, .int .i64 b] w fun e w' => e = .returned (.tuple #[]) ∧ ∃ n, w' = putRow enc (Sort.ahead w n) blk off (reverseRange d a b) := Any.reverseRange_iface Tryd.laysGt37 T rv gs rS enc blk off a b d w hswap hH hab hb hsz
open Go.RowKit Go.Lib Go.Sort in
theorem Tryd.reverseRange_iface_w {α : Type} [Inhabited α] (T : TypeId) (rv : Value) (gs : Nat) (rS : Reaches Tryd.prog T rv "Swap" gs) (enc : α → Value) (blk off a b : Nat) (d : Array α) (w : World) (hswap : SwapM Tryd.prog gs rv enc blk off d.size) (hH : Holds enc w blk off d) (hab : a ≤ b) (hb : b ≤ d.size) (hsz : d.size < 4611686018427387904) :
    Calls Tryd.prog 58 #[.iface T rv, .int .i64 a, .int .i64 b] w fun e w' => e = .returned (.tuple #[]) ∧ ∃ n os, w' = sortWorld enc w blk off n (reverseRange d a b) os := Any.reverseRange_iface_w Tryd.laysGt37 T rv gs rS enc blk off a b d w hswap hH hab hb hsz
def Tryd.laysGt50_ren : Go.Shelf.Ren := ⟨fun | 50 => 90 | n => n, fun | 45 => 90 | 3 => 3 | 71 => 134 | 4 => 4 | 0 => 0 | 43 => 91 | 26 => 110 | 38 => 129 | n => n, fun | n => n⟩
theorem Tryd.laysGt50 : Go.Proofs.LaysGt.n50 Tryd.prog Tryd.laysGt50_ren := {
  mixed := by kernel_rfl
  f50 := Tryd.func90.trans (congrArg some (by kernel_rfl))
  t0 := Tryd.underlying0
  a0 := Tryd.isAgg0
  z0 := Tryd.sizeOf0
  v0 := Tryd.zeroValue0
  i0 := by kernel_rfl
  t3 := Tryd.underlying3
  a3 := Tryd.isAgg3
  z3 := Tryd.sizeOf3
  v3 := Tryd.zeroValue3
  i3 := by kernel_rfl
  t4 := Tryd.underlying4
  a4 := Tryd.isAgg4
  z4 := Tryd.sizeOf4
  v4 := Tryd.zeroValue4
  i4 := by kernel_rfl
  t26 := Tryd.underlying110
  a26 := Tryd.isAgg110
  z26 := Tryd.sizeOf110
  v26 := Tryd.zeroValue110
  i26 := by kernel_rfl
  t38 := Tryd.underlying129
  a38 := Tryd.isAgg129
  z38 := Tryd.sizeOf129
  v38 := Tryd.zeroValue129
  i38 := by kernel_rfl
  t43 := Tryd.underlying91
  a43 := Tryd.isAgg91
  z43 := Tryd.sizeOf91
  v43 := Tryd.zeroValue91
  i43 := by kernel_rfl
  t45 := Tryd.underlying90
  a45 := Tryd.isAgg90
  z45 := Tryd.sizeOf90
  v45 := Tryd.zeroValue90
  i45 := by kernel_rfl
  t71 := Tryd.underlying134
  a71 := Tryd.isAgg134
  z71 := Tryd.sizeOf134
  v71 := Tryd.zeroValue134
  i71 := by kernel_rfl }
open Go.RowKit Go.Lib Go.Sort in
theorem Tryd.order2_iface {α : Type} [Inhabited α] (T : TypeId) (rv : Value) (gl : Nat) (rL : Reaches Tryd.prog T rv "Less" gl) (enc : α → Value) (lt : α → α → Bool) (blk off : Nat) (w0 W : World) (d : Array α) (a b cb co s : Nat) (hL : LessM Tryd.prog gl rv enc lt blk off d.size w0) (hW : SW enc w0 blk off d W) (ha : a < d.size) (hb : b < d.size) (hS : Holds (Value.int .i64) W cb co (one s)) (hs : s < 4611686018427387904) :
    Calls Tryd.prog 90 #[.iface T rv, .int .i64 a, .int .i64 b, .pointer (some ⟨cb, co, none⟩)] W fun e w' =>
      e = .returned (.tuple #[.int .i64 (order2 lt d a b s).1, .int .i64 (order2 lt d a b s).2.1]) ∧ ∃ n os, w' = sortWorld (Value.int .i64) W cb co n (one (order2 lt d a b s).2.2) os := Any.order2_iface Tryd.laysGt50 T rv gl rL enc lt blk off w0 W d a b cb co s hL hW ha hb hS hs
def Tryd.laysGt47_ren : Go.Shelf.Ren := ⟨fun | 47 => 80 | 50 => 90 | n => n, fun | 45 => 90 | 3 => 3 | 71 => 134 | 74 => 147 | 4 => 4 | 0 => 0 | 43 => 91 | 26 => 110 | 38 => 129 | n => n, fun | n => n⟩
theorem Tryd.laysGt47 : Go.Proofs.LaysGt.n47 Tryd.prog Tryd.laysGt47_ren := {
  mixed := by kernel_rfl
  f47 := Tryd.func80.trans (congrArg some (by kernel_rfl))
  f50 := Tryd.func90.trans (congrArg some (by kernel_rfl))
  t0 := Tryd.underlying0
  a0 := Tryd.isAgg0
  z0 := Tryd.sizeOf0
  v0 := Tryd.zeroValue0
  i0 := by kernel_rfl
  t3 := Tryd.underlying3
  a3 := Tryd.isAgg3
  z3 := Tryd.sizeOf3
  v3 := Tryd.zeroValue3
  i3 := by kernel_rfl
  t4 := Tryd.underlying4
  a4 := Tryd.isAgg4
  z4 := Tryd.sizeOf4
  v4 := Tryd.zeroValue4
  i4 := by kernel_rfl
  t26 := Tryd.underlying110
  a26 := Tryd.isAgg110
  z26 := Tryd.sizeOf110
  v26 := Tryd.zeroValue110
  i26 := by kernel_rfl
  t38 := Tryd.underlying129
  a38 := Tryd.isAgg129
  z38 := Tryd.sizeOf129
  v38 := Tryd.zeroValue129
  i38 := by kernel_rfl
  t43 := Tryd.underlying91
  a43 := Tryd.isAgg91
  z43 := Tryd.sizeOf91
  v43 := Tryd.zeroValue91
  i43 := by kernel_rfl
  t45 := Tryd.underlying90
  a45 := Tryd.isAgg90
  z45 := Tryd.sizeOf90
  v45 := Tryd.zeroValue90
  i45 := by kernel_rfl
  t71 := Tryd.underlying134
  a71 := Tryd.isAgg134
  z71 := Tryd.sizeOf134
  v71 := Tryd.zeroValue134
  i71 := by kernel_rfl
  t74 := Tryd.underlying147
  a74 := Tryd.isAgg147
  z74 := Tryd.sizeOf147
  v74 := Tryd.zeroValue147
  i74 := by kernel_rfl }
open Go.RowKit Go.Lib Go.Sort in
theorem Tryd.median_iface {α : Type} [Inhabited α] (T : TypeId) (rv : Value) (gl : Nat) (rL : Reaches Tryd.prog T rv "Less" gl) (enc : α → Value) (lt : α → α → Bool) (blk off : Nat) (w0 W : World) (d : Array α) (a b c cb co s : Nat) (hL : LessM Tryd.prog gl rv enc lt blk off d.size w0) (hW : SW enc w0 blk off d W) (ha : a < d.size) (hb : b < d.size) (hc : c < d.size) (hS : Holds (Value.int .i64) W cb co (one s)) (hcb0 : w0.heap.size ≤ cb) (hcb : cb < W.heap.size) (hs : s + 3 < 4611686018427387904) :
    Calls Tryd.prog 80 #[.iface T rv, .int .i64 a, .int .i64 b, .int .i64 c, .pointer (some ⟨cb, co, none⟩)] W fun e w' =>
      e = .returned (.int .i64 (median lt d a b c s).1) ∧ ∃ n os, w' = sortWorld (Value.int .i64) W cb co n (one (median lt d a b c s).2) os := Any.median_iface Tryd.laysGt47 T rv gl rL enc lt blk off w0 W d a b c cb co s hL hW ha hb hc hS hcb0 hcb hs
def Tryd.laysGt46_ren : Go.Shelf.Ren := ⟨fun | 46 => 79 | 47 => 80 | 50 => 90 | n => n, fun | 45 => 90 | 3 => 3 | 71 => 134 | 74 => 147 | 4 => 4 | 0 => 0 | 43 => 91 | 26 => 110 | 38 => 129 | n => n, fun | n => n⟩
theorem Tryd.laysGt46 : Go.Proofs.LaysGt.n46 Tryd.prog Tryd.laysGt46_ren := {
  mixed := by kernel_rfl
  f46 := Tryd.func79.trans (congrArg some (by kernel_rfl))
  f47 := Tryd.func80.trans (congrArg some (by kernel_rfl))
  f50 := Tryd.func90.trans (congrArg some (by kernel_rfl))
  t0 := Tryd.underlying0
  a0 := Tryd.isAgg0
  z0 := Tryd.sizeOf0
  v0 := Tryd.zeroValue0
  i0 := by kernel_rfl
  t3 := Tryd.underlying3
  a3 := Tryd.isAgg3
  z3 := Tryd.sizeOf3
  v3 := Tryd.zeroValue3
  i3 := by kernel_rfl
  t4 := Tryd.underlying4
  a4 := Tryd.isAgg4
  z4 := Tryd.sizeOf4
  v4 := Tryd.zeroValue4
  i4 := by kernel_rfl
  t26 := Tryd.underlying110
  a26 := Tryd.isAgg110
  z26 := Tryd.sizeOf110
  v26 := Tryd.zeroValue110
  i26 := by kernel_rfl
  t38 := Tryd.underlying129
  a38 := Tryd.isAgg129
  z38 := Tryd.sizeOf129
  v38 := Tryd.zeroValue129
  i38 := by kernel_rfl
  t43 := Tryd.underlying91
  a43 := Tryd.isAgg91
  z43 := Tryd.sizeOf91
  v43 := Tryd.zeroValue91
  i43 := by kernel_rfl
  t45 := Tryd.underlying90
  a45 := Tryd.isAgg90
  z45 := Tryd.sizeOf90
  v45 := Tryd.zeroValue90
  i45 := by kernel_rfl
  t71 := Tryd.underlying134
  a71 := Tryd.isAgg134
  z71 := Tryd.sizeOf134
  v71 := Tryd.zeroValue134
  i71 := by kernel_rfl
  t74 := Tryd.underlying147
  a74 := Tryd.isAgg147
  z74 := Tryd.sizeOf147
  v74 := Tryd.zeroValue147
  i74 := by kernel_rfl }
open Go.RowKit Go.Lib Go.Sort in
theorem Tryd.medianAdjacent_iface {α : Type} [Inhabited α] (T : TypeId) (rv : Value) (gl : Nat) (rL : Reaches Tryd.prog T rv "Less" gl) (enc : α → Value) (lt : α → α → Bool) (blk off : Nat) (w0 W : World) (d : Array α) (a cb co s : Nat) (hL : LessM Tryd.prog gl rv enc lt blk off d.size w0) (hW : SW enc w0 blk off d W) (ha1 : 1 ≤ a) (ha2 : a + 1 < d.size) (hsz : d.size < 4611686018427387904) (hS : Holds (Value.int .i64) W cb co (one s)) (hcb0 : w0.heap.size ≤ cb) (hcb : cb < W.heap.size) (hs : s + 3 < 4611686018427387904) :
    Calls Tryd.prog 79 #[.iface T rv, .int .i64 a, .pointer (some ⟨cb, co, none⟩)] W fun e w' =>
      e = .returned (.int .i64 (medianAdjacent lt d a s).1) ∧ ∃ n os, w' = sortWorld (Value.int .i64) W cb co n (one (medianAdjacent lt d a s).2) os := Any.medianAdjacent_iface Tryd.laysGt46 T rv gl rL enc lt blk off w0 W d a cb co s hL hW ha1 ha2 hsz hS hcb0 hcb hs
def Tryd.laysGt36_ren : Go.Shelf.Ren := ⟨fun | 36 => 57 | 46 => 79 | 47 => 80 | 50 => 90 | n => n, fun | 45 => 90 | 3 => 3 | 60 => 106 | 0 => 0 | 4 => 4 | 71 => 134 | 74 => 147 | 43 => 91 | 26 => 110 | 38 => 129 | n => n, fun | n => n⟩
theorem Tryd.laysGt36 : Go.Proofs.LaysGt.n36 Tryd.prog Tryd.laysGt36_ren := {
  mixed := by kernel_rfl
  f36 := Tryd.func57.trans (congrArg some (by kernel_rfl))
  f46 := Tryd.func79.trans (congrArg some (by kernel_rfl))
  f47 := Tryd.func80.trans (congrArg some (by kernel_rfl))
  f50 := Tryd.func90.trans (congrArg some (by kernel_rfl))
  t0 := Tryd.underlying0
  a0 := Tryd.isAgg0
  z0 := Tryd.sizeOf0
  v0 := Tryd.zeroValue0
  i0 := by kernel_rfl
  t3 := Tryd.underlying3
  a3 := Tryd.isAgg3
  z3 := Tryd.sizeOf3
  v3 := Tryd.zeroValue3
  i3 := by kernel_rfl
  t4 := Tryd.underlying4
  a4 := Tryd.isAgg4
  z4 := Tryd.sizeOf4
  v4 := Tryd.zeroValue4
  i4 := by kernel_rfl
  t26 := Tryd.underlying110
  a26 := Tryd.isAgg110
  z26 := Tryd.sizeOf110
  v26 := Tryd.zeroValue110
  i26 := by kernel_rfl
  t38 := Tryd.underlying129
  a38 := Tryd.isAgg129
  z38 := Tryd.sizeOf129
  v38 := Tryd.zeroValue129
  i38 := by kernel_rfl
  t43 := Tryd.underlying91
  a43 := Tryd.isAgg91
  z43 := Tryd.sizeOf91
  v43 := Tryd.zeroValue91
  i43 := by kernel_rfl
  t45 := Tryd.underlying90
  a45 := Tryd.isAgg90
  z45 := Tryd.sizeOf90
  v45 := Tryd.zeroValue90
  i45 := by kernel_rfl
  t60 := Tryd.underlying106
  a60 := Tryd.isAgg106
  z60 := Tryd.sizeOf106
  v60 := Tryd.zeroValue106
  i60 := by kernel_rfl
  t71 := Tryd.underlying134
  a71 := Tryd.isAgg134
  z71 := Tryd.sizeOf134
  v71 := Tryd.zeroValue134
  i71 := by kernel_rfl
  t74 := Tryd.underlying147
  a74 := Tryd.isAgg147
  z74 := Tryd.sizeOf147
  v74 := Tryd.zeroValue147
  i74 := by kernel_rfl }
open Go.RowKit Go.Lib Go.Sort in
/-- sort.choosePivot (zsortinterface.go): THE LIBRARY's OWN TEXT COMPUTES 'Sort.choosePivot lt d a b'; the row is not turned; W is grown. (Derived/Shelf/GgSortFunc/Pivot.lean's text, turned by program.) (LAID: no walk: one application.) -/
theorem Tryd.choosePivot_iface {α : Type} [Inhabited α] (T : TypeId) (rv : Value) (gl : Nat) (rL : Reaches Tryd.prog T rv "Less" gl) (enc : α → Value) (lt : α → α → Bool) (blk off a b : Nat) (W : World) (d : Array α) (hless : LessM Tryd.prog gl rv enc lt blk off d.size W) (hH : Holds enc W blk off d) (hab : a < b) (hb : b ≤ d.size) (hsz : d.size < 4611686018427387904) :
    Calls Tryd.prog 57 #[.iface T rv, .int .i64 a, .int .i64 b] W fun e w' =>
      e = .returned (.tuple #[.int .i64 (choosePivot lt d a b).1, .int .i64 (hintCode (choosePivot lt d a b).2)]) ∧ ∃ n os, w' = grow (Sort.ahead W n) os := Any.choosePivot_iface Tryd.laysGt36 T rv gl rL enc lt blk off a b W d hless hH hab hb hsz
def Tryd.laysGt39_ren : Go.Shelf.Ren := ⟨fun | 39 => 60 | n => n, fun | 45 => 90 | 3 => 3 | 0 => 0 | 4 => 4 | 43 => 91 | 26 => 110 | 38 => 129 | n => n, fun | n => n⟩
theorem Tryd.laysGt39 : Go.Proofs.LaysGt.n39 Tryd.prog Tryd.laysGt39_ren := {
  mixed := by kernel_rfl
  f39 := Tryd.func60.trans (congrArg some (by kernel_rfl))
  t0 := Tryd.underlying0
  a0 := Tryd.isAgg0
  z0 := Tryd.sizeOf0
  v0 := Tryd.zeroValue0
  i0 := by kernel_rfl
  t3 := Tryd.underlying3
  a3 := Tryd.isAgg3
  z3 := Tryd.sizeOf3
  v3 := Tryd.zeroValue3
  i3 := by kernel_rfl
  t4 := Tryd.underlying4
  a4 := Tryd.isAgg4
  z4 := Tryd.sizeOf4
  v4 := Tryd.zeroValue4
  i4 := by kernel_rfl
  t26 := Tryd.underlying110
  a26 := Tryd.isAgg110
  z26 := Tryd.sizeOf110
  v26 := Tryd.zeroValue110
  i26 := by kernel_rfl
  t38 := Tryd.underlying129
  a38 := Tryd.isAgg129
  z38 := Tryd.sizeOf129
  v38 := Tryd.zeroValue129
  i38 := by kernel_rfl
  t43 := Tryd.underlying91
  a43 := Tryd.isAgg91
  z43 := Tryd.sizeOf91
  v43 := Tryd.zeroValue91
  i43 := by kernel_rfl
  t45 := Tryd.underlying90
  a45 := Tryd.isAgg90
  z45 := Tryd.sizeOf90
  v45 := Tryd.zeroValue90
  i45 := by kernel_rfl }
open Go.RowKit Go.Lib Go.Sort in
theorem Tryd.partitionEqual_iface {α : Type} [Inhabited α] (T : TypeId) (rv : Value) (gl gs : Nat) (rL : Reaches Tryd.prog T rv "Less" gl) (rS : Reaches Tryd.prog T rv "Swap" gs) (enc : α → Value) (lt : α → α → Bool) (blk off a b pivot : Nat) (d : Array α) (W : World) (hless : LessM Tryd.prog gl rv enc lt blk off d.size W) (hswap : SwapM Tryd.prog gs rv enc blk off d.size) (hH : Holds enc W blk off d) (hap : a ≤ pivot) (hpb : pivot < b) (hb : b ≤ d.size) (hsz : d.size < 4611686018427387904) :
    Calls Tryd.prog 60 #[.iface T rv, .int .i64 a, .int .i64 b, .int .i64 pivot] W fun e w' =>
      e = .returned (.int .i64 (Sort.partitionEqual lt d a b pivot).1) ∧ ∃ n, w' = (putRow enc W blk off (Sort.partitionEqual lt d a b pivot).2).drewN n := Any.partitionEqual_iface Tryd.laysGt39 T rv gl gs rL rS enc lt blk off a b pivot d W hless hswap hH hap hpb hb hsz
def Tryd.laysGt40_ren : Go.Shelf.Ren := ⟨fun | 40 => 61 | n => n, fun | 45 => 90 | 3 => 3 | 4 => 4 | 0 => 0 | 43 => 91 | 26 => 110 | 38 => 129 | n => n, fun | n => n⟩
theorem Tryd.laysGt40 : Go.Proofs.LaysGt.n40 Tryd.prog Tryd.laysGt40_ren := {
  mixed := by kernel_rfl
  f40 := Tryd.func61.trans (congrArg some (by kernel_rfl))
  t0 := Tryd.underlying0
  a0 := Tryd.isAgg0
  z0 := Tryd.sizeOf0
  v0 := Tryd.zeroValue0
  i0 := by kernel_rfl
  t3 := Tryd.underlying3
  a3 := Tryd.isAgg3
  z3 := Tryd.sizeOf3
  v3 := Tryd.zeroValue3
  i3 := by kernel_rfl
  t4 := Tryd.underlying4
  a4 := Tryd.isAgg4
  z4 := Tryd.sizeOf4
  v4 := Tryd.zeroValue4
  i4 := by kernel_rfl
  t26 := Tryd.underlying110
  a26 := Tryd.isAgg110
  z26 := Tryd.sizeOf110
  v26 := Tryd.zeroValue110
  i26 := by kernel_rfl
  t38 := Tryd.underlying129
  a38 := Tryd.isAgg129
  z38 := Tryd.sizeOf129
  v38 := Tryd.zeroValue129
  i38 := by kernel_rfl
  t43 := Tryd.underlying91
  a43 := Tryd.isAgg91
  z43 := Tryd.sizeOf91
  v43 := Tryd.zeroValue91
  i43 := by kernel_rfl
  t45 := Tryd.underlying90
  a45 := Tryd.isAgg90
  z45 := Tryd.sizeOf90
  v45 := Tryd.zeroValue90
  i45 := by kernel_rfl }
open Go.RowKit Go.Lib Go.Sort in
theorem Tryd.partition_iface {α : Type} [Inhabited α] (T : TypeId) (rv : Value) (gl gs : Nat) (rL : Reaches Tryd.prog T rv "Less" gl) (rS : Reaches Tryd.prog T rv "Swap" gs) (enc : α → Value) (lt : α → α → Bool) (blk off a b pivot : Nat) (d : Array α) (W : World) (hless : LessM Tryd.prog gl rv enc lt blk off d.size W) (hswap : SwapM Tryd.prog gs rv enc blk off d.size) (hH : Holds enc W blk off d) (hap : a ≤ pivot) (hpb : pivot < b) (hb : b ≤ d.size) (hsz : d.size < 4611686018427387904) :
    Calls Tryd.prog 61 #[.iface T rv, .int .i64 a, .int .i64 b, .int .i64 pivot] W fun e w' =>
      e = .returned (.tuple #[.int .i64 (Sort.partition lt d a b pivot).1, .bool (Sort.partition lt d a b pivot).2.1]) ∧ ∃ n, w' = (putRow enc W blk off (Sort.partition lt d a b pivot).2.2).drewN n := Any.partition_iface Tryd.laysGt40 T rv gl gs rL rS enc lt blk off a b pivot d W hless hswap hH hap hpb hb hsz
open Go.RowKit Go.Lib Go.Sort in
theorem Tryd.partitionEqual_iface_w {α : Type} [Inhabited α] (T : TypeId) (rv : Value) (gl gs : Nat) (rL : Reaches Tryd.prog T rv "Less" gl) (rS : Reaches Tryd.prog T rv "Swap" gs) (enc : α → Value) (lt : α → α → Bool) (blk off a b pivot : Nat) (d : Array α) (W : World) (hless : LessM Tryd.prog gl rv enc lt blk off d.size W) (hswap : SwapM Tryd.prog gs rv enc blk off d.size) (hH : Holds enc W blk off d) (hap : a ≤ pivot) (hpb : pivot < b) (hb : b ≤ d.size) (hsz : d.size < 4611686018427387904) :
    Calls Tryd.prog 60 #[.iface T rv, .int .i64 a, .int .i64 b, .int .i64 pivot] W fun e w' => e = .returned (.int .i64 (Sort.partitionEqual lt d a b pivot).1) ∧ ∃ n os, w' = sortWorld enc W blk off n (Sort.partitionEqual lt d a b pivot).2 os := Any.partitionEqual_iface_w Tryd.laysGt39 T rv gl gs rL rS enc lt blk off a b pivot d W hless hswap hH hap hpb hb hsz
open Go.RowKit Go.Lib Go.Sort in
theorem Tryd.partition_iface_w {α : Type} [Inhabited α] (T : TypeId) (rv : Value) (gl gs : Nat) (rL : Reaches Tryd.prog T rv "Less" gl) (rS : Reaches Tryd.prog T rv "Swap" gs) (enc : α → Value) (lt : α → α → Bool) (blk off a b pivot : Nat) (d : Array α) (W : World) (hless : LessM Tryd.prog gl rv enc lt blk off d.size W) (hswap : SwapM Tryd.prog gs rv enc blk off d.size) (hH : Holds enc W blk off d) (hap : a ≤ pivot) (hpb : pivot < b) (hb : b ≤ d.size) (hsz : d.size < 4611686018427387904) :
    Calls Tryd.prog 61 #[.iface T rv, .int .i64 a, .int .i64 b, .int .i64 pivot] W fun e w' => e = .returned (.tuple #[.int .i64 (Sort.partition lt d a b pivot).1, .bool (Sort.partition lt d a b pivot).2.1]) ∧ ∃ n os, w' = sortWorld enc W blk off n (Sort.partition lt d a b pivot).2.2 os := Any.partition_iface_w Tryd.laysGt40 T rv gl gs rL rS enc lt blk off a b pivot d W hless hswap hH hap hpb hb hsz
def Tryd.laysGt18_ren : Go.Shelf.Ren := ⟨fun | 18 => 43 | 33 => 54 | 34 => 55 | 35 => 56 | 36 => 57 | 37 => 58 | 38 => 59 | 39 => 60 | 40 => 61 | 43 => 76 | 44 => 77 | 45 => 78 | 46 => 79 | 47 => 80 | 17 => 42 | 50 => 90 | 31 => 52 | 32 => 53 | n => n, fun | 45 => 90 | 3 => 3 | 4 => 4 | 0 => 0 | 61 => 107 | 60 => 106 | 65 => 112 | 67 => 130 | 47 => 93 | 58 => 26 | 71 => 134 | 73 => 146 | 74 => 147 | 56 => 103 | 5 => 5 | 9 => 9 | 43 => 91 | 26 => 110 | 38 => 129 | n => n, fun | n => n⟩
theorem Tryd.laysGt18 : Go.Proofs.LaysGt.n18 Tryd.prog Tryd.laysGt18_ren := {
  mixed := by kernel_rfl
  f17 := Tryd.func42.trans (congrArg some (by kernel_rfl))
  f18 := Tryd.func43.trans (congrArg some (by kernel_rfl))
  f31 := Tryd.func52.trans (congrArg some (by kernel_rfl))
  f32 := Tryd.func53.trans (congrArg some (by kernel_rfl))
  f33 := Tryd.func54.trans (congrArg some (by kernel_rfl))
  f34 := Tryd.func55.trans (congrArg some (by kernel_rfl))
  f35 := Tryd.func56.trans (congrArg some (by kernel_rfl))
  f36 := Tryd.func57.trans (congrArg some (by kernel_rfl))
  f37 := Tryd.func58.trans (congrArg some (by kernel_rfl))
  f38 := Tryd.func59.trans (congrArg some (by kernel_rfl))
  f39 := Tryd.func60.trans (congrArg some (by kernel_rfl))
  f40 := Tryd.func61.trans (congrArg some (by kernel_rfl))
  f43 := Tryd.func76.trans (congrArg some (by kernel_rfl))
  f44 := Tryd.func77.trans (congrArg some (by kernel_rfl))
  f45 := Tryd.func78.trans (congrArg some (by kernel_rfl))
  f46 := Tryd.func79.trans (congrArg some (by kernel_rfl))
  f47 := Tryd.func80.trans (congrArg some (by kernel_rfl))
  f50 := Tryd.func90.trans (congrArg some (by kernel_rfl))
  t0 := Tryd.underlying0
  a0 := Tryd.isAgg0
  z0 := Tryd.sizeOf0
  v0 := Tryd.zeroValue0
  i0 := by kernel_rfl
  t3 := Tryd.underlying3
  a3 := Tryd.isAgg3
  z3 := Tryd.sizeOf3
  v3 := Tryd.zeroValue3
  i3 := by kernel_rfl
  t4 := Tryd.underlying4
  a4 := Tryd.isAgg4
  z4 := Tryd.sizeOf4
  v4 := Tryd.zeroValue4
  i4 := by kernel_rfl
  t5 := Tryd.underlying5
  a5 := Tryd.isAgg5
  z5 := Tryd.sizeOf5
  v5 := Tryd.zeroValue5
  i5 := by kernel_rfl
  t9 := Tryd.underlying9
  a9 := Tryd.isAgg9
  z9 := Tryd.sizeOf9
  v9 := Tryd.zeroValue9
  i9 := by kernel_rfl
  t26 := Tryd.underlying110
  a26 := Tryd.isAgg110
  z26 := Tryd.sizeOf110
  v26 := Tryd.zeroValue110
  i26 := by kernel_rfl
  t38 := Tryd.underlying129
  a38 := Tryd.isAgg129
  z38 := Tryd.sizeOf129
  v38 := Tryd.zeroValue129
  i38 := by kernel_rfl
  t43 := Tryd.underlying91
  a43 := Tryd.isAgg91
  z43 := Tryd.sizeOf91
  v43 := Tryd.zeroValue91
  i43 := by kernel_rfl
  t45 := Tryd.underlying90
  a45 := Tryd.isAgg90
  z45 := Tryd.sizeOf90
  v45 := Tryd.zeroValue90
  i45 := by kernel_rfl
  t47 := Tryd.underlying93
  a47 := Tryd.isAgg93
  z47 := Tryd.sizeOf93
  v47 := Tryd.zeroValue93
  i47 := by kernel_rfl
  t56 := Tryd.underlying103
  a56 := Tryd.isAgg103
  z56 := Tryd.sizeOf103
  v56 := Tryd.zeroValue103
  i56 := by kernel_rfl
  t58 := Tryd.underlying26
  a58 := Tryd.isAgg26
  z58 := Tryd.sizeOf26
  v58 := Tryd.zeroValue26
  i58 := by kernel_rfl
  t60 := Tryd.underlying106
  a60 := Tryd.isAgg106
  z60 := Tryd.sizeOf106
  v60 := Tryd.zeroValue106
  i60 := by kernel_rfl
  t61 := Tryd.underlying107
  a61 := Tryd.isAgg107
  z61 := Tryd.sizeOf107
  v61 := Tryd.zeroValue107
  i61 := by kernel_rfl
  t65 := Tryd.underlying112
  a65 := Tryd.isAgg112
  z65 := Tryd.sizeOf112
  v65 := Tryd.zeroValue112
  i65 := by kernel_rfl
  t67 := Tryd.underlying130
  a67 := Tryd.isAgg130
  z67 := Tryd.sizeOf130
  v67 := Tryd.zeroValue130
  i67 := by kernel_rfl
  t71 := Tryd.underlying134
  a71 := Tryd.isAgg134
  z71 := Tryd.sizeOf134
  v71 := Tryd.zeroValue134
  i71 := by kernel_rfl
  t73 := Tryd.underlying146
  a73 := Tryd.isAgg146
  z73 := Tryd.sizeOf146
  v73 := Tryd.zeroValue146
  i73 := by kernel_rfl
  t74 := Tryd.underlying147
  a74 := Tryd.isAgg147
  z74 := Tryd.sizeOf147
  v74 := Tryd.zeroValue147
  i74 := by kernel_rfl }
open Go.RowKit Go.Lib Go.Sort in
theorem Tryd.pdqsort_iface {α : Type} [Inhabited α] (T : TypeId) (rv : Value) (gl gs : Nat) (rL : Reaches Tryd.prog T rv "Less" gl) (rS : Reaches Tryd.prog T rv "Swap" gs) (enc : α → Value) (lt : α → α → Bool) (hO : SWO lt) (C : IfaceThree Tryd.prog Tryd.laysGt18_ren T rv gl gs enc lt) :
    ∀ (N blk off a b limit : Nat) (d : Array α) (w : World), b - a < N → LessM Tryd.prog gl rv enc lt blk off d.size w → SwapM Tryd.prog gs rv enc blk off d.size → Holds enc w blk off d → blk < w.heap.size → a ≤ b → b ≤ d.size → d.size < 4611686018427387904 → limit < 4611686018427387904 → Below lt a b d →
    Calls Tryd.prog 43 #[.iface T rv, .int .i64 a, .int .i64 b, .int .i64 limit] w fun e w' => e = .returned (.tuple #[]) ∧ At enc w blk off (pdq lt d a b limit true true) w' := Any.pdqsort_iface Tryd.laysGt18 T rv gl gs rL rS enc lt hO C
def Tryd.laysGt11_ren : Go.Shelf.Ren := ⟨fun | 11 => 33 | 17 => 42 | 18 => 43 | 31 => 52 | 32 => 53 | 33 => 54 | 34 => 55 | 35 => 56 | 36 => 57 | 37 => 58 | 38 => 59 | 39 => 60 | 40 => 61 | 43 => 76 | 44 => 77 | 45 => 78 | 46 => 79 | 47 => 80 | 50 => 90 | n => n, fun | 45 => 90 | 3 => 3 | 4 => 4 | 47 => 93 | 0 => 0 | 56 => 103 | 58 => 26 | 61 => 107 | 60 => 106 | 65 => 112 | 5 => 5 | 9 => 9 | 67 => 130 | 71 => 134 | 73 => 146 | 74 => 147 | 43 => 91 | 26 => 110 | 38 => 129 | n => n, fun | n => n⟩
theorem Tryd.laysGt11 : Go.Proofs.LaysGt.n11 Tryd.prog Tryd.laysGt11_ren := {
  mixed := by kernel_rfl
  f11 := Tryd.func33.trans (congrArg some (by kernel_rfl))
  f17 := Tryd.func42.trans (congrArg some (by kernel_rfl))
  f18 := Tryd.func43.trans (congrArg some (by kernel_rfl))
  f31 := Tryd.func52.trans (congrArg some (by kernel_rfl))
  f32 := Tryd.func53.trans (congrArg some (by kernel_rfl))
  f33 := Tryd.func54.trans (congrArg some (by kernel_rfl))
  f34 := Tryd.func55.trans (congrArg some (by kernel_rfl))
  f35 := Tryd.func56.trans (congrArg some (by kernel_rfl))
  f36 := Tryd.func57.trans (congrArg some (by kernel_rfl))
  f37 := Tryd.func58.trans (congrArg some (by kernel_rfl))
  f38 := Tryd.func59.trans (congrArg some (by kernel_rfl))
  f39 := Tryd.func60.trans (congrArg some (by kernel_rfl))
  f40 := Tryd.func61.trans (congrArg some (by kernel_rfl))
  f43 := Tryd.func76.trans (congrArg some (by kernel_rfl))
  f44 := Tryd.func77.trans (congrArg some (by kernel_rfl))
  f45 := Tryd.func78.trans (congrArg some (by kernel_rfl))
  f46 := Tryd.func79.trans (congrArg some (by kernel_rfl))
  f47 := Tryd.func80.trans (congrArg some (by kernel_rfl))
  f50 := Tryd.func90.trans (congrArg some (by kernel_rfl))
  t0 := Tryd.underlying0
  a0 := Tryd.isAgg0
  z0 := Tryd.sizeOf0
  v0 := Tryd.zeroValue0
  i0 := by kernel_rfl
  t3 := Tryd.underlying3
  a3 := Tryd.isAgg3
  z3 := Tryd.sizeOf3
  v3 := Tryd.zeroValue3
  i3 := by kernel_rfl
  t4 := Tryd.underlying4
  a4 := Tryd.isAgg4
  z4 := Tryd.sizeOf4
  v4 := Tryd.zeroValue4
  i4 := by kernel_rfl
  t5 := Tryd.underlying5
  a5 := Tryd.isAgg5
  z5 := Tryd.sizeOf5
  v5 := Tryd.zeroValue5
  i5 := by kernel_rfl
  t9 := Tryd.underlying9
  a9 := Tryd.isAgg9
  z9 := Tryd.sizeOf9
  v9 := Tryd.zeroValue9
  i9 := by kernel_rfl
  t26 := Tryd.underlying110
  a26 := Tryd.isAgg110
  z26 := Tryd.sizeOf110
  v26 := Tryd.zeroValue110
  i26 := by kernel_rfl
  t38 := Tryd.underlying129
  a38 := Tryd.isAgg129
  z38 := Tryd.sizeOf129
  v38 := Tryd.zeroValue129
  i38 := by kernel_rfl
  t43 := Tryd.underlying91
  a43 := Tryd.isAgg91
  z43 := Tryd.sizeOf91
  v43 := Tryd.zeroValue91
  i43 := by kernel_rfl
  t45 := Tryd.underlying90
  a45 := Tryd.isAgg90
  z45 := Tryd.sizeOf90
  v45 := Tryd.zeroValue90
  i45 := by kernel_rfl
  t47 := Tryd.underlying93
  a47 := Tryd.isAgg93
  z47 := Tryd.sizeOf93
  v47 := Tryd.zeroValue93
  i47 := by kernel_rfl
  t56 := Tryd.underlying103
  a56 := Tryd.isAgg103
  z56 := Tryd.sizeOf103
  v56 := Tryd.zeroValue103
  i56 := by kernel_rfl
  t58 := Tryd.underlying26
  a58 := Tryd.isAgg26
  z58 := Tryd.sizeOf26
  v58 := Tryd.zeroValue26
  i58 := by kernel_rfl
  t60 := Tryd.underlying106
  a60 := Tryd.isAgg106
  z60 := Tryd.sizeOf106
  v60 := Tryd.zeroValue106
  i60 := by kernel_rfl
  t61 := Tryd.underlying107
  a61 := Tryd.isAgg107
  z61 := Tryd.sizeOf107
  v61 := Tryd.zeroValue107
  i61 := by kernel_rfl
  t65 := Tryd.underlying112
  a65 := Tryd.isAgg112
  z65 := Tryd.sizeOf112
  v65 := Tryd.zeroValue112
  i65 := by kernel_rfl
  t67 := Tryd.underlying130
  a67 := Tryd.isAgg130
  z67 := Tryd.sizeOf130
  v67 := Tryd.zeroValue130
  i67 := by kernel_rfl
  t71 := Tryd.underlying134
  a71 := Tryd.isAgg134
  z71 := Tryd.sizeOf134
  v71 := Tryd.zeroValue134
  i71 := by kernel_rfl
  t73 := Tryd.underlying146
  a73 := Tryd.isAgg146
  z73 := Tryd.sizeOf146
  v73 := Tryd.zeroValue146
  i73 := by kernel_rfl
  t74 := Tryd.underlying147
  a74 := Tryd.isAgg147
  z74 := Tryd.sizeOf147
  v74 := Tryd.zeroValue147
  i74 := by kernel_rfl }
open Go.RowKit Go.Lib Go.Sort in
theorem Tryd.sort_Sort_tiny {α : Type} [Inhabited α] (T : TypeId) (rv : Value) (gn : Nat) (rN : Reaches Tryd.prog T rv "Len" gn) (n : Nat) (hn : n ≤ 1) (w : World) (hlen : LenM Tryd.prog gn rv n w) :
    Calls Tryd.prog 33 #[.iface T rv] w fun e w' => e = .returned (.tuple #[]) ∧ ∃ q, w' = w.drewN q := Any.sort_Sort_tiny Tryd.laysGt11 T rv gn rN n hn w hlen
open Go.RowKit Go.Lib Go.Sort in
/-- **sort.Sort: WHAT THE ROW HOLDS, TO THE ELEMENT.** (LAID: no walk: one application.) -/
theorem Tryd.sort_Sort_eq {α : Type} [Inhabited α] (T : TypeId) (rv : Value) (gn gl gs : Nat) (rN : Reaches Tryd.prog T rv "Len" gn) (rL : Reaches Tryd.prog T rv "Less" gl) (rS : Reaches Tryd.prog T rv "Swap" gs) (enc : α → Value) (lt : α → α → Bool) (hO : SWO lt) (blk off : Nat) (d : Array α) (h2 : 2 ≤ d.size) (hsz : d.size < 4611686018427387904) (w : World) (hlen : LenM Tryd.prog gn rv d.size w) (hless : LessM Tryd.prog gl rv enc lt blk off d.size w) (hswap : SwapM Tryd.prog gs rv enc blk off d.size) (hH : Holds enc w blk off d) (hblk : blk < w.heap.size) :
    Calls Tryd.prog 33 #[.iface T rv] w fun e w' => e = .returned (.tuple #[]) ∧ ∃ n os, w' = grow (putRow enc (Sort.ahead w n) blk off (pdq lt d 0 d.size (Lib.bitLen d.size) true true)) os := Any.sort_Sort_eq Tryd.laysGt11 T rv gn gl gs rN rL rS enc lt hO blk off d h2 hsz w hlen hless hswap hH hblk
open Go.RowKit Go.Lib Go.Sort in
/-- **sort.Sort, IN THE DOCUMENTATION's OWN TERMS ("Sort sorts data in ascending order as determined by the Less method. .. The sort is not guaranteed to be stable"): A PERMUTATION OF WHAT THE ROW HELD, SORTED BY 'lt'.** (LAID: no walk: one application.) -/
theorem Tryd.sort_Sort_sorted {α : Type} [Inhabited α] (T : TypeId) (rv : Value) (gn gl gs : Nat) (rN : Reaches Tryd.prog T rv "Len" gn) (rL : Reaches Tryd.prog T rv "Less" gl) (rS : Reaches Tryd.prog T rv "Swap" gs) (enc : α → Value) (lt : α → α → Bool) (hO : SWO lt) (blk off : Nat) (d : Array α) (h2 : 2 ≤ d.size) (hsz : d.size < 4611686018427387904) (w : World) (hlen : LenM Tryd.prog gn rv d.size w) (hless : LessM Tryd.prog gl rv enc lt blk off d.size w) (hswap : SwapM Tryd.prog gs rv enc blk off d.size) (hH : Holds enc w blk off d) (hblk : blk < w.heap.size) :
    Calls Tryd.prog 33 #[.iface T rv] w fun e w' => e = .returned (.tuple #[]) ∧ ∃ d' n os, PermIn 0 d.size d d' ∧ SortedIn lt 0 d.size d' ∧ w' = grow (putRow enc (Sort.ahead w n) blk off d') os := Any.sort_Sort_sorted Tryd.laysGt11 T rv gn gl gs rN rL rS enc lt hO blk off d h2 hsz w hlen hless hswap hH hblk
def Tryd.lays204_ren : Go.Shelf.Ren := ⟨fun | 204 => 40 | 262 => 50 | 313 => 66 | 274 => 82 | 275 => 83 | n => n, fun | 21 => 21 | 4 => 4 | 3 => 3 | 162 => 120 | 203 => 118 | 160 => 140 | 46 => 93 | 0 => 0 | 208 => 152 | 51 => 103 | 206 => 150 | n => n, fun | 13 => 1 | n => n⟩
theorem Tryd.lays204 : Go.Proofs.Lays.n204 Tryd.prog Tryd.lays204_ren := {
  mixed := by kernel_rfl
  f204 := Tryd.func40.trans (congrArg some (by kernel_rfl))
  f262 := Tryd.func50.trans (congrArg some (by kernel_rfl))
  f274 := Tryd.func82.trans (congrArg some (by kernel_rfl))
  f275 := Tryd.func83.trans (congrArg some (by kernel_rfl))
  f313 := Tryd.func66.trans (congrArg some (by kernel_rfl))
  t0 := Tryd.underlying0
  a0 := Tryd.isAgg0
  z0 := Tryd.sizeOf0
  v0 := Tryd.zeroValue0
  t3 := Tryd.underlying3
  a3 := Tryd.isAgg3
  z3 := Tryd.sizeOf3
  v3 := Tryd.zeroValue3
  t4 := Tryd.underlying4
  a4 := Tryd.isAgg4
  z4 := Tryd.sizeOf4
  v4 := Tryd.zeroValue4
  t21 := Tryd.underlying21
  a21 := Tryd.isAgg21
  z21 := Tryd.sizeOf21
  v21 := Tryd.zeroValue21
  t46 := Tryd.underlying93
  a46 := Tryd.isAgg93
  z46 := Tryd.sizeOf93
  v46 := Tryd.zeroValue93
  t51 := Tryd.underlying103
  a51 := Tryd.isAgg103
  z51 := Tryd.sizeOf103
  v51 := Tryd.zeroValue103
  t160 := Tryd.underlying140
  a160 := Tryd.isAgg140
  z160 := Tryd.sizeOf140
  v160 := Tryd.zeroValue140
  t162 := Tryd.underlying120
  a162 := Tryd.isAgg120
  z162 := Tryd.sizeOf120
  v162 := Tryd.zeroValue120
  t203 := Tryd.underlying118
  a203 := Tryd.isAgg118
  z203 := Tryd.sizeOf118
  v203 := Tryd.zeroValue118
  t206 := Tryd.underlying150
  a206 := Tryd.isAgg150
  z206 := Tryd.sizeOf150
  v206 := Tryd.zeroValue150
  t208 := Tryd.underlying152
  a208 := Tryd.isAgg152
  z208 := Tryd.sizeOf152
  v208 := Tryd.zeroValue152
  g13 := by kernel_rfl }
open Go.RowKit Go.Lib in
theorem Tryd.unicode_ToLower (r : Int) (w : World) (h : r ≤ 127) :
    Calls Tryd.prog 40 #[.int .i32 r] w fun e w' => e = .returned (.int .i32 (Lib.toLowerR r)) ∧ w' = w := Any.unicode_ToLower Tryd.lays204 r w h
def Tryd.lays260_ren : Go.Shelf.Ren := ⟨fun | 260 => 64 | n => n, fun | 9 => 9 | 21 => 21 | 3 => 3 | 4 => 4 | 5 => 5 | 119 => 136 | 0 => 0 | 46 => 93 | 139 => 139 | 138 => 138 | n => n, fun | 3 => 3 | 4 => 4 | n => n⟩
theorem Tryd.lays260 : Go.Proofs.Lays.n260 Tryd.prog Tryd.lays260_ren := {
  mixed := by kernel_rfl
  f260 := Tryd.func64.trans (congrArg some (by kernel_rfl))
  t0 := Tryd.underlying0
  a0 := Tryd.isAgg0
  z0 := Tryd.sizeOf0
  v0 := Tryd.zeroValue0
  t3 := Tryd.underlying3
  a3 := Tryd.isAgg3
  z3 := Tryd.sizeOf3
  v3 := Tryd.zeroValue3
  t4 := Tryd.underlying4
  a4 := Tryd.isAgg4
  z4 := Tryd.sizeOf4
  v4 := Tryd.zeroValue4
  t5 := Tryd.underlying5
  a5 := Tryd.isAgg5
  z5 := Tryd.sizeOf5
  v5 := Tryd.zeroValue5
  t9 := Tryd.underlying9
  a9 := Tryd.isAgg9
  z9 := Tryd.sizeOf9
  v9 := Tryd.zeroValue9
  t21 := Tryd.underlying21
  a21 := Tryd.isAgg21
  z21 := Tryd.sizeOf21
  v21 := Tryd.zeroValue21
  t46 := Tryd.underlying93
  a46 := Tryd.isAgg93
  z46 := Tryd.sizeOf93
  v46 := Tryd.zeroValue93
  t119 := Tryd.underlying136
  a119 := Tryd.isAgg136
  z119 := Tryd.sizeOf136
  t138 := Tryd.underlying138
  a138 := Tryd.isAgg138
  z138 := Tryd.sizeOf138
  v138 := Tryd.zeroValue138
  t139 := Tryd.underlying139
  a139 := Tryd.isAgg139
  z139 := Tryd.sizeOf139
  v139 := Tryd.zeroValue139
  g3 := by kernel_rfl
  g4 := by kernel_rfl }
open Go.RowKit Go.Lib in
theorem Tryd.utf8_decodeRuneInStringSlow (s : ByteArray) (w : World) (hT : Lib.Utf8Tabs 3 4 w) :
    Calls Tryd.prog 64 #[.string s] w fun e w' => e = .returned (.tuple #[.int .i32 (Lib.decodeGo s).1, .int .i64 (Lib.decodeGo s).2]) ∧ Below w.heap.size w w' := Any.utf8_decodeRuneInStringSlow Tryd.lays260 s w hT
def Tryd.lays274_ren : Go.Shelf.Ren := ⟨fun | 274 => 82 | n => n, fun | 21 => 21 | 162 => 120 | 160 => 140 | 3 => 3 | 4 => 4 | 46 => 93 | 0 => 0 | 208 => 152 | 51 => 103 | 206 => 150 | n => n, fun | n => n⟩
theorem Tryd.lays274 : Go.Proofs.Lays.n274 Tryd.prog Tryd.lays274_ren := {
  mixed := by kernel_rfl
  f274 := Tryd.func82.trans (congrArg some (by kernel_rfl))
  t0 := Tryd.underlying0
  a0 := Tryd.isAgg0
  z0 := Tryd.sizeOf0
  v0 := Tryd.zeroValue0
  t3 := Tryd.underlying3
  a3 := Tryd.isAgg3
  z3 := Tryd.sizeOf3
  v3 := Tryd.zeroValue3
  t4 := Tryd.underlying4
  a4 := Tryd.isAgg4
  z4 := Tryd.sizeOf4
  v4 := Tryd.zeroValue4
  t21 := Tryd.underlying21
  a21 := Tryd.isAgg21
  z21 := Tryd.sizeOf21
  v21 := Tryd.zeroValue21
  t46 := Tryd.underlying93
  a46 := Tryd.isAgg93
  z46 := Tryd.sizeOf93
  v46 := Tryd.zeroValue93
  t51 := Tryd.underlying103
  a51 := Tryd.isAgg103
  z51 := Tryd.sizeOf103
  v51 := Tryd.zeroValue103
  t160 := Tryd.underlying140
  a160 := Tryd.isAgg140
  z160 := Tryd.sizeOf140
  v160 := Tryd.zeroValue140
  t162 := Tryd.underlying120
  a162 := Tryd.isAgg120
  z162 := Tryd.sizeOf120
  v162 := Tryd.zeroValue120
  t208 := Tryd.underlying152
  a208 := Tryd.isAgg152
  z208 := Tryd.sizeOf152
  v208 := Tryd.zeroValue152 }
open Go.RowKit Go.Lib in
theorem Tryd.unicode_lookupCaseRange (T : Array CaseRow) (R oR cap : Nat) (r : Int) (w : World) (hT : CaseTab R oR T w) (hok : CaseOk T) (hn : T.size ≤ 1000000000) :
    Calls Tryd.prog 82 #[.int .i32 r, .slice (some ⟨R, oR, none⟩) T.size cap] w fun e w' =>
      e = .returned (match lookupIdx T r (T.size + 1) 0 T.size with | some i => .pointer (some ⟨R, oR + i * 5, none⟩) | none => .pointer none) ∧ w' = w := Any.unicode_lookupCaseRange Tryd.lays274 T R oR cap r w hT hok hn
def Tryd.lays275_ren : Go.Shelf.Ren := ⟨fun | 275 => 83 | n => n, fun | 3 => 3 | 21 => 21 | 160 => 140 | 0 => 0 | 208 => 152 | 206 => 150 | 4 => 4 | 51 => 103 | n => n, fun | n => n⟩
theorem Tryd.lays275 : Go.Proofs.Lays.n275 Tryd.prog Tryd.lays275_ren := {
  mixed := by kernel_rfl
  f275 := Tryd.func83.trans (congrArg some (by kernel_rfl))
  t0 := Tryd.underlying0
  a0 := Tryd.isAgg0
  z0 := Tryd.sizeOf0
  v0 := Tryd.zeroValue0
  t3 := Tryd.underlying3
  a3 := Tryd.isAgg3
  z3 := Tryd.sizeOf3
  v3 := Tryd.zeroValue3
  t4 := Tryd.underlying4
  a4 := Tryd.isAgg4
  z4 := Tryd.sizeOf4
  v4 := Tryd.zeroValue4
  t21 := Tryd.underlying21
  a21 := Tryd.isAgg21
  z21 := Tryd.sizeOf21
  v21 := Tryd.zeroValue21
  t51 := Tryd.underlying103
  a51 := Tryd.isAgg103
  z51 := Tryd.sizeOf103
  v51 := Tryd.zeroValue103
  t160 := Tryd.underlying140
  a160 := Tryd.isAgg140
  z160 := Tryd.sizeOf140
  v160 := Tryd.zeroValue140
  t206 := Tryd.underlying150
  a206 := Tryd.isAgg150
  z206 := Tryd.sizeOf150
  v206 := Tryd.zeroValue150
  t208 := Tryd.underlying152
  a208 := Tryd.isAgg152
  z208 := Tryd.sizeOf152
  v208 := Tryd.zeroValue152 }
open Go.RowKit Go.Lib in
theorem Tryd.unicode_convertCase (c : Nat) (hc : c < 3) (r : Int) (A o : Nat) (x : CaseRow) (w : World) (hlo : (x.1 : Int) ≤ r) (hhi : r ≤ (x.2.1 : Int)) (hH : x.2.1 < 2147483647) (c0 : w.cell? ⟨A, o, none⟩ = some (.int .u32 x.1)) (cD : w.cell? ⟨A, o + 2 + c, none⟩ = some (.int .i32 (x.delta c))) :
    Calls Tryd.prog 83 #[.int .i64 c, .int .i32 r, .pointer (some ⟨A, o, none⟩)] w fun e w' => e = .returned (.int .i32 (wrap32 (convertR c r x))) ∧ ∃ q, w' = w.drewN q := Any.unicode_convertCase Tryd.lays275 c hc r A o x w hlo hhi hH c0 cD
def Tryd.lays313_ren : Go.Shelf.Ren := ⟨fun | 313 => 66 | 274 => 82 | 275 => 83 | n => n, fun | 3 => 3 | 21 => 21 | 162 => 120 | 4 => 4 | 160 => 140 | 46 => 93 | 0 => 0 | 208 => 152 | 51 => 103 | 206 => 150 | n => n, fun | n => n⟩
theorem Tryd.lays313 : Go.Proofs.Lays.n313 Tryd.prog Tryd.lays313_ren := {
  mixed := by kernel_rfl
  f274 := Tryd.func82.trans (congrArg some (by kernel_rfl))
  f275 := Tryd.func83.trans (congrArg some (by kernel_rfl))
  f313 := Tryd.func66.trans (congrArg some (by kernel_rfl))
  t0 := Tryd.underlying0
  a0 := Tryd.isAgg0
  z0 := Tryd.sizeOf0
  v0 := Tryd.zeroValue0
  t3 := Tryd.underlying3
  a3 := Tryd.isAgg3
  z3 := Tryd.sizeOf3
  v3 := Tryd.zeroValue3
  t4 := Tryd.underlying4
  a4 := Tryd.isAgg4
  z4 := Tryd.sizeOf4
  v4 := Tryd.zeroValue4
  t21 := Tryd.underlying21
  a21 := Tryd.isAgg21
  z21 := Tryd.sizeOf21
  v21 := Tryd.zeroValue21
  t46 := Tryd.underlying93
  a46 := Tryd.isAgg93
  z46 := Tryd.sizeOf93
  v46 := Tryd.zeroValue93
  t51 := Tryd.underlying103
  a51 := Tryd.isAgg103
  z51 := Tryd.sizeOf103
  v51 := Tryd.zeroValue103
  t160 := Tryd.underlying140
  a160 := Tryd.isAgg140
  z160 := Tryd.sizeOf140
  v160 := Tryd.zeroValue140
  t162 := Tryd.underlying120
  a162 := Tryd.isAgg120
  z162 := Tryd.sizeOf120
  v162 := Tryd.zeroValue120
  t206 := Tryd.underlying150
  a206 := Tryd.isAgg150
  z206 := Tryd.sizeOf150
  v206 := Tryd.zeroValue150
  t208 := Tryd.underlying152
  a208 := Tryd.isAgg152
  z208 := Tryd.sizeOf152
  v208 := Tryd.zeroValue152 }
open Go.RowKit Go.Lib in
theorem Tryd.unicode_to (c : Nat) (hc : c < 3) (r : Int) (T : Array CaseRow) (R oR cap : Nat) (w : World) (hT : CaseTab R oR T w) (hok : CaseOk2 T) (hn : T.size ≤ 1000000000) :
    Calls Tryd.prog 66 #[.int .i64 c, .int .i32 r, .slice (some ⟨R, oR, none⟩) T.size cap] w fun e w' => e = .returned (.tuple #[.int .i32 (toW T c r), .bool (lookupIdx T r (T.size + 1) 0 T.size).isSome]) ∧ ∃ q, w' = w.drewN q := Any.unicode_to Tryd.lays313 c hc r T R oR cap w hT hok hn
def Tryd.lays262_ren : Go.Shelf.Ren := ⟨fun | 262 => 50 | 313 => 66 | 274 => 82 | 275 => 83 | n => n, fun | 3 => 3 | 21 => 21 | 162 => 120 | 203 => 118 | 4 => 4 | 160 => 140 | 46 => 93 | 0 => 0 | 208 => 152 | 51 => 103 | 206 => 150 | n => n, fun | 13 => 1 | n => n⟩
theorem Tryd.lays262 : Go.Proofs.Lays.n262 Tryd.prog Tryd.lays262_ren := {
  mixed := by kernel_rfl
  f262 := Tryd.func50.trans (congrArg some (by kernel_rfl))
  f274 := Tryd.func82.trans (congrArg some (by kernel_rfl))
  f275 := Tryd.func83.trans (congrArg some (by kernel_rfl))
  f313 := Tryd.func66.trans (congrArg some (by kernel_rfl))
  t0 := Tryd.underlying0
  a0 := Tryd.isAgg0
  z0 := Tryd.sizeOf0
  v0 := Tryd.zeroValue0
  t3 := Tryd.underlying3
  a3 := Tryd.isAgg3
  z3 := Tryd.sizeOf3
  v3 := Tryd.zeroValue3
  t4 := Tryd.underlying4
  a4 := Tryd.isAgg4
  z4 := Tryd.sizeOf4
  v4 := Tryd.zeroValue4
  t21 := Tryd.underlying21
  a21 := Tryd.isAgg21
  z21 := Tryd.sizeOf21
  v21 := Tryd.zeroValue21
  t46 := Tryd.underlying93
  a46 := Tryd.isAgg93
  z46 := Tryd.sizeOf93
  v46 := Tryd.zeroValue93
  t51 := Tryd.underlying103
  a51 := Tryd.isAgg103
  z51 := Tryd.sizeOf103
  v51 := Tryd.zeroValue103
  t160 := Tryd.underlying140
  a160 := Tryd.isAgg140
  z160 := Tryd.sizeOf140
  v160 := Tryd.zeroValue140
  t162 := Tryd.underlying120
  a162 := Tryd.isAgg120
  z162 := Tryd.sizeOf120
  v162 := Tryd.zeroValue120
  t203 := Tryd.underlying118
  a203 := Tryd.isAgg118
  z203 := Tryd.sizeOf118
  v203 := Tryd.zeroValue118
  t206 := Tryd.underlying150
  a206 := Tryd.isAgg150
  z206 := Tryd.sizeOf150
  v206 := Tryd.zeroValue150
  t208 := Tryd.underlying152
  a208 := Tryd.isAgg152
  z208 := Tryd.sizeOf152
  v208 := Tryd.zeroValue152
  g13 := by kernel_rfl }
open Go.RowKit Go.Lib in
theorem Tryd.unicode_To (c : Nat) (hc : c < 3) (r : Int) (T : Array CaseRow) (w : World) (hV : CaseVar 1 T w) (hok : CaseOk2 T) (hn : T.size ≤ 1000000000) :
    Calls Tryd.prog 50 #[.int .i64 c, .int .i32 r] w fun e w' => e = .returned (.int .i32 (toW T c r)) ∧ ∃ q, w' = w.drewN q := Any.unicode_To Tryd.lays262 c hc r T w hV hok hn
open Go.RowKit Go.Lib in
theorem Tryd.unicode_ToLower_any (r : Int) (T : Array CaseRow) (w : World) (hV : CaseVar 1 T w) (hok : CaseOk2 T) (hn : T.size ≤ 1000000000) :
    Calls Tryd.prog 40 #[.int .i32 r] w fun e w' => e = .returned (.int .i32 (Lib.toLowerW T r)) ∧ ∃ q, w' = w.drewN q := Any.unicode_ToLower_any Tryd.lays204 r T w hV hok hn
open Go.RowKit Go.Lib in
theorem Tryd.unicode_ToLower_laid (r : Int) (w : World) (hV : CaseVar 1 caseA w) :
    Calls Tryd.prog 40 #[.int .i32 r] w fun e w' => e = .returned (.int .i32 (toLowerU r)) ∧ ∃ q, w' = w.drewN q := Any.unicode_ToLower_laid Tryd.lays204 r w hV
def Tryd.laysNm216_ren : Go.Shelf.Ren := ⟨fun | 16 => 26 | n => n, fun | 24 => 25 | 9 => 9 | 4 => 4 | n => n, fun | n => n⟩
theorem Tryd.laysNm216 : Go.Proofs.Lays2.n16 Tryd.prog Tryd.laysNm216_ren := {
  mixed := by kernel_rfl
  f16 := Tryd.func26.trans (congrArg some (by kernel_rfl))
  t4 := Tryd.underlying4
  a4 := Tryd.isAgg4
  z4 := Tryd.sizeOf4
  v4 := Tryd.zeroValue4
  t9 := Tryd.underlying9
  a9 := Tryd.isAgg9
  z9 := Tryd.sizeOf9
  v9 := Tryd.zeroValue9
  t24 := Tryd.underlying25
  a24 := Tryd.isAgg25
  z24 := Tryd.sizeOf25
  v24 := Tryd.zeroValue25
  i9 := by kernel_rfl }
open Go.RowKit Go.Lib in
/-- slices.Clone at []string: "Clone returns a copy of the slice. The elements are copied using assignment, so this is a shallow clone. The result may have additional unused capacity. The result preserves the nilness of s.": OF A SLICE THAT IS NOT nil IT RETURNS A SLICE THAT IS NOT nil, OF THE SAME ELEMENTS, IN MEMORY OF THE CALL's OWN: in the how-to's words (6f): 'w'.ownsRow B e 1 v' n cells': v' begins at the head of a row among the blocks from B on (B: the heap's size at the call), not frozen, whose first cells are the elements · 'Below B w w'': below B all is as it was. The capacity is whatever the run-time gives. 'zs': what the cells behind the slice's address hold; 'zs.take n': its elements. (LAID: no walk: one application.) -/
theorem Tryd.slices_Clone_string (b off n c : Nat) (zs : List ByteArray) (w : World) (hz : n ≤ zs.length) (hbig : n * 16 ≤ 140737488355328) (hc : ∀ j, j < zs.length → w.cell? ⟨b, off + j, none⟩ = some (.string (zs.getD j ByteArray.empty))) :
    Calls Tryd.prog 26 #[.slice (some ⟨b, off, none⟩) n c] w fun e w' => ∃ v', e = .returned v' ∧ w'.ownsRow w.heap.size 9 1 v' n ((zs.take n).map (Value.string)) ∧ v' ≠ .slice none 0 0 ∧ Below w.heap.size w w' := Any.slices_Clone_string Tryd.laysNm216 b off n c zs w hz hbig hc
open Go.RowKit Go.Lib in
/-- The same at nil: nil comes back; the world is as it was. (LAID: no walk: one application.) -/
theorem Tryd.slices_Clone_string_nil (n c : Nat) (w : World) :
    Calls Tryd.prog 26 #[.slice none n c] w fun e w' => e = .returned (.slice none 0 0) ∧ w' = w := Any.slices_Clone_string_nil Tryd.laysNm216 n c w
open Go.RowKit Go.Lib in
/-- The same at a slice of length 0 that is not nil, WHATEVER ITS ADDRESS (no cell is asked for): a slice that is not nil and owns nothing comes back. (LAID: no walk: one application.) -/
theorem Tryd.slices_Clone_string_zero (a : Addr) (c : Nat) (w : World) :
    Calls Tryd.prog 26 #[.slice (some a) 0 c] w fun e w' => ∃ v', e = .returned v' ∧ w'.ownsRow w.heap.size 9 1 v' 0 [] ∧ v' ≠ .slice none 0 0 ∧ Below w.heap.size w w' := Any.slices_Clone_string_zero Tryd.laysNm216 a c w
open Go.RowKit Go.Sort in
/-- .. and plain. (LAID: no walk: one application.) -/
theorem Tryd.slices_Sort_string_none (p : Option Addr) (cap : Nat) (w : World) :
    Calls Tryd.prog 41 #[.slice p 0 cap] w fun e w' => e = .returned (.tuple #[]) ∧ w' = w := Any.slices_Sort_string_none Tryd.lays190 p cap w
open Go.RowKit Go.Sort in
/-- .. and plain. (LAID: no walk: one application.) -/
theorem Tryd.sort_Strings_none (p : Option Addr) (cap : Nat) (w : World) :
    Calls Tryd.prog 32 #[.slice p 0 cap] w fun e w' => e = .returned (.tuple #[]) ∧ w' = w := Any.sort_Strings_none Tryd.lays192 p cap w
def Tryd.laysGg36_ren : Go.Shelf.Ren := ⟨fun | 36 => 78 | n => n, fun | 66 => 146 | 51 => 26 | 0 => 0 | 60 => 130 | 41 => 93 | n => n, fun | n => n⟩
theorem Tryd.laysGg36 : Go.Proofs.LaysGg.n36 Tryd.prog Tryd.laysGg36_ren := {
  mixed := by kernel_rfl
  f36 := Tryd.func78.trans (congrArg some (by kernel_rfl))
  t0 := Tryd.underlying0
  a0 := Tryd.isAgg0
  z0 := Tryd.sizeOf0
  v0 := Tryd.zeroValue0
  i0 := by kernel_rfl
  t41 := Tryd.underlying93
  a41 := Tryd.isAgg93
  z41 := Tryd.sizeOf93
  v41 := Tryd.zeroValue93
  i41 := by kernel_rfl
  t51 := Tryd.underlying26
  a51 := Tryd.isAgg26
  z51 := Tryd.sizeOf26
  v51 := Tryd.zeroValue26
  i51 := by kernel_rfl
  t60 := Tryd.underlying130
  a60 := Tryd.isAgg130
  z60 := Tryd.sizeOf130
  v60 := Tryd.zeroValue130
  i60 := by kernel_rfl
  t66 := Tryd.underlying146
  a66 := Tryd.isAgg146
  z66 := Tryd.sizeOf146
  v66 := Tryd.zeroValue146
  i66 := by kernel_rfl }
open Go.RowKit Go.Lib Go.Sort in
/-- '*r ^= *r << 13; *r ^= *r >> 7; *r ^= *r << 17; return uint64(*r)': the cell holds 'xorNextN X' and that is handed back; three draws; nothing else turns. (LAID: no walk: one application.) -/
theorem Tryd.xorshift_Next (rb ro X : Nat) (hX : X < 18446744073709551616) (w : World) (hc : w.cell? ⟨rb, ro, none⟩ = some (.int .u64 X)) (hf : w.frozen? ⟨rb, ro, none⟩ = false) :
    Calls Tryd.prog 78 #[.pointer (some ⟨rb, ro, none⟩)] w fun e w' => e = .returned (.int .u64 (xorNextN X : Nat)) ∧ w' = (w.setCell ⟨rb, ro, none⟩ (.int .u64 (xorNextN X : Nat))).drewN 3 := Any.xorshift_Next Tryd.laysGg36 rb ro X hX w hc hf
def Tryd.laysGg35_ren : Go.Shelf.Ren := ⟨fun | 35 => 77 | 13 => 42 | 24 => 52 | 25 => 53 | n => n, fun | 3 => 3 | 41 => 93 | 49 => 103 | 51 => 26 | 4 => 4 | 5 => 5 | 9 => 9 | n => n, fun | n => n⟩
theorem Tryd.laysGg35 : Go.Proofs.LaysGg.n35 Tryd.prog Tryd.laysGg35_ren := {
  mixed := by kernel_rfl
  f13 := Tryd.func42.trans (congrArg some (by kernel_rfl))
  f24 := Tryd.func52.trans (congrArg some (by kernel_rfl))
  f25 := Tryd.func53.trans (congrArg some (by kernel_rfl))
  f35 := Tryd.func77.trans (congrArg some (by kernel_rfl))
  t3 := Tryd.underlying3
  a3 := Tryd.isAgg3
  z3 := Tryd.sizeOf3
  v3 := Tryd.zeroValue3
  i3 := by kernel_rfl
  t4 := Tryd.underlying4
  a4 := Tryd.isAgg4
  z4 := Tryd.sizeOf4
  v4 := Tryd.zeroValue4
  i4 := by kernel_rfl
  t5 := Tryd.underlying5
  a5 := Tryd.isAgg5
  z5 := Tryd.sizeOf5
  v5 := Tryd.zeroValue5
  i5 := by kernel_rfl
  t9 := Tryd.underlying9
  a9 := Tryd.isAgg9
  z9 := Tryd.sizeOf9
  v9 := Tryd.zeroValue9
  i9 := by kernel_rfl
  t41 := Tryd.underlying93
  a41 := Tryd.isAgg93
  z41 := Tryd.sizeOf93
  v41 := Tryd.zeroValue93
  i41 := by kernel_rfl
  t49 := Tryd.underlying103
  a49 := Tryd.isAgg103
  z49 := Tryd.sizeOf103
  v49 := Tryd.zeroValue103
  i49 := by kernel_rfl
  t51 := Tryd.underlying26
  a51 := Tryd.isAgg26
  z51 := Tryd.sizeOf26
  v51 := Tryd.zeroValue26
  i51 := by kernel_rfl }
open Go.RowKit Go.Lib Go.Sort in
/-- 'return 1 << bits.Len(uint(length))'. (LAID: no walk: one application.) -/
theorem Tryd.nextPowerOfTwo (n : Nat) (hn : n < 4611686018427387904) (w : World) :
    Calls Tryd.prog 77 #[.int .i64 n] w fun e w' => e = .returned (.int .u64 ((1 <<< bitsLen n : Nat) : Int)) ∧ w' = w := Any.nextPowerOfTwo Tryd.laysGg35 n hn w
def Tryd.laysGt43_ren : Go.Shelf.Ren := ⟨fun | 43 => 76 | n => n, fun | 45 => 90 | 3 => 3 | 4 => 4 | 0 => 0 | 43 => 91 | 26 => 110 | 38 => 129 | n => n, fun | n => n⟩
theorem Tryd.laysGt43 : Go.Proofs.LaysGt.n43 Tryd.prog Tryd.laysGt43_ren := {
  mixed := by kernel_rfl
  f43 := Tryd.func76.trans (congrArg some (by kernel_rfl))
  t0 := Tryd.underlying0
  a0 := Tryd.isAgg0
  z0 := Tryd.sizeOf0
  v0 := Tryd.zeroValue0
  i0 := by kernel_rfl
  t3 := Tryd.underlying3
  a3 := Tryd.isAgg3
  z3 := Tryd.sizeOf3
  v3 := Tryd.zeroValue3
  i3 := by kernel_rfl
  t4 := Tryd.underlying4
  a4 := Tryd.isAgg4
  z4 := Tryd.sizeOf4
  v4 := Tryd.zeroValue4
  i4 := by kernel_rfl
  t26 := Tryd.underlying110
  a26 := Tryd.isAgg110
  z26 := Tryd.sizeOf110
  v26 := Tryd.zeroValue110
  i26 := by kernel_rfl
  t38 := Tryd.underlying129
  a38 := Tryd.isAgg129
  z38 := Tryd.sizeOf129
  v38 := Tryd.zeroValue129
  i38 := by kernel_rfl
  t43 := Tryd.underlying91
  a43 := Tryd.isAgg91
  z43 := Tryd.sizeOf91
  v43 := Tryd.zeroValue91
  i43 := by kernel_rfl
  t45 := Tryd.underlying90
  a45 := Tryd.isAgg90
  z45 := Tryd.sizeOf90
  v45 := Tryd.zeroValue90
  i45 := by kernel_rfl }
open Go.RowKit Go.Lib Go.Sort in
theorem Tryd.siftDown_iface {α : Type} [Inhabited α] (T : TypeId) (rv : Value) (gl gs : Nat) (rL : Reaches Tryd.prog T rv "Less" gl) (rS : Reaches Tryd.prog T rv "Swap" gs) (enc : α → Value) (lt : α → α → Bool) (blk off lo hi first : Nat) (d : Array α) (w : World) (hless : LessM Tryd.prog gl rv enc lt blk off d.size w) (hswap : SwapM Tryd.prog gs rv enc blk off d.size) (hH : Holds enc w blk off d) (hlo : lo ≤ hi) (hb : first + hi ≤ d.size) (hsz : d.size < 4611686018427387904) :
    Calls Tryd.prog 76 #[.iface T rv, .int .i64 lo, .int .i64 hi, .int .i64 first] w fun e w' =>
      e = .returned (.tuple #[]) ∧ ∃ n, w' = putRow enc (Sort.ahead w n) blk off (siftDown lt hi first lo d) := Any.siftDown_iface Tryd.laysGt43 T rv gl gs rL rS enc lt blk off lo hi first d w hless hswap hH hlo hb hsz
open Go.RowKit Go.Lib Go.Sort in
/-- sort.siftDown, from a world to a 'sortWorld' of it. (LAID: no walk: one application.) -/
theorem Tryd.siftDown_iface_w {α : Type} [Inhabited α] (T : TypeId) (rv : Value) (gl gs : Nat) (rL : Reaches Tryd.prog T rv "Less" gl) (rS : Reaches Tryd.prog T rv "Swap" gs) (enc : α → Value) (lt : α → α → Bool) (blk off lo hi first : Nat) (d : Array α) (w : World) (hless : LessM Tryd.prog gl rv enc lt blk off d.size w) (hswap : SwapM Tryd.prog gs rv enc blk off d.size) (hH : Holds enc w blk off d) (hlo : lo ≤ hi) (hb : first + hi ≤ d.size) (hsz : d.size < 4611686018427387904) :
    Calls Tryd.prog 76 #[.iface T rv, .int .i64 lo, .int .i64 hi, .int .i64 first] w fun e w' => e = .returned (.tuple #[]) ∧ ∃ n os, w' = sortWorld enc w blk off n (siftDown lt hi first lo d) os := Any.siftDown_iface_w Tryd.laysGt43 T rv gl gs rL rS enc lt blk off lo hi first d w hless hswap hH hlo hb hsz
def Tryd.laysGt34_ren : Go.Shelf.Ren := ⟨fun | 34 => 55 | 43 => 76 | n => n, fun | 45 => 90 | 3 => 3 | 4 => 4 | 0 => 0 | 43 => 91 | 26 => 110 | 38 => 129 | n => n, fun | n => n⟩
theorem Tryd.laysGt34 : Go.Proofs.LaysGt.n34 Tryd.prog Tryd.laysGt34_ren := {
  mixed := by kernel_rfl
  f34 := Tryd.func55.trans (congrArg some (by kernel_rfl))
  f43 := Tryd.func76.trans (congrArg some (by kernel_rfl))
  t0 := Tryd.underlying0
  a0 := Tryd.isAgg0
  z0 := Tryd.sizeOf0
  v0 := Tryd.zeroValue0
  i0 := by kernel_rfl
  t3 := Tryd.underlying3
  a3 := Tryd.isAgg3
  z3 := Tryd.sizeOf3
  v3 := Tryd.zeroValue3
  i3 := by kernel_rfl
  t4 := Tryd.underlying4
  a4 := Tryd.isAgg4
  z4 := Tryd.sizeOf4
  v4 := Tryd.zeroValue4
  i4 := by kernel_rfl
  t26 := Tryd.underlying110
  a26 := Tryd.isAgg110
  z26 := Tryd.sizeOf110
  v26 := Tryd.zeroValue110
  i26 := by kernel_rfl
  t38 := Tryd.underlying129
  a38 := Tryd.isAgg129
  z38 := Tryd.sizeOf129
  v38 := Tryd.zeroValue129
  i38 := by kernel_rfl
  t43 := Tryd.underlying91
  a43 := Tryd.isAgg91
  z43 := Tryd.sizeOf91
  v43 := Tryd.zeroValue91
  i43 := by kernel_rfl
  t45 := Tryd.underlying90
  a45 := Tryd.isAgg90
  z45 := Tryd.sizeOf90
  v45 := Tryd.zeroValue90
  i45 := by kernel_rfl }
open Go.RowKit Go.Lib Go.Sort in
theorem Tryd.heapSort_iface_w {α : Type} [Inhabited α] (T : TypeId) (rv : Value) (gl gs : Nat) (rL : Reaches Tryd.prog T rv "Less" gl) (rS : Reaches Tryd.prog T rv "Swap" gs) (enc : α → Value) (lt : α → α → Bool) (blk off a b : Nat) (d : Array α) (w : World) (hless : LessM Tryd.prog gl rv enc lt blk off d.size w) (hswap : SwapM Tryd.prog gs rv enc blk off d.size) (hH : Holds enc w blk off d) (hblk : blk < w.heap.size) (hab : a ≤ b) (hb : b ≤ d.size) (hsz : d.size < 4611686018427387904) :
    Calls Tryd.prog 55 #[.iface T rv, .int .i64 a, .int .i64 b] w fun e w' => e = .returned (.tuple #[]) ∧ ∃ n os, w' = sortWorld enc w blk off n (heapSort lt d a b) os := Any.heapSort_iface_w Tryd.laysGt34 T rv gl gs rL rS enc lt blk off a b d w hless hswap hH hblk hab hb hsz
def Tryd.laysGt38_ren : Go.Shelf.Ren := ⟨fun | 38 => 59 | n => n, fun | 45 => 90 | 3 => 3 | 4 => 4 | 0 => 0 | 43 => 91 | 26 => 110 | 38 => 129 | n => n, fun | n => n⟩
theorem Tryd.laysGt38 : Go.Proofs.LaysGt.n38 Tryd.prog Tryd.laysGt38_ren := {
  mixed := by kernel_rfl
  f38 := Tryd.func59.trans (congrArg some (by kernel_rfl))
  t0 := Tryd.underlying0
  a0 := Tryd.isAgg0
  z0 := Tryd.sizeOf0
  v0 := Tryd.zeroValue0
  i0 := by kernel_rfl
  t3 := Tryd.underlying3
  a3 := Tryd.isAgg3
  z3 := Tryd.sizeOf3
  v3 := Tryd.zeroValue3
  i3 := by kernel_rfl
  t4 := Tryd.underlying4
  a4 := Tryd.isAgg4
  z4 := Tryd.sizeOf4
  v4 := Tryd.zeroValue4
  i4 := by kernel_rfl
  t26 := Tryd.underlying110
  a26 := Tryd.isAgg110
  z26 := Tryd.sizeOf110
  v26 := Tryd.zeroValue110
  i26 := by kernel_rfl
  t38 := Tryd.underlying129
  a38 := Tryd.isAgg129
  z38 := Tryd.sizeOf129
  v38 := Tryd.zeroValue129
  i38 := by kernel_rfl
  t43 := Tryd.underlying91
  a43 := Tryd.isAgg91
  z43 := Tryd.sizeOf91
  v43 := Tryd.zeroValue91
  i43 := by kernel_rfl
  t45 := Tryd.underlying90
  a45 := Tryd.isAgg90
  z45 := Tryd.sizeOf90
  v45 := Tryd.zeroValue90
  i45 := by kernel_rfl }
open Go.RowKit Go.Lib Go.Sort in
theorem Tryd.partialInsertionSort_iface {α : Type} [Inhabited α] (T : TypeId) (rv : Value) (gl gs : Nat) (rL : Reaches Tryd.prog T rv "Less" gl) (rS : Reaches Tryd.prog T rv "Swap" gs) (enc : α → Value) (lt : α → α → Bool) (blk off a b : Nat) (d : Array α) (w : World) (hless : LessM Tryd.prog gl rv enc lt blk off d.size w) (hswap : SwapM Tryd.prog gs rv enc blk off d.size) (hH : Holds enc w blk off d) (hab : a < b) (hb : b ≤ d.size) (hsz : d.size < 4611686018427387904) :
    Calls Tryd.prog 59 #[.iface T rv, .int .i64 a, .int .i64 b] w fun e w' =>
      e = .returned (.bool (Sort.partialInsertionSort lt d a b).2) ∧ ∃ n, w' = putRow enc (Sort.ahead w n) blk off (Sort.partialInsertionSort lt d a b).1 := Any.partialInsertionSort_iface Tryd.laysGt38 T rv gl gs rL rS enc lt blk off a b d w hless hswap hH hab hb hsz
open Go.RowKit Go.Lib Go.Sort in
/-- sort.partialInsertionSort, from a world to a 'sortWorld' of it. (LAID: no walk: one application.) -/
theorem Tryd.partialInsertionSort_iface_w {α : Type} [Inhabited α] (T : TypeId) (rv : Value) (gl gs : Nat) (rL : Reaches Tryd.prog T rv "Less" gl) (rS : Reaches Tryd.prog T rv "Swap" gs) (enc : α → Value) (lt : α → α → Bool) (blk off a b : Nat) (d : Array α) (w : World) (hless : LessM Tryd.prog gl rv enc lt blk off d.size w) (hswap : SwapM Tryd.prog gs rv enc blk off d.size) (hH : Holds enc w blk off d) (hab : a < b) (hb : b ≤ d.size) (hsz : d.size < 4611686018427387904) :
    Calls Tryd.prog 59 #[.iface T rv, .int .i64 a, .int .i64 b] w fun e w' => e = .returned (.bool (Sort.partialInsertionSort lt d a b).2) ∧ ∃ n os, w' = sortWorld enc w blk off n (Sort.partialInsertionSort lt d a b).1 os := Any.partialInsertionSort_iface_w Tryd.laysGt38 T rv gl gs rL rS enc lt blk off a b d w hless hswap hH hab hb hsz
end Go.Proofs
