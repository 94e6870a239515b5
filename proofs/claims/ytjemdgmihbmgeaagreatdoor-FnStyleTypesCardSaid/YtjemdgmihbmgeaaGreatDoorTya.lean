/- The types of a style, and its mode: by walks, and plain (merged). -/
import Derived.Test.YtjemdgmihbmgeaaGreatDoorWMore
import Derived.Test.YtjemdgmihbmgeaaGreatDoorGet
import Derived.Sort.OwnSortedInts
import Derived.Laws.MakeOwn
import Derived.Test.YtjemdgmihbmgeaaGreatDoorMade
import Derived.Laws.CopyOwn
import Derived.Deep.QuietTactic
import Derived.BigQuiet
import Derived.IntWalk
import Derived.StillTailTactics
import Derived.Test.YtjemdgmihbmgeaaGreatDoorShelf
import Derived.Shelf.Strings.Builder1
import Derived.Shelf.Strings.Builder2
import Derived.Shelf.Small.Bits
import Derived.Shelf.Small.Wraps
import Derived.Shelf.Strconv.Itoa0
import Derived.Shelf.Strconv.Itoa1
import Derived.Shelf.LaysM
import Derived.Shelf.Strconv.Itoa2
import Derived.Shelf.Strconv.Itoa3
import Derived.Shelf.Strconv.Itoa4
import Derived.Shelf.Strconv.Clone
import Derived.Shelf.Strconv.SyntaxError
import Derived.Shelf.LaysC
import Derived.Shelf.Strconv.ToError
import Derived.Shelf.Strconv.Lower
import Derived.Shelf.Strconv.ParseUint10
import Derived.Shelf.Strconv.ParseUint10Empty
import Derived.Shelf.Strconv.ParseUint10Any
import Derived.Shelf.Strconv.RangeError
import Derived.Shelf.Strconv.ToErrorRange
import Derived.Shelf.Strconv.ParseUintEmpty
import Derived.Shelf.Strconv.ParseUint10b64
import Derived.Shelf.Strconv.ParseUint10b32
import Derived.Shelf.Strconv.ParseUint10b16
import Derived.Shelf.Strconv.ParseUint10b8
import Derived.Shelf.Strconv.ParseUint10At
import Derived.Ground.MpProg
import Derived.Shelf.Pu.ParseUintPublic10
import Derived.Shelf.Pu.ErrVarParseUint
import Derived.Shelf.Sort.Plain
import Derived.Shelf.Strings.Prefix
import Derived.Shelf.Unicode.Latin
import Derived.Shelf.Unicode.Decode
import Derived.Shelf.Unicode.DecodeSlow
import Derived.Shelf.Unicode.DecodeAny
import Derived.Shelf.Unicode.Is16White
import Derived.Shelf.Unicode.IsSpaceAny
import Derived.Shelf.Unicode.Is16WhiteD
import Derived.Shelf.Unicode.IsSpaceAnyD
import Derived.Shelf.Unicode.Is16Any
import Derived.Shelf.Unicode.Is32Any
import Derived.Shelf.Unicode.ExclAny
import Derived.Ground.Names2Prog
import Derived.Shelf.Slices.SearchI
import Derived.Shelf.Slices.In.SortNone
import Derived.Test.YtjemdgmihbmgeaaGreatDoorProg
namespace Go.Proofs
open Go.Shelf
def Tryz.lays189_ren : Go.Shelf.Ren := ⟨fun | 189 => 55 | 125 => 81 | 257 => 80 | 128 => 108 | 129 => 109 | 294 => 99 | 295 => 100 | 296 => 101 | 297 => 102 | 298 => 103 | 299 => 104 | 216 => 105 | 300 => 106 | 301 => 107 | 328 => 125 | 329 => 126 | 330 => 127 | 331 => 128 | 332 => 129 | 215 => 130 | 343 => 140 | n => n, fun | 28 => 23 | 3 => 3 | 46 => 152 | 0 => 0 | 51 => 190 | 53 => 192 | 4 => 4 | 183 => 182 | 182 => 181 | 131 => 187 | 5 => 5 | 9 => 9 | 218 => 207 | 222 => 211 | 228 => 220 | 229 => 48 | n => n, fun | n => n⟩
theorem Tryz.lays189 : Go.Proofs.Lays.n189 Tryz.prog Tryz.lays189_ren := {
  mixed := by kernel_rfl
  f125 := Tryz.func81.trans (congrArg some (by kernel_rfl))
  f128 := Tryz.func108.trans (congrArg some (by kernel_rfl))
  f129 := Tryz.func109.trans (congrArg some (by kernel_rfl))
  f189 := Tryz.func55.trans (congrArg some (by kernel_rfl))
  f215 := Tryz.func130.trans (congrArg some (by kernel_rfl))
  f216 := Tryz.func105.trans (congrArg some (by kernel_rfl))
  f257 := Tryz.func80.trans (congrArg some (by kernel_rfl))
  f294 := Tryz.func99.trans (congrArg some (by kernel_rfl))
  f295 := Tryz.func100.trans (congrArg some (by kernel_rfl))
  f296 := Tryz.func101.trans (congrArg some (by kernel_rfl))
  f297 := Tryz.func102.trans (congrArg some (by kernel_rfl))
  f298 := Tryz.func103.trans (congrArg some (by kernel_rfl))
  f299 := Tryz.func104.trans (congrArg some (by kernel_rfl))
  f300 := Tryz.func106.trans (congrArg some (by kernel_rfl))
  f301 := Tryz.func107.trans (congrArg some (by kernel_rfl))
  f328 := Tryz.func125.trans (congrArg some (by kernel_rfl))
  f329 := Tryz.func126.trans (congrArg some (by kernel_rfl))
  f330 := Tryz.func127.trans (congrArg some (by kernel_rfl))
  f331 := Tryz.func128.trans (congrArg some (by kernel_rfl))
  f332 := Tryz.func129.trans (congrArg some (by kernel_rfl))
  f343 := Tryz.func140.trans (congrArg some (by kernel_rfl))
  t0 := Tryz.underlying0
  a0 := Tryz.isAgg0
  z0 := Tryz.sizeOf0
  v0 := Tryz.zeroValue0
  t3 := Tryz.underlying3
  a3 := Tryz.isAgg3
  z3 := Tryz.sizeOf3
  v3 := Tryz.zeroValue3
  t4 := Tryz.underlying4
  a4 := Tryz.isAgg4
  z4 := Tryz.sizeOf4
  v4 := Tryz.zeroValue4
  t5 := Tryz.underlying5
  a5 := Tryz.isAgg5
  z5 := Tryz.sizeOf5
  v5 := Tryz.zeroValue5
  t9 := Tryz.underlying9
  a9 := Tryz.isAgg9
  z9 := Tryz.sizeOf9
  v9 := Tryz.zeroValue9
  t28 := Tryz.underlying23
  a28 := Tryz.isAgg23
  z28 := Tryz.sizeOf23
  v28 := Tryz.zeroValue23
  t46 := Tryz.underlying152
  a46 := Tryz.isAgg152
  z46 := Tryz.sizeOf152
  v46 := Tryz.zeroValue152
  t51 := Tryz.underlying190
  a51 := Tryz.isAgg190
  z51 := Tryz.sizeOf190
  v51 := Tryz.zeroValue190
  t53 := Tryz.underlying192
  a53 := Tryz.isAgg192
  z53 := Tryz.sizeOf192
  v53 := Tryz.zeroValue192
  t131 := Tryz.underlying187
  a131 := Tryz.isAgg187
  z131 := Tryz.sizeOf187
  v131 := Tryz.zeroValue187
  t182 := Tryz.underlying181
  a182 := Tryz.isAgg181
  z182 := Tryz.sizeOf181
  v182 := Tryz.zeroValue181
  t183 := Tryz.underlying182
  a183 := Tryz.isAgg182
  z183 := Tryz.sizeOf182
  v183 := Tryz.zeroValue182
  t218 := Tryz.underlying207
  a218 := Tryz.isAgg207
  z218 := Tryz.sizeOf207
  v218 := Tryz.zeroValue207
  t222 := Tryz.underlying211
  a222 := Tryz.isAgg211
  z222 := Tryz.sizeOf211
  v222 := Tryz.zeroValue211
  t228 := Tryz.underlying220
  a228 := Tryz.isAgg220
  z228 := Tryz.sizeOf220
  v228 := Tryz.zeroValue220
  t229 := Tryz.underlying48
  a229 := Tryz.isAgg48
  z229 := Tryz.sizeOf48
  v229 := Tryz.zeroValue48 }
open Go.Sort Go.RowKit in
theorem Tryz.slices_Sort_int (blk off cap : Nat) (zs : List Int) (w : World) (hH : Holds (Value.int .i64) w blk off zs.toArray) (hblk : blk < w.heap.size) (hsz : zs.length < 4611686018427387904) :
    Calls Tryz.prog 55 #[.slice (some ⟨blk, off, none⟩) zs.length cap] w fun e w' =>
      e = .returned (.tuple #[]) ∧ ∃ n os, w' = grow (putRow (Value.int .i64) (Sort.ahead w n) blk off (zs.mergeSort fun x y => decide (x ≤ y)).toArray) os := Any.slices_Sort_int Tryz.lays189 blk off cap zs w hH hblk hsz
open Go.RowKit Go.Sort in
/-- .. and plain. (LAID: no walk: one application.) -/
theorem Tryz.slices_Sort_int_none (p : Option Addr) (cap : Nat) (w : World) :
    Calls Tryz.prog 55 #[.slice p 0 cap] w fun e w' => e = .returned (.tuple #[]) ∧ w' = w := Any.slices_Sort_int_none Tryz.lays189 p cap w
end Go.Proofs
set_option linter.unusedVariables false
namespace Go.Proofs.YtjemdgmihbmgeaaGreatDoorW.PrintWords
open Go.RowKit
theorem Kd.at_int {w : World} {A : Option Addr} {n : Nat} {k : IntKind} {xs : List Int} (h : (Kd.int k).C w A n xs) (i : Int) (h0 : 0 ≤ i) (h1 : i < n) : ∃ ad, A = some ad ∧ w.cell? (ad.add i.toNat) = some (.int k (rd xs i)) :=
  ReadsOf.at_ (Kd.reads_of_C (enc := Value.int k) (d := (0 : Int)) (h1 := fun _ => rfl) h) i h0 h1
end Go.Proofs.YtjemdgmihbmgeaaGreatDoorW.PrintWords
set_option linter.unusedVariables false
set_option linter.unusedSimpArgs false
namespace Go.Proofs.YtjemdgmihbmgeaaGreatDoorEnt
open Go.RowKit Go.Shelf Go.Proofs.YtjemdgmihbmgeaaGreatDoorW.PrintWords Go.Proofs.YtjemdgmihbmgeaaGreatDoorFmt Go.Proofs.YtjemdgmihbmgeaaGreatDoorMapI Go.Proofs.YtjemdgmihbmgeaaGreatDoorFlt Go.Proofs.YtjemdgmihbmgeaaGreatDoor
theorem infoTT : (Tryz.prog.info? 68).map (fun i => (i.zero, i.size, i.bytes)) = some (some (.int .i64 0), 1, 8) := by kernel_rfl
theorem infoII : (Tryz.prog.info? 3).map (fun i => (i.zero, i.size, i.bytes)) = some (some (.int .i64 0), 1, 8) := by kernel_rfl
theorem MapR.apart {P : Program} {kt : TypeId} {w : World} {b r n cnt : Nat} {f : Int → Option Value} {left : Int → Bool} (h : MapR P kt w b r n f left cnt) {base : Nat} {e : TypeId} {size m : Nat} {v : Value} {xs : List Value} (ho : w.ownsRow base e size v m xs) :
    some r ≠ v.ownBlock ∧ some b ≠ v.ownBlock := by
  obtain ⟨D, lf, ⟨es, clock, since, seen, c0, h1, h2, h3, h4, h5, h6⟩, _⟩ := h
  constructor
  · intro e
    obtain ⟨cells, hc⟩ := own_typed ho _ e.symm
    rw [hc] at h5; cases h5
  · intro e
    obtain ⟨cells, hc⟩ := own_typed ho _ e.symm
    rw [hc] at h1; cases h1
theorem MapI.len {P : Program} {kt : TypeId} {w : World} {b n : Nat} {f : Int → Option Value} (h : MapI P kt w b n f) {mt et : TypeId} (hm : P.underlying mt = some (.map kt et)) :
    ∃ D : DataW Value, w.ownsMap P kt hld b n D ∧ Maps.size D ≤ n := by
  obtain ⟨D, ho, h2⟩ := h
  refine ⟨D, ho, ?_⟩
  obtain ⟨es, clock, hb, F, hle, rfl⟩ := ho
  have e1 : Maps.size (DataW.map ((es.toList.map (Go.WideElems.rg P kt hld)).foldr DataW.insert [])) = es.size := by simp [Maps.size, Go.DataW.length_sorted]
  rw [e1]
  exact hle
/-- These are just the keys. -/
def KeysOf (g : Int → Bool) (ks : List Int) : Prop := ks.Nodup ∧ (∀ x ∈ ks, Ok x) ∧ ∀ x, Ok x → (x ∈ ks ↔ g x = true)
theorem KeysOf.snoc {g left : Int → Bool} {ks : List Int} {x : Int} (h : KeysOf (fun y => g y && !left y) ks) (hx : Ok x) (hg : g x = true) (hl : left x = true) : KeysOf (fun y => g y && !(left y && decide (y ≠ x))) (ks ++ [x]) := by
  obtain ⟨h1, h2, h3⟩ := h
  have hn : x ∉ ks := fun hm => by
    have := (h3 x hx).1 hm
    simp [hl] at this
  refine ⟨List.nodup_append.2 ⟨h1, by simp, fun a ha b hb => by simp at hb; subst hb; exact fun e => hn (e ▸ ha)⟩, fun y hy => ?_, fun y hy => ?_⟩
  · rcases List.mem_append.1 hy with hy | hy
    · exact h2 y hy
    · rw [List.mem_singleton.1 hy]; exact hx
  · rw [List.mem_append, List.mem_singleton, h3 y hy]
    by_cases e : y = x
    · subst e; simp [hg]
    · simp [e]
structure DedI (b m d r n : Nat) (nm cp : ByteArray) (f : Int → Option Ent) (w : World) (left : Int → Bool) (c j : Nat) (wr : World) : Prop where
  hr : MapR Tryz.prog 68 wr m r n (fun x => (f x).map Ent.val) left c
  hd : MapI Tryz.prog 68 wr d j (fun x => if left x = true then none else (f x).map (fun _ => Value.bool true))
  hj : j + c ≤ n
  hs : StyCell wr b m nm cp none
  hB : Below w.heap.size w wr
structure ColI (d r n : Nat) (g : Int → Option Value) (w : World) (left : Int → Bool) (c : Nat) (ks : List Int) (v : Value) (wr : World) : Prop where
  hr : MapR Tryz.prog 68 wr d r n g left c
  ho : wr.ownsRow w.heap.size 68 1 v ks.length (ks.map (Value.int .i64))
  hk : KeysOf (fun y => (g y).isSome && !left y) ks
  hc : ks.length + c ≤ n
  hB : Below w.heap.size w wr
def TypesRes (f : Int → Option Ent) (n : Nat) (base : Nat) (e : Ending) (w' : World) : Prop :=
  ∃ v ks, e = .returned v ∧ w'.ownsRow base 68 1 v ks.length (ks.map (Value.int .i64)) ∧ KeysOf (fun x => (f x).isSome) ks ∧ ks.length ≤ n
set_option maxRecDepth 100000 in
set_option maxHeartbeats 8000000 in
theorem types_c (b m n : Nat) (hn : n ≤ 1000000) (nm cp : ByteArray) (f : Int → Option Ent) (w : World) (hb : StyCell w b m nm cp none) (hm : ME w m n f) :
    Calls Tryz.prog 54 #[.pointer (some ⟨b, 0, none⟩)] w fun e w' => TypesRes f n w.heap.size e w' ∧ Below w.heap.size w w' := by
  have hmm := @run_makeMap Tryz.prog
  have lb := blk_lt hb
  have lm : m < w.heap.size := MapI.lt hm
  have b2 : w.cell? ⟨b, 2, none⟩ = some (.map (some m)) := (blk_cell hb 2).trans rfl
  have hM1 : ME (w.alloc (.map #[] 0)) m n f := MapI.below hm (below_alloc (Below.refl _ _) _) lm
  obtain ⟨w1, cnt, hrun, hR, hg, hsz⟩ := MapI.range hM1 (mt := 135) (et := 94) Tryz.underlying68 Tryz.underlying135
  rw [World.size_alloc] at hrun hR hsz
  have hcn := MapR.cnt_le hR
  have HS1 : Aside0 (DedI b m w.heap.size (w.heap.size + 1) n nm cp f w (fun x => ((f x).map Ent.val).isSome) cnt 0 w1) := by
    have hB1 : Below w.heap.size w w1 := (below_alloc (Below.refl _ _) _).grown hg (by simp) (fun k e => by cases e)
    refine ⟨⟨hR, ?_, by omega, (hB1.block _ lb).trans hb, hB1⟩⟩
    have := (MapI.made (P := Tryz.prog) (kt := 68) w).same (hg.block w.heap.size (by simp) (by simp))
    exact MapI.congr this (fun x _ => (by cases hf : f x <;> simp [hf]))
  have HM := Aside0.mk hm
  have HB := Aside0.mk hb
  clear hm hb hM1 hR hg
  go_enter Tryz.func54, Tryz.ntmps54
  go_wp2
  clear hrun hmm b2
  go_loopg [] (cnt + 1) (fun kq wr => ∃ (left : Int → Bool) (c j : Nat), Aside0 (c < kq) ∧ Aside0 (DedI b m w.heap.size (w.heap.size + 1) n nm cp f w left c j wr))
  case atStart => exact ⟨_, cnt, 0, ⟨Nat.lt_succ_self _⟩, HS1⟩
  case round =>
    obtain ⟨left, c, j, HK, HH⟩ := hrel
    cases gk with
    | zero => have := HK.out; omega
    | succ k1 =>
      obtain ⟨hr, hd, hj, hs, hB⟩ := HH.out
      rcases MapR.next hr Tryz.underlying68 0 with ⟨h0, h1, h2⟩ | ⟨x, v, w2, c2, hx, hl, hv, hnx, hr2, hlt, hg2, hsz2, hen⟩
      · have c3 : wr.cell? ⟨b, 3, none⟩ = some (.pointer none) := (blk_cell hs 3).trans rfl
        have hd' : MapI Tryz.prog 68 wr w.heap.size n (fun x => (f x).map (fun _ => Value.bool true)) := (MapI.congr hd (fun x hx => by simp [h1 x hx])).mono (by omega)
        obtain ⟨D, hown, hle⟩ := MapI.len hd' (mt := 149) (et := 4) Tryz.underlying149
        obtain ⟨i0, hi, hz0, hz1, hz2⟩ := info_parts infoTT
        obtain ⟨wm, hmk, hOw, hgm⟩ := run_make_own (P := Tryz.prog) wr w.heap.size 108 68 i0 (.int .i64 0) 1 Tryz.underlying108 hi hz0 hz1 .i64 .i64 (Maps.size D) (by rw [hz2]; omega) (by unfold maxLen; omega) hB.size
        have hdm := MapI.same hd' (hgm.block _ (MapI.lt hd') (by simp))
        obtain ⟨w5, cnt2, hrun2, hR2, hg2, hsz2⟩ := MapI.range hdm (mt := 149) (et := 4) Tryz.underlying68 Tryz.underlying149
        have hB5 : Below w.heap.size w w5 := (hB.grown hgm (by have := hB.size; omega) (fun k e => by cases e)).grown hg2 (by have := hB.size; have := hgm.size; omega) (fun k e => by cases e)
        have HC : Aside0 (ColI w.heap.size wm.heap.size n (fun x => (f x).map (fun _ => Value.bool true)) w (fun x => ((f x).map (fun _ => Value.bool true)).isSome) cnt2 [] (.slice (some ⟨wr.heap.size, 0, none⟩) 0 (Maps.size D)) w5) := by
          refine ⟨⟨hR2, hOw.kept hg2 (.inr (by simp [Value.ownBlock])), ⟨List.nodup_nil, fun x hx => (by cases hx), fun x _ => by cases hf : f x <;> simp [hf]⟩, by have := MapR.cnt_le hR2; simpa using this, hB5⟩⟩
        have hwm : w.heap.size ≤ wm.heap.size := Nat.le_trans hB.size hgm.size
        clear hr hd hj hs hB hd' hdm hR2 hg2 hgm hOw hB5 h0 h1 hsz2 hi hz0 hz1 hz2
        go_wp2_with (at_len; refine wpList_len_own _ rfl _ _ rfl _ _ Tryz.underlying149 hld w.heap.size n D rfl hown ?_)
        clear hrun2 hmk c3
        go_loopg [7] (cnt2 + 1) (fun kq v wr2 => ∃ (left2 : Int → Bool) (c2 : Nat) (ks : List Int), Aside0 (c2 < kq) ∧ Aside0 (ColI w.heap.size wm.heap.size n (fun x => (f x).map (fun _ => Value.bool true)) w left2 c2 ks v wr2))
        case atStart => exact ⟨_, cnt2, [], ⟨Nat.lt_succ_self _⟩, HC⟩
        case round =>
          obtain ⟨left2, c2, ks, HK2, HH2⟩ := hrel
          cases gk with
          | zero => have := HK2.out; omega
          | succ k2 =>
            obtain ⟨hr, ho, hk, hc, hB⟩ := HH2.out
            rcases MapR.next hr Tryz.underlying68 0 with ⟨h0, h1, h2⟩ | ⟨x, mv, w2, cn3, hx, hl, hv, hnx, hr2, hlt, hg2, hsz2, hen⟩
            · clear hr ho hk hc hB
              go_wp2
              go_ret
              obtain ⟨hr, ho, hk, hc, hB⟩ := HH2.out
              refine ⟨⟨_, ks, rfl, ho, ⟨hk.1, hk.2.1, fun y hy => ?_⟩, by omega⟩, hB⟩
              have h3 := hk.2.2 y hy
              simp only [h1 y hy, Bool.not_false, Bool.and_true, Option.isSome_map] at h3
              exact h3
            · obtain rfl : mv = Value.bool true := by
                cases hf : f x with
                | none => rw [hf] at hv; cases hv
                | some sv => rw [hf] at hv; injection hv with hv; exact hv.symm
              have hB2 : Below w.heap.size w w2 := hB.grown hg2 (by have := hB.size; omega) (fun k e => by injection e with e; omega)
              have ho2 := World.ownsRow.kept ho hg2 (.inr (fun e => (MapR.apart hr ho).1 e.symm))
              have hkx := hk.snoc hx (by rw [hv]; rfl) hl
              have hap := MapR.apart hr2 ho2
              obtain ⟨A0, c0, hvv⟩ := own_slice ho2
              subst hvv
              have hone : ∀ u ∈ [Value.int .i64 x], u.oneCell' = true := by simp [Value.oneCell']
              have hbd : (ks.length + 1) * 8 ≤ 140737488355328 := by omega
              have hle2 : w.heap.size ≤ w2.heap.size := hB2.size
              have HR2 := Aside0.mk hr2
              have HK3 := Aside0.mk hkx
              have HAp := Aside0.mk hap
              have HO2 := Aside0.mk ho2
              have HB2 := Aside0.mk hB2
              have HC2 := Aside0.mk hc
              have HN := Aside0.mk hone
              have HD := Aside0.mk hbd
              clear hr ho hk hc hB hr2 hkx hap ho2 hB2 hone hbd hg2 hv hl hsz2
              go_wp2_with (((with_reducible refine gate_builtin (b := .append) (xs := #[.tmp 48, .tmp 50]) rfl ?_); at_builtin; refine print_append_cells (w0 := w) w.heap.size rfl (.tmp 48) (.tmp 50) 108 68 (.int .i64 0) 1 8 rfl Tryz.underlying108 infoTT rfl (Nat.succ_pos _) (Nat.succ_pos _) (.slice A0 ks.length c0) ks.length (ks.map (Value.int .i64)) [.int .i64 x] rfl rfl rfl HN.out HO2.out HB2.out hle2 HD.out ?_; intro v1 w3 ho3 hB3 hg3 hat3; obtain ⟨A3, c3, hv3⟩ := own_slice ho3))
              have HF : Aside0 (ColI w.heap.size wm.heap.size n (fun x => (f x).map (fun _ => Value.bool true)) w (fun y => left2 y && decide (y ≠ x)) cn3 (ks ++ [x]) v1 w3) := by
                have hr3 := HR2.out
                refine ⟨⟨MapR.same hr3 (hg3.block _ hr3.ltb HAp.out.2) (hg3.block _ hr3.lt HAp.out.1), ?_, HK3.out, ?_, hB3⟩⟩
                · rw [List.length_append, List.map_append]; exact ho3
                · have := HC2.out; simp; omega
              rw [hv3] at HF
              clear ho3 hB3 hg3 hat3
              go_roundg k2
              case measure => omega
              case rel => exact ⟨_, cn3, _, ⟨by have := HK2.out; omega⟩, HF⟩
      · obtain ⟨sv, hsv, rfl⟩ : ∃ sv, f x = some sv ∧ v = Ent.val sv := by
          cases hf : f x with
          | none => rw [hf] at hv; cases hv
          | some sv => rw [hf] at hv; injection hv with hv; exact ⟨sv, rfl, hv.symm⟩
        have hm2 := MapI.same hd (hg2.block _ (MapI.lt hd) (fun e => by injection e with e; omega))
        obtain ⟨w3, hup, hm3, hg3⟩ := MapI.store hm2 (mt := 149) (et := 4) Tryz.underlying68 Tryz.underlying149 (by unfold maxLen; omega) hx (Value.bool true)
        have HL : Aside0 (DedI b m w.heap.size (w.heap.size + 1) n nm cp f w (fun y => left y && decide (y ≠ x)) c2 (j + 1) w3) := by
          have hB3 : Below w.heap.size w w3 := (hB.grown hg2 (by have := hB.size; omega) (fun k e => by injection e with e; omega)).grown hg3 (by have := hB.size; have := hg2.size; omega) (fun k e => by injection e with e; omega)
          refine ⟨⟨MapR.same hr2 (hg3.block m hr2.ltb (fun e => by injection e with e; omega)) (hg3.block _ hr2.lt (fun e => by injection e with e; omega)), MapI.congr hm3 (fun y hy => ?_), by omega, (hB3.block _ lb).trans HB.out, hB3⟩⟩
          unfold upd
          by_cases e : y = x
          · subst e; simp [hsv]
          · simp [e]
        clear hr hd hj hs hB hr2 hm2 hm3 hg2 hg3 hl hv
        go_wp2
        go_roundg k1
        case measure => omega
        case rel => exact ⟨_, c2, j + 1, ⟨by have := HK.out; omega⟩, HL⟩
theorem row_ask {w : World} {base : Nat} {e : TypeId} {v : Value} {ks : List Int} (h : w.ownsRow base e 1 v ks.length (ks.map (Value.int .i64))) :
    ∃ B cap, v = .slice B ks.length cap ∧ ks.length ≤ cap ∧ (ks ≠ [] → ∃ g o, B = some ⟨g, o, none⟩ ∧ g < w.heap.size ∧ AskAt w g o ks) := by
  have h0 := h
  rcases h.2 with ⟨rfl, hn⟩ | ⟨g, cap, cur, rfl, hb, hh, hnc, hcm, hcs, ht⟩
  · refine ⟨none, 0, by rw [hn], by omega, fun hne => absurd (List.eq_nil_of_length_eq_zero hn) hne⟩
  · refine ⟨_, _, rfl, hnc, fun _ => ⟨g, 0, rfl, blk_lt hh, fun i hi => ?_⟩⟩
    have := World.ownsRow.cellAt h0 i (by omega)
    rw [Nat.zero_add, this]
    simp [hi]
def STypesRes (l : List (Int × ByteArray)) (base : Nat) (x : Ending) (w' : World) : Prop :=
  (badL l = true ∧ x = .returned (.slice none 0 0)) ∨
  (badL l = false ∧ ∃ v ks, x = .returned v ∧ KeysOf (fun t => (lineE l t).isSome) ks ∧ w'.ownsRow base 3 1 v (ks.mergeSort fun x y => decide (x ≤ y)).length ((ks.mergeSort fun x y => decide (x ≤ y)).map (Value.int .i64)))
set_option maxRecDepth 100000 in
set_option maxHeartbeats 8000000 in
theorem styleTypes_c (A : Option Addr) (cap : Nat) (l : List (Int × ByteArray)) (hl : l.length ≤ 1000000) (hc : l.length ≤ cap) (hk : ∀ p ∈ l, Ok p.1 ∧ p.2.size ≤ 140737488351232) (w : World) (hV : VarsOK w)
    (hA : l ≠ [] → ∃ g o, A = some ⟨g, o, none⟩ ∧ g < w.heap.size ∧ PartsAt w g o l) :
    Calls Tryz.prog 20 #[.slice A l.length cap] w fun x w' => STypesRes l w.heap.size x w' ∧ Below w.heap.size w w' := by
  have kS := Aside0.mk (styled_c A cap l hl hc hk w hV hA)
  have HK := Aside0.mk hk
  clear hk hA hV
  go_enter Tryz.func20, Tryz.ntmps20
  go_wp2_with (first | (go_at_call 27; refine kS.out.mono ?_; rintro x1 w1 ⟨⟨rfl, hx⟩ | ⟨p, mp, rfl, h2, h3, h4⟩, hb1⟩) | (go_at_call 54; refine (types_c _ _ l.length hl _ _ _ _ h2 h3).mono ?_; rintro x2 w2 ⟨⟨v2, ks, rfl, ho2, hk2, hlk⟩, hb2⟩; obtain ⟨B, capb, hv2, hcap, hAsk⟩ := row_ask ho2; subst hv2))
  · go_ret
    obtain ⟨k, t, _, h5, h6⟩ := hx
    exact ⟨.inl ⟨badL_true h5 h6, rfl⟩, hb1⟩
  · have HBad := Aside0.mk (badL_false (fun p hp => (HK.out p hp).1) h4)
    have hlen : ks.length ≤ 1000000 := by omega
    have HB2 : Aside0 (Below w.heap.size w w2) := ⟨below_on hb1 hb2 hb1.size⟩
    have HAs := Aside0.mk hAsk
    have HKs := Aside0.mk hk2
    clear h2 h3 h4 hb1 kS ho2 hk2 hAsk hb2
    have HL := Aside0.mk hlen
    have hbw : w.heap.size ≤ w2.heap.size := HB2.out.size
    clear hlk hlen
    go_loopw [4, 14] (fun v i wr => ∃ k : Nat, k ≤ ks.length ∧ i = .int .i64 (k : Int) ∧ Aside0 (wr.ownsRow w2.heap.size 3 1 v k ((ks.take k).map (Value.int .i64))) ∧ Aside0 (Below w2.heap.size w2 wr)) (fun _ i _ => ks.length - (intOf i).toNat)
    case atStart => exact ⟨0, Nat.zero_le _, rfl, ⟨own_nil _ _ _ _⟩, ⟨Below.refl _ _⟩⟩
    case round =>
      obtain ⟨k, hkl, rfl, HO, HB⟩ := hrel
      have HBw : Aside0 (Below w.heap.size w wr) := ⟨below_on HB2.out HB.out HB2.out.size⟩
      have hlen := HL.out
      by_cases hlt : k < ks.length
      · obtain ⟨g, o, rfl, hg, hP⟩ := HAs.out (fun e => by rw [e] at hlt; simp at hlt)
        have d0 := (hP.same (HB.out.block g hg)) k hlt
        have htk : (ks.take (k + 1)).map (Value.int .i64) = (ks.take k).map (Value.int .i64) ++ [.int .i64 ks[k]] := by rw [List.take_succ_eq_append_getElem hlt, List.map_append]; rfl
        generalize ks[k] = t at *
        have hlti : (k : Int) < (ks.length : Int) := by omega
        have HT := Aside0.mk htk
        clear htk hP
        obtain ⟨A0, c0, hv⟩ := own_slice HO.out
        subst hv
        have hone : ∀ u ∈ [Value.int .i64 t], u.oneCell' = true := by simp [Value.oneCell']
        have hbd : (k + 1) * 8 ≤ 140737488355328 := by omega
        have HN := Aside0.mk hone
        have HD := Aside0.mk hbd
        clear hone hbd
        go_wp2_with (((with_reducible refine gate_builtin (b := .append) (xs := #[.tmp 18, .tmp 20]) rfl ?_); at_builtin; refine print_append_cells (w0 := w2) w2.heap.size rfl (.tmp 18) (.tmp 20) 23 3 (.int .i64 0) 1 8 rfl Tryz.underlying23 infoII rfl (Nat.succ_pos _) (Nat.succ_pos _) (.slice A0 k c0) k ((ks.take k).map (Value.int .i64)) [.int .i64 t] rfl rfl rfl HN.out HO.out HB.out HB.out.size HD.out ?_; intro v1 w3 ho3 hB3 hg3 hat3; obtain ⟨A3, c3, hv3⟩ := own_slice ho3))
        refine ⟨⟨k + 1, by omega, by rw [Int.natCast_add]; rfl, ⟨?_⟩, ⟨hB3⟩⟩, by simp [intOf]; omega⟩
        rw [HT.out, ← hv3]
        exact ho3
      · obtain rfl : k = ks.length := by omega
        rw [List.take_length] at HO
        rcases HO.out.2 with ⟨rfl, hn0⟩ | ⟨g, cp, cur, rfl, hbs, hh, hnc, hcm, hcs, ht⟩
        · have kN := Aside0.mk (Tryz.slices_Sort_int_none none 0 wr)
          rw [hn0]
          go_wp2_with (go_at_call 55; refine kN.out.mono ?_; rintro y1 w5 ⟨rfl, rfl⟩)
          go_ret
          obtain rfl : ks = [] := List.eq_nil_of_length_eq_zero hn0
          exact ⟨.inr ⟨HBad.out, _, [], rfl, HKs.out, by rw [List.mergeSort_nil]; exact own_nil _ _ _ _⟩, HBw.out⟩
        · rw [Nat.mul_one] at ht
          have kN := Aside0.mk (Tryz.slices_Sort_int g 0 cp ks wr (holds_of_blockI hh ht) (blk_lt hh) (by omega))
          have HH := Aside0.mk hh
          have HM := Aside0.mk hcm
          have HC := Aside0.mk hcs
          clear hh ht hcm hcs
          go_wp2_with (go_at_call 55; refine kN.out.mono ?_; rintro y1 w5 ⟨rfl, n5, os5, hw5⟩; have HW := Aside0.mk hw5; clear hw5)
          go_ret
          refine ⟨.inr ⟨HBad.out, _, ks, rfl, HKs.out, ?_⟩, ?_⟩
          · rw [HW.out, List.length_mergeSort]
            exact ownsRow_sortedI (List.length_mergeSort _) (by omega) HH.out hnc HM.out HC.out
          · rw [HW.out]
            exact HBw.out.grown (grownBy_sortedI _) HBw.out.size (fun k e => by injection e with e; omega)
end Go.Proofs.YtjemdgmihbmgeaaGreatDoorEnt
set_option linter.unusedVariables false
set_option linter.unusedSimpArgs false
namespace Go.Proofs.YtjemdgmihbmgeaaGreatDoorEnt
open Go.RowKit Go.Shelf Go.Proofs.YtjemdgmihbmgeaaGreatDoorW.PrintWords Go.Proofs.YtjemdgmihbmgeaaGreatDoorFmt Go.Proofs.YtjemdgmihbmgeaaGreatDoorMapI Go.Proofs.YtjemdgmihbmgeaaGreatDoorFlt Go.Proofs.YtjemdgmihbmgeaaGreatDoor Go.Proofs.YtjemdgmihbmgeaaGreatDoor.S
/-- A type put into rising ones. -/
def insT (t : Int) (l : List Int) : List Int := if (l.dropWhile fun x => decide (x < t)).head? = some t then l else (l.takeWhile fun x => decide (x < t)) ++ t :: l.dropWhile fun x => decide (x < t)
theorem insT_at : ∀ (l : List Int) (t : Int) (a : Nat), a ≤ l.length → (∀ x ∈ l.take a, x < t) → (∀ x, l[a]? = some x → t ≤ x) → (l.takeWhile fun x => decide (x < t)) = l.take a ∧ (l.dropWhile fun x => decide (x < t)) = l.drop a
  | [], t, a, h, _, _ => by simp
  | x :: l, t, 0, h, h1, h2 => by
    have := h2 x rfl
    rw [List.takeWhile_cons, List.dropWhile_cons, decide_eq_false (by omega)]
    simp
  | x :: l, t, a + 1, h, h1, h2 => by
    have hx : x < t := h1 x (by simp)
    obtain ⟨e1, e2⟩ := insT_at l t a (by simpa using h) (fun y hy => h1 y (by simp [hy])) (fun y hy => h2 y (by simpa using hy))
    rw [List.takeWhile_cons, List.dropWhile_cons, decide_eq_true hx, if_pos rfl, if_pos rfl, e1, e2]
    simp
theorem insT_old {l : List Int} {t : Int} {a : Nat} (h : a ≤ l.length) (h1 : ∀ x ∈ l.take a, x < t) (h2 : l[a]? = some t) : insT t l = l := by
  obtain ⟨e1, e2⟩ := insT_at l t a h h1 (fun x hx => by rw [h2] at hx; injection hx with hx; omega)
  unfold insT
  rw [e1, e2, if_pos (by rw [List.head?_drop, h2])]
theorem insT_new {l : List Int} {t : Int} {a : Nat} (h : a ≤ l.length) (h1 : ∀ x ∈ l.take a, x < t) (h2 : ∀ x, l[a]? = some x → t < x) : insT t l = l.take a ++ t :: l.drop a := by
  obtain ⟨e1, e2⟩ := insT_at l t a h h1 (fun x hx => by have := h2 x hx; omega)
  unfold insT
  rw [e1, e2, if_neg (by
    rw [List.head?_drop]
    intro hx
    have := h2 t hx
    omega)]
def typesS (ls : Lines) : List Int := ls.foldl (fun acc p => insT p.1 acc) []
theorem typesS_snoc (ls : Lines) (p : Int × Ent) : typesS (ls ++ [p]) = insT p.1 (typesS ls) := by unfold typesS; rw [List.foldl_append]; rfl
theorem insT_len (t : Int) (l : List Int) : (insT t l).length ≤ l.length + 1 := by
  unfold insT
  split
  · omega
  · have := congrArg List.length (List.takeWhile_append_dropWhile (p := fun x => decide (x < t)) (l := l))
    rw [List.length_append] at this
    simp only [List.length_append, List.length_cons]
    omega
theorem typesS_len (ls : Lines) : ∀ k, (typesS (ls.take k)).length ≤ k := by
  intro k
  induction k with
  | zero => rw [List.take_zero]; exact Nat.le_refl _
  | succ k ih =>
    rcases Nat.lt_or_ge k ls.length with h | h
    · rw [List.take_succ_eq_append_getElem h, typesS_snoc]
      have := insT_len ls[k].1 (typesS (ls.take k))
      omega
    · rw [List.take_of_length_le (by omega)] at ih ⊢
      omega
theorem infoI3 : (Tryz.prog.info? 3).map (fun i => (i.zero, i.size, i.bytes)) = some (some (.int .i64 0), 1, 8) := by kernel_rfl
theorem row_ask' {w : World} {base : Nat} {e : TypeId} {v : Value} {ks : List Int} (h : w.ownsRow base e 1 v ks.length (ks.map (Value.int .i64))) :
    ∃ B cap, v = .slice B ks.length cap ∧ ks.length ≤ cap ∧ (ks ≠ [] → ∃ g o, B = some ⟨g, o, none⟩ ∧ g < w.heap.size ∧ AskAt w g o ks) := by
  have h0 := h
  rcases h.2 with ⟨rfl, hn⟩ | ⟨g, cap, cur, rfl, hb, hh, hnc, hcm, hcs, ht⟩
  · refine ⟨none, 0, by rw [hn], by omega, fun hne => absurd (List.eq_nil_of_length_eq_zero hn) hne⟩
  · refine ⟨_, _, rfl, hnc, fun _ => ⟨g, 0, rfl, blk_lt hh, fun i hi => ?_⟩⟩
    have := World.ownsRow.cellAt h0 i (by omega)
    rw [Nat.zero_add, this]
    simp [hi]
/-- A copy within a row of the call's own: the row's block alone turns. -/
theorem copy_list {P : Program} {ops : Array Oper} {o : Oper} {rest : List Oper} {a : Act} {w : World} {Q : Exit → Act → World → Prop} (hgd : o.guard = none) (d s : Operand) (T e : TypeId)
    (ho : o.op = .call { callee := .builtin .copy, args := #[d, s], argTypes := #[T, T] }) (hu : P.underlying T = some (.slice e)) (hsz : (P.info? e).map (·.size) = some 1)
    (dp sp : Option Addr) (dl dc sl sc : Nat) (hd : a.eval d = .slice dp dl dc) (hs : a.eval s = .slice sp sl sc)
    (g off : Nat) (L : List Value) (t : TypeId) (hg : w.heap[g]? = some (.cells L.toArray t (0, 0))) (cs : List Value) (hn : cs.length = Nat.min sl dl)
    (hpos : 0 < cs.length → dp = some ⟨g, off, none⟩ ∧ ∃ ad, sp = some ad ∧ ∀ j v, cs[j]? = some v → w.cell? (ad.add j) = some v)
    (hfit : off + cs.length ≤ L.length) (h1 : ∀ v ∈ cs, v.oneCell' = true)
    (h : ∀ w', Aside0 (w'.heap[g]? = some (.cells (splice L off cs).toArray t (0, 0))) → w.grownBy w' (some g) → wpList P ops Q rest (a.put o.dst (goInt cs.length)) w') :
    wpList P ops Q (o :: rest) a w := by
  refine wpList_plain hgd fun K hK => ?_
  rcases Nat.eq_zero_or_pos cs.length with h0 | h0
  · have hnil : cs = [] := List.eq_nil_of_length_eq_zero h0
    have hrun := run_copy_none (P := P) w T T o.type e dp sp dl dc sl sc hu hsz (by rw [← hn]; exact h0)
    have hend := h w ⟨by rw [hnil]; simpa [splice] using hg⟩ ⟨rfl, rfl, rfl, Nat.le_refl _, fun _ _ _ => rfl⟩
    rw [hnil] at hend
    unfold Oper.wp
    simp [execOp, ho, resolve, invoke, builtin, hd, hs, hrun, Result.andThen]
    exact hK _ _ hend
  · obtain ⟨e1, ad, e2, hsrc⟩ := hpos h0
    subst e1; subst e2
    have hrun := run_copy_row (P := P) w T T o.type e g off dl dc ad sl sc L.toArray t cs hu hsz hg hn hsrc (by simpa using hfit) h1
    have hend := h _ ⟨setRow_heap w g _ (splice L off cs).toArray t _ hg⟩ ⟨rfl, rfl, rfl, by simp [World.setRow], fun k hk hne => setRow_other w g k _ (fun e => hne (by rw [e]))⟩
    unfold Oper.wp
    simp [execOp, ho, resolve, invoke, builtin, hd, hs, hrun, Result.andThen]
    exact hK _ _ hend
theorem ins_row {α : Type} (L A : List α) (z t : α) (a : Nat) (ha : a ≤ A.length) (h : L.take (A.length + 1) = A ++ [z]) :
    ((splice L (a + 1) (A.drop a)).set a t).take (A.length + 1) = A.take a ++ t :: A.drop a ∧ (splice L (a + 1) (A.drop a)).length = L.length := by
  have hL : L = A ++ z :: L.drop (A.length + 1) := by
    have := List.take_append_drop (A.length + 1) L
    rw [h] at this
    rw [← this]
    simp
  generalize L.drop (A.length + 1) = R at hL
  obtain ⟨A1, A2, rfl, rfl⟩ : ∃ A1 A2 : List α, A = A1 ++ A2 ∧ a = A1.length := ⟨A.take a, A.drop a, (List.take_append_drop a A).symm, by simp; omega⟩
  rw [List.drop_left, List.take_left]
  subst hL
  obtain ⟨y, S, hy⟩ : ∃ y S, A2 ++ z :: R = y :: S := by cases A2 <;> simp
  have e1 : (A1 ++ A2 ++ z :: R).take (A1.length + 1) = A1 ++ [y] := by
    rw [List.append_assoc, hy, show A1.length + 1 = A1.length + 1 from rfl, List.take_length_add_append]
    simp
  have e2 : (A1 ++ A2 ++ z :: R).drop (A1.length + 1 + A2.length) = R := by
    have : A1.length + 1 + A2.length = (A1 ++ A2).length + 1 := by simp; omega
    rw [this, List.drop_append]
    simp
  unfold splice
  rw [e1, e2]
  constructor
  · have : ((A1 ++ [y] ++ (A2 ++ R)).set A1.length t) = (A1 ++ t :: A2) ++ R := by
      rw [List.append_assoc, List.set_append_right _ _ (Nat.le_refl _), Nat.sub_self]
      simp
    rw [this]
    apply List.take_left'
    simp
    omega
  · simp
    omega
theorem own_drewN' {W : World} {base n : Nat} {e : TypeId} {size : Nat} {v : Value} {xs : List Value} (h : W.ownsRow base e size v n xs) (m : Nat) : (W.drewN m).ownsRow base e size v n xs := h
def TypsAt (ls : Lines) (k : Nat) (v : Value) (w wr : World) : Prop :=
  wr.ownsRow w.heap.size 3 1 v (typesS (ls.take k)).length ((typesS (ls.take k)).map (Value.int .i64)) ∧ Below w.heap.size w wr
set_option maxRecDepth 100000 in
set_option maxHeartbeats 8000000 in
theorem styp_c (b : Nat) (ls : Lines) (hl : ls.length ≤ 1000000) (w : World) (hS : SpcAt w b ls none) :
    Calls Tryz.prog 39 #[.pointer (some ⟨b, 0, none⟩)] w fun x w' => (∃ v, x = .returned v ∧ w'.ownsRow w.heap.size 3 1 v (typesS ls).length ((typesS ls).map (Value.int .i64))) ∧ Below w.heap.size w w' := by
  obtain ⟨A, c, hb, hc, hL⟩ := hS
  have lb := blk_lt hb
  have HBk := Aside0.mk hb
  have HL := Aside0.mk hL
  have hu2 := Tryz.underlying117
  clear hb hL
  go_enter Tryz.func39, Tryz.ntmps39
  go_wp2
  go_loopw [3, 4] (fun v x wr => (x = .pointer (some ⟨b, 0, none⟩) ∧ Aside0 (v = .slice none 0 0) ∧ Aside0 (wr = w)) ∨ (x = .pointer none ∧ Aside0 (TypsAt ls ls.length v w wr))) (fun _ x _ => match x with | .pointer none => 0 | _ => 1)
  case atStart => exact .inl ⟨rfl, ⟨rfl⟩, ⟨rfl⟩⟩
  case round =>
    rcases hrel with ⟨rfl, HV, HW⟩ | ⟨rfl, HT⟩
    · obtain rfl := HV.out
      obtain rfl := HW.out
      clear HV HW
      obtain ⟨w0, rfl⟩ : ∃ w0 : World, w0 = wr := ⟨_, rfl⟩
      have b0 : w0.cell? ⟨b, 0, none⟩ = some (.slice A ls.length c) := (blk_cell HBk.out 0).trans rfl
      go_wp2
      clear b0
      go_loopw [3, 20] (fun v i wx => ∃ k : Nat, k ≤ ls.length ∧ i = .int .i64 (k : Int) ∧ Aside0 (TypsAt ls k v w0 wx)) (fun _ i _ => ls.length - (intOf i).toNat)
      case atStart => exact ⟨0, Nat.zero_le _, rfl, ⟨by rw [List.take_zero]; exact own_nil _ _ _ _, Below.refl _ _⟩⟩
      case round =>
        obtain ⟨k, hkl, rfl, HT⟩ := hrel
        have hlw := hl
        by_cases hlt : k < ls.length
        · obtain ⟨g, o, rfl, hg, hP⟩ := HL.out (fun e => by rw [e] at hlt; simp at hlt)
          have hP' := hP.same (HT.out.2.block g hg) k hlt
          have d0 := hP' 0 _ rfl
          have d1 := hP' 1 _ rfl
          have d2 := hP' 2 _ rfl
          have d3 := hP' 3 _ rfl
          have d4 := hP' 4 _ rfl
          have d5 := hP' 5 _ rfl
          have d6 := hP' 6 _ rfl
          have d7 := hP' 7 _ rfl
          have htk : typesS (ls.take (k + 1)) = insT ls[k].1 (typesS (ls.take k)) := by rw [List.take_succ_eq_append_getElem hlt, typesS_snoc]
          have hln := typesS_len ls k
          generalize ls[k] = p at *
          have hlti : (k : Int) < (ls.length : Int) := by omega
          have HTk := Aside0.mk htk
          have hto := HT.out.1
          have htb := HT.out.2
          clear htk hP hP'
          simp only [Nat.add_zero] at d0
          go_upto_region 8 with fail
          have hsk : ∃ W1, wr.alloc (.cells #[.int .i64 p.1, .int .i32 p.2.c, .int .i32 p.2.b, .int .i32 p.2.o, .int .u8 p.2.bo, .int .u8 p.2.it, .int .u8 p.2.un, .bool p.2.ni] 117) = W1 ∧ W1.heap[wr.heap.size]? = some (.cells #[.int .i64 p.1, .int .i32 p.2.c, .int .i32 p.2.b, .int .i32 p.2.o, .int .u8 p.2.bo, .int .u8 p.2.it, .int .u8 p.2.un, .bool p.2.ni] 117 (0, 0)) := ⟨_, rfl, blk_new _ _⟩
          obtain ⟨W1, hW1, hX1⟩ := hsk
          have hb1 : Below wr.heap.size wr W1 := by rw [← hW1]; exact below_alloc (Below.refl _ _) _
          have ho1 := pw_own_below hto hb1
          have hB1 := below_on htb hb1 htb.size
          rw [hW1]
          have y0 : W1.cell? ⟨wr.heap.size, 0, none⟩ = some (.int .i64 p.1) := (blk_cell hX1 0).trans rfl
          have ly := blk_lt hX1
          generalize wr.heap.size = gy at *
          generalize p.1 = t at *
          generalize typesS (ls.take k) = acc at *
          obtain ⟨A0, c0, hv, hc0, hAs⟩ := row_ask' ho1
          subst hv
          have HO1 := Aside0.mk ho1
          have HB1 := Aside0.mk hB1
          have HX1 := Aside0.mk hX1
          have HAs := Aside0.mk hAs
          clear hW1 hX1 hb1 ho1 hB1 hto htb d0 d1 d2 d3 d4 d5 d6 d7 hAs
          go_upto_block 4 with fail
          go_cut [7] (fun v7 wc => ∃ (a nd : Nat), v7 = .int .i64 (a : Int) ∧ a ≤ acc.length ∧ Aside0 ((∀ x ∈ acc.take a, x < t) ∧ ∀ x, acc[a]? = some x → t ≤ x) ∧ wc = W1.drewN nd)
          case first =>
            go_wp2
            go_loopw [7] (fun v7 wi => ∃ (a nd : Nat), v7 = .int .i64 (a : Int) ∧ a ≤ acc.length ∧ Aside0 (∀ x ∈ acc.take a, x < t) ∧ Aside0 (wi = W1.drewN nd)) (fun v7 _ => acc.length - (intOf v7).toNat)
            case atStart => exact ⟨0, 0, rfl, Nat.zero_le _, ⟨fun x hx => by rw [List.take_zero] at hx; cases hx⟩, ⟨rfl⟩⟩
            case round =>
              obtain ⟨a, nd, rfl, ha, HA, HW⟩ := hrel
              obtain rfl := HW.out
              by_cases hal : a < acc.length
              · obtain ⟨g2, o2, rfl, hg2, hP2⟩ := HAs.out (fun e => by rw [e] at hal; simp at hal)
                have e0 := hP2 a hal
                have hget : acc[a]? = some acc[a] := List.getElem?_eq_getElem hal
                have htk : acc.take (a + 1) = acc.take a ++ [acc[a]] := List.take_succ_eq_append_getElem hal
                have hai : (a : Int) < (acc.length : Int) := by omega
                have hdl : decide (a < acc.length) = true := decide_eq_true hal
                have ha0 : (0 : Int) ≤ (a : Int) := by omega
                generalize acc[a] = x at *
                have HG := Aside0.mk hget
                have HTa := Aside0.mk htk
                clear hP2 hget htk
                by_cases hx : x < t
                · go_wp2
                  go_quiet (fail)
                  go_wp2
                  exact ⟨⟨a + 1, _, by rw [Int.natCast_add]; rfl, by omega, ⟨fun y hy => by rw [HTa.out, List.mem_append, List.mem_singleton] at hy; rcases hy with hy | rfl; exact HA.out y hy; exact hx⟩, ⟨rfl⟩⟩, by simp [intOf]; omega⟩
                · go_wp2
                  go_quiet (fail)
                  go_wp2
                  go_meet
                  case rel => exact ⟨a, nd + nq, rfl, by omega, ⟨HA.out, fun y hy => by rw [HG.out] at hy; injection hy with hy; omega⟩, by simp only [World.drewN_drewN]⟩
              · obtain rfl : a = acc.length := by omega
                have hdl : decide (acc.length < acc.length) = false := by simp
                go_wp2
                go_quiet (fail)
                go_wp2
                go_meet
                case rel => exact ⟨acc.length, nd + nq, rfl, Nat.le_refl _, ⟨HA.out, fun y hy => by rw [List.getElem?_eq_none (Nat.le_refl _)] at hy; cases hy⟩, by simp only [World.drewN_drewN]⟩
          case rest =>
            obtain ⟨a, nd, rfl, ha, HA, rfl⟩ := hcut
            by_cases hit0 : acc[a]? = some t
            · have hal : a < acc.length := by
                rcases Nat.lt_or_ge a acc.length with h | h
                · exact h
                · rw [List.getElem?_eq_none h] at hit0; cases hit0
              obtain ⟨g2, o2, rfl, hg2, hP2⟩ := HAs.out (fun e => by rw [e] at hal; simp at hal)
              have e0 := hP2 a hal
              have hx : acc[a] = t := by rw [List.getElem?_eq_getElem hal] at hit0; exact Option.some.inj hit0
              rw [hx] at e0
              have hai : (a : Int) < (acc.length : Int) := by omega
              have hdl : decide (a < acc.length) = true := decide_eq_true hal
              have ha0 : (0 : Int) ≤ (a : Int) := by omega
              have HI := Aside0.mk hit0
              clear hP2 hx hit0
              go_wp2
              go_quiet (fail)
              go_wp2
              have hins : insT t acc = acc := insT_old ha HA.out.1 HI.out
              refine ⟨⟨k + 1, by omega, by rw [Int.natCast_add]; rfl, ⟨?_, pw_below_drewN HB1.out _⟩⟩, by simp [intOf]; omega⟩
              rw [HTk.out, hins]
              exact own_drewN' HO1.out _
            · have hlt2 : ∀ x, acc[a]? = some x → t < x := fun x hx => by
                have h1 := HA.out.2 x hx
                rcases Int.lt_or_eq_of_le h1 with h | h
                · exact h
                · rw [← h] at hx; exact absurd hx hit0
              have hins : insT t acc = acc.take a ++ t :: acc.drop a := insT_new ha HA.out.1 hlt2
              have HIns := Aside0.mk (HTk.out.trans hins)
              have HN0 := Aside0.mk hit0
              have hone : ∀ u ∈ [Value.int .i64 0], u.oneCell' = true := by simp [Value.oneCell']
              have hbd : (acc.length + 1) * 8 ≤ 140737488355328 := by omega
              have HN := Aside0.mk hone
              have HD := Aside0.mk hbd
              have HO2 := Aside0.mk (own_drewN' HO1.out nd)
              have HB2 := Aside0.mk (pw_below_drewN HB1.out nd)
              clear hins hone hbd hlt2 hit0
              go_upto_if 51 with (fail)
              go_cut [51] (fun s51 wd => s51 = .bool false ∧ ∃ n2 : Nat, wd = W1.drewN n2)
              case first =>
                by_cases hal : a < acc.length
                · obtain ⟨g2, o2, rfl, hg2, hP2⟩ := HAs.out (fun e => by rw [e] at hal; simp at hal)
                  have e0 := hP2 a hal
                  have hx : acc[a] ≠ t := fun e => HN0.out (by rw [List.getElem?_eq_getElem hal, e])
                  generalize acc[a] = x at *
                  have hb : (x == t) = false := beq_eq_false_iff_ne.2 hx
                  have hai : (a : Int) < (acc.length : Int) := by omega
                  have hdl : decide (a < acc.length) = true := decide_eq_true hal
                  have ha0 : (0 : Int) ≤ (a : Int) := by omega
                  clear hP2 hx
                  go_wp2
                  go_quiet (fail)
                  go_wp2
                  go_meet
                  case rel => exact ⟨rfl, nd + nq, by simp only [World.drewN_drewN]⟩
                · obtain rfl : a = acc.length := by omega
                  have hdl : decide (acc.length < acc.length) = false := by simp
                  go_wp2
                  go_quiet (fail)
                  go_wp2
                  go_meet
                  case rel => exact ⟨rfl, nd + nq, by simp only [World.drewN_drewN]⟩
              case rest =>
                obtain ⟨rfl, n2, rfl⟩ := hcut
                have HO3 := Aside0.mk (own_drewN' HO1.out n2)
                have HB3 := Aside0.mk (pw_below_drewN HB1.out n2)
                have y3 : (W1.drewN n2).cell? ⟨gy, 0, none⟩ = some (.int .i64 t) := y0
                have hX3 : (W1.drewN n2).heap[gy]? = some (.cells #[.int .i64 t, .int .i32 p.2.c, .int .i32 p.2.b, .int .i32 p.2.o, .int .u8 p.2.bo, .int .u8 p.2.it, .int .u8 p.2.un, .bool p.2.ni] 117 (0, 0)) := HX1.out
                have hle3 : w0.heap.size ≤ (W1.drewN n2).heap.size := HB3.out.size
                generalize W1.drewN n2 = W3 at *
                have HX3 := Aside0.mk hX3
                clear y0 hX3
                go_upto_region 13 with (((with_reducible refine gate_builtin (b := .append) (xs := #[.tmp 52, .tmp 53]) rfl ?_); at_builtin; refine print_append_cells (w0 := w0) w0.heap.size rfl (.tmp 52) (.tmp 53) 23 3 (.int .i64 0) 1 8 rfl Tryz.underlying23 infoI3 rfl (Nat.succ_pos _) (Nat.succ_pos _) (.slice A0 acc.length c0) acc.length (acc.map (Value.int .i64)) [.int .i64 0] rfl rfl rfl HN.out HO3.out HB3.out hle3 HD.out ?_; intro v1 w6 ho6 hB6 hg6 hat6))
                rcases ho6.2 with ⟨_, h0⟩ | ⟨g1, cp, cur, rfl, hbg, hh, hnc, hcm, hcs, ht⟩
                · exact absurd h0 (Nat.succ_ne_zero _)
                have hX6 := blk_grown HX3.out hg6 (own_ne HO3.out HX3.out (by decide))
                obtain ⟨L, rfl⟩ : ∃ L : List Value, cur = L.toArray := ⟨cur.toList, by simp⟩
                have hLl : L.length = cp := by simpa using hcs
                have hcsl : ((acc.drop a).map (Value.int .i64)).length = acc.length - a := by simp
                have hsrc : ∀ j v, ((acc.drop a).map (Value.int .i64))[j]? = some v → w6.drew.cell? ((⟨g1, a, none⟩ : Addr).add j) = some v := by
                  intro j v hv
                  have hj : a + j < acc.length := by
                    have := (List.getElem?_eq_some_iff.1 hv).1
                    rw [hcsl] at this
                    omega
                  rw [addr_at]
                  show w6.cell? _ = _
                  have h1 := World.ownsRow.cellAt ho6 (a + j) (by omega)
                  rw [h1, List.getElem?_append_left (by simpa using hj)]
                  rw [List.getElem?_map, List.getElem?_drop] at hv
                  rw [List.getElem?_map]
                  exact hv
                have honec : ∀ v ∈ (acc.drop a).map (Value.int .i64), v.oneCell' = true := by
                  intro v hv
                  obtain ⟨x, _, rfl⟩ := List.mem_map.1 hv
                  rfl
                have HS := Aside0.mk hsrc
                have HOc := Aside0.mk honec
                have HH6 := Aside0.mk hh
                have HT6 := Aside0.mk ht
                have HB6 := Aside0.mk hB6
                have HX6 := Aside0.mk hX6
                have HLl := Aside0.mk hLl
                have HH7 : Aside0 (w6.drew.heap[g1]? = some (.cells L.toArray 3 (0, 0))) := ⟨hh⟩
                have hn1 : ((acc.drop a).map (Value.int .i64)).length = Nat.min (acc.length + 1 - a) (acc.length + 1 - (a + 1)) := by rw [hcsl]; show _ = min _ _; omega
                have hn2 : ((acc.drop a).map (Value.int .i64)).length = Nat.min (acc.length + 1 - a) (acc.length - a) := by rw [hcsl]; show _ = min _ _; omega
                have HN1 := Aside0.mk hn1
                have HN2 := Aside0.mk hn2
                have HFit : Aside0 (a + 1 + ((acc.drop a).map (Value.int .i64)).length ≤ L.length) := ⟨by rw [hcsl]; omega⟩
                have ha1 : (0 : Int) ≤ (a : Int) := by omega
                have hw1 : IntKind.i64.wrap ((a : Int) + 1) = (a : Int) + 1 := IntWalk.i64_in _ (by omega)
                have ha2 : (0 : Int) ≤ (a : Int) + 1 := by omega
                have ha3 : ((a : Int) + 1).toNat = a + 1 := by omega
                have hi1 : (a : Int) ≤ (acc.length : Int) + 1 := by omega
                have hi2 : (a : Int) + 1 ≤ (acc.length : Int) + 1 := by omega
                have hi3 : ¬ cp = a := by omega
                generalize hcs' : (acc.drop a).map (Value.int .i64) = cs at *
                have HCs := Aside0.mk hcs'
                clear hsrc honec hcsl hh ht hB6 hX6 hLl ho6 hg6 hat6 hcs hcs' hn1 hn2
                by_cases hcap : cp = a + 1
                · subst hcap
                  have HC0 : Aside0 (cs.length = 0) := ⟨by have := HFit.out; rw [HLl.out] at this; omega⟩
                  obtain rfl : a = acc.length := by omega
                  go_still_tail 7, (by kernel_rfl)
                  change wpList _ _ _ _ _ w6.drew
                  refine copy_list (by rfl) (.tmp 58) (.tmp 61) 23 3 (by rfl) Tryz.underlying23 (by kernel_rfl) _ _ _ _ _ _ (by rfl) (by rfl) g1 (acc.length + 1) L 3 HH7.out cs (by rw [HC0.out]; first | rfl | (simp; done)) (fun h => absurd HC0.out (Nat.ne_of_gt h)) HFit.out HOc.out ?_
                  intro w7 HW7 hg7
                  have hy7 : w7.heap[gy]? = some (.cells #[.int .i64 t, .int .i32 p.2.c, .int .i32 p.2.b, .int .i32 p.2.o, .int .u8 p.2.bo, .int .u8 p.2.it, .int .u8 p.2.un, .bool p.2.ni] 117 (0, 0)) := (hg7.block gy (blk_lt HX6.out) (fun e => by injection e with e; have h := HX6.out; rw [e, HH6.out] at h; injection h with h; injection h with _ h; exact absurd h (by decide))).trans HX6.out
                  have y7 : w7.cell? ⟨gy, 0, none⟩ = some (.int .i64 t) := (blk_cell hy7 0).trans rfl
                  obtain ⟨x7, c7⟩ : ∃ x, w7.cell? ⟨g1, acc.length, none⟩ = some x := by
                    rw [blk_cell HW7.out acc.length]
                    exact ⟨_, Array.getElem?_eq_getElem (by rw [List.size_toArray, length_splice L (acc.length + 1) cs HFit.out, HLl.out]; omega)⟩
                  have f7 : w7.frozen? ⟨g1, acc.length, none⟩ = false := blk_frozen HW7.out acc.length
                  have hset := blk_put HW7.out acc.length (.int .i64 t) rfl
                  have HF : Aside0 (TypsAt ls (k + 1) (.slice (some ⟨g1, 0, none⟩) (acc.length + 1) (acc.length + 1)) w0 (w7.setCell ⟨g1, acc.length, none⟩ (.int .i64 t))) := by
                    have i0 := ins_row L (acc.map (Value.int .i64)) (.int .i64 0) (.int .i64 t) acc.length (by simp) (by have := HT6.out; simpa using this)
                    rw [← List.map_drop, HCs.out, List.length_map] at i0
                    refine ⟨⟨by rw [HIns.out]; simp, .inr ⟨g1, _, _, by rw [HIns.out]; simp <;> omega, hbg, hset, by rw [HIns.out]; simp <;> omega, hcm, ?_, ?_⟩⟩, ?_⟩
                    · simp [i0.2, HLl.out]
                    · rw [HIns.out]
                      have := i0.1
                      have hl2 : (acc.take acc.length ++ t :: acc.drop acc.length).length * 1 = acc.length + 1 := by simp <;> omega
                      rw [hl2, Array.toList_setIfInBounds]
                      show List.take (acc.length + 1) ((splice L (acc.length + 1) cs).set acc.length (Value.int .i64 t)) = _
                      rw [this, List.map_append, List.map_cons, List.map_take, HCs.out]
                    · exact ((below_drew HB6.out).grown hg7 (by have := HB6.out.size; simpa using this) (fun q e => by injection e with e; omega)).setCell (p := ⟨g1, acc.length, none⟩) hbg _
                  clear hg7 hy7 hset
                  go_wp2
                  go_roundw
                  case rel => exact ⟨k + 1, by omega, by rw [Int.natCast_add]; rfl, HF⟩
                  case measure => simp [intOf]; omega
                · go_still_tail 7, (by kernel_rfl)
                  change wpList _ _ _ _ _ w6.drew
                  refine copy_list (by rfl) (.tmp 58) (.tmp 61) 23 3 (by rfl) Tryz.underlying23 (by kernel_rfl) (some ⟨g1, a + 1, none⟩) (some ⟨g1, a, none⟩) _ _ _ _ (by rfl) (by rfl) g1 (a + 1) L 3 HH7.out cs HN2.out (fun _ => ⟨rfl, _, rfl, HS.out⟩) HFit.out HOc.out ?_
                  intro w7 HW7 hg7
                  have hy7 : w7.heap[gy]? = some (.cells #[.int .i64 t, .int .i32 p.2.c, .int .i32 p.2.b, .int .i32 p.2.o, .int .u8 p.2.bo, .int .u8 p.2.it, .int .u8 p.2.un, .bool p.2.ni] 117 (0, 0)) := (hg7.block gy (blk_lt HX6.out) (fun e => by injection e with e; have h := HX6.out; rw [e, HH6.out] at h; injection h with h; injection h with _ h; exact absurd h (by decide))).trans HX6.out
                  have y7 : w7.cell? ⟨gy, 0, none⟩ = some (.int .i64 t) := (blk_cell hy7 0).trans rfl
                  obtain ⟨x7, c7⟩ : ∃ x, w7.cell? ⟨g1, a, none⟩ = some x := by
                    rw [blk_cell HW7.out a]
                    exact ⟨_, Array.getElem?_eq_getElem (by rw [List.size_toArray, length_splice L (a + 1) cs HFit.out, HLl.out]; omega)⟩
                  have f7 : w7.frozen? ⟨g1, a, none⟩ = false := blk_frozen HW7.out a
                  have hset := blk_put HW7.out a (.int .i64 t) rfl
                  have HF : Aside0 (TypsAt ls (k + 1) (.slice (some ⟨g1, 0, none⟩) (acc.length + 1) cp) w0 (w7.setCell ⟨g1, a, none⟩ (.int .i64 t))) := by
                    have i0 := ins_row L (acc.map (Value.int .i64)) (.int .i64 0) (.int .i64 t) a (by simpa using ha) (by have := HT6.out; simpa using this)
                    rw [← List.map_drop, HCs.out, List.length_map] at i0
                    refine ⟨⟨by rw [HIns.out]; simp, .inr ⟨g1, _, _, by rw [HIns.out]; simp <;> omega, hbg, hset, by rw [HIns.out]; simp <;> omega, hcm, ?_, ?_⟩⟩, ?_⟩
                    · simp [i0.2, HLl.out]
                    · rw [HIns.out]
                      have := i0.1
                      have hl2 : (acc.take a ++ t :: acc.drop a).length * 1 = acc.length + 1 := by simp <;> omega
                      rw [hl2, Array.toList_setIfInBounds]
                      show List.take (acc.length + 1) ((splice L (a + 1) cs).set a (Value.int .i64 t)) = _
                      rw [this, List.map_append, List.map_cons, List.map_take, HCs.out]
                    · exact ((below_drew HB6.out).grown hg7 (by have := HB6.out.size; simpa using this) (fun q e => by injection e with e; omega)).setCell (p := ⟨g1, a, none⟩) hbg _
                  clear hg7 hy7 hset
                  go_wp2
                  go_roundw
                  case rel => exact ⟨k + 1, by omega, by rw [Int.natCast_add]; rfl, HF⟩
                  case measure => simp [intOf]; omega
        · obtain rfl : k = ls.length := by omega
          have b1 : wr.cell? ⟨b, 1, none⟩ = some (.pointer none) := (blk_cell ((HT.out.2.block b lb).trans HBk.out) 1).trans rfl
          go_wp2
          go_roundw
          case rel => exact .inr ⟨rfl, HT⟩
          case measure => exact Nat.zero_lt_one
    · obtain ⟨ho, hB⟩ := HT.out
      rw [List.take_length] at ho
      go_wp2
      go_ret
      exact ⟨⟨_, rfl, ho⟩, hB⟩
end Go.Proofs.YtjemdgmihbmgeaaGreatDoorEnt
set_option linter.unusedVariables false
set_option linter.unusedSimpArgs false
namespace Go.Proofs.YtjemdgmihbmgeaaGreatDoorEnt
open Go.RowKit Go.Shelf Go.Proofs.YtjemdgmihbmgeaaGreatDoorW.PrintWords Go.Proofs.YtjemdgmihbmgeaaGreatDoorFmt Go.Proofs.YtjemdgmihbmgeaaGreatDoorMapI Go.Proofs.YtjemdgmihbmgeaaGreatDoorFlt Go.Proofs.YtjemdgmihbmgeaaGreatDoorIeee Go.Proofs.YtjemdgmihbmgeaaGreatDoor Go.Proofs.YtjemdgmihbmgeaaGreatDoor.S
theorem madeF_len2 : ∀ (l : List (Int × ByteArray)) (acc ls : Lines), madeF l acc = .inr ls → ls.length ≤ acc.length + l.length
  | [], acc, ls, h => by unfold madeF at h; injection h with h; subst h; simp
  | p :: r, acc, ls, h => by
    unfold madeF at h
    split at h
    · have := madeF_len2 r acc ls h
      simp; omega
    · split at h
      · split at h
        · have := madeF_len2 r _ ls h
          simp at this ⊢; omega
        · cases h
      · cases h
theorem fldS (e : Ent) (b : Int) (W : World) : (Instr.field 62 (.agg #[.int .i32 e.c, .int .i32 b, .int .i32 e.o, .int .u8 e.bo, .int .u8 e.it, .int .u8 e.un, .bool e.ni]) 1).run Tryz.prog W = .ok (.int .i32 b) W := by kernel_rfl
theorem fldC (e : Ent) (b : Int) (W : World) : (Instr.field 94 (.agg #[.int .i32 e.c, .int .i32 b, .int .i32 e.o, .int .u8 e.bo, .int .u8 e.it, .int .u8 e.un, .bool e.ni]) 1).run Tryz.prog W = .ok (.int .i32 b) W := by kernel_rfl
def STypRes (r : Int ⊕ Lines) (base : Nat) (x : Ending) (w' : World) : Prop := match r with
  | .inl n => x = .returned (.tuple #[.slice none 0 0, .bool false, .int .i64 n])
  | .inr ls => ∃ v, x = .returned (.tuple #[v, .bool true, .int .i64 1]) ∧ w'.ownsRow base 3 1 v (typesS ls).length ((typesS ls).map (Value.int .i64))
set_option maxRecDepth 100000 in
set_option maxHeartbeats 4000000 in
theorem specTypes_c (A : Option Addr) (cap : Nat) (l : List (Int × ByteArray)) (hl : l.length ≤ 1000000) (hc : l.length ≤ cap) (hk : ∀ p ∈ l, p.2.size ≤ 200) (w : World)
    (hA : l ≠ [] → ∃ g o, A = some ⟨g, o, none⟩ ∧ g < w.heap.size ∧ PartsAt w g o l) :
    Calls Tryz.prog 17 #[.slice A l.length cap] w fun x w' => STypRes (madeF l []) w.heap.size x w' ∧ Below w.heap.size w w' := by
  have kM := Aside0.mk (made_c A cap l hl hc hk none w hA)
  have HML := Aside0.mk (fun ls h => madeF_len2 l [] ls h)
  clear hk hA
  generalize madeF l [] = res at *
  go_enter Tryz.func17, Tryz.ntmps17
  cases res with
  | inl n =>
    go_wp2_with (go_at_call 23; refine kM.out.mono ?_; rintro x1 w1 ⟨hx, hb1⟩; obtain rfl := (show x1 = _ from hx); clear hx)
    go_ret3
    exact ⟨rfl, hb1⟩
  | inr ls =>
    have hlen : ls.length ≤ 1000000 := by have := HML.out ls rfl; simp at this; omega
    go_wp2_with (first | (go_at_call 23; refine kM.out.mono ?_; rintro x1 w1 ⟨⟨b, rfl, hsp⟩, hb1⟩) | (go_at_call 39; refine (styp_c _ ls hlen _ hsp).mono ?_; rintro x2 w2 ⟨⟨v, rfl, ho⟩, hb2⟩))
    go_ret3
    exact ⟨⟨_, rfl, own_weaken ho hb1.size⟩, below_on hb1 hb2 hb1.size⟩
def modeS (b : Int) : Int × Int := if b = 0 then (0, 1) else if b = 16777216 then (0, 1) else if b = 1 then (1, 1) else (0, 2)
def SModeR (r : Int ⊕ Lines) : Int × Int := match r with
  | .inl n => (-1, n)
  | .inr ls => modeS (ownL [ls] (-1)).b
set_option maxRecDepth 100000 in
set_option maxHeartbeats 4000000 in
theorem specMode_c (A : Option Addr) (cap : Nat) (l : List (Int × ByteArray)) (hl : l.length ≤ 1000000) (hc : l.length ≤ cap) (hk : ∀ p ∈ l, p.2.size ≤ 200) (w : World)
    (hA : l ≠ [] → ∃ g o, A = some ⟨g, o, none⟩ ∧ g < w.heap.size ∧ PartsAt w g o l) :
    Calls Tryz.prog 18 #[.slice A l.length cap] w fun x w' => x = .returned (.tuple #[.int .i64 (SModeR (madeF l [])).1, .int .i64 (SModeR (madeF l [])).2]) ∧ Below w.heap.size w w' := by
  have kM := Aside0.mk (made_c A cap l hl hc hk none w hA)
  have HML := Aside0.mk (fun ls h => madeF_len2 l [] ls h)
  clear hk hA
  generalize madeF l [] = res at *
  cases res with
  | inl n =>
    have hr : SModeR (.inl n) = (-1, n) := rfl
    rw [hr]
    go_enter Tryz.func18, Tryz.ntmps18
    go_wp2_with (go_at_call 23; refine kM.out.mono ?_; rintro x1 w1 ⟨hx, hb1⟩; obtain rfl := (show x1 = _ from hx); clear hx)
    go_ret2
    exact ⟨rfl, hb1⟩
  | inr ls =>
    have hlen : ls.length ≤ 1000000 := by have := HML.out ls rfl; simp at this; omega
    have hr : SModeR (.inr ls) = modeS (ownL [ls] (-1)).b := rfl
    rw [hr]
    have kO : Aside0 (∀ (b : Nat) (W : World), SpcAt W b ls none → Calls Tryz.prog 26 #[.pointer (some ⟨b, 0, none⟩), .int .i64 (-1)] W fun x W' => x = .returned (.agg #[.int .i32 (ownL [ls] (-1)).c, .int .i32 (ownL [ls] (-1)).b, .int .i32 (ownL [ls] (-1)).o, .int .u8 (ownL [ls] (-1)).bo, .int .u8 (ownL [ls] (-1)).it, .int .u8 (ownL [ls] (-1)).un, .bool (ownL [ls] (-1)).ni]) ∧ Below W.heap.size W W') := ⟨fun b W h => own_c [ls] _ (-1) W (by simp) (fun x hx => by rw [List.mem_singleton] at hx; rw [hx]; exact hlen) ⟨b, none, rfl, h, rfl⟩⟩
    clear hr hlen HML
    generalize ownL [ls] (-1) = e at *
    have hm : modeS e.b = if e.b = 0 then (0, 1) else if e.b = 16777216 then (0, 1) else if e.b = 1 then (1, 1) else (0, 2) := rfl
    have HM := Aside0.mk hm
    clear hm
    generalize e.b = bg at *
    have fin : ∀ (x y : Int), modeS bg = (x, y) → (∀ w1 w2 : World, Below w.heap.size w w1 → Below w1.heap.size w1 w2 → (Ending.returned (.tuple #[.int .i64 x, .int .i64 y]) = .returned (.tuple #[.int .i64 (modeS bg).1, .int .i64 (modeS bg).2]) ∧ Below w.heap.size w w2)) := fun x y h w1 w2 h1 h2 => ⟨by rw [h], below_on h1 h2 h1.size⟩
    have HFin := Aside0.mk fin
    clear fin
    have hu := fldS e bg
    by_cases h0 : bg = 0
    · have HE : Aside0 (modeS bg = (0, 1)) := ⟨by rw [HM.out, if_pos h0]⟩
      have q0 : (bg == 0) = true := beq_iff_eq.2 h0
      generalize modeS bg = m at *
      clear h0
      go_enter Tryz.func18, Tryz.ntmps18
      go_wp2_with (first | (go_at_call 23; refine kM.out.mono ?_; rintro x1 w1 ⟨⟨b, rfl, hsp⟩, hb1⟩) | (go_at_call 26; refine (kO.out _ _ hsp).mono ?_; rintro x2 w2 ⟨rfl, hb2⟩))
      go_ret2
      exact HFin.out _ _ HE.out _ _ hb1 hb2
    · have q0 : (bg == 0) = false := beq_eq_false_iff_ne.2 h0
      by_cases h1 : bg = 16777216
      · have HE : Aside0 (modeS bg = (0, 1)) := ⟨by rw [HM.out, if_neg h0, if_pos h1]⟩
        have q1 : (bg == 16777216) = true := beq_iff_eq.2 h1
        generalize modeS bg = m at *
        clear h0 h1
        go_enter Tryz.func18, Tryz.ntmps18
        go_wp2_with (first | (go_at_call 23; refine kM.out.mono ?_; rintro x1 w1 ⟨⟨b, rfl, hsp⟩, hb1⟩) | (go_at_call 26; refine (kO.out _ _ hsp).mono ?_; rintro x2 w2 ⟨rfl, hb2⟩))
        go_ret2
        exact HFin.out _ _ HE.out _ _ hb1 hb2
      · have q1 : (bg == 16777216) = false := beq_eq_false_iff_ne.2 h1
        by_cases h2 : bg = 1
        · have HE : Aside0 (modeS bg = (1, 1)) := ⟨by rw [HM.out, if_neg h0, if_neg h1, if_pos h2]⟩
          have q2 : (bg == 1) = true := beq_iff_eq.2 h2
          generalize modeS bg = m at *
          clear h0 h1 h2
          go_enter Tryz.func18, Tryz.ntmps18
          go_wp2_with (first | (go_at_call 23; refine kM.out.mono ?_; rintro x1 w1 ⟨⟨b, rfl, hsp⟩, hb1⟩) | (go_at_call 26; refine (kO.out _ _ hsp).mono ?_; rintro x2 w2 ⟨rfl, hb2⟩))
          go_ret2
          exact HFin.out _ _ HE.out _ _ hb1 hb2
        · have HE : Aside0 (modeS bg = (0, 2)) := ⟨by rw [HM.out, if_neg h0, if_neg h1, if_neg h2]⟩
          have q2 : (bg == 1) = false := beq_eq_false_iff_ne.2 h2
          generalize modeS bg = m at *
          clear h0 h1 h2
          go_enter Tryz.func18, Tryz.ntmps18
          go_wp2_with (first | (go_at_call 23; refine kM.out.mono ?_; rintro x1 w1 ⟨⟨b, rfl, hsp⟩, hb1⟩) | (go_at_call 26; refine (kO.out _ _ hsp).mono ?_; rintro x2 w2 ⟨rfl, hb2⟩))
          go_ret2
          exact HFin.out _ _ HE.out _ _ hb1 hb2
/-- A style's mode where it is said. -/
theorem br_dark : FloatKind.f64.format.order (Br 0) 4602678819172646912 == some Ordering.lt := by decide +kernel
theorem br_light : (FloatKind.f64.format.order (Br 765) 4602678819172646912 == some Ordering.lt) = false := by decide +kernel
def modeB (b : Int) : Bool := b == 0 || b == 16777216 || b == 1
set_option maxRecDepth 100000 in
set_option maxHeartbeats 4000000 in
theorem mode_c (L : List (Int → Option Ent)) (hL : L ≠ []) (a : Option Addr) (n : Nat) (w : World) (hS : StyAt n w L a) (hb : modeB (getS L (-1)).b = true) :
    Calls Tryz.prog 56 #[.pointer a] w fun x w' => x = .returned (.int .u8 (modeS (getS L (-1)).b).1) ∧ Below w.heap.size w w' := by
  have kG : Aside0 (Calls Tryz.prog 59 #[.pointer a, .int .i64 (-1)] w fun x W' => x = .returned (.agg #[.int .i32 (getS L (-1)).c, .int .i32 (getS L (-1)).b, .int .i32 (getS L (-1)).o, .int .u8 (getS L (-1)).bo, .int .u8 (getS L (-1)).it, .int .u8 (getS L (-1)).un, .bool (getS L (-1)).ni]) ∧ Below w.heap.size w W') := ⟨get_c L a n (-1) (ok_of (by decide) (by decide)) w hL hS⟩
  have kS := Aside0.mk isSet_c
  clear hS
  generalize getS L (-1) = e at *
  generalize e.b = bg at *
  have hu := fldC e bg
  unfold modeB at hb
  rw [Bool.or_eq_true, Bool.or_eq_true] at hb
  rcases hb with (hb | hb) | hb
  · obtain rfl : bg = 0 := by simpa using hb
    clear hb
    have hm : (modeS 0).1 = 0 := by decide
    rw [hm]
    go_enter Tryz.func56, Tryz.ntmps56
    go_wp2_with (first | (go_at_call 59; refine kG.out.mono ?_; rintro x1 w1 ⟨rfl, hb1⟩) | (go_at_call 76; refine (kS.out _ _).mono ?_; rintro x2 w2 ⟨rfl, rfl⟩))
    go_ret
    exact ⟨rfl, hb1⟩
  · obtain rfl : bg = 16777216 := by simpa using hb
    clear hb
    have hm : (modeS 16777216).1 = 0 := by decide
    rw [hm]
    have kB0 : Aside0 (∀ W, Calls Tryz.prog 82 #[.int .i32 16777216] W fun e w' => e = .returned (.float .f64 (Br 765)) ∧ Below W.heap.size W w') := ⟨brightness ((16777215 : Nat) + 1 : Int) _ _ _ (parts_of 16777215 (by decide)) (by decide) (by decide) (by decide)⟩
    have hq := br_light
    generalize Br 765 = B at *
    go_enter Tryz.func56, Tryz.ntmps56
    go_wp2_with (first | (go_at_call 59; refine kG.out.mono ?_; rintro x1 w1 ⟨rfl, hb1⟩) | (go_at_call 76; refine (kS.out _ _).mono ?_; rintro x2 w2 ⟨rfl, rfl⟩) | (go_at_call 82; refine (kB0.out _).mono ?_; rintro x3 w3 ⟨rfl, hb3⟩))
    go_ret
    exact ⟨rfl, below_on hb1 hb3 hb1.size⟩
  · obtain rfl : bg = 1 := by simpa using hb
    clear hb
    have hm : (modeS 1).1 = 1 := by decide
    rw [hm]
    have kB0 : Aside0 (∀ W, Calls Tryz.prog 82 #[.int .i32 1] W fun e w' => e = .returned (.float .f64 (Br 0)) ∧ Below W.heap.size W w') := ⟨brightness ((0 : Nat) + 1 : Int) _ _ _ (parts_of 0 (by decide)) (by decide) (by decide) (by decide)⟩
    have hq := br_dark
    generalize Br 0 = B at *
    go_enter Tryz.func56, Tryz.ntmps56
    go_wp2_with (first | (go_at_call 59; refine kG.out.mono ?_; rintro x1 w1 ⟨rfl, hb1⟩) | (go_at_call 76; refine (kS.out _ _).mono ?_; rintro x2 w2 ⟨rfl, rfl⟩) | (go_at_call 82; refine (kB0.out _).mono ?_; rintro x3 w3 ⟨rfl, hb3⟩))
    go_ret
    exact ⟨rfl, below_on hb1 hb3 hb1.size⟩
def ModeRes (l : List (Int × ByteArray)) (x : Ending) : Prop :=
  (badL l = true ∧ x = .returned (.int .i64 (-1))) ∨ (badL l = false ∧ x = .returned (.int .i64 (modeS (getS [lineE l] (-1)).b).1))
set_option maxHeartbeats 4000000 in
theorem styleMode_c (A : Option Addr) (cap : Nat) (l : List (Int × ByteArray)) (hl : l.length ≤ 1000000) (hc : l.length ≤ cap) (hk : ∀ p ∈ l, Ok p.1 ∧ p.2.size ≤ 140737488351232) (hm : modeB (getS [lineE l] (-1)).b = true) (w : World) (hV : VarsOK w)
    (hA : l ≠ [] → ∃ g o, A = some ⟨g, o, none⟩ ∧ g < w.heap.size ∧ PartsAt w g o l) :
    Calls Tryz.prog 21 #[.slice A l.length cap] w fun x w' => ModeRes l x ∧ Below w.heap.size w w' := by
  have kS := Aside0.mk (styled_c A cap l hl hc hk w hV hA)
  have HK := Aside0.mk hk
  have HM := Aside0.mk hm
  have hx01 : 0 ≤ (modeS (getS [lineE l] (-1)).b).1 ∧ (modeS (getS [lineE l] (-1)).b).1 ≤ 1 := by unfold modeS; split <;> (try split) <;> (try split) <;> decide
  have hr : ∀ x, ModeRes l x = ((badL l = true ∧ x = .returned (.int .i64 (-1))) ∨ (badL l = false ∧ x = .returned (.int .i64 (modeS (getS [lineE l] (-1)).b).1))) := fun _ => rfl
  have HR := Aside0.mk hr
  have kM : Aside0 (∀ (a : Option Addr) (W : World), StyAt l.length W [lineE l] a → Calls Tryz.prog 56 #[.pointer a] W fun x w' => x = .returned (.int .u8 (modeS (getS [lineE l] (-1)).b).1) ∧ Below W.heap.size W w') := ⟨fun a W h => mode_c [lineE l] (by simp) a l.length W h hm⟩
  clear hk hA hV hm hr HM
  generalize (modeS (getS [lineE l] (-1)).b).1 = m at *
  obtain ⟨hm0, hm1⟩ := hx01
  go_enter Tryz.func21, Tryz.ntmps21
  go_wp2_with (first | (go_at_call 27; refine kS.out.mono ?_; rintro x1 w1 ⟨⟨rfl, hx⟩ | ⟨p, mp, rfl, h2, h3, h4⟩, hb1⟩) | (go_at_call 56; refine (kM.out (some ⟨p, 0, none⟩) _ ⟨p, mp, _, _, none, rfl, h2, h3, rfl⟩).mono ?_; rintro x2 w2 ⟨rfl, hb2⟩))
  · go_ret
    obtain ⟨k, t, _, h5, h6⟩ := hx
    exact ⟨by rw [HR.out]; exact .inl ⟨badL_true h5 h6, rfl⟩, hb1⟩
  · go_ret
    exact ⟨by rw [HR.out]; exact .inr ⟨badL_false (fun p hp => (HK.out p hp).1) h4, rfl⟩, below_on hb1 hb2 hb1.size⟩
end Go.Proofs.YtjemdgmihbmgeaaGreatDoorEnt
set_option linter.unusedVariables false
set_option linter.unusedSimpArgs false
namespace Go.Proofs.YtjemdgmihbmgeaaGreatDoorEnt
open Go.RowKit Go.Proofs.YtjemdgmihbmgeaaGreatDoorMapI
def ins (t : Int) : List Int → List Int
  | [] => [t]
  | x :: l => if x < t then x :: ins t l else if x = t then x :: l else t :: x :: l
theorem insT_ins : ∀ (l : List Int) (t : Int), insT t l = ins t l
  | [], t => rfl
  | x :: l, t => by
    have ih := insT_ins l t
    unfold insT at ih ⊢
    unfold ins
    by_cases h : x < t
    · rw [List.takeWhile_cons, List.dropWhile_cons, decide_eq_true h, if_pos rfl, if_pos rfl, if_pos h, ← ih]
      split <;> rfl
    · have e1 : (x :: l).takeWhile (fun x => decide (x < t)) = [] := by rw [List.takeWhile_cons, decide_eq_false h]; rfl
      have e2 : (x :: l).dropWhile (fun x => decide (x < t)) = x :: l := by rw [List.dropWhile_cons, decide_eq_false h]; rfl
      rw [e1, e2, if_neg h, List.head?_cons]
      by_cases e : x = t
      · rw [if_pos e, if_pos (by rw [e])]
      · rw [if_neg e, if_neg (fun q => e (Option.some.inj q))]; rfl
theorem mem_ins : ∀ (l : List Int) (t x : Int), x ∈ ins t l ↔ x = t ∨ x ∈ l
  | [], t, x => by unfold ins; simp
  | y :: l, t, x => by
    have ih := mem_ins l t x
    unfold ins
    split
    · rw [List.mem_cons, ih, List.mem_cons]
      constructor
      · rintro (h | h | h)
        · exact .inr (.inl h)
        · exact .inl h
        · exact .inr (.inr h)
      · rintro (h | h | h)
        · exact .inr (.inl h)
        · exact .inl h
        · exact .inr (.inr h)
    · split
      · rename_i h1 h2
        subst h2
        rw [List.mem_cons]
        constructor
        · exact .inr
        · rintro (h | h)
          · exact .inl h
          · exact h
      · rw [List.mem_cons]
theorem asc_ins : ∀ (l : List Int) (t : Int), l.Pairwise (· < ·) → (ins t l).Pairwise (· < ·)
  | [], t, _ => by unfold ins; simp
  | x :: l, t, h => by
    have h' := List.pairwise_cons.1 h
    unfold ins
    split
    · rename_i hx
      refine List.pairwise_cons.2 ⟨fun y hy => ?_, asc_ins l t h'.2⟩
      rcases (mem_ins l t y).1 hy with e | hy
      · rw [e]; exact hx
      · exact h'.1 y hy
    · split
      · exact h
      · rename_i h1 h2
        refine List.pairwise_cons.2 ⟨fun y hy => ?_, h⟩
        rcases List.mem_cons.1 hy with e | hy
        · omega
        · have := h'.1 y hy; omega
theorem asc_uniq : ∀ (a b : List Int), a.Pairwise (· < ·) → b.Pairwise (· < ·) → (∀ x, x ∈ a ↔ x ∈ b) → a = b
  | [], [], _, _, _ => rfl
  | [], y :: b, _, _, h => absurd ((h y).2 List.mem_cons_self) (by simp)
  | x :: a, [], _, _, h => absurd ((h x).1 List.mem_cons_self) (by simp)
  | x :: a, y :: b, ha, hb, h => by
    have ha' := List.pairwise_cons.1 ha
    have hb' := List.pairwise_cons.1 hb
    have e : x = y := by
      rcases List.mem_cons.1 ((h x).1 List.mem_cons_self) with e | hx
      · exact e
      · rcases List.mem_cons.1 ((h y).2 List.mem_cons_self) with e | hy
        · exact e.symm
        · have := ha'.1 y hy; have := hb'.1 x hx; omega
    subst e
    refine congrArg (x :: ·) (asc_uniq a b ha'.2 hb'.2 (fun z => ⟨fun hz => ?_, fun hz => ?_⟩))
    · rcases List.mem_cons.1 ((h z).1 (List.mem_cons_of_mem _ hz)) with e | hz'
      · have := ha'.1 z hz; omega
      · exact hz'
    · rcases List.mem_cons.1 ((h z).2 (List.mem_cons_of_mem _ hz)) with e | hz'
      · have := hb'.1 z hz; omega
      · exact hz'
theorem fold_ins (l : List Int) : ∀ acc : List Int, acc.Pairwise (· < ·) → (l.foldl (fun a t => insT t a) acc).Pairwise (· < ·) ∧ ∀ x, x ∈ l.foldl (fun a t => insT t a) acc ↔ x ∈ acc ∨ x ∈ l := by
  induction l with
  | nil => intro acc h; exact ⟨h, fun x => by simp⟩
  | cons t l ih =>
    intro acc h
    have hi := asc_ins acc t h
    rw [← insT_ins] at hi
    obtain ⟨h1, h2⟩ := ih (insT t acc) hi
    refine ⟨h1, fun x => ?_⟩
    rw [List.foldl_cons, h2, insT_ins, mem_ins, List.mem_cons]
    constructor
    · rintro ((h | h) | h)
      · exact .inr (.inl h)
      · exact .inl h
      · exact .inr (.inr h)
    · rintro (h | h | h)
      · exact .inl (.inr h)
      · exact .inl (.inl h)
      · exact .inr h
/-- The keys of a style's lines, rising. -/
def typesK (l : List Int) : List Int := l.foldl (fun a t => insT t a) []
theorem typesK_asc (l : List Int) : (typesK l).Pairwise (· < ·) := (fold_ins l [] List.Pairwise.nil).1
theorem typesK_mem (l : List Int) (x : Int) : x ∈ typesK l ↔ x ∈ l := by
  rw [typesK, (fold_ins l [] List.Pairwise.nil).2]; simp
theorem typesS_K (ls : Lines) : typesS ls = typesK (ls.map (·.1)) := by unfold typesS typesK; rw [List.foldl_map]
theorem sort_asc {ks : List Int} (h : ks.Nodup) : (ks.mergeSort fun x y => decide (x ≤ y)).Pairwise (· < ·) := by
  have h1 : (ks.mergeSort fun x y => decide (x ≤ y)).Pairwise (fun x y => decide (x ≤ y) = true) := List.pairwise_mergeSort (fun a b c h1 h2 => by simp at *; omega) (fun a b => by simp; omega) ks
  have h2 : (ks.mergeSort fun x y => decide (x ≤ y)).Nodup := (List.mergeSort_perm ks _).nodup_iff.2 h
  refine (h1.and h2).imp ?_
  rintro a b ⟨h3, h4⟩
  have := of_decide_eq_true h3
  omega
theorem line_fold (l : List (Int × ByteArray)) : ∀ (f : Int → Option ByteArray) (x : Int), (l.foldl (fun f p => fun y => if y = p.1 then some p.2 else f y) f x).isSome = true ↔ (f x).isSome = true ∨ x ∈ l.map (·.1) := by
  induction l with
  | nil => intro f x; simp
  | cons p l ih =>
    intro f x
    rw [List.foldl_cons, ih, List.map_cons, List.mem_cons]
    by_cases e : x = p.1
    · simp [e]
    · simp [e]
theorem line_some (l : List (Int × ByteArray)) (x : Int) : (lineF l x).isSome = true ↔ x ∈ l.map (·.1) := by
  have := line_fold l (fun _ => none) x
  unfold lineF
  rw [this]
  simp
theorem keys_types {l : List (Int × ByteArray)} {ks : List Int} (hb : badL l = false) (hk : ∀ p ∈ l, Ok p.1) (h : KeysOf (fun t => (lineE l t).isSome) ks) : (ks.mergeSort fun x y => decide (x ≤ y)) = typesK (l.map (·.1)) := by
  obtain ⟨h1, h2, h3⟩ := h
  refine asc_uniq _ _ (sort_asc h1) (typesK_asc _) (fun x => ?_)
  rw [List.mem_mergeSort, typesK_mem, ← line_some]
  have key : ∀ y, Ok y → ((lineE l y).isSome = true ↔ (lineF l y).isSome = true) := fun y hy => by
    unfold lineE
    cases hf : lineF l y with
    | none => exact Iff.rfl
    | some s =>
      show (pse s).isSome = true ↔ _
      constructor
      · intro _; rfl
      · intro _
        cases hp : pse s with
        | some e => rfl
        | none =>
          have := badL_true hf hp
          rw [hb] at this; cases this
  constructor
  · intro hx
    have hox := h2 x hx
    exact (key x hox).1 ((h3 x hox).1 hx)
  · intro hx
    have hm := (line_some l x).1 hx
    obtain ⟨p, hp, rfl⟩ := List.mem_map.1 hm
    exact (h3 _ (hk p hp)).2 ((key _ (hk p hp)).2 hx)
end Go.Proofs.YtjemdgmihbmgeaaGreatDoorEnt
