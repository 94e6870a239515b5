/- Styles: how a style is made of lines (merged). -/
import Derived.Test.YtjemdgmihbmgeaaGreatDoorMapI
import Derived.Test.YtjemdgmihbmgeaaGreatDoorPar
import Derived.Test.YtjemdgmihbmgeaaGreatDoorWLast
import Derived.Deep.RegionHeld3
import Derived.OrdersHeld
import Derived.Deep.DeepCutAuto
import Derived.Deep.CutBlock
set_option linter.unusedVariables false
set_option linter.unusedSimpArgs false
namespace Go.Proofs.YtjemdgmihbmgeaaGreatDoorEnt
open Go.RowKit Go.Shelf Go.Proofs.YtjemdgmihbmgeaaGreatDoorW.PrintWords Go.Proofs.YtjemdgmihbmgeaaGreatDoorFmt Go.Proofs.YtjemdgmihbmgeaaGreatDoorMapI
theorem MapI.congr {P : Program} {kt : TypeId} {w : World} {b n : Nat} {f g : Int → Option Value} (h : MapI P kt w b n f) (hfg : ∀ x, Ok x → f x = g x) : MapI P kt w b n g := by
  obtain ⟨D, h1, h2, h3⟩ := h
  exact ⟨D, h1, h2, fun x hx z => by rw [h3 x hx z, hfg x hx]⟩
theorem MapR.cnt_le {P : Program} {kt : TypeId} {w : World} {b r n cnt : Nat} {f : Int → Option Value} {left : Int → Bool} (h : MapR P kt w b r n f left cnt) : cnt ≤ n := by
  obtain ⟨D, lf, ⟨es, clock, since, seen, c0, h1, h2, h3, h4, h5, h6, h7, h8⟩, h9⟩ := h
  rw [← h7]
  refine Nat.le_trans ?_ h3
  unfold leftOf
  first | exact Array.size_filter_le | (simp only [Array.size_filterMap_le]) | exact Array.size_filter_le _ _
/-- Block m holds a map of at most n texts. -/
def MS (W : World) (m n : Nat) (f : Int → Option ByteArray) : Prop := MapI Tryz.prog 68 W m n (fun x => (f x).map Value.string)
/-- Block m holds a map of at most n entries. -/
def ME (W : World) (m n : Nat) (f : Int → Option Ent) : Prop := MapI Tryz.prog 68 W m n (fun x => (f x).map Ent.val)
/-- Block b holds a builder. -/
def BldAt (W : World) (b m : Nat) (nm cp : ByteArray) (pa : Option Addr) : Prop := W.heap[b]? = some (.cells #[.map (some m), .string nm, .string cp, .pointer pa] 139 (0, 0))
theorem newBld_c (nm : ByteArray) (w : World) : Calls Tryz.prog 84 #[.string nm] w fun e w' => e = .returned (.pointer (some ⟨w.heap.size + 1, 0, none⟩)) ∧ BldAt w' (w.heap.size + 1) w.heap.size nm ⟨#[]⟩ none ∧ MS w' w.heap.size 0 (fun _ => none) ∧ Below w.heap.size w w' ∧ w'.heap.size = w.heap.size + 2 := by
  have hmm := @run_makeMap Tryz.prog
  go_enter Tryz.func84, Tryz.ntmps84
  go_wp2
  go_ret
  refine ⟨rfl, ?_, ?_, below_alloc (below_alloc (Below.refl _ _) _) _, by simp⟩
  · have := blk_new (w.alloc (.map #[] 0)) (.cells #[.map (some w.heap.size), .string nm, .string ⟨#[]⟩, .pointer none] 139)
    rw [World.size_alloc] at this
    exact this
  · exact (MapI.made w).same (Below.heap_alloc _ _ _ (by simp))
/-- A copy under way: left says which keys are still to come, of which there are c. -/
structure CopyI (d s r n : Nat) (f : Int → Option ByteArray) (w : World) (left : Int → Bool) (c j : Nat) (wr : World) : Prop where
  hr : MapR Tryz.prog 68 wr s r n (fun x => (f x).map Value.string) left c
  hm : MS wr d j (fun x => if left x = true then none else f x)
  hj : j + c ≤ n
  hg : w.grownBy wr (some d)
set_option maxHeartbeats 4000000 in
/-- maps.Copy into a map that is empty. -/
theorem copy_c (d s n : Nat) (hn : n ≤ 1000000) (f : Int → Option ByteArray) (w : World) (hd : MS w d 0 (fun _ => none)) (hs : MS w s n f) (hne : d ≠ s) :
    Calls Tryz.prog 113 #[.map (some d), .map (some s)] w fun e w' => (∃ v, e = .returned v) ∧ MS w' d n f ∧ w.grownBy w' (some d) := by
  obtain ⟨w1, cnt, hrun, hR, hg, hsz⟩ := MapI.range hs Tryz.underlying68 Tryz.underlying119
  have hd1 : MS w1 d 0 (fun _ => none) := MapI.same hd (hg.block d hd.lt (by simp))
  have hcn := MapR.cnt_le hR
  have hmeas := fun (W : World) (c : Nat) (left : Int → Bool) (h : MapR Tryz.prog 68 W s w.heap.size n (fun x => (f x).map Value.string) left c) => h.measure
  go_enter Tryz.func113, Tryz.ntmps113
  go_wp2
  go_loopg [] (cnt + 1) (fun kq wr => ∃ (left : Int → Bool) (c j : Nat), Aside0 (c < kq) ∧ Aside0 (CopyI d s w.heap.size n f w left c j wr))
  case atStart =>
    refine ⟨_, cnt, 0, ⟨Nat.lt_succ_self _⟩, ⟨hR, MapI.congr hd1 (fun x _ => ?_), by omega, hg.but _⟩⟩
    cases hf : f x <;> simp [hf]
  case round =>
    obtain ⟨left, c, j, HK, HH⟩ := hrel
    cases gk with
    | zero => have := HK.out; omega
    | succ k1 =>
      obtain ⟨hr, hm, hj, hgr⟩ := HH.out
      rcases MapR.next hr Tryz.underlying68 0 with ⟨h0, h1, h2⟩ | ⟨x, v, w2, c2, hx, hl, hv, hnx, hr2, hlt, hg2, hsz2, hen⟩
      · clear hr hm hj hgr
        go_wp2
        go_end0
        obtain ⟨hr, hm, hj, hgr⟩ := HH.out
        refine ⟨⟨_, rfl⟩, (MapI.congr hm (fun x hx => by simp [h1 x hx])).mono (by omega), hgr⟩
      · obtain ⟨sv, hsv, rfl⟩ : ∃ sv, f x = some sv ∧ v = Value.string sv := by
          cases hf : f x with
          | none => rw [hf] at hv; cases hv
          | some sv => rw [hf] at hv; injection hv with hv; exact ⟨sv, rfl, hv.symm⟩
        have hne2 : d ≠ w.heap.size := fun e => by have := MapI.lt hd; omega
        have hm2 := MapI.same hm (hg2.block d hm.lt (fun e => by injection e with e; exact hne2 e))
        obtain ⟨w3, hup, hm3, hg3⟩ := MapI.store hm2 (mt := 118) Tryz.underlying68 Tryz.underlying118 (by unfold maxLen; omega) hx (Value.string sv)
        have HL : Aside0 (CopyI d s w.heap.size n f w (fun y => left y && decide (y ≠ x)) c2 (j + 1) w3) := by
          refine ⟨MapR.same hr2 (hg3.block s hr2.ltb (fun e => by injection e with e; exact hne e.symm)) (hg3.block _ hr2.lt (fun e => by injection e with e; exact hne2 e.symm)), MapI.congr hm3 (fun y hy => ?_), by omega, ?_⟩
          · unfold upd
            by_cases e : y = x
            · subst e; simp [hsv]
            · simp [e]
          · have hb2 : w.grownBy w2 (some d) := hgr.andThen hg2 (fun k e => by injection e with e; left; omega)
            exact hb2.andThen hg3 (fun k e => by injection e with e; right; rw [e])
        clear hr hm hj hgr hr2 hm2 hm3 hg2 hg3 hl hv
        go_wp2
        go_roundg k1
        case measure => omega
        case rel => exact ⟨_, c2, j + 1, ⟨by have := HK.out; omega⟩, HL⟩
theorem addAll_c (b m s n : Nat) (hn : n ≤ 1000000) (nm cp : ByteArray) (pa : Option Addr) (f : Int → Option ByteArray) (w : World) (hb : BldAt w b m nm cp pa) (hd : MS w m 0 (fun _ => none)) (hs : MS w s n f) (hne : m ≠ s) :
    Calls Tryz.prog 85 #[.pointer (some ⟨b, 0, none⟩), .map (some s)] w fun e w' => e = .returned (.pointer (some ⟨b, 0, none⟩)) ∧ MS w' m n f ∧ w.grownBy w' (some m) := by
  have hc := Aside0.mk (copy_c m s n hn f w hd hs hne)
  have b0 : w.cell? ⟨b, 0, none⟩ = some (.map (some m)) := (blk_cell hb 0).trans rfl
  clear hb hd hs
  go_enter Tryz.func85, Tryz.ntmps85
  go_wp2_with (go_at_call 113; refine hc.out.mono ?_; rintro e1 w1 ⟨⟨v, rfl⟩, h1, h2⟩)
  go_ret
  exact ⟨rfl, h1, h2⟩
/-- A style in block b: its entries in map m, the one above at pa. -/
def StyCell (W : World) (b m : Nat) (nm cp : ByteArray) (pa : Option Addr) : Prop := W.heap[b]? = some (.cells #[.string nm, .string cp, .map (some m), .pointer pa] 137 (0, 0))
/-- A style being built out of a builder's texts f: left says which are still to come. -/
structure BuildI (b m e s : Nat) (nm : ByteArray) (n : Nat) (f : Int → Option ByteArray) (w : World) (left : Int → Bool) (j : Nat) (wr : World) : Prop where
  hm : MS wr m n f
  he : ME wr e j (fun x => if left x = true then none else (f x).bind pse)
  hok : ∀ x t, Ok x → left x = false → f x = some t → pse t ≠ none
  hB : Below w.heap.size w wr
  hs : StyCell wr s e nm ⟨#[]⟩ none
  hb : BldAt wr b m nm ⟨#[]⟩ none
theorem BuildI.later {b m s n j : Nat} {nm : ByteArray} {f : Int → Option ByteArray} {w wr w' : World} {left : Int → Bool} {row : Option Nat} (h : BuildI b m s (s + 1) nm n f w left j wr) (hs : w.heap.size ≤ s) (hg : wr.grownBy w' row) (hr : ∀ k, row = some k → s + 2 ≤ k) (hms : m < s + 2) (hbs : b < s + 2) : BuildI b m s (s + 1) nm n f w left j w' := by
  have hne : ∀ k, k < s + 2 → some k ≠ row := fun k hk e => by have := hr k e.symm; omega
  exact ⟨MapI.same h.hm (hg.block _ h.hm.lt (hne _ hms)), MapI.same h.he (hg.block _ h.he.lt (hne _ (by omega))), h.hok, h.hB.grown hg (by have := h.hB.size; omega) (fun k e => by have := hr k e; omega),
    (hg.block _ (blk_lt h.hs) (hne _ (by omega))).trans h.hs, (hg.block _ (blk_lt h.hb) (hne _ hbs)).trans h.hb⟩
/-- What Build hands back: no style where a text is refused, else one of the entries that the texts are read as. -/
def BuildRes (n : Nat) (nm : ByteArray) (f : Int → Option ByteArray) (x : Ending) (w' : World) : Prop :=
  (∃ p, x = .returned (.tuple #[.pointer none, .iface 177 p]) ∧ ∃ k t, Ok k ∧ f k = some t ∧ pse t = none) ∨
  (∃ b m, x = .returned (.tuple #[.pointer (some ⟨b, 0, none⟩), .nilIface]) ∧ StyCell w' b m nm ⟨#[]⟩ none ∧ ME w' m n (fun k => (f k).bind pse) ∧ ∀ k t, Ok k → f k = some t → pse t ≠ none)
set_option maxRecDepth 100000 in
set_option maxHeartbeats 8000000 in
theorem build_c (b m n : Nat) (hn : n ≤ 1000000) (nm : ByteArray) (f : Int → Option ByteArray) (hf : ∀ x t, f x = some t → t.size ≤ 140737488351232) (w : World) (hV : VarsOK w) (hb : BldAt w b m nm ⟨#[]⟩ none) (hm : MS w m n f) :
    Calls Tryz.prog 52 #[.pointer (some ⟨b, 0, none⟩)] w fun e w' => BuildRes n nm f e w' ∧ Below w.heap.size w w' := by
  have b0 : w.cell? ⟨b, 0, none⟩ = some (.map (some m)) := (blk_cell hb 0).trans rfl
  have b1 : w.cell? ⟨b, 1, none⟩ = some (.string nm) := (blk_cell hb 1).trans rfl
  have b2 : w.cell? ⟨b, 2, none⟩ = some (.string ⟨#[]⟩) := (blk_cell hb 2).trans rfl
  have b3 : w.cell? ⟨b, 3, none⟩ = some (.pointer none) := (blk_cell hb 3).trans rfl
  have lb := blk_lt hb
  have lm : m < w.heap.size := hm.lt
  have hmm := @run_makeMap Tryz.prog
  go_enter Tryz.func52, Tryz.ntmps52
  go_upto_region 4 with fail
  go_region_held3 (fun w' => w'.cell? ⟨b, 0, none⟩ = some (.map (some m)) ∧ w'.cell? ⟨b, 1, none⟩ = some (.string nm) ∧ w'.cell? ⟨b, 2, none⟩ = some (.string ⟨#[]⟩) ∧ w'.cell? ⟨b, 3, none⟩ = some (.pointer none)) (first | go_keep) (first | fail)
  have hsk : ∃ W0, ((w.alloc (.map #[] 0)).alloc (.cells #[.string nm, .string ⟨#[]⟩, .map (some w.heap.size), .pointer none] 137)).drew = W0 ∧ BuildI b m w.heap.size (w.heap.size + 1) nm n f w (fun x => ((f x).map Value.string).isSome) 0 W0 ∧ W0.heap.size = w.heap.size + 2 ∧ VarsOK W0 := by
    have hB : Below w.heap.size w ((w.alloc (.map #[] 0)).alloc (.cells #[.string nm, .string ⟨#[]⟩, .map (some w.heap.size), .pointer none] 137)).drew := below_drew (below_alloc (below_alloc (Below.refl _ _) _) _)
    refine ⟨_, rfl, ⟨MapI.below hm hB hm.lt, ?_, fun x t hx hl he => (by rw [he] at hl; cases hl), hB, ?_, (hB.block _ lb).trans hb⟩, by simp, hV.below hB⟩
    · refine MapI.congr (f := fun _ => none) ((MapI.made w).same ?_) (fun x _ => (by cases hf : f x <;> simp [hf]))
      exact Below.heap_alloc _ _ _ (by simp)
    · have := blk_new (w.alloc (.map #[] 0)) (.cells #[.string nm, .string ⟨#[]⟩, .map (some w.heap.size), .pointer none] 137)
      rw [World.size_alloc] at this
      exact this
  obtain ⟨W0, hW0, hI0, hs0, hV0⟩ := hsk
  rw [hW0]
  obtain ⟨w1, cnt, hrun, hR, hg, hsz⟩ := MapI.range hI0.hm (mt := 118) (et := 9) Tryz.underlying68 Tryz.underlying118
  have hcn := MapR.cnt_le hR
  have c0 : W0.cell? ⟨b, 0, none⟩ = some (.map (some m)) := (blk_cell hI0.hb 0).trans rfl
  have HI0 := Aside0.mk hI0
  have HV0 := Aside0.mk hV0
  have HS0 := Aside0.mk hs0
  clear hW0 b0 b1 b2 b3 hI0 hV0 hs0
  go_wp2
  go_loopg [] (cnt + 1) (fun kq wr => ∃ (left : Int → Bool) (c j : Nat), Aside0 (c < kq) ∧ Aside0 (j + c ≤ n) ∧ Aside0 (MapR Tryz.prog 68 wr m W0.heap.size n (fun x => (f x).map Value.string) left c) ∧ Aside0 (BuildI b m w.heap.size (w.heap.size + 1) nm n f w left j wr))
  case atStart =>
    have hI0 := HI0.out
    have hs0 := HS0.out
    exact ⟨_, cnt, 0, ⟨Nat.lt_succ_self _⟩, ⟨by omega⟩, ⟨hR⟩, ⟨hI0.later (by omega) hg (fun k e => by cases e) (by omega) (by omega)⟩⟩
  case round =>
    obtain ⟨left, c, j, HK, HJ, HR, HI⟩ := hrel
    cases gk with
    | zero => have := HK.out; omega
    | succ k1 =>
      have hI := HI.out
      have hs0 := HS0.out
      rcases MapR.next HR.out Tryz.underlying68 0 with ⟨h0, h1, h2⟩ | ⟨x, v, w2, c2, hx, hl, hv, hnx, hr2, hlt, hg2, hsz2, hen⟩
      · clear hI hs0
        go_wp2
        go_ret2
        have hI := HI.out
        exact ⟨.inr ⟨_, _, rfl, hI.hs, (MapI.congr hI.he (fun x hx => by simp [h1 x hx])).mono (by have := HJ.out; omega), fun k t hk he => hI.hok k t hk (h1 k hk) he⟩, hI.hB⟩
      · obtain ⟨sv, hsv, rfl⟩ : ∃ sv, f x = some sv ∧ v = Value.string sv := by
          cases hf : f x with
          | none => rw [hf] at hv; cases hv
          | some sv => rw [hf] at hv; injection hv with hv; exact ⟨sv, rfl, hv.symm⟩
        have hI2 := hI.later (by omega) hg2 (fun k e => by injection e with e; omega) (by omega) (by omega)
        have hV2 := hV.below hI2.hB
        have hle : w.heap.size ≤ w2.heap.size := hI2.hB.size
        have hss : w.heap.size + 2 ≤ w2.heap.size := blk_lt hI2.hs
        have kP := Aside0.mk (parse_c sv (hf x sv hsv) w2 hV2)
        have kN : Aside0 (∀ (mm : ByteArray) (W : World), Calls Tryz.prog 79 #[.string mm] W fun e w' => (∃ p, e = .returned (.iface 177 p)) ∧ Below W.heap.size W w') := ⟨fun mm W => new_c mm W⟩
        have HI2 := Aside0.mk hI2
        have HR2 := Aside0.mk hr2
        have HSV := Aside0.mk hsv
        clear hI2 hr2 hsv hI hs0 hg2 hV2 hv hl
        cases hp : pse sv with
        | none =>
          have kP' : Aside0 (Calls Tryz.prog 77 #[.string sv] w2 fun e w' => (∃ p, e = .returned (.tuple #[.agg #[.int .i32 0, .int .i32 0, .int .i32 0, .int .u8 0, .int .u8 0, .int .u8 0, .bool false], .iface 177 p])) ∧ Below w2.heap.size w2 w') :=
            ⟨kP.out.mono (fun e w' h => ⟨by have := h.1; unfold ParsePost at this; rw [hp] at this; exact this, h.2⟩)⟩
          have HP := Aside0.mk hp
          clear hp kP
          go_wp2_with (first | (go_at_call 77; refine kP'.out.mono ?_; rintro e1 w3 ⟨⟨p1, rfl⟩, hb3⟩) | (go_at_call 79; refine (kN.out _ _).mono ?_; rintro e2 w4 ⟨⟨p2, rfl⟩, hb4⟩))
          go_ret2
          have hb3' : Below w2.heap.size w2 (w3.alloc (.cells #[.int .i32 0, .int .i32 0, .int .i32 0, .int .u8 0, .int .u8 0, .int .u8 0, .bool false] 94)) := below_alloc hb3 _
          exact ⟨.inl ⟨_, rfl, x, sv, hx, HSV.out, HP.out⟩, HI2.out.hB.trans ((hb3'.trans (hb4.mono hb3'.size)).mono hle)⟩
        | some e =>
          have kP' : Aside0 (Calls Tryz.prog 77 #[.string sv] w2 fun e1 w' => e1 = .returned (.tuple #[.agg #[.int .i32 e.c, .int .i32 e.b, .int .i32 e.o, .int .u8 e.bo, .int .u8 e.it, .int .u8 e.un, .bool e.ni], .nilIface]) ∧ Below w2.heap.size w2 w') :=
            ⟨kP.out.mono (fun e1 w' h => ⟨by have := h.1; unfold ParsePost at this; rw [hp] at this; exact this, h.2⟩)⟩
          have HP := Aside0.mk hp
          clear hp kP
          go_wp2_with (go_at_call 77; refine kP'.out.mono ?_; rintro e1 w3 ⟨rfl, hb3⟩)
          have hsk : ∃ W4, w3.alloc (.cells #[.int .i32 e.c, .int .i32 e.b, .int .i32 e.o, .int .u8 e.bo, .int .u8 e.it, .int .u8 e.un, .bool e.ni] 94) = W4 ∧ W4.heap[w3.heap.size]? = some (.cells #[.int .i32 e.c, .int .i32 e.b, .int .i32 e.o, .int .u8 e.bo, .int .u8 e.it, .int .u8 e.un, .bool e.ni] 94 (0, 0)) ∧ Below w2.heap.size w2 W4.drew ∧ BuildI b m w.heap.size (w.heap.size + 1) nm n f w left j W4.drew := by
            have hB4 : Below w2.heap.size w2 (w3.alloc (.cells #[.int .i32 e.c, .int .i32 e.b, .int .i32 e.o, .int .u8 e.bo, .int .u8 e.it, .int .u8 e.un, .bool e.ni] 94)).drew := below_drew (below_alloc hb3 _)
            exact ⟨_, rfl, blk_new _ _, hB4, HI2.out.later (by omega) (grown_of_below hB4 none) (fun k e => by cases e) (by omega) (by omega)⟩
          obtain ⟨W4, hW4, hE4, hB4, hI4⟩ := hsk
          rw [hW4]
          have hj : j + 1 ≤ n := by have := HJ.out; omega
          obtain ⟨w5, hup, hm5, hg5⟩ := MapI.store hI4.he (mt := 135) (et := 94) Tryz.underlying68 Tryz.underlying135 (by unfold maxLen; omega) hx (.agg #[.int .i32 e.c, .int .i32 e.b, .int .i32 e.o, .int .u8 e.bo, .int .u8 e.it, .int .u8 e.un, .bool e.ni])
          have hE5 : w5.heap[w3.heap.size]? = some (.cells #[.int .i32 e.c, .int .i32 e.b, .int .i32 e.o, .int .u8 e.bo, .int .u8 e.it, .int .u8 e.un, .bool e.ni] 94 (0, 0)) := (hg5.block _ (blk_lt hE4) (fun q => by injection q with q; have := hb3.size; omega)).trans hE4
          have hS5 : StyCell w5 (w.heap.size + 1) w.heap.size nm ⟨#[]⟩ none := (hg5.block _ (blk_lt hI4.hs) (fun q => by injection q with q; omega)).trans hI4.hs
          have e0 : W4.cell? ⟨w3.heap.size, 0, none⟩ = some (.int .i32 e.c) := (blk_cell hE4 0).trans rfl
          have e1 : W4.cell? ⟨w3.heap.size, 1, none⟩ = some (.int .i32 e.b) := (blk_cell hE4 1).trans rfl
          have e2 : W4.cell? ⟨w3.heap.size, 2, none⟩ = some (.int .i32 e.o) := (blk_cell hE4 2).trans rfl
          have e3 : W4.cell? ⟨w3.heap.size, 3, none⟩ = some (.int .u8 e.bo) := (blk_cell hE4 3).trans rfl
          have e4 : W4.cell? ⟨w3.heap.size, 4, none⟩ = some (.int .u8 e.it) := (blk_cell hE4 4).trans rfl
          have e5 : W4.cell? ⟨w3.heap.size, 5, none⟩ = some (.int .u8 e.un) := (blk_cell hE4 5).trans rfl
          have e6 : W4.cell? ⟨w3.heap.size, 6, none⟩ = some (.bool e.ni) := (blk_cell hE4 6).trans rfl
          have s2 : W4.cell? ⟨w.heap.size + 1, 2, none⟩ = some (.map (some w.heap.size)) := (blk_cell (w := W4) hI4.hs 2).trans rfl
          have HE4 := Aside0.mk hE4
          have HB4 := Aside0.mk hB4
          have HI4 := Aside0.mk hI4
          have HM5 := Aside0.mk hm5
          clear hW4 hE4 hB4 hI4 hm5 kN hmm
          go_region_held3 (fun w' => w'.cell? ⟨w.heap.size + 1, 2, none⟩ = some (.map (some w.heap.size)) ∧ w'.cell? ⟨w3.heap.size, 0, none⟩ = some (.int .i32 e.c) ∧ w'.cell? ⟨w3.heap.size, 1, none⟩ = some (.int .i32 e.b) ∧ w'.cell? ⟨w3.heap.size, 2, none⟩ = some (.int .i32 e.o) ∧ w'.cell? ⟨w3.heap.size, 3, none⟩ = some (.int .u8 e.bo) ∧ w'.cell? ⟨w3.heap.size, 4, none⟩ = some (.int .u8 e.it) ∧ w'.cell? ⟨w3.heap.size, 5, none⟩ = some (.int .u8 e.un) ∧ w'.cell? ⟨w3.heap.size, 6, none⟩ = some (.bool e.ni))
            (first | go_keep | exact ⟨(blk_cell hS5 2).trans rfl, (blk_cell hE5 0).trans rfl, (blk_cell hE5 1).trans rfl, (blk_cell hE5 2).trans rfl, (blk_cell hE5 3).trans rfl, (blk_cell hE5 4).trans rfl, (blk_cell hE5 5).trans rfl, (blk_cell hE5 6).trans rfl⟩) (first | fail)
          have hI4 := HI4.out
          have hs0 := HS0.out
          have hR2 := HR2.out
          have lr := hR2.lt
          have lmw := hR2.ltb
          have hR5 : MapR Tryz.prog 68 w5 m W0.heap.size n (fun x => (f x).map Value.string) (fun y => left y && decide (y ≠ x)) c2 :=
            MapR.same hR2 ((hg5.block _ (Nat.lt_of_lt_of_le lmw HB4.out.size) (fun q => by injection q with q; omega)).trans (HB4.out.block _ lmw)) ((hg5.block _ (Nat.lt_of_lt_of_le lr HB4.out.size) (fun q => by injection q with q; omega)).trans (HB4.out.block _ lr))
          have HR5 := Aside0.mk hR5
          have HI5 : Aside0 (BuildI b m w.heap.size (w.heap.size + 1) nm n f w (fun y => left y && decide (y ≠ x)) (j + 1) w5) := by
            refine ⟨⟨MapI.same hI4.hm (hg5.block _ (MapI.lt hI4.hm) (fun q => by injection q with q; omega)), MapI.congr HM5.out (fun y hy => ?_), fun y t hy hl he => ?_, hI4.hB.grown hg5 (by have := hI4.hB.size; omega) (fun k q => by injection q with q; omega), hS5, (hg5.block _ (blk_lt hI4.hb) (fun q => by injection q with q; omega)).trans hI4.hb⟩⟩
            · unfold upd
              by_cases q : y = x
              · subst q; simp [HSV.out, HP.out, Ent.val]
              · simp [q]
            · by_cases q : y = x
              · subst q
                rw [HSV.out] at he
                injection he with he
                subst he
                rw [HP.out]; simp
              · exact hI4.hok y t hy (by simpa [q] using hl) he
          clear hI4 hs0 hR2 hR5
          go_wp2
          go_roundg k1
          case measure => omega
          case rel => exact ⟨_, c2, j + 1, ⟨by have := HK.out; omega⟩, ⟨by have := HJ.out; omega⟩, HR5, HI5⟩
end Go.Proofs.YtjemdgmihbmgeaaGreatDoorEnt
set_option linter.unusedVariables false
set_option linter.unusedSimpArgs false
namespace Go.Proofs.YtjemdgmihbmgeaaGreatDoorEnt
open Go.RowKit Go.Shelf Go.Proofs.YtjemdgmihbmgeaaGreatDoorW.PrintWords Go.Proofs.YtjemdgmihbmgeaaGreatDoorFmt Go.Proofs.YtjemdgmihbmgeaaGreatDoorMapI
set_option maxHeartbeats 4000000 in
theorem newStyle_c (nm : ByteArray) (s n : Nat) (hn : n ≤ 1000000) (f : Int → Option ByteArray) (hf : ∀ x t, f x = some t → t.size ≤ 140737488351232) (w : World) (hV : VarsOK w) (hs : MS w s n f) :
    Calls Tryz.prog 58 #[.string nm, .map (some s)] w fun e w' => BuildRes n nm f e w' ∧ Below w.heap.size w w' := by
  have HV := Aside0.mk hV
  have HS := Aside0.mk hs
  have HF := Aside0.mk hf
  have ls : s < w.heap.size := hs.lt
  clear hV hs hf
  go_enter Tryz.func58, Tryz.ntmps58
  go_wp2_with (first | (go_at_call 84; refine (newBld_c _ _).mono ?_; rintro e1 w1 ⟨rfl, h1, h2, h3, h4⟩; have h5 : MS w1 s n f := MapI.below HS.out h3 ls) | (go_at_call 85; refine (addAll_c _ _ s n hn nm _ none f _ h1 h2 h5 (by omega)).mono ?_; rintro e2 w2 ⟨rfl, h6, h7⟩; have h8 : BldAt w2 (w.heap.size + 1) w.heap.size nm ⟨#[]⟩ none := (h7.block _ (blk_lt h1) (fun q => by injection q with q; omega)).trans h1; have h9 : Below w.heap.size w w2 := h3.grown h7 (by omega) (fun k q => by injection q with q; omega)) |
    (go_at_call 52; refine (build_c _ _ n hn nm f HF.out _ (HV.out.below h9) h8 h6).mono ?_; rintro e3 w3 ⟨⟨p, rfl, hx⟩ | ⟨b, m, rfl, hx⟩, hb3⟩))
  · go_ret2
    exact ⟨.inl ⟨p, rfl, hx⟩, h9.trans (hb3.mono h9.size)⟩
  · go_ret2
    exact ⟨.inr ⟨b, m, rfl, hx⟩, h9.trans (hb3.mono h9.size)⟩
/-- A style's lines from cell o of block g on. -/
def PartsAt (W : World) (g o : Nat) (l : List (Int × ByteArray)) : Prop := ∀ i (h : i < l.length), W.cell? ⟨g, o + i * 2, none⟩ = some (.int .i64 l[i].1) ∧ W.cell? ⟨g, o + i * 2 + 1, none⟩ = some (.string l[i].2)
theorem PartsAt.same {W W' : World} {g o : Nat} {l : List (Int × ByteArray)} (h : PartsAt W g o l) (hb : W'.heap[g]? = W.heap[g]?) : PartsAt W' g o l := fun i hi =>
  ⟨(World.cell?_of_block (a := ⟨g, _, none⟩) hb).trans (h i hi).1, (World.cell?_of_block (a := ⟨g, _, none⟩) hb).trans (h i hi).2⟩
/-- What a style's lines say: of two of one type the later one counts. -/
def lineF (l : List (Int × ByteArray)) : Int → Option ByteArray := l.foldl (fun f p => fun y => if y = p.1 then some p.2 else f y) (fun _ => none)
theorem lineF_snoc (l : List (Int × ByteArray)) (p : Int × ByteArray) : lineF (l ++ [p]) = fun y => if y = p.1 then some p.2 else lineF l y := by
  unfold lineF; rw [List.foldl_append]; rfl
theorem lineF_aux (l : List (Int × ByteArray)) : ∀ (f : Int → Option ByteArray) x t, l.foldl (fun f p => fun y => if y = p.1 then some p.2 else f y) f x = some t → (x, t) ∈ l ∨ f x = some t := by
  induction l with
  | nil => intro f x t h; exact .inr h
  | cons p l ih =>
    intro f x t h
    rcases ih _ x t h with h | h
    · exact .inl (List.mem_cons_of_mem _ h)
    · have h : (if x = p.1 then some p.2 else f x) = some t := h
      by_cases e : x = p.1
      · rw [if_pos e] at h
        obtain rfl := Option.some.inj h
        subst e
        exact .inl (by simp)
      · rw [if_neg e] at h
        exact .inr h
theorem lineF_mem (l : List (Int × ByteArray)) (x : Int) (t : ByteArray) (h : lineF l x = some t) : (x, t) ∈ l := by
  rcases lineF_aux l _ x t h with h | h
  · exact h
  · cases h
def StyledRes (l : List (Int × ByteArray)) (x : Ending) (w' : World) : Prop :=
  (x = .returned (.pointer none) ∧ ∃ k t, Ok k ∧ lineF l k = some t ∧ pse t = none) ∨
  (∃ b m, x = .returned (.pointer (some ⟨b, 0, none⟩)) ∧ StyCell w' b m ⟨#[120]⟩ ⟨#[]⟩ none ∧ ME w' m l.length (fun k => (lineF l k).bind pse) ∧ ∀ k t, Ok k → lineF l k = some t → pse t ≠ none)
set_option maxRecDepth 100000 in
set_option maxHeartbeats 4000000 in
theorem styled_c (A : Option Addr) (cap : Nat) (l : List (Int × ByteArray)) (hl : l.length ≤ 1000000) (hc : l.length ≤ cap) (hk : ∀ p ∈ l, Ok p.1 ∧ p.2.size ≤ 140737488351232) (w : World) (hV : VarsOK w)
    (hA : l ≠ [] → ∃ g o, A = some ⟨g, o, none⟩ ∧ g < w.heap.size ∧ PartsAt w g o l) :
    Calls Tryz.prog 27 #[.slice A l.length cap] w fun e w' => StyledRes l e w' ∧ Below w.heap.size w w' := by
  have hmm := @run_makeMap Tryz.prog
  have HV := Aside0.mk hV
  have HA := Aside0.mk hA
  have HK := Aside0.mk hk
  clear hV hA hk
  go_enter Tryz.func27, Tryz.ntmps27
  go_wp2
  go_loopw [11] (fun i wr => ∃ k : Nat, k ≤ l.length ∧ i = .int .i64 (k : Int) ∧ Aside0 (MS wr w.heap.size k (lineF (l.take k))) ∧ Aside0 (Below w.heap.size w wr)) (fun i _ => l.length - (intOf i).toNat)
  case atStart => exact ⟨0, Nat.zero_le _, rfl, ⟨MapI.congr (MapI.made w) (fun x _ => rfl)⟩, ⟨below_alloc (Below.refl _ _) _⟩⟩
  case round =>
    obtain ⟨k, hkl, rfl, HM, HB⟩ := hrel
    by_cases hlt : k < l.length
    · obtain ⟨g, o, rfl, hg, hP⟩ := HA.out (fun e => by rw [e] at hlt; simp at hlt)
      obtain ⟨d0, d1⟩ := (hP.same (HB.out.block g hg)) k hlt
      have hmem := List.getElem_mem hlt
      have htk : l.take (k + 1) = l.take k ++ [l[k]] := by rw [List.take_succ_eq_append_getElem hlt]
      obtain ⟨hk1, hk2⟩ := HK.out _ hmem
      generalize l[k] = p at *
      have hlti : (k : Int) < (l.length : Int) := by omega
      have hM1 : MS (wr.alloc (.cells #[.int .i64 p.1, .string p.2] 54)) w.heap.size k (lineF (l.take k)) := MapI.same HM.out (Below.heap_alloc _ _ _ HM.out.lt)
      obtain ⟨w3, hup, hm3, hg3⟩ := MapI.store hM1 (mt := 119) Tryz.underlying68 Tryz.underlying119 (by unfold maxLen; omega) hk1 (.string p.2)
      have HM3 : Aside0 (MS w3 w.heap.size (k + 1) (lineF (l.take (k + 1)))) := ⟨MapI.congr hm3 (fun y _ => by rw [htk, lineF_snoc]; unfold upd; by_cases e : y = p.1 <;> simp [e])⟩
      have HB3 : Aside0 (Below w.heap.size w w3) := ⟨(below_alloc HB.out _).grown hg3 (by have := HB.out.size; simp; omega) (fun j e => by injection e with e; omega)⟩
      clear htk hm3 hg3 hM1 hmem hP
      go_wp2
      go_roundw
      case rel => exact ⟨k + 1, by omega, by rw [Int.natCast_add]; rfl, HM3, HB3⟩
      case measure => simp [intOf]; omega
    · obtain rfl : k = l.length := by omega
      rw [List.take_length] at HM
      have hf : ∀ x t, lineF l x = some t → t.size ≤ 140737488351232 := fun x t h => (HK.out _ (lineF_mem l x t h)).2
      have kS := Aside0.mk (newStyle_c ⟨#[120]⟩ w.heap.size l.length hl (lineF l) hf wr (HV.out.below HB.out) HM.out)
      clear hf
      go_wp2_with (go_at_call 58; refine kS.out.mono ?_; rintro e3 w3 ⟨⟨p, rfl, hx⟩ | ⟨b, m, rfl, hx⟩, hb3⟩)
      · go_ret
        exact ⟨.inl ⟨rfl, hx⟩, HB.out.trans (hb3.mono HB.out.size)⟩
      · go_ret
        exact ⟨.inr ⟨b, m, rfl, hx⟩, HB.out.trans (hb3.mono HB.out.size)⟩
end Go.Proofs.YtjemdgmihbmgeaaGreatDoorEnt
