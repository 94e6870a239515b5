/- A builder over a style: Builder, Build, Get. -/
import Derived.Test.YtifhhejohdmiaaaGreatDoorGet
import Derived.Sort.CutIn
import Derived.Deep.RegionWith
set_option linter.unusedVariables false
set_option linter.unusedSimpArgs false
namespace Go.Proofs.YtifhhejohdmiaaaGreatDoorEnt
open Go.RowKit Go.Shelf Go.Proofs.YtifhhejohdmiaaaGreatDoorW.PrintWords Go.Proofs.YtifhhejohdmiaaaGreatDoorFmt Go.Proofs.YtifhhejohdmiaaaGreatDoorMapI Go.Proofs.YtifhhejohdmiaaaGreatDoorFlt Go.Proofs.YtifhhejohdmiaaaGreatDoor
/-- A style being built out of a builder's texts f: left says which are still to come. -/
structure BuildJ (pa : Option Addr) (b m e s : Nat) (nm : ByteArray) (n : Nat) (f : Int → Option ByteArray) (w : World) (left : Int → Bool) (j : Nat) (wr : World) : Prop where
  hm : MS wr m n f
  he : ME wr e j (fun x => if left x = true then none else (f x).bind pse)
  hok : ∀ x t, Ok x → left x = false → f x = some t → pse t ≠ none
  hB : Below w.heap.size w wr
  hs : StyCell wr s e nm ⟨#[]⟩ pa
  hb : BldAt wr b m nm ⟨#[]⟩ pa
theorem BuildJ.later {pa : Option Addr} {b m s n j : Nat} {nm : ByteArray} {f : Int → Option ByteArray} {w wr w' : World} {left : Int → Bool} {row : Option Nat} (h : BuildJ pa b m s (s + 1) nm n f w left j wr) (hs : w.heap.size ≤ s) (hg : wr.grownBy w' row) (hr : ∀ k, row = some k → s + 2 ≤ k) (hms : m < s + 2) (hbs : b < s + 2) : BuildJ pa b m s (s + 1) nm n f w left j w' := by
  have hne : ∀ k, k < s + 2 → some k ≠ row := fun k hk e => by have := hr k e.symm; omega
  exact ⟨MapI.same h.hm (hg.block _ h.hm.lt (hne _ hms)), MapI.same h.he (hg.block _ h.he.lt (hne _ (by omega))), h.hok, h.hB.grown hg (by have := h.hB.size; omega) (fun k e => by have := hr k e; omega),
    (hg.block _ (blk_lt h.hs) (hne _ (by omega))).trans h.hs, (hg.block _ (blk_lt h.hb) (hne _ hbs)).trans h.hb⟩
/-- What Build hands back: no style where a text is refused, else one of the entries that the texts are read as. -/
def BuildResP (pa : Option Addr) (n : Nat) (nm : ByteArray) (f : Int → Option ByteArray) (x : Ending) (w' : World) : Prop :=
  (∃ p, x = .returned (.tuple #[.pointer none, .iface 181 p]) ∧ ∃ k t, Ok k ∧ f k = some t ∧ pse t = none) ∨
  (∃ b m, x = .returned (.tuple #[.pointer (some ⟨b, 0, none⟩), .nilIface]) ∧ StyCell w' b m nm ⟨#[]⟩ pa ∧ ME w' m n (fun k => (f k).bind pse) ∧ ∀ k t, Ok k → f k = some t → pse t ≠ none)
set_option maxRecDepth 100000 in
set_option maxHeartbeats 8000000 in
theorem buildP_c (p mp : Nat) (nmp : ByteArray) (pap : Option Addr) (b m n : Nat) (hn : n ≤ 1000000) (nm : ByteArray) (f : Int → Option ByteArray) (hf : ∀ x t, f x = some t → t.size ≤ 140737488351232) (w : World) (hV : VarsOK w) (hb : BldAt w b m nm ⟨#[]⟩ (some ⟨p, 0, none⟩)) (hp : StyCell w p mp nmp ⟨#[]⟩ pap) (hm : MS w m n f) :
    Calls Tryz.prog 58 #[.pointer (some ⟨b, 0, none⟩)] w fun e w' => BuildResP (some ⟨p, 0, none⟩) n nm f e w' ∧ Below w.heap.size w w' := by
  have b0 : w.cell? ⟨b, 0, none⟩ = some (.map (some m)) := (blk_cell hb 0).trans rfl
  have b1 : w.cell? ⟨b, 1, none⟩ = some (.string nm) := (blk_cell hb 1).trans rfl
  have b2 : w.cell? ⟨b, 2, none⟩ = some (.string ⟨#[]⟩) := (blk_cell hb 2).trans rfl
  have b3 : w.cell? ⟨b, 3, none⟩ = some (.pointer (some ⟨p, 0, none⟩)) := (blk_cell hb 3).trans rfl
  have p1 : w.cell? ⟨p, 1, none⟩ = some (.string ⟨#[]⟩) := (blk_cell hp 1).trans rfl
  have lb := blk_lt hb
  have lm : m < w.heap.size := hm.lt
  have hmm := @run_makeMap Tryz.prog
  go_enter Tryz.func58, Tryz.ntmps58
  go_upto_region 4 with fail
  go_region_held3 (fun w' => w'.cell? ⟨b, 0, none⟩ = some (.map (some m)) ∧ w'.cell? ⟨b, 1, none⟩ = some (.string nm) ∧ w'.cell? ⟨b, 2, none⟩ = some (.string ⟨#[]⟩) ∧ w'.cell? ⟨b, 3, none⟩ = some (.pointer (some ⟨p, 0, none⟩))) (first | go_keep) (first | fail)
  have hsk : ∃ W0, ((w.alloc (.map #[] 0)).alloc (.cells #[.string nm, .string ⟨#[]⟩, .map (some w.heap.size), .pointer (some ⟨p, 0, none⟩)] 139)).drew = W0 ∧ BuildJ (some ⟨p, 0, none⟩) b m w.heap.size (w.heap.size + 1) nm n f w (fun x => ((f x).map Value.string).isSome) 0 W0 ∧ W0.heap.size = w.heap.size + 2 ∧ VarsOK W0 := by
    have hB : Below w.heap.size w ((w.alloc (.map #[] 0)).alloc (.cells #[.string nm, .string ⟨#[]⟩, .map (some w.heap.size), .pointer (some ⟨p, 0, none⟩)] 139)).drew := below_drew (below_alloc (below_alloc (Below.refl _ _) _) _)
    refine ⟨_, rfl, ⟨MapI.below hm hB hm.lt, ?_, fun x t hx hl he => (by rw [he] at hl; cases hl), hB, ?_, (hB.block _ lb).trans hb⟩, by simp, hV.below hB⟩
    · refine MapI.congr (f := fun _ => none) ((MapI.made w).same ?_) (fun x _ => (by cases hf : f x <;> simp [hf]))
      exact Below.heap_alloc _ _ _ (by simp)
    · have := blk_new (w.alloc (.map #[] 0)) (.cells #[.string nm, .string ⟨#[]⟩, .map (some w.heap.size), .pointer (some ⟨p, 0, none⟩)] 139)
      rw [World.size_alloc] at this
      exact this
  obtain ⟨W0, hW0, hI0, hs0, hV0⟩ := hsk
  rw [hW0]
  obtain ⟨w1, cnt, hrun, hR, hg, hsz⟩ := MapI.range hI0.hm (mt := 134) (et := 9) Tryz.underlying91 Tryz.underlying134
  have hcn := MapR.cnt_le hR
  have c0 : W0.cell? ⟨b, 0, none⟩ = some (.map (some m)) := (blk_cell hI0.hb 0).trans rfl
  have HI0 := Aside0.mk hI0
  have HV0 := Aside0.mk hV0
  have HS0 := Aside0.mk hs0
  clear hW0 b0 b1 b2 b3 p1 hp hI0 hV0 hs0
  go_wp2
  go_loopg [] (cnt + 1) (fun kq wr => ∃ (left : Int → Bool) (c j : Nat), Aside0 (c < kq) ∧ Aside0 (j + c ≤ n) ∧ Aside0 (MapR Tryz.prog 91 wr m W0.heap.size n (fun x => (f x).map Value.string) left c) ∧ Aside0 (BuildJ (some ⟨p, 0, none⟩) b m w.heap.size (w.heap.size + 1) nm n f w left j wr))
  case atStart =>
    have hI0 := HI0.out
    have hs0 := HS0.out
    exact ⟨_, cnt, 0, ⟨Nat.lt_succ_self _⟩, ⟨by omega⟩, ⟨hR⟩, ⟨hI0.later (by omega) hg (fun k e => by cases e) (by omega) (by omega)⟩⟩
  case round =>
    obtain ⟨left, c, j, HK, HJ, HR, HI⟩ := hrel
    cases gk with
    | zero => have := HK.out; omega
    | succ k1 =>
      have hI := HI.out
      have hs0 := HS0.out
      rcases MapR.next HR.out Tryz.underlying91 0 with ⟨h0, h1, h2⟩ | ⟨x, v, w2, c2, hx, hl, hv, hnx, hr2, hlt, hg2, hsz2, hen⟩
      · clear hI hs0
        go_wp2
        go_ret2
        have hI := HI.out
        exact ⟨.inr ⟨_, _, rfl, hI.hs, (MapI.congr hI.he (fun x hx => by simp [h1 x hx])).mono (by have := HJ.out; omega), fun k t hk he => hI.hok k t hk (h1 k hk) he⟩, hI.hB⟩
      · obtain ⟨sv, hsv, rfl⟩ : ∃ sv, f x = some sv ∧ v = Value.string sv := by
          cases hf : f x with
          | none => rw [hf] at hv; cases hv
          | some sv => rw [hf] at hv; injection hv with hv; exact ⟨sv, rfl, hv.symm⟩
        have hI2 := hI.later (by omega) hg2 (fun k e => by injection e with e; omega) (by omega) (by omega)
        have hV2 := hV.below hI2.hB
        have hle : w.heap.size ≤ w2.heap.size := hI2.hB.size
        have hss : w.heap.size + 2 ≤ w2.heap.size := blk_lt hI2.hs
        have kP := Aside0.mk (parse_c sv (hf x sv hsv) w2 hV2)
        have kN : Aside0 (∀ (mm : ByteArray) (W : World), Calls Tryz.prog 84 #[.string mm] W fun e w' => (∃ p, e = .returned (.iface 181 p)) ∧ Below W.heap.size W w') := ⟨fun mm W => new_c mm W⟩
        have HI2 := Aside0.mk hI2
        have HR2 := Aside0.mk hr2
        have HSV := Aside0.mk hsv
        clear hI2 hr2 hsv hI hs0 hg2 hV2 hv hl
        cases hps : pse sv with
        | none =>
          have kP' : Aside0 (Calls Tryz.prog 83 #[.string sv] w2 fun e w' => (∃ p, e = .returned (.tuple #[.agg #[.int .i32 0, .int .i32 0, .int .i32 0, .int .u8 0, .int .u8 0, .int .u8 0, .bool false], .iface 181 p])) ∧ Below w2.heap.size w2 w') :=
            ⟨kP.out.mono (fun e w' h => ⟨by have := h.1; unfold ParsePost at this; rw [hps] at this; exact this, h.2⟩)⟩
          have HP := Aside0.mk hps
          clear hps kP
          go_wp2_with (first | (go_at_call 83; refine kP'.out.mono ?_; rintro e1 w3 ⟨⟨p1, rfl⟩, hb3⟩) | (go_at_call 84; refine (kN.out _ _).mono ?_; rintro e2 w4 ⟨⟨p2, rfl⟩, hb4⟩))
          go_ret2
          have hb3' : Below w2.heap.size w2 (w3.alloc (.cells #[.int .i32 0, .int .i32 0, .int .i32 0, .int .u8 0, .int .u8 0, .int .u8 0, .bool false] 74)) := below_alloc hb3 _
          exact ⟨.inl ⟨_, rfl, x, sv, hx, HSV.out, HP.out⟩, HI2.out.hB.trans ((hb3'.trans (hb4.mono hb3'.size)).mono hle)⟩
        | some e =>
          have kP' : Aside0 (Calls Tryz.prog 83 #[.string sv] w2 fun e1 w' => e1 = .returned (.tuple #[.agg #[.int .i32 e.c, .int .i32 e.b, .int .i32 e.o, .int .u8 e.bo, .int .u8 e.it, .int .u8 e.un, .bool e.ni], .nilIface]) ∧ Below w2.heap.size w2 w') :=
            ⟨kP.out.mono (fun e1 w' h => ⟨by have := h.1; unfold ParsePost at this; rw [hps] at this; exact this, h.2⟩)⟩
          have HP := Aside0.mk hps
          clear hps kP
          go_wp2_with (go_at_call 83; refine kP'.out.mono ?_; rintro e1 w3 ⟨rfl, hb3⟩)
          have hsk : ∃ W4, w3.alloc (.cells #[.int .i32 e.c, .int .i32 e.b, .int .i32 e.o, .int .u8 e.bo, .int .u8 e.it, .int .u8 e.un, .bool e.ni] 74) = W4 ∧ W4.heap[w3.heap.size]? = some (.cells #[.int .i32 e.c, .int .i32 e.b, .int .i32 e.o, .int .u8 e.bo, .int .u8 e.it, .int .u8 e.un, .bool e.ni] 74 (0, 0)) ∧ Below w2.heap.size w2 W4.drew ∧ BuildJ (some ⟨p, 0, none⟩) b m w.heap.size (w.heap.size + 1) nm n f w left j W4.drew := by
            have hB4 : Below w2.heap.size w2 (w3.alloc (.cells #[.int .i32 e.c, .int .i32 e.b, .int .i32 e.o, .int .u8 e.bo, .int .u8 e.it, .int .u8 e.un, .bool e.ni] 74)).drew := below_drew (below_alloc hb3 _)
            exact ⟨_, rfl, blk_new _ _, hB4, HI2.out.later (by omega) (grown_of_below hB4 none) (fun k e => by cases e) (by omega) (by omega)⟩
          obtain ⟨W4, hW4, hE4, hB4, hI4⟩ := hsk
          rw [hW4]
          have hj : j + 1 ≤ n := by have := HJ.out; omega
          obtain ⟨w5, hup, hm5, hg5⟩ := MapI.store hI4.he (mt := 137) (et := 74) Tryz.underlying91 Tryz.underlying137 (by unfold maxLen; omega) hx (.agg #[.int .i32 e.c, .int .i32 e.b, .int .i32 e.o, .int .u8 e.bo, .int .u8 e.it, .int .u8 e.un, .bool e.ni])
          have hE5 : w5.heap[w3.heap.size]? = some (.cells #[.int .i32 e.c, .int .i32 e.b, .int .i32 e.o, .int .u8 e.bo, .int .u8 e.it, .int .u8 e.un, .bool e.ni] 74 (0, 0)) := (hg5.block _ (blk_lt hE4) (fun q => by injection q with q; have := hb3.size; omega)).trans hE4
          have hS5 : StyCell w5 (w.heap.size + 1) w.heap.size nm ⟨#[]⟩ (some ⟨p, 0, none⟩) := (hg5.block _ (blk_lt hI4.hs) (fun q => by injection q with q; omega)).trans hI4.hs
          have e0 : W4.cell? ⟨w3.heap.size, 0, none⟩ = some (.int .i32 e.c) := (blk_cell hE4 0).trans rfl
          have e1 : W4.cell? ⟨w3.heap.size, 1, none⟩ = some (.int .i32 e.b) := (blk_cell hE4 1).trans rfl
          have e2 : W4.cell? ⟨w3.heap.size, 2, none⟩ = some (.int .i32 e.o) := (blk_cell hE4 2).trans rfl
          have e3 : W4.cell? ⟨w3.heap.size, 3, none⟩ = some (.int .u8 e.bo) := (blk_cell hE4 3).trans rfl
          have e4 : W4.cell? ⟨w3.heap.size, 4, none⟩ = some (.int .u8 e.it) := (blk_cell hE4 4).trans rfl
          have e5 : W4.cell? ⟨w3.heap.size, 5, none⟩ = some (.int .u8 e.un) := (blk_cell hE4 5).trans rfl
          have e6 : W4.cell? ⟨w3.heap.size, 6, none⟩ = some (.bool e.ni) := (blk_cell hE4 6).trans rfl
          have s2 : W4.cell? ⟨w.heap.size + 1, 2, none⟩ = some (.map (some w.heap.size)) := (blk_cell (w := W4) hI4.hs 2).trans rfl
          have HE4 := Aside0.mk hE4
          have HB4 := Aside0.mk hB4
          have HI4 := Aside0.mk hI4
          have HM5 := Aside0.mk hm5
          clear hW4 hE4 hB4 hI4 hm5 kN hmm
          go_region_held3 (fun w' => w'.cell? ⟨w.heap.size + 1, 2, none⟩ = some (.map (some w.heap.size)) ∧ w'.cell? ⟨w3.heap.size, 0, none⟩ = some (.int .i32 e.c) ∧ w'.cell? ⟨w3.heap.size, 1, none⟩ = some (.int .i32 e.b) ∧ w'.cell? ⟨w3.heap.size, 2, none⟩ = some (.int .i32 e.o) ∧ w'.cell? ⟨w3.heap.size, 3, none⟩ = some (.int .u8 e.bo) ∧ w'.cell? ⟨w3.heap.size, 4, none⟩ = some (.int .u8 e.it) ∧ w'.cell? ⟨w3.heap.size, 5, none⟩ = some (.int .u8 e.un) ∧ w'.cell? ⟨w3.heap.size, 6, none⟩ = some (.bool e.ni))
            (first | go_keep | exact ⟨(blk_cell hS5 2).trans rfl, (blk_cell hE5 0).trans rfl, (blk_cell hE5 1).trans rfl, (blk_cell hE5 2).trans rfl, (blk_cell hE5 3).trans rfl, (blk_cell hE5 4).trans rfl, (blk_cell hE5 5).trans rfl, (blk_cell hE5 6).trans rfl⟩) (first | fail)
          have hI4 := HI4.out
          have hs0 := HS0.out
          have hR2 := HR2.out
          have lr := hR2.lt
          have lmw := hR2.ltb
          have hR5 : MapR Tryz.prog 91 w5 m W0.heap.size n (fun x => (f x).map Value.string) (fun y => left y && decide (y ≠ x)) c2 :=
            MapR.same hR2 ((hg5.block _ (Nat.lt_of_lt_of_le lmw HB4.out.size) (fun q => by injection q with q; omega)).trans (HB4.out.block _ lmw)) ((hg5.block _ (Nat.lt_of_lt_of_le lr HB4.out.size) (fun q => by injection q with q; omega)).trans (HB4.out.block _ lr))
          have HR5 := Aside0.mk hR5
          have HI5 : Aside0 (BuildJ (some ⟨p, 0, none⟩) b m w.heap.size (w.heap.size + 1) nm n f w (fun y => left y && decide (y ≠ x)) (j + 1) w5) := by
            refine ⟨⟨MapI.same hI4.hm (hg5.block _ (MapI.lt hI4.hm) (fun q => by injection q with q; omega)), MapI.congr HM5.out (fun y hy => ?_), fun y t hy hl he => ?_, hI4.hB.grown hg5 (by have := hI4.hB.size; omega) (fun k q => by injection q with q; omega), hS5, (hg5.block _ (blk_lt hI4.hb) (fun q => by injection q with q; omega)).trans hI4.hb⟩⟩
            · unfold upd
              by_cases q : y = x
              · subst q; simp [HSV.out, HP.out, Ent.val]
              · simp [q]
            · by_cases q : y = x
              · subst q
                rw [HSV.out] at he
                injection he with he
                subst he
                rw [HP.out]; simp
              · exact hI4.hok y t hy (by simpa [q] using hl) he
          clear hI4 hs0 hR2 hR5
          go_wp2
          go_roundg k1
          case measure => omega
          case rel => exact ⟨_, c2, j + 1, ⟨by have := HK.out; omega⟩, ⟨by have := HJ.out; omega⟩, HR5, HI5⟩
theorem builder_c (s mp : Nat) (nm cp : ByteArray) (pap : Option Addr) (w : World) (hs : StyCell w s mp nm cp pap) :
    Calls Tryz.prog 48 #[.pointer (some ⟨s, 0, none⟩)] w fun e w' => e = .returned (.pointer (some ⟨w.heap.size + 1, 0, none⟩)) ∧ BldAt w' (w.heap.size + 1) w.heap.size nm ⟨#[]⟩ (some ⟨s, 0, none⟩) ∧ MS w' w.heap.size 0 (fun _ => none) ∧ Below w.heap.size w w' := by
  have hmm := @run_makeMap Tryz.prog
  have s0 : w.cell? ⟨s, 0, none⟩ = some (.string nm) := (blk_cell hs 0).trans rfl
  have ls := blk_lt hs
  clear hs
  go_enter Tryz.func48, Tryz.ntmps48
  go_wp2
  go_ret
  refine ⟨rfl, ?_, ?_, below_alloc (below_alloc (Below.refl _ _) _) _⟩
  · have := blk_new (w.alloc (.map #[] 0)) (.cells #[.map (some w.heap.size), .string nm, .string ⟨#[]⟩, .pointer (some ⟨s, 0, none⟩)] 141)
    rw [World.size_alloc] at this
    exact this
  · exact (MapI.made w).same (Below.heap_alloc _ _ _ (by simp))
/-- What a builder's text says of a type. -/
def psd (s : Option ByteArray) : Ent := (pse (s.getD ⟨#[]⟩)).getD zeroE
theorem psd_none : psd none = zeroE := by kernel_rfl
theorem zeroSt (w : World) : (zeroValue 9).run Tryz.prog w = .ok (.string ⟨#[]⟩) w := by kernel_rfl
theorem MS.look {w : World} {m n : Nat} {f : Int → Option ByteArray} (h : MS w m n f) {t : Int} (ht : Ok t) :
    (Instr.lookup 134 (.map (some m)) (.int .i64 t) false).run Tryz.prog w = .ok (.string ((f t).getD ⟨#[]⟩)) w := by
  rw [MapI.look h Tryz.underlying91 Tryz.underlying134 (zeroSt w) ht]
  cases f t <;> rfl
structure BgI (b m p B5 n0 : Nat) (nm cp : ByteArray) (E : Ent) (L : List (Int → Option Ent)) (w W : World) : Prop where
  res : W.heap[w.heap.size]? = some (.cells (cells zeroE) 74 (0, 0))
  box : W.heap[B5]? = some (.cells (cells E) 74 (0, 0))
  bld : BldAt W b m nm cp (some ⟨p, 0, none⟩)
  sty : StyAt n0 W L (some ⟨p, 0, none⟩)
  below : Below w.heap.size w W
  hB5 : w.heap.size < B5
theorem BgI.later {b m p B5 n0 : Nat} {nm cp : ByteArray} {E : Ent} {L : List (Int → Option Ent)} {w W W' : World} (h : BgI b m p B5 n0 nm cp E L w W) (hb : Below W.heap.size W W') : BgI b m p B5 n0 nm cp E L w W' :=
  ⟨(hb.block _ (blk_lt h.res)).trans h.res, (hb.block _ (blk_lt h.box)).trans h.box, (hb.block _ (blk_lt h.bld)).trans h.bld, StyAt.below hb h.sty, h.below.trans (hb.mono h.below.size), h.hB5⟩
theorem BgI.rd {b m p B5 n0 : Nat} {nm cp : ByteArray} {E : Ent} {L : List (Int → Option Ent)} {w W : World} (h : BgI b m p B5 n0 nm cp E L w W) :
    W.cell? ⟨B5, 0, none⟩ = some (.int .i32 E.c) ∧ W.cell? ⟨B5, 1, none⟩ = some (.int .i32 E.b) ∧ W.cell? ⟨B5, 2, none⟩ = some (.int .i32 E.o) ∧ W.cell? ⟨B5, 3, none⟩ = some (.int .u8 E.bo) ∧ W.cell? ⟨B5, 4, none⟩ = some (.int .u8 E.it) ∧ W.cell? ⟨B5, 5, none⟩ = some (.int .u8 E.un) ∧ W.cell? ⟨B5, 6, none⟩ = some (.bool E.ni) ∧ W.cell? ⟨b, 3, none⟩ = some (.pointer (some ⟨p, 0, none⟩)) :=
  ⟨(blk_cell h.box 0).trans rfl, (blk_cell h.box 1).trans rfl, (blk_cell h.box 2).trans rfl, (blk_cell h.box 3).trans rfl, (blk_cell h.box 4).trans rfl, (blk_cell h.box 5).trans rfl, (blk_cell h.box 6).trans rfl, (blk_cell h.bld 3).trans rfl⟩
set_option maxRecDepth 100000 in
set_option maxHeartbeats 8000000 in
theorem bget_c (L : List (Int → Option Ent)) (hL : L ≠ []) (n0 p b m n : Nat) (nm cp : ByteArray) (f : Int → Option ByteArray) (hf : ∀ x s, f x = some s → s.size ≤ 140737488351232) (t : Int) (ht : Ok t) (w : World) (hV : VarsOK w)
    (hb : BldAt w b m nm cp (some ⟨p, 0, none⟩)) (hm : MS w m n f) (hS : StyAt n0 w L (some ⟨p, 0, none⟩)) :
    Calls Tryz.prog 57 #[.pointer (some ⟨b, 0, none⟩), .int .i64 t] w fun x w' => x = .returned (inhL (psd (f t)) [fullS L t]).val ∧ Below w.heap.size w w' := by
  have hsz : ((f t).getD ⟨#[]⟩).size ≤ 140737488351232 := by
    cases h : f t with
    | none => decide
    | some s => exact hf t s h
  have kP : Aside0 (∀ W, VarsOK W → Calls Tryz.prog 83 #[.string ((f t).getD ⟨#[]⟩)] W fun x W' => (∃ er, x = .returned (.tuple #[.agg #[.int .i32 (psd (f t)).c, .int .i32 (psd (f t)).b, .int .i32 (psd (f t)).o, .int .u8 (psd (f t)).bo, .int .u8 (psd (f t)).it, .int .u8 (psd (f t)).un, .bool (psd (f t)).ni], er])) ∧ Below W.heap.size W W') := ⟨fun W hW => (parse_c _ hsz W hW).mono fun x W' h => ⟨by
    have h1 := h.1
    unfold ParsePost at h1
    unfold psd
    cases hq : pse ((f t).getD ⟨#[]⟩) with
    | none => rw [hq] at h1; obtain ⟨pp, h1⟩ := h1; exact ⟨_, h1⟩
    | some e => rw [hq] at h1; exact ⟨_, h1⟩, h.2⟩⟩
  have hV0 : VarsOK (w.alloc (.cells #[.int .i32 0, .int .i32 0, .int .i32 0, .int .u8 0, .int .u8 0, .int .u8 0, .bool false] 74)) := hV.below (below_alloc (Below.refl _ _) _)
  have HV0 := Aside0.mk hV0
  have hB0 : Below w.heap.size w (w.alloc (.cells #[.int .i32 0, .int .i32 0, .int .i32 0, .int .u8 0, .int .u8 0, .int .u8 0, .bool false] 74)) := below_alloc (Below.refl _ _) _
  have hlk := MS.look (MapI.below hm hB0 hm.lt) ht
  have HR0 := Aside0.mk (blk_new w (.cells #[.int .i32 0, .int .i32 0, .int .i32 0, .int .u8 0, .int .u8 0, .int .u8 0, .bool false] 74))
  have b0 : w.cell? ⟨b, 0, none⟩ = some (.map (some m)) := (blk_cell hb 0).trans rfl
  have lb := blk_lt hb
  have HBl := Aside0.mk hb
  have HSt := Aside0.mk hS
  have HT := Aside0.mk ht
  have HB0 := Aside0.mk hB0
  have hu := Tryz.underlying74
  clear hb hm hS ht hV hV0 hsz hf hB0
  generalize psd (f t) = E at *
  generalize (f t).getD ⟨#[]⟩ = sv at *
  have kG : Aside0 (∀ W, StyAt n0 W L (some ⟨p, 0, none⟩) → Calls Tryz.prog 78 #[.pointer (some ⟨p, 0, none⟩), .int .i64 t] W fun x W' => x = .returned (.agg #[.int .i32 (fullS L t).c, .int .i32 (fullS L t).b, .int .i32 (fullS L t).o, .int .u8 (fullS L t).bo, .int .u8 (fullS L t).it, .int .u8 (fullS L t).un, .bool (fullS L t).ni]) ∧ Below W.heap.size W W') := ⟨fun W hW => full_c L hL _ n0 t HT.out W hW⟩
  generalize fullS L t = g at *
  have hr : inhL E [g] = inhL E [g] := rfl
  generalize hrr : inhL E [g] = r at *
  have HRR := Aside0.mk hrr
  clear hr hrr
  go_enter Tryz.func57, Tryz.ntmps57
  go_upto_region 2 with (go_at_call 83; refine (kP.out _ HV0.out).mono ?_; rintro x1 w1 ⟨⟨er, rfl⟩, hb1⟩)
  have hsk : ∃ W0, w1.alloc (.cells #[.int .i32 E.c, .int .i32 E.b, .int .i32 E.o, .int .u8 E.bo, .int .u8 E.it, .int .u8 E.un, .bool E.ni] 74) = W0 ∧ BgI b m p w1.heap.size n0 nm cp E L w W0 := by
    have hb2 : Below (w.alloc (.cells #[.int .i32 0, .int .i32 0, .int .i32 0, .int .u8 0, .int .u8 0, .int .u8 0, .bool false] 74)).heap.size (w.alloc (.cells #[.int .i32 0, .int .i32 0, .int .i32 0, .int .u8 0, .int .u8 0, .int .u8 0, .bool false] 74)) (w1.alloc (.cells #[.int .i32 E.c, .int .i32 E.b, .int .i32 E.o, .int .u8 E.bo, .int .u8 E.it, .int .u8 E.un, .bool E.ni] 74)) := below_alloc hb1 _
    have hlt := hb1.size
    simp only [World.size_alloc] at hlt
    have hbw := HB0.out.trans (hb2.mono HB0.out.size)
    exact ⟨_, rfl, ⟨(hb2.block _ (by simp)).trans HR0.out, blk_new _ _, (hbw.block _ lb).trans HBl.out, StyAt.below hbw HSt.out, hbw, by omega⟩⟩
  obtain ⟨W0, hW0, G0⟩ := hsk
  rw [hW0]
  clear hW0 hlk b0 kP
  obtain ⟨d0, d1, d2, d3, d4, d5, d6, d7⟩ := G0.rd
  generalize w1.heap.size = B5 at *
  have kI : Aside0 (∀ W, Calls Tryz.prog 55 #[.agg #[.int .i32 E.c, .int .i32 E.b, .int .i32 E.o, .int .u8 E.bo, .int .u8 E.it, .int .u8 E.un, .bool E.ni], .slice (some ⟨W.heap.size, 0, none⟩) 1 1] (W.alloc (.cells #[.int .i32 g.c, .int .i32 g.b, .int .i32 g.o, .int .u8 g.bo, .int .u8 g.it, .int .u8 g.un, .bool g.ni] 74)) fun x W' => x = .returned (.agg #[.int .i32 r.c, .int .i32 r.b, .int .i32 r.o, .int .u8 r.bo, .int .u8 r.it, .int .u8 r.un, .bool r.ni]) ∧ Below W.heap.size W W') := by
    refine ⟨fun W => ?_⟩
    have hB1 : Below W.heap.size W (W.alloc (.cells #[.int .i32 g.c, .int .i32 g.b, .int .i32 g.o, .int .u8 g.bo, .int .u8 g.it, .int .u8 g.un, .bool g.ni] 74)) := below_alloc (Below.refl _ _) _
    have hn := blk_new W (.cells #[.int .i32 g.c, .int .i32 g.b, .int .i32 g.o, .int .u8 g.bo, .int .u8 g.it, .int .u8 g.un, .bool g.ni] 74)
    have h := inherit_c E (some ⟨W.heap.size, 0, none⟩) 1 [g] (by simp) (W.alloc (.cells #[.int .i32 g.c, .int .i32 g.b, .int .i32 g.o, .int .u8 g.bo, .int .u8 g.it, .int .u8 g.un, .bool g.ni] 74)) (fun _ => ⟨W.heap.size, 0, rfl, by simp, fun i hi => by
      obtain rfl : i = 0 := by simpa using hi
      exact ⟨(blk_cell hn 0).trans rfl, (blk_cell hn 1).trans rfl, (blk_cell hn 2).trans rfl, (blk_cell hn 3).trans rfl, (blk_cell hn 4).trans rfl, (blk_cell hn 5).trans rfl, (blk_cell hn 6).trans rfl⟩⟩)
    refine h.mono ?_
    rintro x W' ⟨rfl, hb⟩
    exact ⟨by rw [HRR.out]; rfl, below_on hB1 hb hB1.size⟩
  go_upto_if 21 with fail
  go_cut [] (fun wc => Aside0 (wc.heap[B5]? = some (.cells (cells r) 74 (0, 0))) ∧ Aside0 (wc.heap[w.heap.size]? = some (.cells (cells zeroE) 74 (0, 0))) ∧ Aside0 (Below w.heap.size w wc))
  case first =>
    have Gd : BgI b m p B5 n0 nm cp E L w W0.drew := G0.later (below_drew (Below.refl _ _))
    go_wp2
    have l5 := blk_lt Gd.box
    have l3 := blk_lt Gd.bld
    go_region_with (first | (go_at_call 78; refine (kG.out _ Gd.sty).mono ?_; rintro x2 w2 ⟨rfl, hb2⟩; have G2 := Gd.later hb2; clear d0 d1 d2 d3 d4 d5 d6 d7; obtain ⟨d0, d1, d2, d3, d4, d5, d6, d7⟩ := G2.rd; have l2 := blk_lt G2.box) | (go_at_call 55; refine (kI.out _).mono ?_; rintro x3 w3 ⟨rfl, hb3⟩; have G3 := G2.later hb3; clear d0 d1 d2 d3 d4 d5 d6 d7; obtain ⟨r0, r1, r2, r3, r4, r5, r6, g0, g1, g2, g3, g4, g5, g6⟩ := blk7 G3.box))
    all_goals
      have hA := res7 r G3.box
      have hO := (setAll_other (b := B5) (k := w.heap.size) (Nat.ne_of_lt G3.hB5) [.int .i32 r.c, .int .i32 r.b, .int .i32 r.o, .int .u8 r.bo, .int .u8 r.it, .int .u8 r.un, .bool r.ni] w3 0).trans G3.res
      have hE := G3.below.trans (setAll_below (b := B5) (n := w.heap.size) (Nat.le_of_lt G3.hB5) [.int .i32 r.c, .int .i32 r.b, .int .i32 r.o, .int .u8 r.bo, .int .u8 r.it, .int .u8 r.un, .bool r.ni] w3 0)
      rw [set7] at hA hO hE
      have HA := Aside0.mk hA
      have HO := Aside0.mk hO
      have HE := Aside0.mk hE
      clear hA hO hE
      go_wp2
      go_meet
      case rel => exact ⟨HA, HO, HE⟩
  case rest =>
    clear d0 d1 d2 d3 d4 d5 d6 d7
    obtain ⟨HA, HO, HE⟩ := hcut
    have hA : wc.heap[B5]? = some (.cells (cells r) 74 (0, 0)) := HA.out
    obtain ⟨e0, e1, e2, e3, e4, e5, e6, -, -, -, -, -, -, -⟩ := blk7 hA
    obtain ⟨r0, r1, r2, r3, r4, r5, r6, g0, g1, g2, g3, g4, g5, g6⟩ := blk7 HO.out
    have hne := Nat.ne_of_lt G0.hB5
    have hfin := res7 r HO.out
    rw [set7] at hfin
    have hbe := HE.out.trans (setAll_below (b := w.heap.size) (Nat.le_refl w.heap.size) [.int .i32 r.c, .int .i32 r.b, .int .i32 r.o, .int .u8 r.bo, .int .u8 r.it, .int .u8 r.un, .bool r.ni] wc 0)
    rw [set7] at hbe
    have HF := Aside0.mk hfin
    have HBE := Aside0.mk hbe
    clear hfin hbe hA
    go_wp2
    exact bodyPost_ret (results_cell_row rfl _ _ w.heap.size 74 #[.int .i32 r.c, .int .i32 r.b, .int .i32 r.o, .int .u8 r.bo, .int .u8 r.it, .int .u8 r.un, .bool r.ni] (0, 0) _ rfl HF.out Tryz.underlying74 rfl (by kernel_rfl)) rfl ⟨rfl, HBE.out⟩
/-! ### StyleBuild without calls -/
/-- What a builder over a style, asked of types, and the style that is built without calls tell. -/
def built0 (l : List (Int × ByteArray)) (t : Int) : Ent := fullS [fun _ => none, lineE l] t
def inb0 (l : List (Int × ByteArray)) (t : Int) : Ent := inhL (psd none) [fullS [lineE l] t]
def Build0Res (l : List (Int × ByteArray)) (ask : List Int) (base : Nat) (x : Ending) (w' : World) : Prop :=
  (badL l = true ∧ x = .returned (.tuple #[.slice none 0 0, .slice none 0 0, .bool false])) ∨
  (badL l = false ∧ ∃ v u, x = .returned (.tuple #[v, u, .bool true]) ∧ w'.ownsRow base 23 7 v ask.length (flat (ask.map (built0 l))) ∧ w'.ownsRow base 23 7 u ask.length (flat (ask.map (inb0 l))) ∧ (∀ k, v.ownBlock = some k → some k ≠ u.ownBlock) ∧ ∀ k, u.ownBlock = some k → some k ≠ v.ownBlock)
set_option maxRecDepth 100000 in
set_option maxHeartbeats 8000000 in
theorem build0_c (S1 : Option Addr) (sc : Nat) (A : Option Addr) (cap : Nat) (l : List (Int × ByteArray)) (hl : l.length ≤ 1000000) (hc : l.length ≤ cap) (hk : ∀ p ∈ l, Ok p.1 ∧ p.2.size ≤ 140737488351232)
    (B : Option Addr) (capb : Nat) (ask : List Int) (hl2 : ask.length ≤ 1000000) (hc2 : ask.length ≤ capb) (hk2 : ∀ t ∈ ask, Ok t) (w : World) (hV : VarsOK w)
    (hA : l ≠ [] → ∃ g o, A = some ⟨g, o, none⟩ ∧ g < w.heap.size ∧ PartsAt w g o l) (hB : ask ≠ [] → ∃ g o, B = some ⟨g, o, none⟩ ∧ g < w.heap.size ∧ AskAt w g o ask) :
    Calls Tryz.prog 21 #[.slice A l.length cap, .slice S1 0 sc, .slice B ask.length capb] w fun x w' => Build0Res l ask w.heap.size x w' ∧ Below w.heap.size w w' := by
  have kS := Aside0.mk (styled_c A cap l hl hc hk w hV hA)
  have HK := Aside0.mk hk
  have HK2 := Aside0.mk hk2
  have HV := Aside0.mk hV
  have HAs := Aside0.mk hB
  clear hk hk2 hA hB hV
  go_enter Tryz.func21, Tryz.ntmps21
  go_wp2_with (first | (go_at_call 43; refine kS.out.mono ?_; rintro x1 w1 ⟨⟨rfl, hx⟩ | ⟨p, mp, rfl, h2, h3, h4⟩, hb1⟩) | (go_at_call 48; refine (builder_c p mp _ _ none w1 h2).mono ?_; rintro x2 w2 ⟨rfl, hbl, hms, hb2⟩))
  · go_ret3
    obtain ⟨k, t, _, h5, h6⟩ := hx
    exact ⟨.inl ⟨badL_true h5 h6, rfl⟩, hb1⟩
  · have hb : badL l = false := badL_false (fun p hp => (HK.out p hp).1) h4
    have HBad := Aside0.mk hb
    have HB2 : Aside0 (Below w.heap.size w w2) := ⟨below_on hb1 hb2 hb1.size⟩
    have HSt : Aside0 (StyAt l.length w2 [lineE l] (some ⟨p, 0, none⟩)) := ⟨StyAt.below hb2 ⟨p, mp, _, _, none, rfl, h2, h3, rfl⟩⟩
    have HCell : Aside0 (StyCell w2 p mp ⟨#[120]⟩ ⟨#[]⟩ none) := ⟨(hb2.block _ (blk_lt h2)).trans h2⟩
    have HBl := Aside0.mk hbl
    have HMs := Aside0.mk hms
    have HV2 : Aside0 (VarsOK w2) := ⟨HV.out.below HB2.out⟩
    have HAs2 : Aside0 (ask ≠ [] → ∃ g o, B = some ⟨g, o, none⟩ ∧ g < w2.heap.size ∧ AskAt w2 g o ask) := ⟨fun h => by
      obtain ⟨g, o, e, hg, hP⟩ := HAs.out h
      exact ⟨g, o, e, Nat.lt_of_lt_of_le hg HB2.out.size, hP.same (HB2.out.block g hg)⟩⟩
    have HBase : Aside0 (w.heap.size ≤ w2.heap.size) := ⟨HB2.out.size⟩
    clear hb h2 h3 h4 hbl hms hb2 hb1 kS HV HAs
    generalize w1.heap.size = bm at *
    go_loop [26] (fun i => i = .int .i64 0) (fun _ => 0)
    case atStart => exact rfl
    case round =>
      subst hrel
      go_wp2
      go_loopw [7, 63] (fun v i wr => ∃ k : Nat, k ≤ ask.length ∧ i = .int .i64 (k : Int) ∧ Aside0 (wr.ownsRow w2.heap.size 23 7 v k (flat ((ask.take k).map (inb0 l)))) ∧ Aside0 (Below w2.heap.size w2 wr)) (fun _ i _ => ask.length - (intOf i).toNat)
      case atStart => exact ⟨0, Nat.zero_le _, rfl, ⟨own_nil _ _ _ _⟩, ⟨Below.refl _ _⟩⟩
      case round =>
        obtain ⟨k, hkl, rfl, HO, HB⟩ := hrel
        by_cases hlt : k < ask.length
        · obtain ⟨g, o, rfl, hg, hP⟩ := HAs2.out (fun e => by rw [e] at hlt; simp at hlt)
          have d0 := (hP.same (HB.out.block g hg)) k hlt
          have hkt := HK2.out _ (List.getElem_mem hlt)
          have htk : (ask.take (k + 1)).map (inb0 l) = (ask.take k).map (inb0 l) ++ [inb0 l ask[k]] := by rw [List.take_succ_eq_append_getElem hlt, List.map_append]; rfl
          generalize ask[k] = t at *
          have hlti : (k : Int) < (ask.length : Int) := by omega
          have kt : Aside0 (Calls Tryz.prog 57 #[.pointer (some ⟨bm + 1, 0, none⟩), .int .i64 t] wr fun x W' => x = .returned (inb0 l t).val ∧ Below wr.heap.size wr W') :=
            ⟨bget_c [lineE l] (by simp) l.length p (bm + 1) bm 0 _ _ (fun _ => none) (fun x s h => by cases h) t hkt wr (HV2.out.below HB.out) (blk_below HBl.out HB.out) (MapI.below HMs.out HB.out HMs.out.lt) (StyAt.below HB.out HSt.out)⟩
          have HT := Aside0.mk htk
          clear htk hP
          generalize inb0 l t = e at *
          obtain ⟨A0, c0, hv⟩ := own_slice HO.out
          subst hv
          have hone : ∀ u ∈ [Value.int .i32 e.c, .int .i32 e.b, .int .i32 e.o, .int .u8 e.bo, .int .u8 e.it, .int .u8 e.un, .bool e.ni], u.oneCell' = true := by simp [Value.oneCell']
          have hbd : (k + 1) * 16 ≤ 140737488355328 := by omega
          have HN := Aside0.mk hone
          have HD := Aside0.mk hbd
          clear hone hbd
          go_wp2_with (first | (go_at_call 57; refine kt.out.mono ?_; rintro x1 w1 ⟨rfl, hb1⟩) | (go_at_call 56; refine (plain_c e _).mono ?_; rintro x2 w5 ⟨rfl, hb5⟩) | ((with_reducible refine gate_builtin (b := .append) (xs := #[.tmp 67, .tmp 72]) rfl ?_); at_builtin; refine print_append_cells (w0 := w2) w2.heap.size rfl (.tmp 67) (.tmp 72) 39 23 (.agg #[(.int .i32 0), (.int .i32 0), (.int .i32 0), (.int .u8 0), (.int .u8 0), (.int .u8 0), (.bool false)]) 7 16 rfl Tryz.underlying39 infoE rfl (Nat.succ_pos _) (Nat.succ_pos _) (.slice A0 k c0) k (flat ((ask.take k).map (inb0 l))) [.int .i32 e.c, .int .i32 e.b, .int .i32 e.o, .int .u8 e.bo, .int .u8 e.it, .int .u8 e.un, .bool e.ni] rfl rfl rfl HN.out (pw_own_below (pw_own_below HO.out hb1) hb5) (below_on (below_on HB.out hb1 HB.out.size) hb5 (Nat.le_trans HB.out.size hb1.size)) (Nat.le_trans HB.out.size (Nat.le_trans hb1.size hb5.size)) HD.out ?_; intro v1 w3 ho3 hB3 hg3 hat3; obtain ⟨A3, c3, hv3⟩ := own_slice ho3))
          refine ⟨⟨k + 1, by omega, by rw [Int.natCast_add]; rfl, ⟨?_⟩, ⟨hB3⟩⟩, by simp [intOf]; omega⟩
          rw [HT.out, flat_snoc, ← hv3]
          exact ho3
        · obtain rfl : k = ask.length := by omega
          rw [List.take_length] at HO
          have kb := Aside0.mk (buildP_c p mp ⟨#[120]⟩ none (bm + 1) bm 0 (by omega) ⟨#[120]⟩ (fun _ => none) (fun x s h => by cases h) wr (HV2.out.below HB.out) (blk_below HBl.out HB.out) ((HB.out.block _ (blk_lt HCell.out)).trans HCell.out) (MapI.below HMs.out HB.out HMs.out.lt))
          have kE : Aside0 (∀ b m W, Below wr.heap.size wr W → StyCell W b m ⟨#[120]⟩ ⟨#[]⟩ (some ⟨p, 0, none⟩) → ME W m 0 (fun _ => none) → Calls Tryz.prog 44 #[.pointer (some ⟨b, 0, none⟩), .slice B ask.length capb] W fun x W' => ∃ v, x = .returned v ∧ W'.ownsRow W.heap.size 23 7 v ask.length (flat (ask.map (built0 l))) ∧ Below W.heap.size W W') :=
            ⟨fun b m W hW h1 h2 => by
              have hw2 := below_on HB.out hW HB.out.size
              obtain ⟨q, mq, n1, n2, n3, e1, e2, e3, e4⟩ := StyAt.below hw2 HSt.out
              injection e1 with e1
              injection e1 with e1 _ _
              subst e1
              refine entries_c [fun _ => none, lineE l] (by simp) (some ⟨b, 0, none⟩) l.length B capb ask hl2 hc2 HK2.out W ⟨b, m, _, _, _, rfl, h1, h2.mono (Nat.zero_le _), p, mq, n1, n2, n3, rfl, e2, e3, e4⟩ (fun h => ?_)
              obtain ⟨g, o, e, hg, hP⟩ := HAs2.out h
              exact ⟨g, o, e, Nat.lt_of_lt_of_le hg hw2.size, hP.same (hw2.block g hg)⟩⟩
          go_wp2_with (first | (go_at_call 58; refine kb.out.mono ?_; rintro x5 w5 ⟨⟨pp, _, kk, tt, _, h7, _⟩ | ⟨bb, mm, rfl, h6, h7, h8⟩, hb5⟩; (first | (exact absurd h7 (by simp)) | skip)) | (go_at_call 44; refine (kE.out _ _ _ hb5 h6 h7).mono ?_; rintro x6 w6 ⟨v, rfl, ho, hb6⟩))
          have hap : ∀ k k2, v.ownBlock = some k → u7.ownBlock = some k2 → k2 < k := fun k k2 h h' => by
            have a1 := own_base ho k h
            have a2 := own_lt HO.out k2 h'
            have a3 := hb5.size
            omega
          have HAP := Aside0.mk hap
          clear hap
          go_ret3
          exact ⟨.inr ⟨HBad.out, _, _, rfl, own_weaken ho (Nat.le_trans HBase.out (Nat.le_trans HB.out.size hb5.size)), own_weaken (pw_own_below (pw_own_below HO.out hb5) hb6) HBase.out, fun k h e => Nat.lt_irrefl _ (HAP.out k k h e.symm), fun k h e => Nat.lt_irrefl _ (HAP.out k k e.symm h)⟩, below_on (below_on (below_on HB2.out HB.out HBase.out) hb5 (Nat.le_trans HBase.out HB.out.size)) hb6 (Nat.le_trans HBase.out (Nat.le_trans HB.out.size hb5.size))⟩
--HERE
end Go.Proofs.YtifhhejohdmiaaaGreatDoorEnt
