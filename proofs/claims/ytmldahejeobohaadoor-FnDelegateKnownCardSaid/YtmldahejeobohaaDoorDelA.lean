/- A delegating lexer's Tokenise, walked. -/
import Derived.Test.YtmldahejeobohaaDoorDelB
import Derived.RegionTactic
import Derived.ChangeAlike
import Derived.BigRegion
set_option linter.unusedVariables false
set_option linter.unusedSimpArgs false
namespace Go.Proofs.YtmldahejeobohaaDoorTake
open Go.RowKit Go.Proofs.YtmldahejeobohaaDoorW.PrintWords Go.Proofs.YtmldahejeobohaaDoor.A Go.Proofs.YtmldahejeobohaaDoorFmt
theorem infoPI : (Tryd.prog.info? 129).map (fun i => (i.zero, i.size, i.bytes)) = some (some (.pointer none), 1, 8) := by kernel_rfl
/-- The tokens that a delegating lexer gives. -/
def delL (rt : ByteArray → List C) (l : List C) (s : ByteArray) : List C :=
  if insL 0 (runsL eof l) = [] then rt s else merge (runsL eof (rt ⟨(othL (runsL eof l)).toArray⟩)) (insL 0 (runsL eof l)) 0
/-- The start of the first loop. -/
theorem L1.start {R : List C} {w1 : World} : L1 R w1.heap.size w1 0 true [] eof 0 [] none ((((w1.alloc (.cells #[.slice none 0 0, .int .i64 0, .int .i8 0] 127)).alloc (.cells #[] 129)).alloc (.cells #[.slice (some ⟨w1.heap.size + 1, 0, none⟩) 0 0] 128)).alloc (.cells #[.int .i64 0, .string ⟨#[]⟩] 65)) := by
  have hs : ∀ (w : World) (o1 o2 : Obj), ((w.alloc o1).alloc o2).heap[w.heap.size + 1]? = some o2 := fun w o1 o2 => by have h := blk_new (w.alloc o1) o2; rw [World.size_alloc] at h; exact h
  have hs2 : ∀ (w : World) (o1 o2 o3 : Obj), (((w.alloc o1).alloc o2).alloc o3).heap[w.heap.size + 2]? = some o3 := fun w o1 o2 o3 => by have h := blk_new ((w.alloc o1).alloc o2) o3; rw [World.size_alloc, World.size_alloc] at h; exact h
  have hs3 : ∀ (w : World) (o1 o2 o3 o4 : Obj), ((((w.alloc o1).alloc o2).alloc o3).alloc o4).heap[w.heap.size + 3]? = some o4 := fun w o1 o2 o3 o4 => by have h := blk_new (((w.alloc o1).alloc o2).alloc o3) o4; rw [World.size_alloc, World.size_alloc, World.size_alloc] at h; exact h
  have h1 := (Below.refl w1.heap.size w1).alloc (Nat.le_refl _) (.cells #[.slice none 0 0, .int .i64 0, .int .i8 0] 127)
  have h2 := h1.alloc h1.size (.cells #[] 129)
  have h3 := h2.alloc h2.size (.cells #[.slice (some ⟨w1.heap.size + 1, 0, none⟩) 0 0] 128)
  refine ⟨h3.alloc h3.size _, ⟨.slice (some ⟨w1.heap.size + 1, 0, none⟩) 0 0, (((Lib.fresh_isBuffer 127 5 w1).alloc _).alloc _).alloc _, hs3 _ _ _ _ _, blk_alloc (hs2 _ _ _ _) _, ?_⟩, fun q hq => (by cases hq), fun q hq => (by cases hq), fun c e => (by cases e), by simp, by simp, fun _ => by simp, fun e => (by cases e), .inl rfl, Nat.le_refl _, fun c e => (by cases e)⟩
  exact ⟨fun _ _ => trivial, [], ⟨rfl, .inr ⟨w1.heap.size + 1, 0, _, rfl, Nat.le_succ _, blk_alloc (blk_alloc (hs _ _ _) _) _, Nat.le_refl _, by decide, rfl, rfl⟩⟩, Reps.none _ _⟩
def ptC : Cur → Value
  | none => .pointer none
  | some c => .pointer (some ⟨c.1, 0, none⟩)
theorem rdC_drop {R : List C} {x : Int} (h0 : 0 ≤ x) (h1 : x < R.length) : R.drop x.toNat = rd_T65 R x :: R.drop (x.toNat + 1) ∧ rd_T65 R x ∈ R := by
  have h : x.toNat < R.length := by omega
  have e : rd_T65 R x = R[x.toNat] := by simp [rd_T65, List.getD_eq_getElem?_getD, h]
  rw [e]
  exact ⟨List.drop_eq_getElem_cons h, List.getElem_mem h⟩
theorem szL_runs : ∀ (l : List C) (p : C), szL (runsL p l) = p.f1.size + szL l := fun l p => by
  rw [← bt2_len, runsL_bt, List.length_append, btk_len, bt2_len]
theorem L1.lim {R : List C} {B : Nat} {w1 : World} {k : Nat} {md : Bool} {cs : List UInt8} {la t : C} {off : Nat} {q0 : List (Nat × Ins)} {cur : Cur} {wr : World} (h : L1 R B w1 k md cs la off q0 cur wr) (hd : R.drop k = t :: R.drop (k + 1)) : cs.length ≤ szL R ∧ off + t.f1.size ≤ szL R := by
  have h1 := congrArg List.length h.hcs
  have h2 := h.hoff
  rw [hd, szL_cons] at h2
  rw [List.length_append, othL_len R] at h1
  have := osz_le R
  exact ⟨by omega, by omega⟩
theorem bc_len (cs : List UInt8) : (Lib.byteCells cs).length = cs.length := by simp [Lib.byteCells]
structure Md (md : Bool) (la : C) (cur : Cur) : Prop where
  h1 : md = true → isE la = true ∨ la.f0 = oth
  h2 : md = false → la.f0 ≠ 0 ∧ la.f0 ≠ oth ∧ ∃ c, cur = some c
set_option maxRecDepth 100000 in
set_option maxHeartbeats 16000000 in
theorem del_c (Bd : Nat) (cfgL cfgR : Option Addr) (fnL fnR : Fn) (uL vL uR vR : Array Value) (l : List C) (rt : ByteArray → List C) (s : ByteArray) (w : World) (hV : VarsOK w)
    (hGL : ∀ s, GivC (.agg #[.pointer cfgL, .func fnL uL vL]) s l w) (hGR : ∀ s, GivC (.agg #[.pointer cfgR, .func fnR uR vR]) s (rt s) w)
    (hl : l.length ≤ 90000) (hz : ∀ x ∈ l, x.f0 ≠ 0) (hs : szL l ≤ 8191) (hrl : ∀ s, (rt s).length ≤ 90000) (hrz : ∀ s, ∀ x ∈ rt s, x.f0 ≠ 0) (hrs : ∀ s, szL (rt s) = s.size)
    (hd : w.heap[Bd]? = some (.cells #[gV cfgR fnR uR vR, gV cfgL fnL uL vL] 73 (0, 0))) :
    Calls Tryd.prog 72 #[.pointer (some ⟨Bd, 0, none⟩), .pointer none, .string s] w fun e w' => ∃ Bt g, e = .returned (.tuple #[.func (.func 64) #[] #[.pointer (some ⟨Bt, 0, none⟩)], .nilIface]) ∧ LitAt w' Bt g (delL rt l s) ∧ w.heap.size ≤ Bt ∧ w.heap.size ≤ g ∧ g < w'.heap.size ∧ Below w.heap.size w w' := by
  have hu := Tryd.underlying65
  have hu2 := Tryd.underlying73
  have hu3 := Tryd.underlying131
  have hu4 := Tryd.underlying127
  have hnn : ∀ (w : World), (Go.binOp .neq 67 .nilIface .nilIface).run Tryd.prog w = .ok (.bool false) w := fun w => run_neq_nil_nil (P := Tryd.prog) w 67 (by kernel_rfl)
  have hsf : ∀ (a : Addr) (fn : Fn) (x y : Array Value) (m : Mode) (w : World), (store a (.func fn x y) m).run Tryd.prog w = stored Tryd.prog w a (.func fn x y) m := fun a fn x y m w => run_store Tryd.prog w a _ m rfl
  have hmf : ∀ (fn : Fn) (first cap : Array Value) (w : World), (Instr.makeFunc fn first cap).run Tryd.prog w = .ok (.func fn first cap) w := fun _ _ _ _ => rfl
  have d0 : w.cell? ⟨Bd, 0, none⟩ = some (gV cfgR fnR uR vR) := (blk_cell hd 0).trans rfl
  have d1 : w.cell? ⟨Bd, 1, none⟩ = some (gV cfgL fnL uL vL) := (blk_cell hd 1).trans rfl
  have ld := blk_lt hd
  have HB0 := Aside0.mk ((Below.refl w.heap.size w).alloc (Nat.le_refl _) (.cells #[gV cfgL fnL uL vL] 137))
  have hE := vars_lt hV
  have HV := Aside0.mk hV
  have HT := Aside0.mk (tkG_c w.heap.size cfgL fnL uL vL l s _ (vars_kept hV (HB0.out.block _ hE)) ((hGL s).below HB0.out) hl hz hs (blk_new w (.cells #[gV cfgL fnL uL vL] 137)))
  have HGR := Aside0.mk hGR
  have HRT := Aside0.mk (And.intro hrl (And.intro hrz hrs))
  have HD := Aside0.mk hd
  have hgood := Aside0.mk (runsL_good l eof hz (.inl rfl))
  have hlen := Aside0.mk (And.intro (runsL_len l eof) hl)
  clear hGL hGR hl hz hrl hrz hrs hd hV
  go_enter Tryd.func72, Tryd.ntmps72
  go_wp2_with (first | (go_at_call 73; refine (co_c _ _ _).mono ?_; rintro e w0 ⟨rfl, rfl⟩) | (go_at_call 28; refine HT.out.mono ?_; rintro e w1 ⟨v, rfl, hR1, hB1⟩; obtain ⟨A1, c1, rfl, hc1, hC1⟩ := Kd.R_reads hR1; have HR1 := Aside0.mk (And.intro hR1 (And.intro hc1 hC1)); have HB1 := Aside0.mk hB1; clear hR1 hc1 hC1 hB1))
  have HL0 := Aside0.mk (L1.start (R := runsL eof l) (w1 := w1))
  have HRl := Aside0.mk (Eq.refl (runsL eof l))
  have hszR : szL (runsL eof l) = szL l := by rw [szL_runs]; exact Nat.zero_add _
  have HSz : Aside0 (szL (runsL eof l) ≤ 8191) := ⟨by rw [hszR]; exact hs⟩
  clear hszR
  generalize hRR : runsL eof l = R at *
  go_loopg [12, 13, 45] (R.length + 1) (fun kq v12 v13 v45 wr => ∃ (x13 x45 : Int), v45 = .int .i64 x45 ∧ v13 = .int .i64 x13 ∧ Aside0 (0 ≤ x45 ∧ x45 ≤ R.length ∧ R.length - x45.toNat < kq) ∧ ∃ (md : Bool) (cs : List UInt8) (la : C) (off : Nat) (q0 : List (Nat × Ins)) (cur : Cur), v12 = ptC cur ∧ Aside0 (x13 = (off : Int)) ∧ Aside0 (L1 R w1.heap.size w1 x45.toNat md cs la off q0 cur wr) ∧ Aside0 (Md md la cur))
  case atStart => exact ⟨0, 0, rfl, rfl, ⟨by omega, by omega, by simp⟩, true, [], eof, 0, [], none, rfl, ⟨rfl⟩, HL0, ⟨⟨fun _ => .inl rfl, fun h => by cases h⟩⟩⟩
  case round =>
    obtain ⟨x13, x45, rfl, rfl, HK, md, cs, la, off, q0, cur, rfl, HO, HL, HM⟩ := hrel
    cases gk with
    | zero => have := HK.out; omega
    | succ k1 =>
      by_cases hlt : x45 < (R.length : Int)
      · have hx0 : 0 ≤ x45 := HK.out.1
        obtain ⟨ad, e, hy0, hy1⟩ := at_T65 (Kd.C_below HR1.out.2.2 HL.out.hB) x45 hx0 hlt
        cases e
        have hla := World.block_lt_of_cell? wr _ hy0
        obtain ⟨hdr, hmem⟩ := rdC_drop hx0 hlt
        have htz := hgood.out _ hmem
        have c45 : decide (x45 < (R.length : Int)) = true := decide_eq_true hlt
        have p1 := eq_true hx0
        have q1 := eq_true hlt
        have hwr : Aside0 (wrap64 (x45 + 1) = x45 + 1) := ⟨by have h1 := hlen.out.1; have h2 := hlen.out.2; unfold wrap64; omega⟩
        generalize rd_T65 R x45 = t at *
        obtain ⟨vr, hdm⟩ := HL.out.dm
        have la0 : wr.cell? ⟨w1.heap.size + 1 + 1 + 1, 0, none⟩ = some (.int .i64 la.f0) := (blk_cell hdm.hla 0).trans rfl
        have la1 : wr.cell? ⟨w1.heap.size + 1 + 1 + 1, 1, none⟩ = some (.string la.f1) := (blk_cell hdm.hla 1).trans rfl
        have laf0 : wr.frozen? ⟨w1.heap.size + 1 + 1 + 1, 0, none⟩ = false := blk_frozen hdm.hla 0
        have laf1 : wr.frozen? ⟨w1.heap.size + 1 + 1 + 1, 1, none⟩ = false := blk_frozen hdm.hla 1
        have lla : w1.heap.size + 1 + 1 + 1 < wr.heap.size := blk_lt hdm.hla
        have HDm := Aside0.mk hdm
        have HDr := Aside0.mk hdr
        have V := HV.out
        have hVr : VarsOK wr := vars_kept HV.out ((HL.out.hB.block _ (Nat.lt_of_lt_of_le hE (Nat.le_trans HB0.out.size HB1.out.size))).trans ((HB1.out.block _ (Nat.lt_of_lt_of_le hE HB0.out.size)).trans (HB0.out.block _ hE)))
        have v0 := hVr.e0
        have v1 := hVr.e1
        have lv := vars_lt hVr
        clear hdm hdr hmem hVr V hx0 hlt
        have htb : (t.f0 == 0) = false := beq_eq_false_iff_ne.2 htz
        by_cases hto : t.f0 = oth
        --OTHER
        · have hto1 : (t.f0 == -12) = true := beq_iff_eq.2 hto
          have HTo := Aside0.mk hto
          clear hto
          cases md with
          | true =>
            rcases HM.out.h1 rfl with hle | hlo
            · obtain rfl := isE_eof hle
              have la0' : wr.cell? ⟨w1.heap.size + 1 + 1 + 1, 0, none⟩ = some (.int .i64 0) := la0
              have la1' : wr.cell? ⟨w1.heap.size + 1 + 1 + 1, 1, none⟩ = some (.string ⟨#[]⟩) := la1
              clear la0 la1
              have HW := Aside0.mk (HL.out.alloc (.cells #[.int .i64 t.f0, .string t.f1] 65))
              have HLm := Aside0.mk (HW.out.lim HDr.out)
              have HNo : Aside0 (wrap64 (x13 + (t.f1.size : Int)) = ((off + t.f1.size : Nat) : Int)) := ⟨by have h0 := HLm.out; have h1 := HO.out; have h2 := HSz.out; unfold wrap64; omega⟩
              go_wp2_with (go_at_call 74; refine (Tryd.Buffer_WriteString_k w1.heap.size w1.heap.size (Lib.byteCells cs) t.f1 _ (by obtain ⟨vr', h⟩ := HW.out.dm; exact h.hbuf) (by obtain ⟨vr', h⟩ := HW.out.dm; exact Nat.le_of_lt h.hbuf.lt) (Lib.byteCells_one _) (by rw [bc_len]; have h1 := HLm.out; have h2 := HSz.out; omega)).mono ?_; rintro e w2 ⟨rfl, hI2, hB2, hK2⟩; rw [← Lib.byteCells_append] at hI2; have bx2 := hK2 wr.heap.size (.cells #[.int .i64 t.f0, .string t.f1] 65 (0, 0)) (blk_new wr _) (by intro e; have := Option.some.inj e; omega) (fun c fz e => by cases e); have la2 := hK2 (w1.heap.size + 1 + 1 + 1) _ (by obtain ⟨vr', h⟩ := HW.out.dm; exact h.hla) (by intro e; have := Option.some.inj e; omega) (fun c fz e => by cases e); have x20 : w2.cell? ⟨wr.heap.size, 0, none⟩ = some (.int .i64 t.f0) := (blk_cell bx2 0).trans rfl; have x21 : w2.cell? ⟨wr.heap.size, 1, none⟩ = some (.string t.f1) := (blk_cell bx2 1).trans rfl; have lx2 := blk_lt bx2; have z20 := (blk_cell la2 0).trans rfl; have z21 := (blk_cell la2 1).trans rfl; have y20 := blk_frozen la2 0; have y21 := blk_frozen la2 1; have ly2 := blk_lt la2; have nxy : wr.heap.size ≠ w1.heap.size + 1 + 1 + 1 := (by omega); have nyx : w1.heap.size + 1 + 1 + 1 ≠ wr.heap.size := (by omega); have HN := Aside0.mk (HW.out.other HDr.out HTo.out hI2 hB2 hK2); clear hI2 hB2 hK2 bx2 la2)
              go_roundg k1
              case measure => omega
              case rel =>
                have hk := HK.out
                have e1 : (wrap64 (x45 + 1)).toNat = x45.toNat + 1 := by rw [hwr.out]; omega
                refine ⟨_, wrap64 (x45 + 1), rfl, rfl, ⟨by rw [hwr.out]; have := of_eq_true q1; omega⟩, true, cs ++ bys t.f1, t, off + t.f1.size, q0, cur, rfl, HNo, ?_, ⟨⟨fun _ => .inr HTo.out, fun h => by cases h⟩⟩⟩
                rw [e1]
                exact HN
            · have la0' : wr.cell? ⟨w1.heap.size + 1 + 1 + 1, 0, none⟩ = some (.int .i64 (-12)) := by have h := la0; rw [hlo] at h; exact h
              clear la0 hlo
              cases cur with
              | none =>
                have hp0 : ptC none = Value.pointer none := rfl
                have HW := Aside0.mk (HL.out.alloc (.cells #[.int .i64 t.f0, .string t.f1] 65))
                have HLm := Aside0.mk (HW.out.lim HDr.out)
                have HNo : Aside0 (wrap64 (x13 + (t.f1.size : Int)) = ((off + t.f1.size : Nat) : Int)) := ⟨by have h0 := HLm.out; have h1 := HO.out; have h2 := HSz.out; unfold wrap64; omega⟩
                go_wp2_with (go_at_call 74; refine (Tryd.Buffer_WriteString_k w1.heap.size w1.heap.size (Lib.byteCells cs) t.f1 _ (by obtain ⟨vr', h⟩ := HW.out.dm; exact h.hbuf) (by obtain ⟨vr', h⟩ := HW.out.dm; exact Nat.le_of_lt h.hbuf.lt) (Lib.byteCells_one _) (by rw [bc_len]; have h1 := HLm.out; have h2 := HSz.out; omega)).mono ?_; rintro e w2 ⟨rfl, hI2, hB2, hK2⟩; rw [← Lib.byteCells_append] at hI2; have bx2 := hK2 wr.heap.size (.cells #[.int .i64 t.f0, .string t.f1] 65 (0, 0)) (blk_new wr _) (by intro e; have := Option.some.inj e; omega) (fun c fz e => by cases e); have la2 := hK2 (w1.heap.size + 1 + 1 + 1) _ (by obtain ⟨vr', h⟩ := HW.out.dm; exact h.hla) (by intro e; have := Option.some.inj e; omega) (fun c fz e => by cases e); have x20 : w2.cell? ⟨wr.heap.size, 0, none⟩ = some (.int .i64 t.f0) := (blk_cell bx2 0).trans rfl; have x21 : w2.cell? ⟨wr.heap.size, 1, none⟩ = some (.string t.f1) := (blk_cell bx2 1).trans rfl; have lx2 := blk_lt bx2; have z20 := (blk_cell la2 0).trans rfl; have z21 := (blk_cell la2 1).trans rfl; have y20 := blk_frozen la2 0; have y21 := blk_frozen la2 1; have ly2 := blk_lt la2; have nxy : wr.heap.size ≠ w1.heap.size + 1 + 1 + 1 := (by omega); have nyx : w1.heap.size + 1 + 1 + 1 ≠ wr.heap.size := (by omega); have HN := Aside0.mk (HW.out.other HDr.out HTo.out hI2 hB2 hK2); clear hI2 hB2 hK2 bx2 la2)
                go_roundg k1
                case measure => omega
                case rel =>
                  have hk := HK.out
                  have e1 : (wrap64 (x45 + 1)).toNat = x45.toNat + 1 := by rw [hwr.out]; omega
                  refine ⟨_, wrap64 (x45 + 1), rfl, rfl, ⟨by rw [hwr.out]; have := of_eq_true q1; omega⟩, true, cs ++ bys t.f1, t, off + t.f1.size, q0, none, rfl, HNo, ?_, ⟨⟨fun _ => .inr HTo.out, fun h => by cases h⟩⟩⟩
                  rw [e1]
                  exact HN
              | some c =>
                obtain ⟨b, i, v⟩ := c
                have hp1 : ptC (some (b, i, v)) = .pointer (some ⟨b, 0, none⟩) := rfl
                have HW := Aside0.mk (HL.out.alloc (.cells #[.int .i64 t.f0, .string t.f1] 65))
                have HLm := Aside0.mk (HW.out.lim HDr.out)
                have HNo : Aside0 (wrap64 (x13 + (t.f1.size : Int)) = ((off + t.f1.size : Nat) : Int)) := ⟨by have h0 := HLm.out; have h1 := HO.out; have h2 := HSz.out; unfold wrap64; omega⟩
                go_wp2_with (go_at_call 74; refine (Tryd.Buffer_WriteString_k w1.heap.size w1.heap.size (Lib.byteCells cs) t.f1 _ (by obtain ⟨vr', h⟩ := HW.out.dm; exact h.hbuf) (by obtain ⟨vr', h⟩ := HW.out.dm; exact Nat.le_of_lt h.hbuf.lt) (Lib.byteCells_one _) (by rw [bc_len]; have h1 := HLm.out; have h2 := HSz.out; omega)).mono ?_; rintro e w2 ⟨rfl, hI2, hB2, hK2⟩; rw [← Lib.byteCells_append] at hI2; have bx2 := hK2 wr.heap.size (.cells #[.int .i64 t.f0, .string t.f1] 65 (0, 0)) (blk_new wr _) (by intro e; have := Option.some.inj e; omega) (fun c fz e => by cases e); have la2 := hK2 (w1.heap.size + 1 + 1 + 1) _ (by obtain ⟨vr', h⟩ := HW.out.dm; exact h.hla) (by intro e; have := Option.some.inj e; omega) (fun c fz e => by cases e); have x20 : w2.cell? ⟨wr.heap.size, 0, none⟩ = some (.int .i64 t.f0) := (blk_cell bx2 0).trans rfl; have x21 : w2.cell? ⟨wr.heap.size, 1, none⟩ = some (.string t.f1) := (blk_cell bx2 1).trans rfl; have lx2 := blk_lt bx2; have z20 := (blk_cell la2 0).trans rfl; have z21 := (blk_cell la2 1).trans rfl; have y20 := blk_frozen la2 0; have y21 := blk_frozen la2 1; have ly2 := blk_lt la2; have nxy : wr.heap.size ≠ w1.heap.size + 1 + 1 + 1 := (by omega); have nyx : w1.heap.size + 1 + 1 + 1 ≠ wr.heap.size := (by omega); have HN := Aside0.mk (HW.out.other HDr.out HTo.out hI2 hB2 hK2); clear hI2 hB2 hK2 bx2 la2)
                go_roundg k1
                case measure => omega
                case rel =>
                  have hk := HK.out
                  have e1 : (wrap64 (x45 + 1)).toNat = x45.toNat + 1 := by rw [hwr.out]; omega
                  refine ⟨_, wrap64 (x45 + 1), rfl, rfl, ⟨by rw [hwr.out]; have := of_eq_true q1; omega⟩, true, cs ++ bys t.f1, t, off + t.f1.size, q0, some (b, i, v), rfl, HNo, ?_, ⟨⟨fun _ => .inr HTo.out, fun h => by cases h⟩⟩⟩
                  rw [e1]
                  exact HN
          | false =>
            obtain ⟨z1, z2, c, rfl⟩ := HM.out.h2 rfl
            obtain ⟨b, i, v⟩ := c
            have hp1 : ptC (some (b, i, v)) = .pointer (some ⟨b, 0, none⟩) := rfl
            have z1b : (la.f0 == 0) = false := beq_eq_false_iff_ne.2 z1
            have z2b : (la.f0 == -12) = false := beq_eq_false_iff_ne.2 z2
            have z2c : (la.f0 != -12) = true := bne_iff_ne.2 z2
            have hcI := HL.out.hc _ rfl
            have bc1 : wr.cell? ⟨b, 1, none⟩ = some (.int .i64 (i.en : Int)) := (blk_cell hcI.hc 1).trans rfl
            have bf1 := blk_frozen hcI.hc 1
            have lb := blk_lt hcI.hc
            have hb4 := hcI.hb
            have nbw : b ≠ wr.heap.size := Nat.ne_of_lt lb
            have nwb : wr.heap.size ≠ b := fun e => nbw e.symm
            clear hcI
            have HW := Aside0.mk (by have h := (HL.out.close HDr.out HTo.out).alloc (.cells #[.int .i64 t.f0, .string t.f1] 65); rw [← HO.out] at h; exact h)
            have HLm := Aside0.mk (HW.out.lim HDr.out)
            have HNo : Aside0 (wrap64 (x13 + (t.f1.size : Int)) = ((off + t.f1.size : Nat) : Int)) := ⟨by have h0 := HLm.out; have h1 := HO.out; have h2 := HSz.out; unfold wrap64; omega⟩
            go_wp2_with (go_at_call 74; refine (Tryd.Buffer_WriteString_k w1.heap.size w1.heap.size (Lib.byteCells cs) t.f1 _ (by obtain ⟨vr', h⟩ := HW.out.dm; exact h.hbuf) (by obtain ⟨vr', h⟩ := HW.out.dm; exact Nat.le_of_lt h.hbuf.lt) (Lib.byteCells_one _) (by rw [bc_len]; have h1 := HLm.out; have h2 := HSz.out; omega)).mono ?_; rintro e w2 ⟨rfl, hI2, hB2, hK2⟩; rw [← Lib.byteCells_append] at hI2; have bx2 := hK2 wr.heap.size (.cells #[.int .i64 t.f0, .string t.f1] 65 (0, 0)) (by have h := blk_new (wr.setCell ⟨b, 1, none⟩ (.int .i64 x13)) (.cells #[.int .i64 t.f0, .string t.f1] 65); rw [World.size_setCell] at h; exact h) (by intro e; have := Option.some.inj e; omega) (fun c fz e => by cases e); have la2 := hK2 (w1.heap.size + 1 + 1 + 1) _ (by obtain ⟨vr', h⟩ := HW.out.dm; exact h.hla) (by intro e; have := Option.some.inj e; omega) (fun c fz e => by cases e); have x20 : w2.cell? ⟨wr.heap.size, 0, none⟩ = some (.int .i64 t.f0) := (blk_cell bx2 0).trans rfl; have x21 : w2.cell? ⟨wr.heap.size, 1, none⟩ = some (.string t.f1) := (blk_cell bx2 1).trans rfl; have lx2 := blk_lt bx2; have z20 := (blk_cell la2 0).trans rfl; have z21 := (blk_cell la2 1).trans rfl; have y20 := blk_frozen la2 0; have y21 := blk_frozen la2 1; have ly2 := blk_lt la2; have nxy : wr.heap.size ≠ w1.heap.size + 1 + 1 + 1 := (by omega); have nyx : w1.heap.size + 1 + 1 + 1 ≠ wr.heap.size := (by omega); have HN := Aside0.mk (HW.out.other HDr.out HTo.out hI2 hB2 hK2); clear hI2 hB2 hK2 bx2 la2)
            go_roundg k1
            case measure => omega
            case rel =>
              have hk := HK.out
              have e1 : (wrap64 (x45 + 1)).toNat = x45.toNat + 1 := by rw [hwr.out]; omega
              refine ⟨_, wrap64 (x45 + 1), rfl, rfl, ⟨by rw [hwr.out]; have := of_eq_true q1; omega⟩, true, cs ++ bys t.f1, t, off + t.f1.size, q0, some (b, ⟨i.st, off, i.tk⟩, v), rfl, HNo, ?_, ⟨⟨fun _ => .inr HTo.out, fun h => by cases h⟩⟩⟩
              rw [e1]
              exact HN
        --MINE
        · have hto1 : (t.f0 == -12) = false := beq_eq_false_iff_ne.2 hto
          have HTo := Aside0.mk hto
          clear hto
          cases md with
          | true =>
            obtain ⟨ps, hps⟩ : ∃ ps, ps = q0.map (·.1) ++ (cur.map (·.1)).toList := ⟨_, rfl⟩
            have hpl : ps.length ≤ x45.toNat + 1 := by
              rw [hps, List.length_append, List.length_map]
              have := HL.out.hl
              cases cur <;> simp <;> omega
            rw [← hps] at HDm
            obtain ⟨Ar, cr, hvr⟩ := Kd.R_slice HDm.out.hrow
            subst hvr
            have HPs := Aside0.mk (And.intro hps hpl)
            have br0 : wr.cell? ⟨w1.heap.size + 1 + 1, 0, none⟩ = some (.slice Ar ps.length cr) := (blk_cell HDm.out.hbi 0).trans rfl
            have lbr : w1.heap.size + 1 + 1 < wr.heap.size := blk_lt HDm.out.hbi
            clear hps hpl
            have HLw := Aside0.mk lla
            rcases HM.out.h1 rfl with hle | hlo
            · have hee := isE_eof hle
              have la0' : wr.cell? ⟨w1.heap.size + 1 + 1 + 1, 0, none⟩ = some (.int .i64 0) := by have h := la0; rw [hee] at h; exact h
              have la1' : wr.cell? ⟨w1.heap.size + 1 + 1 + 1, 1, none⟩ = some (.string ⟨#[]⟩) := by have h := la1; rw [hee] at h; exact h
              clear la0 la1 hee hle
              have br2 : ((wr.alloc (.cells #[.int .i64 t.f0, .string t.f1] 65)).alloc (.cells #[.int .i64 x13, .int .i64 0, .slice none 0 0] 131)).cell? ⟨w1.heap.size + 1 + 1, 0, none⟩ = some (.slice Ar ps.length cr) := (blk_cell ((HDm.out.alloc (.cells #[.int .i64 t.f0, .string t.f1] 65)).alloc (.cells #[.int .i64 x13, .int .i64 0, .slice none 0 0] 131)).hbi 0).trans rfl
              have lbr2 : w1.heap.size + 1 + 1 < wr.heap.size + 1 := by omega
              go_wp2_with ((with_reducible refine gate_builtin (b := .append) (xs := #[.tmp 83, .tmp 85]) rfl ?_); at_builtin; refine Kd.R_append kP (w0 := w1) w1.heap.size rfl (.tmp 83) (.tmp 85) 128 129 (.pointer none) 8 rfl Tryd.underlying128 infoPI rfl (by decide) (by omega) (.slice Ar ps.length cr) ps (wr.heap.size + 1) [.pointer (some ⟨wr.heap.size + 1, 0, none⟩)] (fun _ => True) (fun _ => False) rfl (by first | (go_simp; done) | (go_simp; rfl)) ?aP (fun _ hk => hk.elim) ?aF ?aO ?aB ?aS ?aL ?_; (case aP => exact kP_mkM _ _ _ _); (case aB => exact ((HL.out.alloc (.cells #[.int .i64 t.f0, .string t.f1] 65)).alloc (.cells #[.int .i64 x13, .int .i64 0, .slice none 0 0] 131)).hB); (case aF => exact (fun _ _ => trivial)); (case aO => exact ((HDm.out.alloc (.cells #[.int .i64 t.f0, .string t.f1] 65)).alloc (.cells #[.int .i64 x13, .int .i64 0, .slice none 0 0] 131)).hrow); (case aS => have := HLw.out; rw [World.size_alloc, World.size_alloc]; omega); (case aL => have h1 := HPs.out.2; have h2 := HK.out; have h3 := hlen.out; omega); intro v1 w8 ho hb8 hg hat; obtain ⟨A8, c8, rfl⟩ := Kd.R_slice ho; have hlA : (ps ++ [wr.heap.size + 1]).length = ps.length + 1 := (by simp); rw [hlA] at ho hat; clear hlA; have bi8 := (hg.block (w1.heap.size + 1 + 1) (by rw [World.size_alloc, World.size_alloc]; omega) (Kd.R_ne ((HDm.out.alloc (.cells #[.int .i64 t.f0, .string t.f1] 65)).alloc (.cells #[.int .i64 x13, .int .i64 0, .slice none 0 0] 131)).hrow ((HDm.out.alloc (.cells #[.int .i64 t.f0, .string t.f1] 65)).alloc (.cells #[.int .i64 x13, .int .i64 0, .slice none 0 0] 131)).hbi (by decide))).trans ((HDm.out.alloc (.cells #[.int .i64 t.f0, .string t.f1] 65)).alloc (.cells #[.int .i64 x13, .int .i64 0, .slice none 0 0] 131)).hbi; have s20 : w8.cell? ⟨w1.heap.size + 1 + 1, 0, none⟩ = some (.slice Ar ps.length cr) := (blk_cell bi8 0).trans rfl; have sf2 := blk_frozen bi8 0; have sl2 := blk_lt bi8; have HHo := Aside0.mk ho; have HHb := Aside0.mk hb8; have HHg := Aside0.mk hg; have HHi := Aside0.mk bi8; clear ho hb8 hg hat bi8)
              obtain ⟨W9, hW9⟩ : ∃ W9, W9 = w8.setCell ⟨w1.heap.size + 1 + 1, 0, none⟩ (.slice A8 (ps.length + 1) c8) := ⟨_, rfl⟩
              rw [← hW9]
              obtain ⟨i, hi⟩ : ∃ i : Ins, i = ⟨off, 0, []⟩ := ⟨_, rfl⟩
              obtain ⟨q9, hq9⟩ : ∃ q9, q9 = q0 ++ (cur.map fun c => (c.1, c.2.1)).toList := ⟨_, rfl⟩
              have HDa := Aside0.mk (HDm.out.alloc (.cells #[.int .i64 t.f0, .string t.f1] 65))
              have HRd : Aside0 (Rdy R w1.heap.size w1 x45.toNat t cs la off q9 (wr.heap.size + 1) i (.slice none 0 0) W9) := ⟨by
                have h := HHg.out
                have ho := HHo.out
                have hd := HDa.out
                rw [HO.out] at h
                rw [HPs.out.1] at ho hd h
                have := (HL.out.alloc (.cells #[.int .i64 t.f0, .string t.f1] 65)).fresh (t := t) hd HDr.out HTo.out (by rw [World.size_alloc]; have := HLw.out; omega) h HHb.out (by rw [World.size_alloc]; exact ho)
                rw [World.size_alloc, ← HPs.out.1] at this
                rw [hW9, hi, hq9]
                exact this⟩
              have hx8 : w8.heap[wr.heap.size]? = some (.cells #[.int .i64 t.f0, .string t.f1] 65 (0, 0)) := (HHg.out.block _ (by rw [World.size_alloc, World.size_alloc]; omega) (Kd.R_ne (HDa.out.alloc (.cells #[.int .i64 x13, .int .i64 0, .slice none 0 0] 131)).hrow (blk_alloc (blk_new wr (.cells #[.int .i64 t.f0, .string t.f1] 65)) (.cells #[.int .i64 x13, .int .i64 0, .slice none 0 0] 131)) (by decide))).trans (blk_alloc (blk_new wr (.cells #[.int .i64 t.f0, .string t.f1] 65)) (.cells #[.int .i64 x13, .int .i64 0, .slice none 0 0] 131))
              have hl8 : w8.heap[w1.heap.size + 1 + 1 + 1]? = some (.cells #[.int .i64 la.f0, .string la.f1] 65 (0, 0)) := (HHg.out.block _ (by rw [World.size_alloc, World.size_alloc]; have := HLw.out; omega) (Kd.R_ne (HDa.out.alloc (.cells #[.int .i64 x13, .int .i64 0, .slice none 0 0] 131)).hrow (HDa.out.alloc (.cells #[.int .i64 x13, .int .i64 0, .slice none 0 0] 131)).hla (by decide))).trans (HDa.out.alloc (.cells #[.int .i64 x13, .int .i64 0, .slice none 0 0] 131)).hla
              have HX9 : Aside0 (W9.heap[wr.heap.size]? = some (.cells #[.int .i64 t.f0, .string t.f1] 65 (0, 0))) := ⟨by rw [hW9]; exact (Below.heap_setCell _ ⟨w1.heap.size + 1 + 1, 0, none⟩ _ _ (by show wr.heap.size ≠ w1.heap.size + 1 + 1; have := HLw.out; omega)).trans hx8⟩
              have HLA9 : Aside0 (W9.heap[w1.heap.size + 1 + 1 + 1]? = some (.cells #[.int .i64 la.f0, .string la.f1] 65 (0, 0))) := ⟨by rw [hW9]; exact (Below.heap_setCell _ ⟨w1.heap.size + 1 + 1, 0, none⟩ _ _ (by show w1.heap.size + 1 + 1 + 1 ≠ w1.heap.size + 1 + 1; omega)).trans hl8⟩
              have HnB : Aside0 (wr.heap.size + 1 ≠ wr.heap.size) := ⟨by omega⟩
              have HOw : Aside0 (some wr.heap.size ≠ (.slice none 0 0 : Value).ownBlock) := ⟨by simp [Value.ownBlock]⟩
              clear hx8 hl8 hW9 s20 sf2 sl2 la0' la1' laf0 laf1 lla hy0 hy1 br0 lbr br2 lbr2 hq9 hi
              generalize wr.heap.size + 1 = b at HRd HnB ⊢
              have HNo : Aside0 (wrap64 (x13 + (t.f1.size : Int)) = ((off + t.f1.size : Nat) : Int)) := ⟨by have h0 := (HL.out.lim HDr.out).2; have h1 := HO.out; have h2 := HSz.out; unfold wrap64; omega⟩
              have i2 : W9.cell? ⟨b, 2, none⟩ = some (.slice none 0 0) := (blk_cell HRd.out.hc.hc 2).trans rfl
              have if2 := blk_frozen HRd.out.hc.hc 2
              have li := blk_lt HRd.out.hc.hc
              have x20 : W9.cell? ⟨wr.heap.size, 0, none⟩ = some (.int .i64 t.f0) := (blk_cell HX9.out 0).trans rfl
              have x21 : W9.cell? ⟨wr.heap.size, 1, none⟩ = some (.string t.f1) := (blk_cell HX9.out 1).trans rfl
              have lx := blk_lt HX9.out
              have HXn : Aside0 (some wr.heap.size ≠ (.slice none 0 0 : Value).ownBlock) := HOw
              have hNB : Aside0 (b ≠ wr.heap.size ∧ w1.heap.size + 4 ≤ W9.heap.size) := ⟨HnB.out, Nat.le_trans HRd.out.hc.hb (Nat.le_of_lt li)⟩
              have hbd : Aside0 ((i.tk.length + 1) * 24 ≤ 140737488355328) := ⟨by have h1 := HRd.out.hk; have h2 := HK.out; have h3 := hlen.out; omega⟩
              have HRe := Aside0.mk HRd.out.drew
              go_region_law (first | ((refine Kd.R_append_step kC (w0 := W9.drew) (w1.heap.size + 4) (by rfl) (.tmp 91) (.tmp 93) 50 65 (.agg #[(.int .i64 0), (.string ⟨#[]⟩)]) 24 (by rfl) Tryd.underlying50 info65 rfl (by decide) (by decide) (.slice none 0 0) i.tk t [.int .i64 t.f0, .string t.f1] (fun _ => True) (fun _ => False) (by rfl) (by rfl) (k65_mkM _ _ _ t) (fun _ hk => hk.elim) (fun _ _ => trivial) HRe.out.hc.hr (Below.refl _ _) hNB.out.2 hbd.out ?_; intro v1 w8 ho hb8 hg hat; obtain ⟨A9, c9, rfl⟩ := Kd.R_slice ho; have hlA : (i.tk ++ [t]).length = i.tk.length + 1 := (by simp); rw [hlA] at ho hat; clear hlA; have hb9 := (hg.block b (blk_lt HRe.out.hc.hc) (Kd.R_ne HRe.out.hc.hr HRe.out.hc.hc (by decide))).trans HRe.out.hc.hc; have hx9 := (hg.block wr.heap.size (blk_lt HX9.out) HXn.out).trans HX9.out; have la9 := (hg.block (w1.heap.size + 1 + 1 + 1) (blk_lt HLA9.out) (by simp [Value.ownBlock])).trans HLA9.out; have b20 : w8.cell? ⟨b, 2, none⟩ = some (.slice none 0 0) := (blk_cell hb9 2).trans rfl; have bf2 := blk_frozen hb9 2; have lb2 := blk_lt hb9; have HD8 := Aside0.mk (HRe.out.done hg (HRe.out.hB.trans (hb8.mono (by omega))) ho hat htz); have HX8 := Aside0.mk hx9; have HA8 := Aside0.mk la9; have y30 : w8.cell? ⟨wr.heap.size, 0, none⟩ = some (.int .i64 t.f0) := (blk_cell hx9 0).trans rfl; have y31 : w8.cell? ⟨wr.heap.size, 1, none⟩ = some (.string t.f1) := (blk_cell hx9 1).trans rfl; have ly3 := blk_lt hx9; have z30 : w8.cell? ⟨w1.heap.size + 1 + 1 + 1, 0, none⟩ = some (.int .i64 la.f0) := (blk_cell la9 0).trans rfl; have z31 : w8.cell? ⟨w1.heap.size + 1 + 1 + 1, 1, none⟩ = some (.string la.f1) := (blk_cell la9 1).trans rfl; have zf0 := blk_frozen la9 0; have zf1 := blk_frozen la9 1; have lz3 := blk_lt la9; have n1 : b ≠ wr.heap.size := hNB.out.1; have n2 : wr.heap.size ≠ b := (fun e => n1 e.symm); have n3 : b ≠ w1.heap.size + 1 + 1 + 1 := (by have := HRe.out.hc.hb; omega); have n4 : w1.heap.size + 1 + 1 + 1 ≠ b := (fun e => n3 e.symm); have n5 : wr.heap.size ≠ w1.heap.size + 1 + 1 + 1 := (by have := HLw.out; omega); have n6 : w1.heap.size + 1 + 1 + 1 ≠ wr.heap.size := (fun e => n5 e.symm); clear ho hb8 hg hat hb9 hx9 la9)))
              all_goals
                go_wp2
                go_roundg k1
                case measure => omega
                case rel =>
                  have hk := HK.out
                  have e1 : (wrap64 (x45 + 1)).toNat = x45.toNat + 1 := by rw [hwr.out]; omega
                  refine ⟨_, wrap64 (x45 + 1), rfl, rfl, ⟨by rw [hwr.out]; have := of_eq_true q1; omega⟩, false, cs, t, off + t.f1.size, q9, some (b, ⟨i.st, i.en, i.tk ++ [t]⟩, .slice A9 (i.tk.length + 1) c9), rfl, HNo, ?_, ⟨⟨fun h => (by cases h), fun _ => ⟨htz, HTo.out, _, rfl⟩⟩⟩⟩
                  rw [e1]
                  exact HD8
            · have la0' : wr.cell? ⟨w1.heap.size + 1 + 1 + 1, 0, none⟩ = some (.int .i64 (-12)) := by have h := la0; rw [hlo] at h; exact h
              clear la0 hlo
              have br2 : ((wr.alloc (.cells #[.int .i64 t.f0, .string t.f1] 65)).alloc (.cells #[.int .i64 x13, .int .i64 0, .slice none 0 0] 131)).cell? ⟨w1.heap.size + 1 + 1, 0, none⟩ = some (.slice Ar ps.length cr) := (blk_cell ((HDm.out.alloc (.cells #[.int .i64 t.f0, .string t.f1] 65)).alloc (.cells #[.int .i64 x13, .int .i64 0, .slice none 0 0] 131)).hbi 0).trans rfl
              have lbr2 : w1.heap.size + 1 + 1 < wr.heap.size + 1 := by omega
              go_wp2_with ((with_reducible refine gate_builtin (b := .append) (xs := #[.tmp 83, .tmp 85]) rfl ?_); at_builtin; refine Kd.R_append kP (w0 := w1) w1.heap.size rfl (.tmp 83) (.tmp 85) 128 129 (.pointer none) 8 rfl Tryd.underlying128 infoPI rfl (by decide) (by omega) (.slice Ar ps.length cr) ps (wr.heap.size + 1) [.pointer (some ⟨wr.heap.size + 1, 0, none⟩)] (fun _ => True) (fun _ => False) rfl (by first | (go_simp; done) | (go_simp; rfl)) ?aP (fun _ hk => hk.elim) ?aF ?aO ?aB ?aS ?aL ?_; (case aP => exact kP_mkM _ _ _ _); (case aB => exact ((HL.out.alloc (.cells #[.int .i64 t.f0, .string t.f1] 65)).alloc (.cells #[.int .i64 x13, .int .i64 0, .slice none 0 0] 131)).hB); (case aF => exact (fun _ _ => trivial)); (case aO => exact ((HDm.out.alloc (.cells #[.int .i64 t.f0, .string t.f1] 65)).alloc (.cells #[.int .i64 x13, .int .i64 0, .slice none 0 0] 131)).hrow); (case aS => have := HLw.out; rw [World.size_alloc, World.size_alloc]; omega); (case aL => have h1 := HPs.out.2; have h2 := HK.out; have h3 := hlen.out; omega); intro v1 w8 ho hb8 hg hat; obtain ⟨A8, c8, rfl⟩ := Kd.R_slice ho; have hlA : (ps ++ [wr.heap.size + 1]).length = ps.length + 1 := (by simp); rw [hlA] at ho hat; clear hlA; have bi8 := (hg.block (w1.heap.size + 1 + 1) (by rw [World.size_alloc, World.size_alloc]; omega) (Kd.R_ne ((HDm.out.alloc (.cells #[.int .i64 t.f0, .string t.f1] 65)).alloc (.cells #[.int .i64 x13, .int .i64 0, .slice none 0 0] 131)).hrow ((HDm.out.alloc (.cells #[.int .i64 t.f0, .string t.f1] 65)).alloc (.cells #[.int .i64 x13, .int .i64 0, .slice none 0 0] 131)).hbi (by decide))).trans ((HDm.out.alloc (.cells #[.int .i64 t.f0, .string t.f1] 65)).alloc (.cells #[.int .i64 x13, .int .i64 0, .slice none 0 0] 131)).hbi; have s20 : w8.cell? ⟨w1.heap.size + 1 + 1, 0, none⟩ = some (.slice Ar ps.length cr) := (blk_cell bi8 0).trans rfl; have sf2 := blk_frozen bi8 0; have sl2 := blk_lt bi8; have HHo := Aside0.mk ho; have HHb := Aside0.mk hb8; have HHg := Aside0.mk hg; have HHi := Aside0.mk bi8; clear ho hb8 hg hat bi8)
              obtain ⟨W9, hW9⟩ : ∃ W9, W9 = w8.setCell ⟨w1.heap.size + 1 + 1, 0, none⟩ (.slice A8 (ps.length + 1) c8) := ⟨_, rfl⟩
              rw [← hW9]
              obtain ⟨i, hi⟩ : ∃ i : Ins, i = ⟨off, 0, []⟩ := ⟨_, rfl⟩
              obtain ⟨q9, hq9⟩ : ∃ q9, q9 = q0 ++ (cur.map fun c => (c.1, c.2.1)).toList := ⟨_, rfl⟩
              have HDa := Aside0.mk (HDm.out.alloc (.cells #[.int .i64 t.f0, .string t.f1] 65))
              have HRd : Aside0 (Rdy R w1.heap.size w1 x45.toNat t cs la off q9 (wr.heap.size + 1) i (.slice none 0 0) W9) := ⟨by
                have h := HHg.out
                have ho := HHo.out
                have hd := HDa.out
                rw [HO.out] at h
                rw [HPs.out.1] at ho hd h
                have := (HL.out.alloc (.cells #[.int .i64 t.f0, .string t.f1] 65)).fresh (t := t) hd HDr.out HTo.out (by rw [World.size_alloc]; have := HLw.out; omega) h HHb.out (by rw [World.size_alloc]; exact ho)
                rw [World.size_alloc, ← HPs.out.1] at this
                rw [hW9, hi, hq9]
                exact this⟩
              have hx8 : w8.heap[wr.heap.size]? = some (.cells #[.int .i64 t.f0, .string t.f1] 65 (0, 0)) := (HHg.out.block _ (by rw [World.size_alloc, World.size_alloc]; omega) (Kd.R_ne (HDa.out.alloc (.cells #[.int .i64 x13, .int .i64 0, .slice none 0 0] 131)).hrow (blk_alloc (blk_new wr (.cells #[.int .i64 t.f0, .string t.f1] 65)) (.cells #[.int .i64 x13, .int .i64 0, .slice none 0 0] 131)) (by decide))).trans (blk_alloc (blk_new wr (.cells #[.int .i64 t.f0, .string t.f1] 65)) (.cells #[.int .i64 x13, .int .i64 0, .slice none 0 0] 131))
              have hl8 : w8.heap[w1.heap.size + 1 + 1 + 1]? = some (.cells #[.int .i64 la.f0, .string la.f1] 65 (0, 0)) := (HHg.out.block _ (by rw [World.size_alloc, World.size_alloc]; have := HLw.out; omega) (Kd.R_ne (HDa.out.alloc (.cells #[.int .i64 x13, .int .i64 0, .slice none 0 0] 131)).hrow (HDa.out.alloc (.cells #[.int .i64 x13, .int .i64 0, .slice none 0 0] 131)).hla (by decide))).trans (HDa.out.alloc (.cells #[.int .i64 x13, .int .i64 0, .slice none 0 0] 131)).hla
              have HX9 : Aside0 (W9.heap[wr.heap.size]? = some (.cells #[.int .i64 t.f0, .string t.f1] 65 (0, 0))) := ⟨by rw [hW9]; exact (Below.heap_setCell _ ⟨w1.heap.size + 1 + 1, 0, none⟩ _ _ (by show wr.heap.size ≠ w1.heap.size + 1 + 1; have := HLw.out; omega)).trans hx8⟩
              have HLA9 : Aside0 (W9.heap[w1.heap.size + 1 + 1 + 1]? = some (.cells #[.int .i64 la.f0, .string la.f1] 65 (0, 0))) := ⟨by rw [hW9]; exact (Below.heap_setCell _ ⟨w1.heap.size + 1 + 1, 0, none⟩ _ _ (by show w1.heap.size + 1 + 1 + 1 ≠ w1.heap.size + 1 + 1; omega)).trans hl8⟩
              have HnB : Aside0 (wr.heap.size + 1 ≠ wr.heap.size) := ⟨by omega⟩
              have HOw : Aside0 (some wr.heap.size ≠ (.slice none 0 0 : Value).ownBlock) := ⟨by simp [Value.ownBlock]⟩
              clear hx8 hl8 hW9 s20 sf2 sl2 la0' la1 laf0 laf1 lla hy0 hy1 br0 lbr br2 lbr2 hq9 hi
              generalize wr.heap.size + 1 = b at HRd HnB ⊢
              have HNo : Aside0 (wrap64 (x13 + (t.f1.size : Int)) = ((off + t.f1.size : Nat) : Int)) := ⟨by have h0 := (HL.out.lim HDr.out).2; have h1 := HO.out; have h2 := HSz.out; unfold wrap64; omega⟩
              have i2 : W9.cell? ⟨b, 2, none⟩ = some (.slice none 0 0) := (blk_cell HRd.out.hc.hc 2).trans rfl
              have if2 := blk_frozen HRd.out.hc.hc 2
              have li := blk_lt HRd.out.hc.hc
              have x20 : W9.cell? ⟨wr.heap.size, 0, none⟩ = some (.int .i64 t.f0) := (blk_cell HX9.out 0).trans rfl
              have x21 : W9.cell? ⟨wr.heap.size, 1, none⟩ = some (.string t.f1) := (blk_cell HX9.out 1).trans rfl
              have lx := blk_lt HX9.out
              have HXn : Aside0 (some wr.heap.size ≠ (.slice none 0 0 : Value).ownBlock) := HOw
              have hNB : Aside0 (b ≠ wr.heap.size ∧ w1.heap.size + 4 ≤ W9.heap.size) := ⟨HnB.out, Nat.le_trans HRd.out.hc.hb (Nat.le_of_lt li)⟩
              have hbd : Aside0 ((i.tk.length + 1) * 24 ≤ 140737488355328) := ⟨by have h1 := HRd.out.hk; have h2 := HK.out; have h3 := hlen.out; omega⟩
              have HRe := Aside0.mk HRd.out.drew
              go_region_law (first | ((refine Kd.R_append_step kC (w0 := W9.drew) (w1.heap.size + 4) (by rfl) (.tmp 91) (.tmp 93) 50 65 (.agg #[(.int .i64 0), (.string ⟨#[]⟩)]) 24 (by rfl) Tryd.underlying50 info65 rfl (by decide) (by decide) (.slice none 0 0) i.tk t [.int .i64 t.f0, .string t.f1] (fun _ => True) (fun _ => False) (by rfl) (by rfl) (k65_mkM _ _ _ t) (fun _ hk => hk.elim) (fun _ _ => trivial) HRe.out.hc.hr (Below.refl _ _) hNB.out.2 hbd.out ?_; intro v1 w8 ho hb8 hg hat; obtain ⟨A9, c9, rfl⟩ := Kd.R_slice ho; have hlA : (i.tk ++ [t]).length = i.tk.length + 1 := (by simp); rw [hlA] at ho hat; clear hlA; have hb9 := (hg.block b (blk_lt HRe.out.hc.hc) (Kd.R_ne HRe.out.hc.hr HRe.out.hc.hc (by decide))).trans HRe.out.hc.hc; have hx9 := (hg.block wr.heap.size (blk_lt HX9.out) HXn.out).trans HX9.out; have la9 := (hg.block (w1.heap.size + 1 + 1 + 1) (blk_lt HLA9.out) (by simp [Value.ownBlock])).trans HLA9.out; have b20 : w8.cell? ⟨b, 2, none⟩ = some (.slice none 0 0) := (blk_cell hb9 2).trans rfl; have bf2 := blk_frozen hb9 2; have lb2 := blk_lt hb9; have HD8 := Aside0.mk (HRe.out.done hg (HRe.out.hB.trans (hb8.mono (by omega))) ho hat htz); have HX8 := Aside0.mk hx9; have HA8 := Aside0.mk la9; have y30 : w8.cell? ⟨wr.heap.size, 0, none⟩ = some (.int .i64 t.f0) := (blk_cell hx9 0).trans rfl; have y31 : w8.cell? ⟨wr.heap.size, 1, none⟩ = some (.string t.f1) := (blk_cell hx9 1).trans rfl; have ly3 := blk_lt hx9; have z30 : w8.cell? ⟨w1.heap.size + 1 + 1 + 1, 0, none⟩ = some (.int .i64 la.f0) := (blk_cell la9 0).trans rfl; have z31 : w8.cell? ⟨w1.heap.size + 1 + 1 + 1, 1, none⟩ = some (.string la.f1) := (blk_cell la9 1).trans rfl; have zf0 := blk_frozen la9 0; have zf1 := blk_frozen la9 1; have lz3 := blk_lt la9; have n1 : b ≠ wr.heap.size := hNB.out.1; have n2 : wr.heap.size ≠ b := (fun e => n1 e.symm); have n3 : b ≠ w1.heap.size + 1 + 1 + 1 := (by have := HRe.out.hc.hb; omega); have n4 : w1.heap.size + 1 + 1 + 1 ≠ b := (fun e => n3 e.symm); have n5 : wr.heap.size ≠ w1.heap.size + 1 + 1 + 1 := (by have := HLw.out; omega); have n6 : w1.heap.size + 1 + 1 + 1 ≠ wr.heap.size := (fun e => n5 e.symm); clear ho hb8 hg hat hb9 hx9 la9)))
              all_goals
                go_wp2
                go_roundg k1
                case measure => omega
                case rel =>
                  have hk := HK.out
                  have e1 : (wrap64 (x45 + 1)).toNat = x45.toNat + 1 := by rw [hwr.out]; omega
                  refine ⟨_, wrap64 (x45 + 1), rfl, rfl, ⟨by rw [hwr.out]; have := of_eq_true q1; omega⟩, false, cs, t, off + t.f1.size, q9, some (b, ⟨i.st, i.en, i.tk ++ [t]⟩, .slice A9 (i.tk.length + 1) c9), rfl, HNo, ?_, ⟨⟨fun h => (by cases h), fun _ => ⟨htz, HTo.out, _, rfl⟩⟩⟩⟩
                  rw [e1]
                  exact HD8
          | false =>
            obtain ⟨z1, z2, c, rfl⟩ := HM.out.h2 rfl
            obtain ⟨b, i, v⟩ := c
            have hp1 : ptC (some (b, i, v)) = .pointer (some ⟨b, 0, none⟩) := rfl
            have z1b : (la.f0 == 0) = false := beq_eq_false_iff_ne.2 z1
            have z2b : (la.f0 == -12) = false := beq_eq_false_iff_ne.2 z2
            have z2c : (la.f0 != -12) = true := bne_iff_ne.2 z2
            have hcI := HL.out.hc _ rfl
            obtain ⟨Av, cv, hv⟩ := Kd.R_slice hcI.hr
            have hv : v = .slice Av i.tk.length cv := hv
            subst hv
            clear hcI
            go_wp2
            obtain ⟨W9, hW9⟩ : ∃ W9, W9 = wr.alloc (.cells #[.int .i64 t.f0, .string t.f1] 65) := ⟨_, rfl⟩
            rw [← hW9]
            have HRd := Aside0.mk ((HL.out.alloc (.cells #[.int .i64 t.f0, .string t.f1] 65)).rdy HDr.out HTo.out)
            have HX9 := Aside0.mk (blk_new wr (.cells #[.int .i64 t.f0, .string t.f1] 65))
            have HLA9 := Aside0.mk (blk_alloc HDm.out.hla (.cells #[.int .i64 t.f0, .string t.f1] 65))
            rw [← hW9] at HRd HX9 HLA9
            have HnB : Aside0 (b ≠ wr.heap.size) := ⟨Nat.ne_of_lt (blk_lt (HL.out.hc _ rfl).hc)⟩
            have HOw : Aside0 (some wr.heap.size ≠ (.slice Av i.tk.length cv : Value).ownBlock) := ⟨fun e => by have := Kd.R_lt (HL.out.hc _ rfl).hr _ e.symm; omega⟩
            have HLw := Aside0.mk lla
            clear hW9 la0 la1 laf0 laf1 lla hy0 hy1
            have HNo : Aside0 (wrap64 (x13 + (t.f1.size : Int)) = ((off + t.f1.size : Nat) : Int)) := ⟨by have h0 := (HL.out.lim HDr.out).2; have h1 := HO.out; have h2 := HSz.out; unfold wrap64; omega⟩
            have i2 : W9.cell? ⟨b, 2, none⟩ = some (.slice Av i.tk.length cv) := (blk_cell HRd.out.hc.hc 2).trans rfl
            have if2 := blk_frozen HRd.out.hc.hc 2
            have li := blk_lt HRd.out.hc.hc
            have x20 : W9.cell? ⟨wr.heap.size, 0, none⟩ = some (.int .i64 t.f0) := (blk_cell HX9.out 0).trans rfl
            have x21 : W9.cell? ⟨wr.heap.size, 1, none⟩ = some (.string t.f1) := (blk_cell HX9.out 1).trans rfl
            have lx := blk_lt HX9.out
            have HXn : Aside0 (some wr.heap.size ≠ (.slice Av i.tk.length cv : Value).ownBlock) := HOw
            have hNB : Aside0 (b ≠ wr.heap.size ∧ w1.heap.size + 4 ≤ W9.heap.size) := ⟨HnB.out, Nat.le_trans HRd.out.hc.hb (Nat.le_of_lt li)⟩
            have hbd : Aside0 ((i.tk.length + 1) * 24 ≤ 140737488355328) := ⟨by have h1 := HRd.out.hk; have h2 := HK.out; have h3 := hlen.out; omega⟩
            have HRe := Aside0.mk HRd.out.drew
            go_region_law (first | ((refine Kd.R_append_step kC (w0 := W9.drew) (w1.heap.size + 4) (by rfl) (.tmp 91) (.tmp 93) 50 65 (.agg #[(.int .i64 0), (.string ⟨#[]⟩)]) 24 (by rfl) Tryd.underlying50 info65 rfl (by decide) (by decide) (.slice Av i.tk.length cv) i.tk t [.int .i64 t.f0, .string t.f1] (fun _ => True) (fun _ => False) (by rfl) (by rfl) (k65_mkM _ _ _ t) (fun _ hk => hk.elim) (fun _ _ => trivial) HRe.out.hc.hr (Below.refl _ _) hNB.out.2 hbd.out ?_; intro v1 w8 ho hb8 hg hat; obtain ⟨A9, c9, rfl⟩ := Kd.R_slice ho; have hlA : (i.tk ++ [t]).length = i.tk.length + 1 := (by simp); rw [hlA] at ho hat; clear hlA; have hb9 := (hg.block b (blk_lt HRe.out.hc.hc) (Kd.R_ne HRe.out.hc.hr HRe.out.hc.hc (by decide))).trans HRe.out.hc.hc; have hx9 := (hg.block wr.heap.size (blk_lt HX9.out) HXn.out).trans HX9.out; have la9 := (hg.block (w1.heap.size + 1 + 1 + 1) (blk_lt HLA9.out) (fun e => by have := Kd.R_base HRe.out.hc.hr _ e.symm; omega)).trans HLA9.out; have b20 : w8.cell? ⟨b, 2, none⟩ = some (.slice Av i.tk.length cv) := (blk_cell hb9 2).trans rfl; have bf2 := blk_frozen hb9 2; have lb2 := blk_lt hb9; have HD8 := Aside0.mk (HRe.out.done hg (HRe.out.hB.trans (hb8.mono (by omega))) ho hat htz); have HX8 := Aside0.mk hx9; have HA8 := Aside0.mk la9; have y30 : w8.cell? ⟨wr.heap.size, 0, none⟩ = some (.int .i64 t.f0) := (blk_cell hx9 0).trans rfl; have y31 : w8.cell? ⟨wr.heap.size, 1, none⟩ = some (.string t.f1) := (blk_cell hx9 1).trans rfl; have ly3 := blk_lt hx9; have z30 : w8.cell? ⟨w1.heap.size + 1 + 1 + 1, 0, none⟩ = some (.int .i64 la.f0) := (blk_cell la9 0).trans rfl; have z31 : w8.cell? ⟨w1.heap.size + 1 + 1 + 1, 1, none⟩ = some (.string la.f1) := (blk_cell la9 1).trans rfl; have zf0 := blk_frozen la9 0; have zf1 := blk_frozen la9 1; have lz3 := blk_lt la9; have n1 : b ≠ wr.heap.size := hNB.out.1; have n2 : wr.heap.size ≠ b := (fun e => n1 e.symm); have n3 : b ≠ w1.heap.size + 1 + 1 + 1 := (by have := HRe.out.hc.hb; omega); have n4 : w1.heap.size + 1 + 1 + 1 ≠ b := (fun e => n3 e.symm); have n5 : wr.heap.size ≠ w1.heap.size + 1 + 1 + 1 := (by have := HLw.out; omega); have n6 : w1.heap.size + 1 + 1 + 1 ≠ wr.heap.size := (fun e => n5 e.symm); clear ho hb8 hg hat hb9 hx9 la9)))
            all_goals
              go_wp2
              go_roundg k1
              case measure => omega
              case rel =>
                have hk := HK.out
                have e1 : (wrap64 (x45 + 1)).toNat = x45.toNat + 1 := by rw [hwr.out]; omega
                refine ⟨_, wrap64 (x45 + 1), rfl, rfl, ⟨by rw [hwr.out]; have := of_eq_true q1; omega⟩, false, cs, t, off + t.f1.size, q0, some (b, ⟨i.st, i.en, i.tk ++ [t]⟩, .slice A9 (i.tk.length + 1) c9), rfl, HNo, ?_, ⟨⟨fun h => (by cases h), fun _ => ⟨htz, HTo.out, _, rfl⟩⟩⟩⟩
                rw [e1]
                exact HD8
        --DONE
      · have hxe : x45.toNat = R.length := by have := HK.out; omega
        have c45 : decide (x45 < (R.length : Int)) = false := decide_eq_false hlt
        obtain ⟨qs, vr, hqs, hdm, hins⟩ := HL.out.fin hxe
        have HIs := Aside0.mk (And.intro hqs hins)
        have HDm := Aside0.mk hdm
        have hrow := hdm.hrow
        have hbi := hdm.hbi
        obtain ⟨Ar, cr, rfl, hcr, hCr⟩ := Kd.R_reads hrow
        have hpl : (qs.map (·.1)).length = qs.length := List.length_map _
        rw [hpl] at hbi hcr hCr
        have HRow := Aside0.mk (And.intro hCr hcr)
        have HBr := Aside0.mk (below_step (below_step HB0.out HB1.out) HL.out.hB)
        have br0 : wr.cell? ⟨w1.heap.size + 1 + 1, 0, none⟩ = some (.slice Ar qs.length cr) := (blk_cell hbi 0).trans rfl
        have lbr : w1.heap.size + 1 + 1 < wr.heap.size := blk_lt hbi
        have hdr : wr.heap[Bd]? = _ := (HBr.out.block Bd (blk_lt HD.out)).trans HD.out
        have dr0 : wr.cell? ⟨Bd, 0, none⟩ = some (gV cfgR fnR uR vR) := (blk_cell hdr 0).trans rfl
        have ldr := blk_lt hdr
        have hm := meth_gG cfgR fnR uR vR
        have HX45 := Aside0.mk hxe
        clear hqs hins hdm hrow hbi hcr hCr hdr hpl hxe hlt d0 d1 ld
        by_cases hq0 : qs.length = 0
        · have hq1 : ((qs.length : Int) == 0) = true := by rw [hq0]; rfl
          have HQ0 := Aside0.mk hq0
          clear hq0
          go_wp2_with (go_at_call 62; refine (HGR.out s _ HBr.out).mono ?_; rintro e w2 ⟨Bt, g, rfl, hP⟩; have HP := Aside0.mk hP; clear hP)
          go_ret2
          obtain ⟨p1, p2, p3, p4, p5⟩ := HP.out
          have hs9 := HBr.out.size
          have hnil : insL 0 R = [] := by rw [← HIs.out.1, List.eq_nil_of_length_eq_zero HQ0.out]; rfl
          exact ⟨Bt, g, rfl, by unfold delL; rw [hRR, if_pos hnil]; exact p1, by omega, by omega, p4, below_step HBr.out p5⟩
        · have hq1 : ((qs.length : Int) == 0) = false := beq_eq_false_iff_ne.2 (by omega)
          have hq2 : 0 < qs.length := by omega
          have HQ0 := Aside0.mk hq2
          clear hq0 hq2
          obtain ⟨ps, hps⟩ : ∃ ps, ps = qs.map (·.1) := ⟨_, rfl⟩
          obtain ⟨is, his⟩ : ∃ is, is = insL 0 R := ⟨_, rfl⟩
          obtain ⟨RT, hRT⟩ : ∃ RT, RT = runsL eof (rt ⟨(othL R).toArray⟩) := ⟨_, rfl⟩
          have hpl : ps.length = qs.length := by rw [hps, List.length_map]
          have HPS := Aside0.mk (And.intro hps (And.intro his (And.intro hRT hpl)))
          have hszO : (⟨(othL R).toArray⟩ : ByteArray).size = (othL R).length := by show (othL R).toArray.size = _; rw [List.size_toArray]
          have hszT : szL (rt ⟨(othL R).toArray⟩) = osz R := by rw [HRT.out.2.2, hszO, othL_len]
          have hosz := osz_le R
          have kT : Aside0 (∀ nS, Calls Tryd.prog 28 #[.iface 135 (.pointer (some ⟨wr.heap.size, 0, none⟩)), .pointer none, .string ⟨(othL R).toArray⟩] ((wr.alloc (.cells #[gV cfgR fnR uR vR] 137)).drewN nS) fun e w' => ∃ A c, e = .returned (.tuple #[.slice A RT.length c, .nilIface]) ∧ Kd.C kC w' A RT.length RT ∧ RT.length ≤ c ∧ Below wr.heap.size wr w') := ⟨fun nS => by
            have hBn : Below wr.heap.size wr ((wr.alloc (.cells #[gV cfgR fnR uR vR] 137)).drewN nS) := pw_below_drewN ((Below.refl wr.heap.size wr).alloc (Nat.le_refl _) _) nS
            have hVr := vars_kept HV.out (HBr.out.block _ hE)
            refine (tkG_c wr.heap.size cfgR fnR uR vR (rt ⟨(othL R).toArray⟩) ⟨(othL R).toArray⟩ _ (vars_kept hVr (hBn.block _ (Nat.lt_of_lt_of_le hE HBr.out.size))) ((HGR.out _).below (below_step HBr.out hBn)) (HRT.out.1 _) (HRT.out.2.1 _) (by have := HSz.out; omega) (blk_drewN (blk_new wr _) nS)).mono ?_
            rintro e w' ⟨v, rfl, hR, hB⟩
            obtain ⟨A, c, rfl, h1, h2⟩ := Kd.R_reads hR
            rw [← hRT] at h1 h2
            exact ⟨A, c, by rw [← hRT], h2, h1, below_step hBn hB⟩⟩
          have HRTf : Aside0 (RT.length ≤ 90001 ∧ szL RT = osz R ∧ ∀ x ∈ RT, x.f0 ≠ 0) := ⟨by
            have h1 := runsL_len (rt ⟨(othL R).toArray⟩) eof
            have h2 := HRT.out.1 ⟨(othL R).toArray⟩
            rw [hRT]
            exact ⟨by omega, by rw [szL_runs, hszT]; exact Nat.zero_add _, runsL_good _ _ (HRT.out.2.1 _) (.inl rfl)⟩⟩
          have hpl2 : (qs.map (·.1)).length = qs.length := List.length_map _
          have hCr' := HRow.out.1
          rw [← hps, ← hpl] at hCr'
          have hbi' := HDm.out.hbi
          rw [← hps] at hbi'
          rw [← hpl] at br0 hq1
          have hcr' := HRow.out.2
          rw [← hpl] at hcr'
          have HRow2 := Aside0.mk (And.intro hCr' (And.intro hcr' hbi'))
          have HQ1 : Aside0 (0 < ps.length ∧ ps.length ≤ 90002) := ⟨by rw [hpl]; exact HQ0.out, by
            have h1 := (tks_L R 0).2
            rw [← HIs.out.1, List.length_map] at h1
            have h2 := hlen.out
            omega⟩
          have HVr : Aside0 (VarsOK wr) := ⟨vars_kept HV.out (HBr.out.block _ hE)⟩
          clear hps his hRT hpl hszO hszT hosz hpl2 hCr' hcr' hbi'
          go_wp2_with (first | (go_at_call 73; refine (co_c _ _ _).mono ?_; rintro e w0 ⟨rfl, rfl⟩) | (go_at_call 75; refine (Tryd.Buffer_String w1.heap.size w1.heap.size (othL R) _ (HDm.out.alloc _).hbuf).mono ?_; rintro e w2 ⟨rfl, nS, rfl⟩) | (go_at_call 28; refine (kT.out nS).mono ?_; rintro e w3 ⟨A3, c3, rfl, hC3, hc3, hB3⟩; have HR3 := Aside0.mk (And.intro hC3 (And.intro hc3 hB3)); have HBi3 := Aside0.mk (And.intro ((hB3.block _ (blk_lt HRow2.out.2.2)).trans HRow2.out.2.2) (And.intro (Kd.C_below HRow2.out.1 hB3) HRow2.out.2.1)); have HV3 := Aside0.mk (vars_kept HVr.out (hB3.block _ (vars_lt HVr.out))); clear hC3 hc3 hB3) | (go_at_call 76; refine (nt_c (w3.heap.size + 1) w3.heap.size RT 0 _ (vars_kept HV3.out ((W4o.facts w3 A3 RT.length c3).1.block _ (vars_lt HV3.out))) (nxT_start HR3.out.1 HR3.out.2.1) (by have := HRTf.out.1; omega) (Nat.zero_le _)).mono ?_; rintro e w5 ⟨rfl, g5, k5⟩; have G5 := Aside0.mk (And.intro g5 k5); clear g5 k5) | (go_at_call 77; refine (ni_c (w3.heap.size + 2) (w1.heap.size + 1 + 1) ps 0 _ (nxI_start HBi3.out.1 HBi3.out.2.1 HBi3.out.2.2 G5.out.1) (by have := HQ1.out.2; omega) (Nat.zero_le _)).mono ?_; rintro e w7 ⟨rfl, g7, k7⟩; have G7 := Aside0.mk (And.intro g7 k7); clear g7 k7))
          have HS2 : Aside0 (S2 w3 (w1.heap.size + 1 + 1) w7.heap.size RT ps A3 c3 Ar cr) := ⟨⟨HR3.out.1, HR3.out.2.1, HBi3.out.2.1, HBi3.out.2.2, HBi3.out.1⟩⟩
          have hmin : (if 0 < ps.length then 0 + 1 else 0) = min (0 + 1) ps.length := by have := HQ1.out.1; rw [if_pos this]; omega
          have HL2 : Aside0 (L2 w3 (w1.heap.size + 1 + 1) w5.heap.size w7.heap.size RT ps A3 c3 (if 0 < RT.length then 0 + 1 else 0) (min (0 + 1) ps.length) (hd RT) [] (.slice none 0 0) w7) := ⟨by rw [← hmin]; exact L2.start HS2.out G5.out.1 G5.out.2 G7.out.1 G7.out.2⟩
          have HIns : Aside0 (∀ p ∈ qs, InsR w3 p.1 p.2) := ⟨fun p hp => by obtain ⟨v, hv⟩ := HIs.out.2 p hp; exact (InsR.of hv).below HR3.out.2.2⟩
          have HB3w := Aside0.mk (below_step HBr.out HR3.out.2.2)
          have HPs2 : Aside0 (∀ j, ps.drop j = (qs.drop j).map (·.1) ∧ is.drop j = (qs.drop j).map (·.2)) := ⟨fun j => ⟨by rw [HPS.out.1, List.map_drop], by rw [HPS.out.2.1, ← HIs.out.1, List.map_drop]⟩⟩
          have HTl : Aside0 ((merge RT is 0).length ≤ 1000000 ∧ is ≠ []) := ⟨by
            have h1 := merge_len RT is 0
            have h2 := tks_L R 0
            have h3 := hlen.out
            have h4 := HRTf.out.1
            rw [HPS.out.2.1] at h1 ⊢
            refine ⟨by omega, fun e => ?_⟩
            have h5 := HQ0.out
            rw [← HIs.out.1] at e
            rw [List.map_eq_nil_iff.1 e] at h5
            exact absurd h5 (by decide)⟩
          have HIz : Aside0 (∀ i ∈ is, i.st ≤ 8191 ∧ i.en ≤ 8191) := ⟨fun i hi => by
            rw [HPS.out.2.1] at hi
            have h1 := ins_sz R 0 i hi
            have h2 := HSz.out
            omega⟩
          have HP2 : Aside0 (P2 RT is (merge RT is 0) (if 0 < RT.length then 0 + 1 else 0) 0 RT 0 []) := ⟨by
            obtain ⟨d1, d2⟩ := drop_next (RT := RT) (Nat.zero_le _)
            have h1 := wf_L R 0 0 (Nat.le_refl _)
            have h2 := osz_le R
            have h3 := HSz.out
            refine ⟨d2, d1, rfl, ?_, ?_, HRTf.out.2.2, by rw [HRTf.out.2.1]; omega⟩
            · rw [HPS.out.2.1]; exact h1.1
            · rw [HPS.out.2.1, HRTf.out.2.1]
              have := h1.2
              show gaps 0 (insL 0 R) ≤ _
              omega⟩
          clear HQ0 HIs HRow HDm br0 hq1 hmin
          go_loopg [13, 18, 24] (RT.length + is.length + 1) (fun kq v13 v18 v24 wr => ∃ (x13 : Int) (kT j m : Nat) (q dn : List C), v13 = .int .i64 x13 ∧ v24 = ptV (ps.drop j) ∧ Aside0 (q.length + (is.drop j).length < kq) ∧ Aside0 (L2 w3 (w1.heap.size + 1 + 1) w5.heap.size w7.heap.size RT ps A3 c3 kT (min (j + 1) ps.length) (hd q) dn v18 wr) ∧ Aside0 (P2 RT is (merge RT is 0) kT j q m dn) ∧ Aside0 (is.drop j ≠ [] → x13 = (m : Int)))
          case atStart => exact ⟨0, _, 0, 0, RT, [], rfl, rfl, ⟨by rw [List.drop_zero]; omega⟩, HL2, HP2, ⟨fun _ => rfl⟩⟩
          case round =>
            obtain ⟨x13, kT, j, m, q, dn, rfl, rfl, HK, HL, HP, HX⟩ := hrel
            clear HL2 HP2
            cases gk with
            | zero => have := HK.out; omega
            | succ k2 =>
              obtain ⟨hpd, hid⟩ := HPs2.out j
              have hVr : VarsOK wr := vars_kept HV3.out (HL.out.m.hB.block _ (vars_lt HV3.out))
              have v0 := hVr.e0
              have v1 := hVr.e1
              have lv := vars_lt hVr
              have lt5 := blk_lt HL.out.m.ht
              have tf0 := blk_frozen HL.out.m.ht 0
              have tf1 := blk_frozen HL.out.m.ht 1
              clear hVr
              obtain ⟨A9, c9, hv9⟩ := Kd.R_slice HL.out.m.hR
              subst hv9
              cases hqj : qs.drop j with
              | nil =>
                rw [hqj] at hpd hid
                have hpt : ptV (ps.drop j) = .pointer none := by rw [hpd]; rfl
                have HId : Aside0 (is.drop j = []) := ⟨hid⟩
                clear hpd hqj hid
                cases q with
                | nil =>
                  have t0 : wr.cell? ⟨w5.heap.size, 0, none⟩ = some (.int .i64 0) := (blk_cell HL.out.m.ht 0).trans rfl
                  have t1 : wr.cell? ⟨w5.heap.size, 1, none⟩ = some (.string ⟨#[]⟩) := (blk_cell HL.out.m.ht 1).trans rfl
                  go_wp2_with (go_at_call 63; refine (litm_c _ _ _ _).mono ?_; rintro e w9 ⟨rfl, rfl⟩)
                  go_ret2
                  have hdn : dn = merge RT is 0 := by have := HP.out.eq; rw [HId.out, merge, List.append_nil] at this; exact this
                  have hs9 := HL.out.m.hs
                  have hbb := HL.out.m.hb
                  have hR9 : RC wr w7.heap.size (.slice A9 dn.length c9) dn := HL.out.m.hR
                  obtain ⟨A10, c10, e10, g, hLt, hg1, hg2⟩ := lit_of (Bn := w5.heap.size) hR9 hbb HL.out.m.ht (by decide) (by decide)
                  have hnil : ¬ insL 0 R = [] := fun e => HTl.out.2 (by rw [HPS.out.2.1]; exact e)
                  have h3 := HB3w.out.size
                  have hBall := (below_step HB3w.out HL.out.m.hB).alloc (by have := HL.out.m.hB.size; omega) (.cells #[.slice A9 dn.length c9] 50)
                  refine ⟨wr.heap.size, g, rfl, ?_, by omega, by omega, by rw [World.size_alloc]; omega, hBall⟩
                  have : delL rt l s = dn := by unfold delL; rw [hRR, if_neg hnil, hdn, HPS.out.2.2.1, HPS.out.2.1]
                  rw [this]
                  exact hLt
                | cons t q =>
                  --CASEC
                  have hnz := HP.out.nz t List.mem_cons_self
                  have htb : (t.f0 == 0) = false := beq_eq_false_iff_ne.2 hnz
                  have t0 : wr.cell? ⟨w5.heap.size, 0, none⟩ = some (.int .i64 t.f0) := (blk_cell HL.out.m.ht 0).trans rfl
                  have t1 : wr.cell? ⟨w5.heap.size, 1, none⟩ = some (.string t.f1) := (blk_cell HL.out.m.ht 1).trans rfl
                  have hdl : Aside0 ((dn.length + 1) * 24 ≤ 140737488355328) := ⟨by have h1 := congrArg List.length HP.out.eq; rw [List.length_append] at h1; have h2 := HTl.out.1; omega⟩
                  go_wp2
                  go_quiet (fail)
                  obtain ⟨W, hW⟩ : ∃ W, W = wr.drewN nq := ⟨_, rfl⟩
                  rw [← hW]
                  have HLW : Aside0 (L2 w3 (w1.heap.size + 1 + 1) w5.heap.size w7.heap.size RT ps A3 c3 kT (min (j + 1) ps.length) t dn (.slice A9 dn.length c9) W) := ⟨by rw [hW]; exact HL.out.drewN HS2.out nq⟩
                  have Wt0 : W.cell? ⟨w5.heap.size, 0, none⟩ = some (.int .i64 t.f0) := (blk_cell HLW.out.m.ht 0).trans rfl; have Wt1 : W.cell? ⟨w5.heap.size, 1, none⟩ = some (.string t.f1) := (blk_cell HLW.out.m.ht 1).trans rfl; have Wf0 := blk_frozen HLW.out.m.ht 0; have Wf1 := blk_frozen HLW.out.m.ht 1; have Wl := blk_lt HLW.out.m.ht
                  clear hW t0 t1 v0 v1 lv lt5 tf0 tf1 hnz
                  go_wp2_with (first | ((with_reducible refine gate_builtin (b := .append) (xs := #[.tmp 210, .tmp 212]) rfl ?_); at_builtin; refine Kd.R_append kC (w0 := W) w7.heap.size rfl (.tmp 210) (.tmp 212) 50 65 (.agg #[(.int .i64 0), (.string ⟨#[]⟩)]) 24 rfl Tryd.underlying50 info65 rfl (by decide) (by omega) (.slice A9 dn.length c9) dn t [.int .i64 t.f0, .string t.f1] (fun _ => True) (fun _ => False) rfl (by first | (go_simp; done) | (go_simp; rfl)) ?aP (fun _ hk => hk.elim) ?aF ?aO ?aB ?aS ?aL ?_; (case aP => exact k65_mkM _ _ _ t); (case aB => exact Below.refl _ _); (case aF => exact (fun _ _ => trivial)); (case aO => exact HLW.out.m.hR); (case aS => exact HLW.out.m.hb); (case aL => exact hdl.out); intro v1 w8 ho hb8 hg hat; obtain ⟨A8, c8, rfl⟩ := Kd.R_slice ho; have hlA : (dn ++ [t]).length = dn.length + 1 := (by simp); rw [hlA] at ho; have HL8 := Aside0.mk (HLW.out.app HS2.out hg ho); clear hlA ho hb8 hg hat; have w8t0 : w8.cell? ⟨w5.heap.size, 0, none⟩ = some (.int .i64 t.f0) := (blk_cell HL8.out.m.ht 0).trans rfl; have w8t1 : w8.cell? ⟨w5.heap.size, 1, none⟩ = some (.string t.f1) := (blk_cell HL8.out.m.ht 1).trans rfl; have w8f0 := blk_frozen HL8.out.m.ht 0; have w8f1 := blk_frozen HL8.out.m.ht 1; have w8l := blk_lt HL8.out.m.ht) | (go_at_call 76; refine (nt_c (w3.heap.size + 1) w3.heap.size RT kT _ (vars_kept HV3.out (HL8.out.m.hB.block _ (vars_lt HV3.out))) HL8.out.m.nt (by have := HRTf.out.1; omega) HP.out.hk).mono ?_; rintro e w9 ⟨rfl, g9, k9⟩; have HL9 := Aside0.mk (HL8.out.next HS2.out g9 k9); clear g9 k9; have w9t0 : w9.cell? ⟨w5.heap.size, 0, none⟩ = some (.int .i64 t.f0) := (blk_cell HL9.out.m.ht 0).trans rfl; have w9t1 : w9.cell? ⟨w5.heap.size, 1, none⟩ = some (.string t.f1) := (blk_cell HL9.out.m.ht 1).trans rfl; have w9f0 := blk_frozen HL9.out.m.ht 0; have w9f1 := blk_frozen HL9.out.m.ht 1; have w9l := blk_lt HL9.out.m.ht))
                  have HLN : Aside0 (L2 w3 (w1.heap.size + 1 + 1) w5.heap.size w7.heap.size RT ps A3 c3 (if kT < RT.length then kT + 1 else kT) (min (j + 1) ps.length) (hd q) (dn ++ [t]) (.slice A8 (dn.length + 1) c8) ((w9.setCell ⟨w5.heap.size, 0, none⟩ (.int .i64 (hd (RT.drop kT)).f0)).setCell ⟨w5.heap.size, 1, none⟩ (.string (hd (RT.drop kT)).f1))) := ⟨by
                    have hq : q = RT.drop kT := HP.out.hq
                    rw [hq]
                    exact HL9.out.setT HS2.out (hd (RT.drop kT))⟩
                  go_roundg k2
                  case measure => omega
                  case rel => exact ⟨_, _, j, m + t.f1.size, q, dn ++ [t], rfl, hpt.symm, ⟨by have := HK.out; simp only [List.length_cons] at this; omega⟩, HLN, ⟨HP.out.pop (.inl HId.out)⟩, ⟨fun h => absurd HId.out h⟩⟩
                  --ENDC
              | cons p rest =>
                --CASEI
                obtain ⟨b, i⟩ := p
                rw [hqj] at hpd hid
                have hpt : ptV (ps.drop j) = .pointer (some ⟨b, 0, none⟩) := by rw [hpd]; rfl
                have HId : Aside0 (is.drop j = i :: rest.map (·.2)) := ⟨hid⟩
                have HJ : Aside0 ((b, i) ∈ qs ∧ ps.drop (j + 1) = rest.map (·.1) ∧ is.drop (j + 1) = rest.map (·.2)) := ⟨List.mem_of_mem_drop (by rw [hqj]; exact List.mem_cons_self), by rw [← List.tail_drop, hpd]; rfl, by rw [← List.tail_drop, hid]; rfl⟩
                have HM : Aside0 (x13 = (m : Int) ∧ m ≤ i.st ∧ i.st ≤ 8191 ∧ i.en ≤ 8191) := ⟨by
                  have h1 := HX.out (by rw [hid]; simp)
                  have h2 := HP.out.wf
                  rw [hid] at h2
                  have h3 := HIz.out i (List.mem_of_mem_drop (i := j) (by rw [hid]; exact List.mem_cons_self))
                  exact ⟨h1, h2.1, h3.1, h3.2⟩⟩
                obtain ⟨Ai, ci, hbi3, hCi3, hci3⟩ := HIns.out _ HJ.out.1
                have HI3 := Aside0.mk (And.intro hbi3 (And.intro hCi3 hci3))
                have hbi := (HL.out.m.hB.block b (blk_lt hbi3)).trans hbi3
                obtain ⟨xs, hxs⟩ : ∃ xs : Int, xs = (i.st : Int) := ⟨_, rfl⟩
                obtain ⟨xe, hxe2⟩ : ∃ xe : Int, xe = (i.en : Int) := ⟨_, rfl⟩
                have i0 : wr.cell? ⟨b, 0, none⟩ = some (.int .i64 xs) := by rw [hxs]; exact (blk_cell hbi 0).trans rfl
                have i1 : wr.cell? ⟨b, 1, none⟩ = some (.int .i64 xe) := by rw [hxe2]; exact (blk_cell hbi 1).trans rfl
                have i2 : wr.cell? ⟨b, 2, none⟩ = some (.slice Ai i.tk.length ci) := (blk_cell hbi 2).trans rfl
                have lbi := blk_lt hbi
                have HXs := Aside0.mk (And.intro hxs hxe2)
                have hbw3 := blk_lt hbi3
                have HBW : Aside0 (b < w3.heap.size) := ⟨hbw3⟩
                clear hpd hqj hid hbi hbi3 hCi3 hci3 hxs hxe2 hbw3
                cases q with
                | nil =>
                  have t0 : wr.cell? ⟨w5.heap.size, 0, none⟩ = some (.int .i64 0) := (blk_cell HL.out.m.ht 0).trans rfl
                  have t1 : wr.cell? ⟨w5.heap.size, 1, none⟩ = some (.string ⟨#[]⟩) := (blk_cell HL.out.m.ht 1).trans rfl
                  have HN0e := Aside0.mk (HP.out.ins0 HId.out (.inl rfl)).2
                  have HPN : Aside0 (P2 RT is (merge RT is 0) kT (j + 1) ([]) (m + (i.en - i.st)) (dn ++ i.tk)) := ⟨(HP.out.ins0 HId.out (.inl rfl)).1⟩
                  have htl : Aside0 ((dn ++ i.tk).length ≤ 1000000) := ⟨by have h1 := congrArg List.length HPN.out.eq; rw [List.length_append] at h1; have h2 := HTl.out.1; omega⟩
                  go_wp2
                  go_quiet (fail)
                  obtain ⟨W, hW⟩ : ∃ W, W = wr.drewN nq := ⟨_, rfl⟩
                  rw [← hW]
                  have HLW : Aside0 (L2 w3 (w1.heap.size + 1 + 1) w5.heap.size w7.heap.size RT ps A3 c3 kT (min (j + 1) ps.length) eof dn (.slice A9 dn.length c9) W) := ⟨by rw [hW]; exact HL.out.drewN HS2.out nq⟩
                  have HWs : Aside0 (w5.heap.size < W.heap.size ∧ b < W.heap.size ∧ b ≠ w5.heap.size ∧ some W.heap.size ≠ (.slice A9 dn.length c9 : Value).ownBlock) := ⟨by
                    have h1 := HLW.out.m.hs
                    have h2 := HLW.out.m.hb
                    have h3 := HBW.out
                    exact ⟨by omega, by omega, by omega, fun e => by have := Kd.R_lt HLW.out.m.hR _ e.symm; omega⟩⟩
                  clear hW t0 t1 v0 v1 lv lt5 tf0 tf1 i0 i1 i2 lbi
                  go_wp2
                  obtain ⟨W1, hW1⟩ : ∃ W1, W1 = W.alloc (.cells #[.int .i64 0, .string ⟨#[]⟩] 65) := ⟨_, rfl⟩
                  rw [← hW1]
                  have HL1 : Aside0 (L2 w3 (w1.heap.size + 1 + 1) w5.heap.size w7.heap.size RT ps A3 c3 kT (min (j + 1) ps.length) eof dn (.slice A9 dn.length c9) W1) := ⟨by rw [hW1]; exact HLW.out.alloc HS2.out _⟩
                  have HW1 := Aside0.mk hW1
                  have HV1 : Aside0 (VarsOK W1.drew) := ⟨vars_kept HV3.out (HL1.out.m.hB.drew.block _ (vars_lt HV3.out))⟩
                  have W1t0 : W1.cell? ⟨w5.heap.size, 0, none⟩ = some (.int .i64 0) := (blk_cell HL1.out.m.ht 0).trans rfl; have W1t1 : W1.cell? ⟨w5.heap.size, 1, none⟩ = some (.string ⟨#[]⟩) := (blk_cell HL1.out.m.ht 1).trans rfl; have W1f0 := blk_frozen HL1.out.m.ht 0; have W1f1 := blk_frozen HL1.out.m.ht 1; have W1l := blk_lt HL1.out.m.ht
                  have biW1 := (HL1.out.m.hB.block b HBW.out).trans HI3.out.1; have W1i0 : W1.cell? ⟨b, 0, none⟩ = some (.int .i64 xs) := (by rw [HXs.out.1]; exact (blk_cell biW1 0).trans rfl); have W1i1 : W1.cell? ⟨b, 1, none⟩ = some (.int .i64 xe) := (by rw [HXs.out.2]; exact (blk_cell biW1 1).trans rfl); have W1i2 : W1.cell? ⟨b, 2, none⟩ = some (.slice Ai i.tk.length ci) := (blk_cell biW1 2).trans rfl; have W1li := blk_lt biW1; clear biW1
                  have kS : Aside0 (Calls Tryd.prog 78 #[.agg #[.int .i64 0, .string ⟨#[]⟩], .int .i64 (IntKind.i64.wrap (xs - x13))] W1.drew fun e w' => e = .returned (.tuple #[.agg #[.int .i64 0, .string ⟨#[]⟩], .agg #[.int .i64 0, .string ⟨#[]⟩]]) ∧ Below W1.drew.heap.size W1.drew w') := ⟨by
                    have h0 : wrap64 (xs - x13) = 0 := (by have h1 := HM.out; have h2 := HXs.out.1; have h3 := (HP.out.ins0 HId.out (.inl rfl)).2; unfold wrap64; omega)
                    rw [show IntKind.i64.wrap (xs - x13) = 0 from (IntKind.wrap_i64 _).trans (by unfold wrap64 at h0; exact h0)]
                    exact (split0_c 0 W1.drew HV1.out).mono fun e w h => h⟩
                  clear hW1
                  go_region_with (first | (go_at_call 78; refine kS.out.mono ?_; rintro e w4 ⟨rfl, hB4⟩; rw [HW1.out] at hB4; have hst := split_store (l := eof) (r := eof) rfl hB4 HWs.out.1 HLW.out.m.ht rfl; have HST := Aside0.mk hst; have HL5 := Aside0.mk (HLW.out.turn HS2.out hst.1 hst.2.1); have VV := vars_kept HV3.out ((HLW.out.m.hB.trans (hst.2.2.2.2.2.mono (by have := HLW.out.m.hB.size; omega))).block _ (vars_lt HV3.out)); have w4v0 := VV.e0; have w4v1 := VV.e1; have w4lv := vars_lt VV; have w4z0 := (blk_cell hst.2.2.2.1 0).trans rfl; have w4z1 := (blk_cell hst.2.2.2.1 1).trans rfl; have w4zf0 := blk_frozen hst.2.2.2.1 0; have w4zf1 := blk_frozen hst.2.2.2.1 1; have w4zl := blk_lt hst.2.2.2.1; have w4t0 := (blk_cell hst.2.2.2.2.1 0).trans rfl; have w4t1 := (blk_cell hst.2.2.2.2.1 1).trans rfl; have w4tf0 := blk_frozen hst.2.2.2.2.1 0; have w4tf1 := blk_frozen hst.2.2.2.2.1 1; have w4tl := blk_lt hst.2.2.2.2.1; have bi4 := ((HLW.out.m.hB.trans (hst.2.2.2.2.2.mono (by have := HLW.out.m.hB.size; omega))).block b HBW.out).trans HI3.out.1; have w4i2 : w4.cell? ⟨b, 2, none⟩ = some (.slice Ai i.tk.length ci) := (blk_cell bi4 2).trans rfl; have w4li := blk_lt bi4; have nLT : W.heap.size ≠ w5.heap.size := (by have := HWs.out; omega); have nTL : w5.heap.size ≠ W.heap.size := (fun e => nLT e.symm); have nbL : b ≠ W.heap.size := (by have := HWs.out; omega); have nLb : W.heap.size ≠ b := (fun e => nbL e.symm); have nbT : b ≠ w5.heap.size := HWs.out.2.2.1; have nTb : w5.heap.size ≠ b := (fun e => nbT e.symm); have nE1 : 0 ≠ W.heap.size := (by have h := vars_lt HV3.out; have := HLW.out.m.hB.size; omega); have nE2 : 0 ≠ w5.heap.size := (by have h := vars_lt HV3.out; have := HLW.out.m.hs; omega); clear hst hB4 VV bi4))
                  all_goals
                    go_wp2_with (first  | ((with_reducible refine gate_builtin (b := .append) (xs := #[.tmp 186, .tmp 190]) rfl ?_); at_builtin; refine Kd.R_append_rows kC (Rr := kC.K _) (w0 := _) w7.heap.size rfl (.tmp 186) (.tmp 190) 50 65 (.agg #[(.int .i64 0), (.string ⟨#[]⟩)]) 24 rfl Tryd.underlying50 info65 rfl (by decide) (by omega) (.slice A9 dn.length c9) dn i.tk Ai i.tk.length ci (fun _ => True) (fun _ => False) (by first | (go_simp; done) | (go_simp; rfl)) (by first | (go_simp; done) | (go_simp; rfl)) HL5.out.m.hR (Kd.C_below HI3.out.2.1 HL5.out.m.hB) (fun x cs h => by rw [k65_open h]; exact k65_mkM _ _ _ x) (fun _ hk => hk.elim) (fun _ _ => trivial) (Below.refl _ _) HL5.out.m.hb (by have h := htl.out; rw [List.length_append] at h; omega) ?_; intro v1 w8 ho hb8 hg hat; obtain ⟨A8, c8, hv8⟩ := Kd.R_slice ho; obtain ⟨n8, hn8⟩ : ∃ n8, n8 = (dn ++ i.tk).length := ⟨_, rfl⟩; rw [← hn8] at hv8; subst hv8; have HL8 := Aside0.mk (HL5.out.app HS2.out hg ho); clear hn8 ho hb8 hg hat; have biw8 := (HL8.out.m.hB.block b HBW.out).trans HI3.out.1; have w8i0 : w8.cell? ⟨b, 0, none⟩ = some (.int .i64 xs) := (by rw [HXs.out.1]; exact (blk_cell biw8 0).trans rfl); have w8i1 : w8.cell? ⟨b, 1, none⟩ = some (.int .i64 xe) := (by rw [HXs.out.2]; exact (blk_cell biw8 1).trans rfl); have w8i2 : w8.cell? ⟨b, 2, none⟩ = some (.slice Ai i.tk.length ci) := (blk_cell biw8 2).trans rfl; have w8li := blk_lt biw8; clear biw8))
                    go_quiet (fail)
                    obtain ⟨W9, hW9⟩ : ∃ W9, W9 = w8.drewN nq := ⟨_, rfl⟩
                    rw [← hW9]
                    have HL9 : Aside0 (L2 w3 (w1.heap.size + 1 + 1) w5.heap.size w7.heap.size RT ps A3 c3 kT (min (j + 1) ps.length) eof (dn ++ i.tk) (.slice A8 n8 c8) W9) := ⟨by rw [hW9]; exact HL8.out.drewN HS2.out nq⟩
                    have hV9 : VarsOK W9 := vars_kept HV3.out (HL9.out.m.hB.block _ (vars_lt HV3.out))
                    have w9v0 := hV9.e0
                    have w9v1 := hV9.e1
                    have w9lv := vars_lt hV9
                    have HV9 := Aside0.mk hV9
                    have W9t0 : W9.cell? ⟨w5.heap.size, 0, none⟩ = some (.int .i64 0) := (blk_cell HL9.out.m.ht 0).trans rfl; have W9t1 : W9.cell? ⟨w5.heap.size, 1, none⟩ = some (.string ⟨#[]⟩) := (blk_cell HL9.out.m.ht 1).trans rfl; have W9f0 := blk_frozen HL9.out.m.ht 0; have W9f1 := blk_frozen HL9.out.m.ht 1; have W9l := blk_lt HL9.out.m.ht
                    have HJn : Aside0 (j + 1 ≤ ps.length ∧ min (j + 1) ps.length = j + 1) := ⟨by
                      have h := (HPs2.out j).1
                      have h2 := (HPs2.out j).2
                      rw [HId.out] at h2
                      have h3 : ps.drop j ≠ [] := fun e => by rw [e] at h; have h4 := List.map_eq_nil_iff.1 h.symm; rw [h4] at h2; cases h2
                      have h5 : j < ps.length := Nat.lt_of_not_le (fun h => h3 (List.drop_eq_nil_of_le h))
                      omega⟩
                    clear hW9 hV9
                    have kN : Aside0 (Calls Tryd.prog 76 #[.pointer (some ⟨w3.heap.size + 1, 0, none⟩), .pointer (some ⟨w3.heap.size, 0, none⟩)] W9 fun e w' => e = .returned (.agg #[.int .i64 0, .string ⟨#[]⟩]) ∧ W9.grownBy w' (some (w3.heap.size + 1)) ∧ w'.heap[w3.heap.size + 1]? = some (.cells #[.int .i64 (kT : Int)] 3 (0, 0))) := ⟨(nt_c (w3.heap.size + 1) w3.heap.size RT kT _ HV9.out HL9.out.m.nt (by have := HRTf.out.1; omega) HP.out.hk).mono (fun e w' h => by
                      obtain ⟨h1, h2, h3⟩ := h
                      have hd0 : RT.drop kT = [] := HP.out.hq.symm
                      have hn : ¬ kT < RT.length := fun h => by have := congrArg List.length hd0; rw [List.length_drop] at this; simp only [List.length_nil] at this; omega
                      rw [hd0] at h1
                      rw [if_neg hn] at h3
                      exact ⟨h1, h2, h3⟩)⟩
                    go_wp2_with (first | (go_at_call 76; refine kN.out.mono ?_; rintro e w9 ⟨rfl, g9, k9⟩; have HLa := Aside0.mk ((HL9.out.next HS2.out g9 k9)); clear g9 k9; have w9t0 : w9.cell? ⟨w5.heap.size, 0, none⟩ = some (.int .i64 0) := (blk_cell HLa.out.m.ht 0).trans rfl; have w9t1 : w9.cell? ⟨w5.heap.size, 1, none⟩ = some (.string ⟨#[]⟩) := (blk_cell HLa.out.m.ht 1).trans rfl; have w9f0 := blk_frozen HLa.out.m.ht 0; have w9f1 := blk_frozen HLa.out.m.ht 1; have w9l := blk_lt HLa.out.m.ht; have HLE := Aside0.mk (HLa.out.setT HS2.out eof)) | (go_at_call 77; refine (ni_c (w3.heap.size + 2) (w1.heap.size + 1 + 1) ps (min (j + 1) ps.length) _ HLE.out.m.ni (by have := HQ1.out.2; omega) (Nat.min_le_right _ _)).mono ?_; rintro e w10 ⟨rfl, g10, k10⟩; have HL10 := Aside0.mk (HLE.out.nextI HS2.out g10 k10); clear g10 k10))
                    have HLN : Aside0 (L2 w3 (w1.heap.size + 1 + 1) w5.heap.size w7.heap.size RT ps A3 c3 kT (min (j + 1 + 1) ps.length) eof (dn ++ i.tk) (.slice A8 n8 c8) w10) := ⟨by
                      have e : (if min (j + 1) ps.length < ps.length then min (j + 1) ps.length + 1 else min (j + 1) ps.length) = min (j + 1 + 1) ps.length := by have := HJn.out; split <;> omega
                      rw [← e]
                      exact HL10.out⟩
                    go_roundg k2
                    case measure => omega
                    case rel =>
                      refine ⟨_, kT, j + 1, m + (i.en - i.st), [], dn ++ i.tk, rfl, by rw [HJn.out.2], ⟨by have := HK.out; rw [HId.out] at this; rw [HJ.out.2.2]; simp only [List.length_cons, List.length_nil, List.length_map] at this ⊢; omega⟩, HLN, HPN, ⟨fun hne => ?_⟩⟩
                      have hw := HP.out.wf
                      rw [HId.out] at hw
                      have h1 := hw.2.1 (by rw [HJ.out.2.2] at hne; exact hne)
                      have h2 := HM.out
                      have h3 := HXs.out
                      have h4 := HN0e.out
                      unfold wrap64
                      omega
                | cons t q =>
                  have hnz := HP.out.nz t List.mem_cons_self
                  have htb : (t.f0 == 0) = false := beq_eq_false_iff_ne.2 hnz
                  have t0 : wr.cell? ⟨w5.heap.size, 0, none⟩ = some (.int .i64 t.f0) := (blk_cell HL.out.m.ht 0).trans rfl
                  have t1 : wr.cell? ⟨w5.heap.size, 1, none⟩ = some (.string t.f1) := (blk_cell HL.out.m.ht 1).trans rfl
                  have HTz : Aside0 (t.f1.size ≤ 8191) := ⟨by have := HP.out.sz; rw [szL_cons] at this; omega⟩
                  by_cases hlt : i.st < m + t.f1.size
                  · skip
                    have HLt := Aside0.mk hlt
                    have hcmp : decide (xs < wrap64 (x13 + (t.f1.size : Int))) = true := decide_eq_true (by have h1 := HM.out; have h2 := HTz.out; have h3 := HXs.out.1; unfold wrap64; omega)
                    clear hlt
                    by_cases hn0 : i.st - m = 0
                    · have HN0 := Aside0.mk hn0
                      have HN0e := Aside0.mk (HP.out.ins0 HId.out (.inr ⟨t, q, rfl, HLt.out, HN0.out⟩)).2
                      clear hn0
                      have HPN : Aside0 (P2 RT is (merge RT is 0) kT (j + 1) (t :: q) (m + (i.en - i.st)) (dn ++ i.tk)) := ⟨(HP.out.ins0 HId.out (.inr ⟨t, q, rfl, HLt.out, HN0.out⟩)).1⟩
                      have htl : Aside0 ((dn ++ i.tk).length ≤ 1000000) := ⟨by have h1 := congrArg List.length HPN.out.eq; rw [List.length_append] at h1; have h2 := HTl.out.1; omega⟩
                      go_wp2
                      go_quiet (fail)
                      obtain ⟨W, hW⟩ : ∃ W, W = wr.drewN nq := ⟨_, rfl⟩
                      rw [← hW]
                      have HLW : Aside0 (L2 w3 (w1.heap.size + 1 + 1) w5.heap.size w7.heap.size RT ps A3 c3 kT (min (j + 1) ps.length) t dn (.slice A9 dn.length c9) W) := ⟨by rw [hW]; exact HL.out.drewN HS2.out nq⟩
                      have HWs : Aside0 (w5.heap.size < W.heap.size ∧ b < W.heap.size ∧ b ≠ w5.heap.size ∧ some W.heap.size ≠ (.slice A9 dn.length c9 : Value).ownBlock) := ⟨by
                        have h1 := HLW.out.m.hs
                        have h2 := HLW.out.m.hb
                        have h3 := HBW.out
                        exact ⟨by omega, by omega, by omega, fun e => by have := Kd.R_lt HLW.out.m.hR _ e.symm; omega⟩⟩
                      clear hW t0 t1 v0 v1 lv lt5 tf0 tf1 i0 i1 i2 lbi hcmp
                      go_wp2
                      obtain ⟨W1, hW1⟩ : ∃ W1, W1 = W.alloc (.cells #[.int .i64 0, .string ⟨#[]⟩] 65) := ⟨_, rfl⟩
                      rw [← hW1]
                      have HL1 : Aside0 (L2 w3 (w1.heap.size + 1 + 1) w5.heap.size w7.heap.size RT ps A3 c3 kT (min (j + 1) ps.length) t dn (.slice A9 dn.length c9) W1) := ⟨by rw [hW1]; exact HLW.out.alloc HS2.out _⟩
                      have HW1 := Aside0.mk hW1
                      have HV1 : Aside0 (VarsOK W1.drew) := ⟨vars_kept HV3.out (HL1.out.m.hB.drew.block _ (vars_lt HV3.out))⟩
                      have W1t0 : W1.cell? ⟨w5.heap.size, 0, none⟩ = some (.int .i64 t.f0) := (blk_cell HL1.out.m.ht 0).trans rfl; have W1t1 : W1.cell? ⟨w5.heap.size, 1, none⟩ = some (.string t.f1) := (blk_cell HL1.out.m.ht 1).trans rfl; have W1f0 := blk_frozen HL1.out.m.ht 0; have W1f1 := blk_frozen HL1.out.m.ht 1; have W1l := blk_lt HL1.out.m.ht
                      have biW1 := (HL1.out.m.hB.block b HBW.out).trans HI3.out.1; have W1i0 : W1.cell? ⟨b, 0, none⟩ = some (.int .i64 xs) := (by rw [HXs.out.1]; exact (blk_cell biW1 0).trans rfl); have W1i1 : W1.cell? ⟨b, 1, none⟩ = some (.int .i64 xe) := (by rw [HXs.out.2]; exact (blk_cell biW1 1).trans rfl); have W1i2 : W1.cell? ⟨b, 2, none⟩ = some (.slice Ai i.tk.length ci) := (blk_cell biW1 2).trans rfl; have W1li := blk_lt biW1; clear biW1
                      have kS : Aside0 (Calls Tryd.prog 78 #[.agg #[.int .i64 t.f0, .string t.f1], .int .i64 (IntKind.i64.wrap (xs - x13))] W1.drew fun e w' => e = .returned (.tuple #[.agg #[.int .i64 0, .string ⟨#[]⟩], .agg #[.int .i64 t.f0, .string t.f1]]) ∧ Below W1.drew.heap.size W1.drew w') := ⟨by
                        have h0 : wrap64 (xs - x13) = 0 := (by have h1 := HM.out; have h2 := HXs.out.1; have h3 := HN0.out; unfold wrap64; omega)
                        rw [show IntKind.i64.wrap (xs - x13) = 0 from (IntKind.wrap_i64 _).trans (by unfold wrap64 at h0; exact h0)]
                        exact (split1_c t W1.drew HV1.out hnz).mono fun e w h => h⟩
                      clear hW1
                      go_region_with (first | (go_at_call 78; refine kS.out.mono ?_; rintro e w4 ⟨rfl, hB4⟩; rw [HW1.out] at hB4; have hst := split_store (l := eof) (r := t) rfl hB4 HWs.out.1 HLW.out.m.ht rfl; have HST := Aside0.mk hst; have HL5 := Aside0.mk (HLW.out.turn HS2.out hst.1 hst.2.1); have VV := vars_kept HV3.out ((HLW.out.m.hB.trans (hst.2.2.2.2.2.mono (by have := HLW.out.m.hB.size; omega))).block _ (vars_lt HV3.out)); have w4v0 := VV.e0; have w4v1 := VV.e1; have w4lv := vars_lt VV; have w4z0 := (blk_cell hst.2.2.2.1 0).trans rfl; have w4z1 := (blk_cell hst.2.2.2.1 1).trans rfl; have w4zf0 := blk_frozen hst.2.2.2.1 0; have w4zf1 := blk_frozen hst.2.2.2.1 1; have w4zl := blk_lt hst.2.2.2.1; have w4t0 := (blk_cell hst.2.2.2.2.1 0).trans rfl; have w4t1 := (blk_cell hst.2.2.2.2.1 1).trans rfl; have w4tf0 := blk_frozen hst.2.2.2.2.1 0; have w4tf1 := blk_frozen hst.2.2.2.2.1 1; have w4tl := blk_lt hst.2.2.2.2.1; have bi4 := ((HLW.out.m.hB.trans (hst.2.2.2.2.2.mono (by have := HLW.out.m.hB.size; omega))).block b HBW.out).trans HI3.out.1; have w4i2 : w4.cell? ⟨b, 2, none⟩ = some (.slice Ai i.tk.length ci) := (blk_cell bi4 2).trans rfl; have w4li := blk_lt bi4; have nLT : W.heap.size ≠ w5.heap.size := (by have := HWs.out; omega); have nTL : w5.heap.size ≠ W.heap.size := (fun e => nLT e.symm); have nbL : b ≠ W.heap.size := (by have := HWs.out; omega); have nLb : W.heap.size ≠ b := (fun e => nbL e.symm); have nbT : b ≠ w5.heap.size := HWs.out.2.2.1; have nTb : w5.heap.size ≠ b := (fun e => nbT e.symm); have nE1 : 0 ≠ W.heap.size := (by have h := vars_lt HV3.out; have := HLW.out.m.hB.size; omega); have nE2 : 0 ≠ w5.heap.size := (by have h := vars_lt HV3.out; have := HLW.out.m.hs; omega); clear hst hB4 VV bi4))
                      all_goals
                        go_wp2_with (first  | ((with_reducible refine gate_builtin (b := .append) (xs := #[.tmp 186, .tmp 190]) rfl ?_); at_builtin; refine Kd.R_append_rows kC (Rr := kC.K _) (w0 := _) w7.heap.size rfl (.tmp 186) (.tmp 190) 50 65 (.agg #[(.int .i64 0), (.string ⟨#[]⟩)]) 24 rfl Tryd.underlying50 info65 rfl (by decide) (by omega) (.slice A9 dn.length c9) dn i.tk Ai i.tk.length ci (fun _ => True) (fun _ => False) (by first | (go_simp; done) | (go_simp; rfl)) (by first | (go_simp; done) | (go_simp; rfl)) HL5.out.m.hR (Kd.C_below HI3.out.2.1 HL5.out.m.hB) (fun x cs h => by rw [k65_open h]; exact k65_mkM _ _ _ x) (fun _ hk => hk.elim) (fun _ _ => trivial) (Below.refl _ _) HL5.out.m.hb (by have h := htl.out; rw [List.length_append] at h; omega) ?_; intro v1 w8 ho hb8 hg hat; obtain ⟨A8, c8, hv8⟩ := Kd.R_slice ho; obtain ⟨n8, hn8⟩ : ∃ n8, n8 = (dn ++ i.tk).length := ⟨_, rfl⟩; rw [← hn8] at hv8; subst hv8; have HL8 := Aside0.mk (HL5.out.app HS2.out hg ho); clear hn8 ho hb8 hg hat; have biw8 := (HL8.out.m.hB.block b HBW.out).trans HI3.out.1; have w8i0 : w8.cell? ⟨b, 0, none⟩ = some (.int .i64 xs) := (by rw [HXs.out.1]; exact (blk_cell biw8 0).trans rfl); have w8i1 : w8.cell? ⟨b, 1, none⟩ = some (.int .i64 xe) := (by rw [HXs.out.2]; exact (blk_cell biw8 1).trans rfl); have w8i2 : w8.cell? ⟨b, 2, none⟩ = some (.slice Ai i.tk.length ci) := (blk_cell biw8 2).trans rfl; have w8li := blk_lt biw8; clear biw8))
                        go_quiet (fail)
                        obtain ⟨W9, hW9⟩ : ∃ W9, W9 = w8.drewN nq := ⟨_, rfl⟩
                        rw [← hW9]
                        have HL9 : Aside0 (L2 w3 (w1.heap.size + 1 + 1) w5.heap.size w7.heap.size RT ps A3 c3 kT (min (j + 1) ps.length) t (dn ++ i.tk) (.slice A8 n8 c8) W9) := ⟨by rw [hW9]; exact HL8.out.drewN HS2.out nq⟩
                        have hV9 : VarsOK W9 := vars_kept HV3.out (HL9.out.m.hB.block _ (vars_lt HV3.out))
                        have w9v0 := hV9.e0
                        have w9v1 := hV9.e1
                        have w9lv := vars_lt hV9
                        have HV9 := Aside0.mk hV9
                        have W9t0 : W9.cell? ⟨w5.heap.size, 0, none⟩ = some (.int .i64 t.f0) := (blk_cell HL9.out.m.ht 0).trans rfl; have W9t1 : W9.cell? ⟨w5.heap.size, 1, none⟩ = some (.string t.f1) := (blk_cell HL9.out.m.ht 1).trans rfl; have W9f0 := blk_frozen HL9.out.m.ht 0; have W9f1 := blk_frozen HL9.out.m.ht 1; have W9l := blk_lt HL9.out.m.ht
                        have HJn : Aside0 (j + 1 ≤ ps.length ∧ min (j + 1) ps.length = j + 1) := ⟨by
                          have h := (HPs2.out j).1
                          have h2 := (HPs2.out j).2
                          rw [HId.out] at h2
                          have h3 : ps.drop j ≠ [] := fun e => by rw [e] at h; have h4 := List.map_eq_nil_iff.1 h.symm; rw [h4] at h2; cases h2
                          have h5 : j < ps.length := Nat.lt_of_not_le (fun h => h3 (List.drop_eq_nil_of_le h))
                          omega⟩
                        clear hW9 hV9
                        skip
                        go_wp2_with (first | (go_at_call 77; refine (ni_c (w3.heap.size + 2) (w1.heap.size + 1 + 1) ps (min (j + 1) ps.length) _ HL9.out.m.ni (by have := HQ1.out.2; omega) (Nat.min_le_right _ _)).mono ?_; rintro e w10 ⟨rfl, g10, k10⟩; have HL10 := Aside0.mk (HL9.out.nextI HS2.out g10 k10); clear g10 k10))
                        have HLN : Aside0 (L2 w3 (w1.heap.size + 1 + 1) w5.heap.size w7.heap.size RT ps A3 c3 kT (min (j + 1 + 1) ps.length) t (dn ++ i.tk) (.slice A8 n8 c8) w10) := ⟨by
                          have e : (if min (j + 1) ps.length < ps.length then min (j + 1) ps.length + 1 else min (j + 1) ps.length) = min (j + 1 + 1) ps.length := by have := HJn.out; split <;> omega
                          rw [← e]
                          exact HL10.out⟩
                        go_roundg k2
                        case measure => omega
                        case rel =>
                          refine ⟨_, kT, j + 1, m + (i.en - i.st), t :: q, dn ++ i.tk, rfl, by rw [HJn.out.2], ⟨by have := HK.out; rw [HId.out] at this; rw [HJ.out.2.2]; simp only [List.length_cons, List.length_nil, List.length_map] at this ⊢; omega⟩, HLN, HPN, ⟨fun hne => ?_⟩⟩
                          have hw := HP.out.wf
                          rw [HId.out] at hw
                          have h1 := hw.2.1 (by rw [HJ.out.2.2] at hne; exact hne)
                          have h2 := HM.out
                          have h3 := HXs.out
                          have h4 := HN0e.out
                          unfold wrap64
                          omega
                    · have HN0 := Aside0.mk hn0
                      obtain ⟨n, hn⟩ : ∃ n, n = i.st - m := ⟨_, rfl⟩
                      have HNn2 : Aside0 (i.st - m = n) := ⟨hn.symm⟩
                      have HNn : Aside0 (n ≠ 0 ∧ n < t.f1.size) := ⟨by rw [hn]; have h1 := HLt.out; have h2 := HM.out; omega⟩
                      clear hn0 hn
                      have HPN : Aside0 (P2 RT is (merge RT is 0) kT (j + 1) ((⟨t.f0, rig t.f1 n⟩ : C) :: q) (i.st + (i.en - i.st)) ((dn ++ [(⟨t.f0, lef t.f1 n⟩ : C)]) ++ i.tk)) := ⟨by have h := HP.out.ins1 HId.out HLt.out HN0.out; rw [HNn2.out] at h; exact h⟩
                      have htl : Aside0 (((dn ++ [(⟨t.f0, lef t.f1 n⟩ : C)]) ++ i.tk).length ≤ 1000000) := ⟨by have h1 := congrArg List.length HPN.out.eq; rw [List.length_append] at h1; have h2 := HTl.out.1; omega⟩
                      go_wp2
                      go_quiet (fail)
                      obtain ⟨W, hW⟩ : ∃ W, W = wr.drewN nq := ⟨_, rfl⟩
                      rw [← hW]
                      have HLW : Aside0 (L2 w3 (w1.heap.size + 1 + 1) w5.heap.size w7.heap.size RT ps A3 c3 kT (min (j + 1) ps.length) t dn (.slice A9 dn.length c9) W) := ⟨by rw [hW]; exact HL.out.drewN HS2.out nq⟩
                      have HWs : Aside0 (w5.heap.size < W.heap.size ∧ b < W.heap.size ∧ b ≠ w5.heap.size ∧ some W.heap.size ≠ (.slice A9 dn.length c9 : Value).ownBlock) := ⟨by
                        have h1 := HLW.out.m.hs
                        have h2 := HLW.out.m.hb
                        have h3 := HBW.out
                        exact ⟨by omega, by omega, by omega, fun e => by have := Kd.R_lt HLW.out.m.hR _ e.symm; omega⟩⟩
                      clear hW t0 t1 v0 v1 lv lt5 tf0 tf1 i0 i1 i2 lbi hcmp
                      go_wp2
                      obtain ⟨W1, hW1⟩ : ∃ W1, W1 = W.alloc (.cells #[.int .i64 0, .string ⟨#[]⟩] 65) := ⟨_, rfl⟩
                      rw [← hW1]
                      have HL1 : Aside0 (L2 w3 (w1.heap.size + 1 + 1) w5.heap.size w7.heap.size RT ps A3 c3 kT (min (j + 1) ps.length) t dn (.slice A9 dn.length c9) W1) := ⟨by rw [hW1]; exact HLW.out.alloc HS2.out _⟩
                      have HW1 := Aside0.mk hW1
                      have HV1 : Aside0 (VarsOK W1.drew) := ⟨vars_kept HV3.out (HL1.out.m.hB.drew.block _ (vars_lt HV3.out))⟩
                      have W1t0 : W1.cell? ⟨w5.heap.size, 0, none⟩ = some (.int .i64 t.f0) := (blk_cell HL1.out.m.ht 0).trans rfl; have W1t1 : W1.cell? ⟨w5.heap.size, 1, none⟩ = some (.string t.f1) := (blk_cell HL1.out.m.ht 1).trans rfl; have W1f0 := blk_frozen HL1.out.m.ht 0; have W1f1 := blk_frozen HL1.out.m.ht 1; have W1l := blk_lt HL1.out.m.ht
                      have biW1 := (HL1.out.m.hB.block b HBW.out).trans HI3.out.1; have W1i0 : W1.cell? ⟨b, 0, none⟩ = some (.int .i64 xs) := (by rw [HXs.out.1]; exact (blk_cell biW1 0).trans rfl); have W1i1 : W1.cell? ⟨b, 1, none⟩ = some (.int .i64 xe) := (by rw [HXs.out.2]; exact (blk_cell biW1 1).trans rfl); have W1i2 : W1.cell? ⟨b, 2, none⟩ = some (.slice Ai i.tk.length ci) := (blk_cell biW1 2).trans rfl; have W1li := blk_lt biW1; clear biW1
                      have kS : Aside0 (Calls Tryd.prog 78 #[.agg #[.int .i64 t.f0, .string t.f1], .int .i64 (IntKind.i64.wrap (xs - x13))] W1.drew fun e w' => e = .returned (.tuple #[.agg #[.int .i64 t.f0, .string (lef t.f1 n)], .agg #[.int .i64 t.f0, .string (rig t.f1 n)]]) ∧ Below W1.drew.heap.size W1.drew w') := ⟨by
                        have h0 : wrap64 (xs - x13) = (n : Int) := (by have h1 := HM.out; have h2 := HXs.out.1; have h3 := HNn2.out; unfold wrap64; omega)
                        rw [show IntKind.i64.wrap (xs - x13) = (n : Int) from (IntKind.wrap_i64 _).trans (by unfold wrap64 at h0; exact h0)]
                        exact (split2_c t n W1.drew HV1.out hnz HNn.out.1 HNn.out.2).mono fun e w h => h⟩
                      clear hW1
                      go_region_with (first | (go_at_call 78; refine kS.out.mono ?_; rintro e w4 ⟨rfl, hB4⟩; rw [HW1.out] at hB4; have hst := split_store (l := (⟨t.f0, lef t.f1 n⟩ : C)) (r := (⟨t.f0, rig t.f1 n⟩ : C)) rfl hB4 HWs.out.1 HLW.out.m.ht rfl; have HST := Aside0.mk hst; have HL5 := Aside0.mk (HLW.out.turn HS2.out hst.1 hst.2.1); have VV := vars_kept HV3.out ((HLW.out.m.hB.trans (hst.2.2.2.2.2.mono (by have := HLW.out.m.hB.size; omega))).block _ (vars_lt HV3.out)); have w4v0 := VV.e0; have w4v1 := VV.e1; have w4lv := vars_lt VV; have w4z0 := (blk_cell hst.2.2.2.1 0).trans rfl; have w4z1 := (blk_cell hst.2.2.2.1 1).trans rfl; have w4zf0 := blk_frozen hst.2.2.2.1 0; have w4zf1 := blk_frozen hst.2.2.2.1 1; have w4zl := blk_lt hst.2.2.2.1; have w4t0 := (blk_cell hst.2.2.2.2.1 0).trans rfl; have w4t1 := (blk_cell hst.2.2.2.2.1 1).trans rfl; have w4tf0 := blk_frozen hst.2.2.2.2.1 0; have w4tf1 := blk_frozen hst.2.2.2.2.1 1; have w4tl := blk_lt hst.2.2.2.2.1; have bi4 := ((HLW.out.m.hB.trans (hst.2.2.2.2.2.mono (by have := HLW.out.m.hB.size; omega))).block b HBW.out).trans HI3.out.1; have w4i2 : w4.cell? ⟨b, 2, none⟩ = some (.slice Ai i.tk.length ci) := (blk_cell bi4 2).trans rfl; have w4li := blk_lt bi4; have nLT : W.heap.size ≠ w5.heap.size := (by have := HWs.out; omega); have nTL : w5.heap.size ≠ W.heap.size := (fun e => nLT e.symm); have nbL : b ≠ W.heap.size := (by have := HWs.out; omega); have nLb : W.heap.size ≠ b := (fun e => nbL e.symm); have nbT : b ≠ w5.heap.size := HWs.out.2.2.1; have nTb : w5.heap.size ≠ b := (fun e => nbT e.symm); have nE1 : 0 ≠ W.heap.size := (by have h := vars_lt HV3.out; have := HLW.out.m.hB.size; omega); have nE2 : 0 ≠ w5.heap.size := (by have h := vars_lt HV3.out; have := HLW.out.m.hs; omega); clear hst hB4 VV bi4))
                      all_goals
                        go_wp2_with (first  | ((with_reducible refine gate_builtin (b := .append) (xs := #[.tmp 177, .tmp 179]) rfl ?_); at_builtin; refine Kd.R_append kC (w0 := _) w7.heap.size rfl (.tmp 177) (.tmp 179) 50 65 (.agg #[(.int .i64 0), (.string ⟨#[]⟩)]) 24 rfl Tryd.underlying50 info65 rfl (by decide) (by omega) (.slice A9 dn.length c9) dn (⟨t.f0, lef t.f1 n⟩ : C) [.int .i64 t.f0, .string (lef t.f1 n)] (fun _ => True) (fun _ => False) rfl (by first | (go_simp; done) | (go_simp; rfl)) ?aP (fun _ hk => hk.elim) ?aF ?aO (Below.refl _ _) ?aS ?aL ?_; (case aP => exact k65_mkM _ _ _ (⟨t.f0, lef t.f1 n⟩ : C)); (case aF => exact (fun _ _ => trivial)); (case aO => exact HL5.out.m.hR); (case aS => exact HL5.out.m.hb); (case aL => have h := htl.out; simp only [List.length_append, List.length_cons, List.length_nil] at h; omega); intro v1 w6 ho hb8 hg hat; obtain ⟨A6, c6, hv6⟩ := Kd.R_slice ho; obtain ⟨n6, hn6⟩ : ∃ n6, n6 = (dn ++ [(⟨t.f0, lef t.f1 n⟩ : C)]).length := ⟨_, rfl⟩; rw [← hn6] at hv6; subst hv6; have HL6 := Aside0.mk (HL5.out.app HS2.out hg ho); have hl6 := (hg.block W.heap.size (blk_lt HST.out.2.2.1) HWs.out.2.2.2).trans HST.out.2.2.1; have w6l1 : w6.cell? ⟨W.heap.size, 1, none⟩ = some (.string ((lef t.f1 n))) := (blk_cell hl6 1).trans rfl; have w6ll := blk_lt hl6; clear hn6 ho hb8 hg hat hl6; have biw6 := (HL6.out.m.hB.block b HBW.out).trans HI3.out.1; have w6i0 : w6.cell? ⟨b, 0, none⟩ = some (.int .i64 xs) := (by rw [HXs.out.1]; exact (blk_cell biw6 0).trans rfl); have w6i1 : w6.cell? ⟨b, 1, none⟩ = some (.int .i64 xe) := (by rw [HXs.out.2]; exact (blk_cell biw6 1).trans rfl); have w6i2 : w6.cell? ⟨b, 2, none⟩ = some (.slice Ai i.tk.length ci) := (blk_cell biw6 2).trans rfl; have w6li := blk_lt biw6; clear biw6) | ((with_reducible refine gate_builtin (b := .append) (xs := #[.tmp 186, .tmp 190]) rfl ?_); at_builtin; refine Kd.R_append_rows kC (Rr := kC.K _) (w0 := _) w7.heap.size rfl (.tmp 186) (.tmp 190) 50 65 (.agg #[(.int .i64 0), (.string ⟨#[]⟩)]) 24 rfl Tryd.underlying50 info65 rfl (by decide) (by omega) (.slice A6 n6 c6) (dn ++ [(⟨t.f0, lef t.f1 n⟩ : C)]) i.tk Ai i.tk.length ci (fun _ => True) (fun _ => False) (by first | (go_simp; done) | (go_simp; rfl)) (by first | (go_simp; done) | (go_simp; rfl)) HL6.out.m.hR (Kd.C_below HI3.out.2.1 HL6.out.m.hB) (fun x cs h => by rw [k65_open h]; exact k65_mkM _ _ _ x) (fun _ hk => hk.elim) (fun _ _ => trivial) (Below.refl _ _) HL6.out.m.hb (by have h := htl.out; rw [List.length_append] at h; omega) ?_; intro v1 w8 ho hb8 hg hat; obtain ⟨A8, c8, hv8⟩ := Kd.R_slice ho; obtain ⟨n8, hn8⟩ : ∃ n8, n8 = ((dn ++ [(⟨t.f0, lef t.f1 n⟩ : C)]) ++ i.tk).length := ⟨_, rfl⟩; rw [← hn8] at hv8; subst hv8; have HL8 := Aside0.mk (HL6.out.app HS2.out hg ho); clear hn8 ho hb8 hg hat; have biw8 := (HL8.out.m.hB.block b HBW.out).trans HI3.out.1; have w8i0 : w8.cell? ⟨b, 0, none⟩ = some (.int .i64 xs) := (by rw [HXs.out.1]; exact (blk_cell biw8 0).trans rfl); have w8i1 : w8.cell? ⟨b, 1, none⟩ = some (.int .i64 xe) := (by rw [HXs.out.2]; exact (blk_cell biw8 1).trans rfl); have w8i2 : w8.cell? ⟨b, 2, none⟩ = some (.slice Ai i.tk.length ci) := (blk_cell biw8 2).trans rfl; have w8li := blk_lt biw8; clear biw8))
                        go_quiet (fail)
                        obtain ⟨W9, hW9⟩ : ∃ W9, W9 = w8.drewN nq := ⟨_, rfl⟩
                        rw [← hW9]
                        have HL9 : Aside0 (L2 w3 (w1.heap.size + 1 + 1) w5.heap.size w7.heap.size RT ps A3 c3 kT (min (j + 1) ps.length) (⟨t.f0, rig t.f1 n⟩ : C) ((dn ++ [(⟨t.f0, lef t.f1 n⟩ : C)]) ++ i.tk) (.slice A8 n8 c8) W9) := ⟨by rw [hW9]; exact HL8.out.drewN HS2.out nq⟩
                        have hV9 : VarsOK W9 := vars_kept HV3.out (HL9.out.m.hB.block _ (vars_lt HV3.out))
                        have w9v0 := hV9.e0
                        have w9v1 := hV9.e1
                        have w9lv := vars_lt hV9
                        have HV9 := Aside0.mk hV9
                        have W9t0 : W9.cell? ⟨w5.heap.size, 0, none⟩ = some (.int .i64 t.f0) := (blk_cell HL9.out.m.ht 0).trans rfl; have W9t1 : W9.cell? ⟨w5.heap.size, 1, none⟩ = some (.string (rig t.f1 n)) := (blk_cell HL9.out.m.ht 1).trans rfl; have W9f0 := blk_frozen HL9.out.m.ht 0; have W9f1 := blk_frozen HL9.out.m.ht 1; have W9l := blk_lt HL9.out.m.ht
                        have HJn : Aside0 (j + 1 ≤ ps.length ∧ min (j + 1) ps.length = j + 1) := ⟨by
                          have h := (HPs2.out j).1
                          have h2 := (HPs2.out j).2
                          rw [HId.out] at h2
                          have h3 : ps.drop j ≠ [] := fun e => by rw [e] at h; have h4 := List.map_eq_nil_iff.1 h.symm; rw [h4] at h2; cases h2
                          have h5 : j < ps.length := Nat.lt_of_not_le (fun h => h3 (List.drop_eq_nil_of_le h))
                          omega⟩
                        clear hW9 hV9
                        skip
                        go_wp2_with (first | (go_at_call 77; refine (ni_c (w3.heap.size + 2) (w1.heap.size + 1 + 1) ps (min (j + 1) ps.length) _ HL9.out.m.ni (by have := HQ1.out.2; omega) (Nat.min_le_right _ _)).mono ?_; rintro e w10 ⟨rfl, g10, k10⟩; have HL10 := Aside0.mk (HL9.out.nextI HS2.out g10 k10); clear g10 k10))
                        have HLN : Aside0 (L2 w3 (w1.heap.size + 1 + 1) w5.heap.size w7.heap.size RT ps A3 c3 kT (min (j + 1 + 1) ps.length) (⟨t.f0, rig t.f1 n⟩ : C) ((dn ++ [(⟨t.f0, lef t.f1 n⟩ : C)]) ++ i.tk) (.slice A8 n8 c8) w10) := ⟨by
                          have e : (if min (j + 1) ps.length < ps.length then min (j + 1) ps.length + 1 else min (j + 1) ps.length) = min (j + 1 + 1) ps.length := by have := HJn.out; split <;> omega
                          rw [← e]
                          exact HL10.out⟩
                        go_roundg k2
                        case measure => omega
                        case rel =>
                          refine ⟨_, kT, j + 1, i.st + (i.en - i.st), (⟨t.f0, rig t.f1 n⟩ : C) :: q, (dn ++ [(⟨t.f0, lef t.f1 n⟩ : C)]) ++ i.tk, rfl, by rw [HJn.out.2], ⟨by have := HK.out; rw [HId.out] at this; rw [HJ.out.2.2]; simp only [List.length_cons, List.length_nil, List.length_map] at this ⊢; omega⟩, HLN, HPN, ⟨fun hne => ?_⟩⟩
                          have hw := HP.out.wf
                          rw [HId.out] at hw
                          have h1 := hw.2.1 (by rw [HJ.out.2.2] at hne; exact hne)
                          have h2 := HM.out
                          have h3 := HXs.out
                          have h4 : (lef t.f1 n).size = n := by rw [← bys_len, bys_lef, List.length_take, bys_len]; have := HNn.out.2; omega
                          have h5 := HNn2.out
                          have h6 := HTz.out
                          have h7 := HNn.out
                          unfold wrap64
                          omega
                  · have HLt := Aside0.mk hlt
                    have hcmp : decide (xs < wrap64 (x13 + (t.f1.size : Int))) = false := decide_eq_false (by have h1 := HM.out; have h2 := HTz.out; have h3 := HXs.out.1; unfold wrap64; omega)
                    clear hlt
                    have hdl : Aside0 ((dn.length + 1) * 24 ≤ 140737488355328) := ⟨by have h1 := congrArg List.length HP.out.eq; rw [List.length_append] at h1; have h2 := HTl.out.1; omega⟩
                    go_wp2
                    go_quiet (fail)
                    obtain ⟨W, hW⟩ : ∃ W, W = wr.drewN nq := ⟨_, rfl⟩
                    rw [← hW]
                    have HLW : Aside0 (L2 w3 (w1.heap.size + 1 + 1) w5.heap.size w7.heap.size RT ps A3 c3 kT (min (j + 1) ps.length) t dn (.slice A9 dn.length c9) W) := ⟨by rw [hW]; exact HL.out.drewN HS2.out nq⟩
                    have Wt0 : W.cell? ⟨w5.heap.size, 0, none⟩ = some (.int .i64 t.f0) := (blk_cell HLW.out.m.ht 0).trans rfl; have Wt1 : W.cell? ⟨w5.heap.size, 1, none⟩ = some (.string t.f1) := (blk_cell HLW.out.m.ht 1).trans rfl; have Wf0 := blk_frozen HLW.out.m.ht 0; have Wf1 := blk_frozen HLW.out.m.ht 1; have Wl := blk_lt HLW.out.m.ht
                    clear hW t0 t1 v0 v1 lv lt5 tf0 tf1 hnz i0 i1 i2 lbi hcmp
                    go_wp2_with (first | ((with_reducible refine gate_builtin (b := .append) (xs := #[.tmp 210, .tmp 212]) rfl ?_); at_builtin; refine Kd.R_append kC (w0 := W) w7.heap.size rfl (.tmp 210) (.tmp 212) 50 65 (.agg #[(.int .i64 0), (.string ⟨#[]⟩)]) 24 rfl Tryd.underlying50 info65 rfl (by decide) (by omega) (.slice A9 dn.length c9) dn t [.int .i64 t.f0, .string t.f1] (fun _ => True) (fun _ => False) rfl (by first | (go_simp; done) | (go_simp; rfl)) ?aP (fun _ hk => hk.elim) ?aF ?aO ?aB ?aS ?aL ?_; (case aP => exact k65_mkM _ _ _ t); (case aB => exact Below.refl _ _); (case aF => exact (fun _ _ => trivial)); (case aO => exact HLW.out.m.hR); (case aS => exact HLW.out.m.hb); (case aL => exact hdl.out); intro v1 w8 ho hb8 hg hat; obtain ⟨A8, c8, rfl⟩ := Kd.R_slice ho; have hlA : (dn ++ [t]).length = dn.length + 1 := (by simp); rw [hlA] at ho; have HL8 := Aside0.mk (HLW.out.app HS2.out hg ho); clear hlA ho hb8 hg hat; have w8t0 : w8.cell? ⟨w5.heap.size, 0, none⟩ = some (.int .i64 t.f0) := (blk_cell HL8.out.m.ht 0).trans rfl; have w8t1 : w8.cell? ⟨w5.heap.size, 1, none⟩ = some (.string t.f1) := (blk_cell HL8.out.m.ht 1).trans rfl; have w8f0 := blk_frozen HL8.out.m.ht 0; have w8f1 := blk_frozen HL8.out.m.ht 1; have w8l := blk_lt HL8.out.m.ht) | (go_at_call 76; refine (nt_c (w3.heap.size + 1) w3.heap.size RT kT _ (vars_kept HV3.out (HL8.out.m.hB.block _ (vars_lt HV3.out))) HL8.out.m.nt (by have := HRTf.out.1; omega) HP.out.hk).mono ?_; rintro e w9 ⟨rfl, g9, k9⟩; have HL9 := Aside0.mk (HL8.out.next HS2.out g9 k9); clear g9 k9; have w9t0 : w9.cell? ⟨w5.heap.size, 0, none⟩ = some (.int .i64 t.f0) := (blk_cell HL9.out.m.ht 0).trans rfl; have w9t1 : w9.cell? ⟨w5.heap.size, 1, none⟩ = some (.string t.f1) := (blk_cell HL9.out.m.ht 1).trans rfl; have w9f0 := blk_frozen HL9.out.m.ht 0; have w9f1 := blk_frozen HL9.out.m.ht 1; have w9l := blk_lt HL9.out.m.ht))
                    have HLN : Aside0 (L2 w3 (w1.heap.size + 1 + 1) w5.heap.size w7.heap.size RT ps A3 c3 (if kT < RT.length then kT + 1 else kT) (min (j + 1) ps.length) (hd q) (dn ++ [t]) (.slice A8 (dn.length + 1) c8) ((w9.setCell ⟨w5.heap.size, 0, none⟩ (.int .i64 (hd (RT.drop kT)).f0)).setCell ⟨w5.heap.size, 1, none⟩ (.string (hd (RT.drop kT)).f1))) := ⟨by
                      have hq : q = RT.drop kT := HP.out.hq
                      rw [hq]
                      exact HL9.out.setT HS2.out (hd (RT.drop kT))⟩
                    go_roundg k2
                    case measure => omega
                    case rel => exact ⟨_, _, j, m + t.f1.size, q, dn ++ [t], rfl, hpt.symm, ⟨by have := HK.out; simp only [List.length_cons] at this; omega⟩, HLN, ⟨HP.out.pop (.inr ⟨i, _, HId.out, HLt.out⟩)⟩, ⟨fun _ => by have h1 := HM.out; have h2 := HTz.out; unfold wrap64; omega⟩⟩
                --ENDI
end Go.Proofs.YtmldahejeobohaaDoorTake
