/- Lexers that give what a function of the text tells (impl.given), coalesced: chroma.Tokenise over any of them. -/
import Derived.Test.YtmldahejeobohaaDoorCoaT
set_option linter.unusedVariables false
set_option linter.unusedSimpArgs false
namespace Go.Proofs.YtmldahejeobohaaDoorTake
open Go.RowKit Go.Proofs.YtmldahejeobohaaDoorW.PrintWords Go.Proofs.YtmldahejeobohaaDoor.A Go.Proofs.YtmldahejeobohaaDoorFmt
/-- A given lexer. -/
abbrev gV (cfg : Option Addr) (fn : Fn) (fu fv : Array Value) : Value := .iface 54 (.agg #[.pointer cfg, .func fn fu fv])
/-- What its Tokenise gives, from w on: an iterator over the tokens xs. -/
def GivC (gv : Value) (s : ByteArray) (xs : List C) (w : World) : Prop := ∀ W, Below w.heap.size w W →
  Calls Tryd.prog 62 #[gv, .pointer none, .string s] W fun e w' => ∃ Bt g, e = .returned (.tuple #[.func (.func 64) #[] #[.pointer (some ⟨Bt, 0, none⟩)], .nilIface]) ∧ LitAt w' Bt g xs ∧ W.heap.size ≤ Bt ∧ W.heap.size ≤ g ∧ g < w'.heap.size ∧ Below W.heap.size W w'
theorem GivC.below {gv : Value} {s : ByteArray} {xs : List C} {w w' : World} (h : GivC gv s xs w) (hB : Below w.heap.size w w') : GivC gv s xs w' := fun W hW => h W (below_step hB hW)
theorem meth_gG (cfg : Option Addr) (fn : Fn) (fu fv : Array Value) (w : World) : (method 267 54 (.agg #[.pointer cfg, .func fn fu fv]) "Tokenise").run Tryd.prog w = .ok (62, .agg #[.pointer cfg, .func fn fu fv]) w := by kernel_rfl
set_option maxRecDepth 100000 in
set_option maxHeartbeats 4000000 in
theorem ctG_c (Br : Nat) (cfg : Option Addr) (fn : Fn) (fu fv : Array Value) (xs : List C) (s : ByteArray) (w : World) (hG : GivC (.agg #[.pointer cfg, .func fn fu fv]) s xs w) (hr : w.heap[Br]? = some (.cells #[gV cfg fn fu fv] 137 (0, 0))) :
    Calls Tryd.prog 89 #[.pointer (some ⟨Br, 0, none⟩), .pointer none, .string s] w fun e w' => ∃ Bi Bp Bt g, e = .returned (.tuple #[.func (.func 90) #[] #[.pointer (some ⟨Bi, 0, none⟩), .pointer (some ⟨Bp, 0, none⟩)], .nilIface]) ∧ CoAt w' w.heap.size w'.heap.size Bp Bi Bt g eof xs ∧ Below w.heap.size w w' := by
  have hmf : ∀ (fn : Fn) (first cap : Array Value) (w : World), (Instr.makeFunc fn first cap).run Tryd.prog w = .ok (.func fn first cap) w := fun _ _ _ _ => rfl
  have HB := Aside0.mk ((Below.refl w.heap.size w).alloc (Nat.le_refl _) (.cells #[.int .i64 0, .string ⟨#[]⟩] 65))
  have H := Aside0.mk (hG _ HB.out)
  have r0 : w.cell? ⟨Br, 0, none⟩ = some (gV cfg fn fu fv) := (blk_cell hr 0).trans rfl
  have lr := blk_lt hr
  have hm := meth_gG cfg fn fu fv
  have hsf : ∀ (a : Addr) (fn : Fn) (x y : Array Value) (m : Mode) (w : World), (store a (.func fn x y) m).run Tryd.prog w = stored Tryd.prog w a (.func fn x y) m := fun a fn x y m w => run_store Tryd.prog w a _ m rfl
  have hnn : ∀ (w : World), (Go.binOp .neq 67 .nilIface .nilIface).run Tryd.prog w = .ok (.bool false) w := fun w => run_neq_nil_nil (P := Tryd.prog) w 67 (by kernel_rfl)
  clear hG hr
  go_enter Tryd.func89, Tryd.ntmps89
  go_wp2_with (go_at_call 62; refine H.out.mono ?_; rintro e w4 ⟨Bt, g, rfl, hP⟩; have HP := Aside0.mk hP; clear hP)
  go_ret2
  obtain ⟨hL, hb1, hb2, hb3, hB4⟩ := HP.out
  have hs4 := hB4.size
  rw [World.size_alloc] at hs4 hb1 hb2
  have hlt := hL.lt
  refine ⟨_, _, Bt, g, rfl, ⟨blk_alloc ((hB4.block w.heap.size (by simp)).trans (blk_new w _)) _, blk_new _ _, hL.same (Below.heap_alloc _ _ _ hlt) (Below.heap_alloc _ _ _ hb3), ⟨Nat.le_refl _, by simp; omega⟩, by simp, ⟨by omega, by simp; omega⟩, by simp; omega, by omega⟩, (below_step HB.out hB4).alloc (by omega) _⟩
set_option maxRecDepth 100000 in
set_option maxHeartbeats 8000000 in
theorem tkG_c (Br : Nat) (cfg : Option Addr) (fn : Fn) (fu fv : Array Value) (l : List C) (s : ByteArray) (w : World) (hV : VarsOK w) (hG : GivC (.agg #[.pointer cfg, .func fn fu fv]) s l w) (hl : l.length ≤ 90000) (hz : ∀ x ∈ l, x.f0 ≠ 0) (hs : szL l ≤ 8191) (hr : w.heap[Br]? = some (.cells #[gV cfg fn fu fv] 137 (0, 0))) :
    Calls Tryd.prog 28 #[.iface 135 (.pointer (some ⟨Br, 0, none⟩)), .pointer none, .string s] w fun e w' => ∃ v, e = .returned (.tuple #[v, .nilIface]) ∧ RC w' w.heap.size v (runsL eof l) ∧ Below w.heap.size w w' := by
  have hu := Tryd.underlying65
  have hm := meth_co Br
  have hnn : ∀ (w : World), (Go.binOp .neq 67 .nilIface .nilIface).run Tryd.prog w = .ok (.bool false) w := fun w => run_neq_nil_nil (P := Tryd.prog) w 67 (by kernel_rfl)
  have HK0 := Aside0.mk (ctG_c Br cfg fn fu fv l s w hG hr)
  have hE := vars_lt hV
  have HZ := Aside0.mk hz
  have HS := Aside0.mk hs
  have hgood := Aside0.mk (runsL_good l eof hz (.inl rfl))
  have hlen := Aside0.mk (runsL_len l eof)
  clear hG hr hz hs
  go_enter Tryd.func28, Tryd.ntmps28
  go_wp2_with (first | (go_at_call 89; refine HK0.out.mono ?_; rintro e w1 ⟨Bi, Bp, Bt, g, rfl, hP⟩; have HP := Aside0.mk hP; clear hP) | (go_at_call 90; refine (coi_c w.heap.size w1.heap.size Bp Bi (runsL eof l) w1 (vars_kept hV (HP.out.2.block _ hE)) hE ⟨Bt, g, eof, _, HP.out.1, rfl, HZ.out, .inl rfl, by have := HS.out; show 0 + _ ≤ _; omega⟩ HP.out.2.size (Nat.le_refl _)).mono ?_; rintro e w2 ⟨rfl, hQ⟩; have HQ := Aside0.mk hQ; clear hQ))
  have hV1 : Aside0 (VarsOK w1) := ⟨vars_kept hV (HP.out.2.block _ hE)⟩
  have hs1 : Aside0 (w.heap.size ≤ w1.heap.size) := ⟨HP.out.2.size⟩
  have HL : Aside0 (TLc w.heap.size w1.heap.size Bp Bi (runsL eof l) w1 (.slice none 0 0) w2.heap.size [] (runsL eof l) (w2.alloc (.cells #[.int .i64 (hd (runsL eof l)).f0, .string (hd (runsL eof l)).f1] 65))) :=
    ⟨⟨rfl, blk_new _ _, by simp [Value.ownBlock], HQ.out.1.same (fun k hk hlt => Below.heap_alloc _ _ _ hlt), HQ.out.2.trans (Fr.alloc _ _), Kd.R_nil _ _ _ _ _⟩⟩
  generalize hxs : runsL eof l = xs at HL hgood hlen ⊢
  clear HQ HZ HS HK0
  go_loopg [8, 11] (xs.length + 1) (fun kq v8 v11 wr => ∃ (Bx : Nat) (dn rest : List C), v11 = .pointer (some ⟨Bx, 0, none⟩) ∧ Aside0 (rest.length < kq) ∧ Aside0 (TLc w.heap.size w1.heap.size Bp Bi xs w1 v8 Bx dn rest wr))
  case atStart => exact ⟨_, [], xs, rfl, ⟨Nat.lt_succ_self _⟩, HL⟩
  case round =>
    obtain ⟨Bx, dn, rest, rfl, HK, HH⟩ := hrel
    clear HL
    cases gk with
    | zero => have := HK.out; omega
    | succ k1 =>
      have H := HH.out
      have V := co_vars hV1.out hE H.hF
      have v0 := V.e0
      have v1 := V.e1
      have lv := vars_lt V
      have lx := blk_lt H.hx
      cases rest with
      | nil =>
        have x0 : wr.cell? ⟨Bx, 0, none⟩ = some (.int .i64 0) := (blk_cell H.hx 0).trans rfl
        have x1 : wr.cell? ⟨Bx, 1, none⟩ = some (.string ⟨#[]⟩) := (blk_cell H.hx 1).trans rfl
        clear H V
        go_wp2
        go_ret2
        have H := HH.out
        have hxd : xs = dn := by rw [H.hf, List.append_nil]
        exact ⟨u8, rfl, by rw [hxs, hxd]; exact Kd.R_lower H.hR hs1.out, H.hF.below HP.out.2 hs1.out⟩
      | cons x r =>
        have x0 : wr.cell? ⟨Bx, 0, none⟩ = some (.int .i64 x.f0) := (blk_cell H.hx 0).trans rfl
        have x1 : wr.cell? ⟨Bx, 1, none⟩ = some (.string x.f1) := (blk_cell H.hx 1).trans rfl
        have hxz : x.f0 ≠ 0 := hgood.out x (by rw [H.hf]; simp)
        have hxb : (x.f0 == 0) = false := beq_eq_false_iff_ne.2 hxz
        have hL : Aside0 (dn.length < 1000000) := ⟨by have := congrArg List.length H.hf; have := hlen.out; simp at *; omega⟩
        have hbs : Aside0 (w1.heap.size ≤ wr.heap.size) := ⟨H.hF.size⟩
        clear H V
        go_wp2_with (first | ((with_reducible refine gate_builtin (b := .append) (xs := #[.tmp 29, .tmp 31]) rfl ?_); at_builtin; refine Kd.R_append kC (w0 := wr) w1.heap.size rfl (.tmp 29) (.tmp 31) 50 65 (.agg #[(.int .i64 0), (.string ⟨#[]⟩)]) 24 rfl Tryd.underlying50 info65 rfl (by decide) (by omega) u8 dn x [.int .i64 x.f0, .string x.f1] (fun _ => True) (fun _ => False) rfl (by first | (go_simp; done) | (go_simp; rfl)) ?aP (fun _ hk => hk.elim) ?aF ?aO ?aB ?aS ?aL ?_; (case aP => exact k65_mkM _ _ _ x); (case aB => exact Below.refl _ _); (case aF => exact (fun _ _ => trivial)); (case aO => exact HH.out.hR); (case aS => exact hbs.out); (case aL => have := hL.out; omega); intro v1 w8 ho hb8 hg hat; have hP8 := Aside0.mk (tlc_append (Nat.le_refl _) HH.out hg ho); have hO := Aside0.mk ho; have hx8 := hP8.out.1; have y0 : w8.cell? ⟨Bx, 0, none⟩ = some (.int .i64 x.f0) := (blk_cell hx8 0).trans rfl; have y1 : w8.cell? ⟨Bx, 1, none⟩ = some (.string x.f1) := (blk_cell hx8 1).trans rfl; have lx8 := blk_lt hx8; clear hx8 ho hb8 hg hat) | (go_at_call 90; refine (coi_c w.heap.size w1.heap.size Bp Bi r _ (co_vars hV1.out hE (hP8.out.2.2.trans (Fr.alloc _ _))) hE (hP8.out.2.1.same (fun k hk hlt => Below.heap_alloc _ _ _ hlt)) hs1.out (by have := hP8.out.2.2.size; simp; omega)).mono ?_; rintro e w9 ⟨rfl, hC9, hF9⟩; have b9 := tlc_box (Nat.le_refl _) hP8.out.2.2 (.cells #[.int .i64 x.f0, .string x.f1] 65) hF9; have z0 : w9.cell? ⟨w8.heap.size, 0, none⟩ = some (.int .i64 x.f0) := (blk_cell b9 0).trans rfl; have z1 : w9.cell? ⟨w8.heap.size, 1, none⟩ = some (.string x.f1) := (blk_cell b9 1).trans rfl; have zf0 := blk_frozen b9 0; have zf1 := blk_frozen b9 1; have Q1 := Aside0.mk b9; have Q3 := Aside0.mk hC9; have Q4 := Aside0.mk hF9; clear b9 hC9 hF9))
        go_roundg k1
        case measure => omega
        case rel => exact ⟨w8.heap.size, dn ++ [x], r, rfl, ⟨by have := HK.out; simp at this; omega⟩, ⟨tlc_next (Nat.le_refl _) HH.out hP8.out.2.2 hO.out Q1.out Q3.out Q4.out⟩⟩
end Go.Proofs.YtmldahejeobohaaDoorTake
