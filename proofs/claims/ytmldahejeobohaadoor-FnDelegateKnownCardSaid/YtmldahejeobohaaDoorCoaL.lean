/- A literal lexer's Tokenise, a coalescer's Tokenise. -/
import Derived.Test.YtmldahejeobohaaDoorCoa
import Derived.Test.YtmldahejeobohaaDoorEvt
set_option linter.unusedVariables false
set_option linter.unusedSimpArgs false
namespace Go.Proofs.YtmldahejeobohaaDoorTake
open Go.RowKit Go.Proofs.YtmldahejeobohaaDoorW.PrintWords Go.Proofs.YtmldahejeobohaaDoor.A Go.Proofs.YtmldahejeobohaaDoorFmt
abbrev T := S27
abbrev kT : Kd T := k27
abbrev kC : Kd C := k65
abbrev RC (w : World) (base : Nat) (v : Value) (xs : List C) : Prop := Kd.R kC 65 w base (fun _ => True) v xs
abbrev toCC (x : T) : C := ⟨x.f0, x.f1⟩
abbrev toTT (x : C) : T := ⟨x.f0, x.f1⟩
open Go.Proofs.YtmldahejeobohaaDoorEvt (Evt Evt.step Evt.pure Evt.congr wrap_nat) in
theorem inner_loop (xs : List T) (hn : xs.length ≤ 2147483647) : ∀ (d i : Nat) (acc : List C), xs.length = i + d → acc.length ≤ i →
    Evt (fun k => impl_inner.l0 k acc xs (xs.length : Int) (i : Int)) (acc ++ (xs.drop i).map toCC) := by
  have rdT : ∀ (i : Nat) (h : i < xs.length), rd_T27 xs (i : Int) = xs[i] := fun i h => by simp [rd_T27, List.getD_eq_getElem?_getD, h]
  intro d
  induction d with
  | zero =>
    intro i acc hi hacc
    refine Evt.step (h := fun _ => some _) (fun k => ?_) (Evt.pure _)
    simp only [impl_inner.l0]; rw [if_neg (by omega), List.drop_eq_nil_of_le (by omega)]; simp
  | succ d ih =>
    intro i acc hi hacc
    have hlt : i < xs.length := by omega
    have h1 := ih (i + 1) (acc ++ [⟨xs[i].f0, xs[i].f1⟩]) (by omega) (by simp; omega)
    rw [List.drop_eq_getElem_cons hlt, List.map_cons, ← List.singleton_append, ← List.append_assoc]
    refine Evt.step (fun k => ?_) h1
    simp only [impl_inner.l0]; rw [if_pos (by omega), if_pos (by omega), if_pos (by omega), rdT _ hlt, if_pos (by omega), wrap_nat (by omega)]
theorem inner_some (xs : List T) (hn : xs.length ≤ 2147483647) : ∃ k, impl_inner.f k xs = some (xs.map toCC) := by
  obtain ⟨N, h⟩ := inner_loop xs hn xs.length 0 [] (by omega) (by simp)
  refine ⟨N, ?_⟩
  have := h N (Nat.le_refl _)
  simpa [impl_inner.f] using this
open Go.Proofs.YtmldahejeobohaaDoorEvt (Evt Evt.step Evt.pure Evt.congr wrap_nat) in
theorem outer_loop (xs : List C) (hn : xs.length ≤ 2147483647) : ∀ (d i : Nat) (acc : List T), xs.length = i + d → acc.length ≤ i →
    Evt (fun k => impl_outer.l0 k acc xs (xs.length : Int) (i : Int)) (acc ++ (xs.drop i).map toTT) := by
  have rdC : ∀ (i : Nat) (h : i < xs.length), rd_T65 xs (i : Int) = xs[i] := fun i h => by simp [rd_T65, List.getD_eq_getElem?_getD, h]
  intro d
  induction d with
  | zero =>
    intro i acc hi hacc
    refine Evt.step (h := fun _ => some _) (fun k => ?_) (Evt.pure _)
    simp only [impl_outer.l0]; rw [if_neg (by omega), List.drop_eq_nil_of_le (by omega)]; simp
  | succ d ih =>
    intro i acc hi hacc
    have hlt : i < xs.length := by omega
    have h1 := ih (i + 1) (acc ++ [⟨xs[i].f0, xs[i].f1⟩]) (by omega) (by simp; omega)
    rw [List.drop_eq_getElem_cons hlt, List.map_cons, ← List.singleton_append, ← List.append_assoc]
    refine Evt.step (fun k => ?_) h1
    simp only [impl_outer.l0]; rw [if_pos (by omega), if_pos (by omega), if_pos (by omega), rdC _ hlt, if_pos (by omega), wrap_nat (by omega)]
theorem outer_some (xs : List C) (hn : xs.length ≤ 2147483647) : ∃ k, impl_outer.f k xs = some (xs.map toTT) := by
  obtain ⟨N, h⟩ := outer_loop xs hn xs.length 0 [] (by omega) (by simp)
  refine ⟨N, ?_⟩
  have := h N (Nat.le_refl _)
  simpa [impl_outer.f] using this
set_option maxHeartbeats 4000000 in
theorem litm_c (A0 : Option Addr) (n c : Nat) (w : World) : Calls Tryd.prog 63 #[.slice A0 n c] w fun e w' => e = .returned (itV w.heap.size) ∧ w' = w.alloc (.cells #[.slice A0 n c] 50) := by
  have hmf : ∀ (fn : Fn) (first cap : Array Value) (w : World), (Instr.makeFunc fn first cap).run Tryd.prog w = .ok (.func fn first cap) w := fun _ _ _ _ => rfl
  go_enter Tryd.func63, Tryd.ntmps63
  go_wp2
  go_ret
  exact ⟨rfl, rfl⟩
/-- What inner hands back is a slice for the closure; Bn: any block for an empty one. -/
theorem lit_of {w : World} {base Bn t : Nat} {cs : Array Value} {v : Value} {l : List C} (h : RC w base v l) (hb : base ≤ w.heap.size) (hN : w.heap[Bn]? = some (.cells cs t (0, 0))) (t1 : 23 ≠ t) (t2 : 27 ≠ t) :
    ∃ A c, v = .slice A l.length c ∧ ∃ g, LitAt (w.alloc (.cells #[v] 50)) w.heap.size g l ∧ g < w.heap.size ∧ (g = Bn ∨ base ≤ g) := by
  obtain ⟨A, c, rfl⟩ := Kd.R_slice h
  obtain ⟨_, hc, hC⟩ := Kd.R_reads' h
  by_cases hne : l = []
  · have hb := blk_lt hN
    exact ⟨A, c, rfl, Bn, ⟨A, c, blk_new _ _, hc, ⟨_, _, blk_alloc hN _, t1, t2⟩, by omega, fun h => absurd hne h⟩, hb, .inl rfl⟩
  have hpos : 0 < l.length := List.length_pos_iff.2 hne
  obtain ⟨g, cap, e, hbg, hlt, cs, hcs⟩ := Kd.R_form h hpos
  injection e with e _ _
  subst e
  refine ⟨some ⟨g, 0, none⟩, c, rfl, g, ⟨some ⟨g, 0, none⟩, c, blk_new _ _, hc, ⟨cs, _, blk_alloc hcs _, by decide, by decide⟩, by omega, fun _ => ⟨0, rfl, fun i hi => ?_⟩⟩, hlt, .inr hbg⟩
  obtain ⟨ad, e1, h0, h1⟩ := at_T65 hC (i : Int) (by omega) (by omega)
  injection e1 with e1
  subst e1
  have rdC : rd_T65 l (i : Int) = l[i] := by simp [rd_T65, List.getD_eq_getElem?_getD, hi]
  rw [rdC] at h0 h1
  have q : ∀ a : Addr, a.block = g → (w.alloc (.cells #[.slice (some ⟨g, 0, none⟩) l.length c] 50)).cell? a = w.cell? a := fun a ha => World.cell?_of_block (Below.heap_alloc _ _ _ (by omega))
  rw [q _ rfl, q _ rfl]
  have eA : (⟨g, 0, none⟩ : Addr).add ((i : Int).toNat * 2) = ⟨g, 0 + 2 * i, none⟩ := by
    rw [Int.toNat_natCast, Nat.mul_comm, Addr.add_lit]
  rw [eA] at h0 h1
  exact ⟨h0, h1⟩
/-- Block Bk holds a slice of tokens. -/
structure TokB (w : World) (Bk : Nat) (A0 : Option Addr) (c0 : Nat) (l : List T) : Prop where
  bk : w.heap[Bk]? = some (.cells #[.slice A0 l.length c0] 23 (0, 0))
  hC : Kd.C kT w A0 l.length l
  hc : l.length ≤ c0
theorem TokB.below {w w' : World} {Bk : Nat} {A0 : Option Addr} {c0 : Nat} {l : List T} (h : TokB w Bk A0 c0 l) (hB : Below w.heap.size w w') : TokB w' Bk A0 c0 l :=
  ⟨(hB.block _ (blk_lt h.bk)).trans h.bk, Kd.C_below h.hC hB, h.hc⟩
set_option maxHeartbeats 4000000 in
theorem lit1_c (Bk : Nat) (A0 : Option Addr) (c0 : Nat) (l : List T) (s : ByteArray) (w : World) (h : TokB w Bk A0 c0 l) (hl : l.length ≤ 100000) :
    Calls Tryd.prog 30 #[.string s, .pointer (some ⟨Bk, 0, none⟩)] w fun e w' => ∃ v : Value, e = .returned v ∧ RC w' w.heap.size v (l.map toCC) ∧ Below w.heap.size w w' := by
  obtain ⟨k, hk⟩ := inner_some l (by omega)
  have c0' : w.cell? ⟨Bk, 0, none⟩ = some (.slice A0 l.length c0) := (blk_cell h.bk 0).trans rfl
  have lb := blk_lt h.bk
  have H := Aside0.mk h
  clear h
  go_enter Tryd.func30, Tryd.ntmps30
  go_wp2_with (go_at_call 31; refine (impl_inner.calls k A0 c0 l _ _ H.out.hC H.out.hc hk).mono ?_; rintro e w2 ⟨v, rfl, hR2, hB2⟩)
  go_ret
  exact ⟨_, rfl, hR2, hB2⟩
set_option maxHeartbeats 4000000 in
theorem gt_c (Bk : Nat) (A0 : Option Addr) (c0 : Nat) (l : List T) (s : ByteArray) (w : World) (cfg : Option Addr) (h : TokB w Bk A0 c0 l) (hl : l.length ≤ 100000) :
    Calls Tryd.prog 62 #[.agg #[.pointer cfg, .func (.func 30) #[] #[.pointer (some ⟨Bk, 0, none⟩)]], .pointer none, .string s] w fun e w' => ∃ Bt g, e = .returned (.tuple #[.func (.func 64) #[] #[.pointer (some ⟨Bt, 0, none⟩)], .nilIface]) ∧ LitAt w' Bt g (l.map toCC) ∧ w.heap.size ≤ Bt ∧ w.heap.size ≤ g ∧ g < w'.heap.size ∧ Below w.heap.size w w' := by
  have HB := Aside0.mk ((Below.refl w.heap.size w).alloc (Nat.le_refl _) (.cells #[.pointer cfg, .func (.func 30) #[] #[.pointer (some ⟨Bk, 0, none⟩)]] 54))
  have H := Aside0.mk (h.below HB.out)
  clear h
  go_enter Tryd.func62, Tryd.ntmps62
  go_wp2_with (first | (go_at_call 30; refine (lit1_c _ _ _ _ _ _ H.out hl).mono ?_; rintro e w2 ⟨v, rfl, hR2, hB2⟩; obtain ⟨A2, c2, rfl, g, hL, hg1, hg2⟩ := lit_of hR2 hB2.size ((hB2.block w.heap.size (by simp)).trans (blk_new w _)) (by decide) (by decide)) | (go_at_call 63; refine (litm_c _ _ _ _).mono ?_; rintro e w3 ⟨rfl, rfl⟩))
  go_ret2
  have hs2 := hB2.size
  rw [World.size_alloc] at hs2 hg2
  rw [List.length_map] at hL
  exact ⟨_, g, rfl, (by first | exact hL | (rw [List.length_map]; exact hL)), by omega, by omega, by simp; omega, (below_step HB.out hB2).alloc (by omega) _⟩
/-- A lexer over the tokens in block Bk. -/
abbrev lxV (cfg : Option Addr) (Bk : Nat) : Value := .iface 54 (.agg #[.pointer cfg, .func (.func 30) #[] #[.pointer (some ⟨Bk, 0, none⟩)]])
theorem meth_g (cfg : Option Addr) (Bk : Nat) (w : World) : (method 267 54 (.agg #[.pointer cfg, .func (.func 30) #[] #[.pointer (some ⟨Bk, 0, none⟩)]]) "Tokenise").run Tryd.prog w = .ok (62, .agg #[.pointer cfg, .func (.func 30) #[] #[.pointer (some ⟨Bk, 0, none⟩)]]) w := by kernel_rfl
set_option maxRecDepth 100000 in
set_option maxHeartbeats 4000000 in
theorem ct_c (Br Bk : Nat) (A0 : Option Addr) (c0 : Nat) (l : List T) (s : ByteArray) (w : World) (cfg : Option Addr) (h : TokB w Bk A0 c0 l) (hl : l.length ≤ 100000) (hr : w.heap[Br]? = some (.cells #[lxV cfg Bk] 137 (0, 0))) :
    Calls Tryd.prog 89 #[.pointer (some ⟨Br, 0, none⟩), .pointer none, .string s] w fun e w' => ∃ Bi Bp Bt g, e = .returned (.tuple #[.func (.func 90) #[] #[.pointer (some ⟨Bi, 0, none⟩), .pointer (some ⟨Bp, 0, none⟩)], .nilIface]) ∧ CoAt w' w.heap.size w'.heap.size Bp Bi Bt g eof (l.map toCC) ∧ Below w.heap.size w w' := by
  have hmf : ∀ (fn : Fn) (first cap : Array Value) (w : World), (Instr.makeFunc fn first cap).run Tryd.prog w = .ok (.func fn first cap) w := fun _ _ _ _ => rfl
  have HB := Aside0.mk ((Below.refl w.heap.size w).alloc (Nat.le_refl _) (.cells #[.int .i64 0, .string ⟨#[]⟩] 65))
  have H := Aside0.mk (h.below HB.out)
  have r0 : w.cell? ⟨Br, 0, none⟩ = some (lxV cfg Bk) := (blk_cell hr 0).trans rfl
  have lr := blk_lt hr
  have hm := meth_g cfg Bk
  have hsf : ∀ (a : Addr) (fn : Fn) (x y : Array Value) (m : Mode) (w : World), (store a (.func fn x y) m).run Tryd.prog w = stored Tryd.prog w a (.func fn x y) m := fun a fn x y m w => run_store Tryd.prog w a _ m rfl
  have hnn : ∀ (w : World), (Go.binOp .neq 67 .nilIface .nilIface).run Tryd.prog w = .ok (.bool false) w := fun w => run_neq_nil_nil (P := Tryd.prog) w 67 (by kernel_rfl)
  clear h hr
  go_enter Tryd.func89, Tryd.ntmps89
  go_wp2_with (go_at_call 62; refine (gt_c Bk A0 c0 l s _ cfg H.out hl).mono ?_; rintro e w4 ⟨Bt, g, rfl, hP⟩; have HP := Aside0.mk hP; clear hP)
  go_ret2
  obtain ⟨hL, hb1, hb2, hb3, hB4⟩ := HP.out
  have hs4 := hB4.size
  rw [World.size_alloc] at hs4 hb1 hb2
  have hlt := hL.lt
  refine ⟨_, _, Bt, g, rfl, ⟨blk_alloc ((hB4.block w.heap.size (by simp)).trans (blk_new w _)) _, blk_new _ _, hL.same (Below.heap_alloc _ _ _ hlt) (Below.heap_alloc _ _ _ hb3), ⟨Nat.le_refl _, by simp; omega⟩, by simp, ⟨by omega, by simp; omega⟩, by simp; omega, by omega⟩, (below_step HB.out hB4).alloc (by omega) _⟩
end Go.Proofs.YtmldahejeobohaaDoorTake
