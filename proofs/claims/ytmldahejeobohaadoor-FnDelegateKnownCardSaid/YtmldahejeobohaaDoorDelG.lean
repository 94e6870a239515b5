/- The two given lexers of impl.Delegate; splitToken. -/
import Derived.Test.YtmldahejeobohaaDoorDelT
import Derived.Test.YtmldahejeobohaaDoorDelP
import Derived.Test.YtmldahejeobohaaDoorEvt
import Derived.StillTailTactics
import Derived.Deep.RegionHeld3
import Derived.BigQuiet
set_option linter.unusedVariables false
set_option linter.unusedSimpArgs false
namespace Go.Proofs.YtmldahejeobohaaDoorTake
open Go.RowKit Go.Proofs.YtmldahejeobohaaDoorW.PrintWords Go.Proofs.YtmldahejeobohaaDoor.A Go.Proofs.YtmldahejeobohaaDoorFmt
theorem givC_lit (cfg : Option Addr) (Bk : Nat) (A0 : Option Addr) (c0 : Nat) (l : List T) (s : ByteArray) (w : World) (h : TokB w Bk A0 c0 l) (hl : l.length ≤ 100000) :
    GivC (.agg #[.pointer cfg, .func (.func 30) #[] #[.pointer (some ⟨Bk, 0, none⟩)]]) s (l.map toCC) w := fun W hW =>
  (gt_c Bk A0 c0 l s W cfg (h.below hW) hl).mono fun e w' h => h
abbrev Ct := S29
/-- The pieces that cuts make of a text. -/
def pcsL : List Ct → ByteArray → List C
  | [], s => if (s.size : Int) > 0 then [⟨8000, s⟩] else []
  | c :: r, s => ⟨c.f0, s.extract 0 (mx 0 (mn c.f1 (s.size : Int))).toNat⟩ :: pcsL r (s.extract (mx 0 (mn c.f1 (s.size : Int))).toNat s.size)
theorem rdCt (xs : List Ct) (i : Nat) (h : i < xs.length) : rd_T29 xs (i : Int) = xs[i] := by
  simp [rd_T29, List.getD_eq_getElem?_getD, h]
theorem mx_in (a : Int) (n : Nat) : 0 ≤ mx 0 (mn a (n : Int)) ∧ mx 0 (mn a (n : Int)) ≤ (n : Int) := by
  unfold mx mn
  split <;> split <;> omega
open Go.Proofs.YtmldahejeobohaaDoorEvt (Evt Evt.step Evt.pure Evt.congr wrap_nat) in
theorem pcs_loop (xs : List Ct) (hn : xs.length ≤ 1000000) : ∀ (d i : Nat) (s : ByteArray) (acc : List C), xs.length = i + d → acc.length ≤ i →
    Evt (fun k => impl_pieces.l0 k s acc xs (xs.length : Int) (i : Int)) (acc ++ pcsL (xs.drop i) s) := by
  intro d
  induction d with
  | zero =>
    intro i s acc hi hacc
    rw [List.drop_eq_nil_of_le (by omega)]
    refine Evt.step (h := fun _ => some _) (fun k => ?_) (Evt.pure _)
    simp only [impl_pieces.l0]
    rw [if_neg (by omega)]
    unfold pcsL
    by_cases h : (s.size : Int) > 0
    · rw [if_pos h, if_pos h, if_pos (by omega)]
    · rw [if_neg h, if_neg h, List.append_nil]
  | succ d ih =>
    intro i s acc hi hacc
    have hlt : i < xs.length := by omega
    obtain ⟨m1, m2⟩ := mx_in xs[i].f1 s.size
    have h1 := ih (i + 1) (s.extract (mx 0 (mn xs[i].f1 (s.size : Int))).toNat s.size) (acc ++ [⟨xs[i].f0, s.extract 0 (mx 0 (mn xs[i].f1 (s.size : Int))).toNat⟩]) (by omega) (by simp; omega)
    rw [List.append_assoc, List.singleton_append] at h1
    rw [List.drop_eq_getElem_cons hlt]
    refine Evt.step (fun k => ?_) h1
    simp only [impl_pieces.l0]
    rw [if_pos (by omega), if_pos (by omega), if_pos (by omega), rdCt _ _ hlt, if_pos m1, if_pos m2, if_pos (by omega), wrap_nat (by omega)]
theorem pcs_some (xs : List Ct) (s : ByteArray) (hn : xs.length ≤ 1000000) : ∃ k, impl_pieces.f k xs s = some (pcsL xs s) := by
  obtain ⟨N, h⟩ := pcs_loop xs hn xs.length 0 s [] (by omega) (by simp)
  refine ⟨N, ?_⟩
  have := h N (Nat.le_refl _)
  simpa [impl_pieces.f] using this
theorem pcs_len : ∀ (xs : List Ct) (s : ByteArray), (pcsL xs s).length ≤ xs.length + 1
  | [], s => by unfold pcsL; split <;> simp
  | c :: r, s => by unfold pcsL; have := pcs_len r (s.extract (mx 0 (mn c.f1 (s.size : Int))).toNat s.size); simp only [List.length_cons]; omega
theorem pcs_nz : ∀ (xs : List Ct) (s : ByteArray), (∀ c ∈ xs, c.f0 ≠ 0) → ∀ x ∈ pcsL xs s, x.f0 ≠ 0
  | [], s, _, x, hx => by
    unfold pcsL at hx
    split at hx
    · rw [List.mem_singleton.1 hx]; show (8000 : Int) ≠ 0; decide
    · cases hx
  | c :: r, s, h, x, hx => by
    unfold pcsL at hx
    rcases List.mem_cons.1 hx with rfl | hx
    · exact h c List.mem_cons_self
    · exact pcs_nz r _ (fun c hc => h c (List.mem_cons_of_mem _ hc)) x hx
/-- The pieces have all the bytes. -/
theorem pcs_bys : ∀ (xs : List Ct) (s : ByteArray), (pcsL xs s).flatMap (fun x => bys x.f1) = bys s
  | [], s => by
    unfold pcsL
    split
    · simp
    · rename_i h
      have : bys s = [] := List.eq_nil_of_length_eq_zero (by rw [bys_len]; omega)
      rw [this]; rfl
  | c :: r, s => by
    unfold pcsL
    rw [List.flatMap_cons, pcs_bys r]
    show bys (lef s _) ++ bys (rig s _) = _
    rw [bys_lef, bys_rig, List.take_append_drop]
/-- Block Bc holds a slice of cuts. -/
structure CutB (w : World) (Bc : Nat) (A0 : Option Addr) (c0 : Nat) (l : List Ct) : Prop where
  bk : w.heap[Bc]? = some (.cells #[.slice A0 l.length c0] 22 (0, 0))
  hC : Kd.C k29 w A0 l.length l
  hc : l.length ≤ c0
theorem CutB.below {w w' : World} {Bk : Nat} {A0 : Option Addr} {c0 : Nat} {l : List Ct} (h : CutB w Bk A0 c0 l) (hB : Below w.heap.size w w') : CutB w' Bk A0 c0 l :=
  ⟨(hB.block _ (blk_lt h.bk)).trans h.bk, Kd.C_below h.hC hB, h.hc⟩
set_option maxHeartbeats 4000000 in
theorem del1_c (Bc : Nat) (A0 : Option Addr) (c0 : Nat) (l : List Ct) (s : ByteArray) (w : World) (h : CutB w Bc A0 c0 l) (hl : l.length ≤ 100000) :
    Calls Tryd.prog 20 #[.string s, .pointer (some ⟨Bc, 0, none⟩)] w fun e w' => ∃ v : Value, e = .returned v ∧ RC w' w.heap.size v (pcsL l s) ∧ Below w.heap.size w w' := by
  obtain ⟨k, hk⟩ := pcs_some l s (by omega)
  have c0' : w.cell? ⟨Bc, 0, none⟩ = some (.slice A0 l.length c0) := (blk_cell h.bk 0).trans rfl
  have lb := blk_lt h.bk
  have H := Aside0.mk h
  clear h
  go_enter Tryd.func20, Tryd.ntmps20
  go_wp2_with (go_at_call 21; refine (impl_pieces.calls k A0 c0 l s _ _ H.out.hC H.out.hc hk).mono ?_; rintro e w2 ⟨v, rfl, hR2, hB2⟩)
  go_ret
  exact ⟨_, rfl, hR2, hB2⟩
set_option maxHeartbeats 4000000 in
theorem givC_root (cfg : Option Addr) (Bc : Nat) (A0 : Option Addr) (c0 : Nat) (l : List Ct) (s : ByteArray) (w0 : World) (h0 : CutB w0 Bc A0 c0 l) (hl : l.length ≤ 100000) :
    GivC (.agg #[.pointer cfg, .func (.func 20) #[] #[.pointer (some ⟨Bc, 0, none⟩)]]) s (pcsL l s) w0 := by
  intro w hW
  have HB := Aside0.mk ((Below.refl w.heap.size w).alloc (Nat.le_refl _) (.cells #[.pointer cfg, .func (.func 20) #[] #[.pointer (some ⟨Bc, 0, none⟩)]] 54))
  have H := Aside0.mk ((h0.below hW).below HB.out)
  clear h0 hW
  go_enter Tryd.func62, Tryd.ntmps62
  go_wp2_with (first | (go_at_call 20; refine (del1_c _ _ _ _ _ _ H.out hl).mono ?_; rintro e w2 ⟨v, rfl, hR2, hB2⟩; obtain ⟨A2, c2, rfl, g, hL, hg1, hg2⟩ := lit_of hR2 hB2.size ((hB2.block w.heap.size (by simp)).trans (blk_new w _)) (by decide) (by decide)) | (go_at_call 63; refine (litm_c _ _ _ _).mono ?_; rintro e w3 ⟨rfl, rfl⟩))
  go_ret2
  have hs2 := hB2.size
  rw [World.size_alloc] at hs2 hg2
  exact ⟨_, g, rfl, hL, by omega, by omega, by simp; omega, (below_step HB.out hB2).alloc (by omega) _⟩
end Go.Proofs.YtmldahejeobohaaDoorTake
