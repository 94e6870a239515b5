/- The law pub-rubrication/laws.FnDelegateKnown of the given program: what the language's lexer knows stands as it stood between what it leaves, neighbours of one type as one (a language's tokens: at most 400 of together 4,000 bytes, none empty, none the mark of the end; at most 100 cuts, none of a type that the language has).
   No conditions: every input that can be read as data. -/
import Derived.Test.YtmldahejeobohaaDoorRows
import Derived.Test.YtmldahejeobohaaDoorLx1
import Derived.Test.YtmldahejeobohaaDoorPureFnDelegateKnown
import Derived.Test.YtmldahejeobohaaDoorOpen
import Derived.WalkKit
import Derived.ProofKit
import Derived.OpenShut
import Derived.ShutString
import Derived.ChangeOld
import Derived.Below
import Derived.SizedLaws
import Derived.Test.YtmldahejeobohaaDoorCards
import Derived.Test.YtmldahejeobohaaDoorTie
import Derived.Test.YtmldahejeobohaaDoorLaid
import Derived.Deep.DeepHandedRow
import Derived.Deep.DeepWitnessRowRef
import Derived.Lay
namespace Go.Proofs.YtmldahejeobohaaDoor.fnDelegateKnown
open Go.ChangeShapes Go.WideShapes Go.ChangeAt Go.RowKit Go.Proofs.YtmldahejeobohaaDoorOpen Go.Proofs.YtmldahejeobohaaDoorW.PrintWords Go.Proofs.YtmldahejeobohaaDoor.L
open Go.ChangeMaps (open_string shut_string)
set_option linter.unusedVariables false
theorem own : ownKnob Tryd.prog.godebug = none := by kernel_rfl
theorem laidOut : laidOutB Tryd.prog = true := by kernel_rfl
theorem opens_S29 {H : Type} (enc : TypeId × Value → H) (W : World) (base : Nat) (spare : Nat → Bool) (held : Bool) : Opens enc Tryd.prog W base spare held k29 29 wf_S29 :=
  opens_iso (fun x : S29 => (x.f0, x.f1)) (fun a => ⟨a.1, a.2⟩) (fun _ => rfl) (opens_struct Tryd.underlying29 (by kernel_rfl) (fields_cons rfl (by kernel_rfl) (opens_int Tryd.underlying3) (fields_one rfl (by kernel_rfl) (opens_int Tryd.underlying3))))
theorem opens_S27 {H : Type} (enc : TypeId × Value → H) (W : World) (base : Nat) (spare : Nat → Bool) (held : Bool) : Opens enc Tryd.prog W base spare held k27 27 wf_S27 :=
  opens_iso (fun x : S27 => (x.f0, x.f1)) (fun a => ⟨a.1, a.2⟩) (fun _ => rfl) (opens_struct Tryd.underlying27 (by kernel_rfl) (fields_cons rfl (by kernel_rfl) (opens_int Tryd.underlying3) (fields_one rfl (by kernel_rfl) (opens_string Tryd.underlying9))))
set_option maxRecDepth 100000 in
theorem laid_met (os : Os) (args : Array Value) : laidMet Tryd.prog Rows.fnDelegateKnownRow.laid ((World.laidAll Tryd.prog os Rows.fnDelegateKnownRow.laid).forCall (fun _ _ => 0) ⟨#[], args, []⟩).memory :=
  laidMet_laidAll args (by kernel_rfl) (by kernel_rfl)
set_option maxRecDepth 100000 in
theorem reads (os : Os) {H : Type} (enc : TypeId × Value → H) : ∃ places, DataW.whole enc Tryd.prog ((World.laidAll Tryd.prog os Rows.fnDelegateKnownRow.laid).forCall (fun _ _ => 0) ⟨#[], #[.slice none 0 0, .slice none 0 0], []⟩).memory Tryd.f3.params.toList Rows.fnDelegateKnownSpec.vars false (#[.slice none 0 0, .slice none 0 0] : Array Value).toList 8 = some ([.nil, .nil], [], places) :=
  ⟨[], by kernel_rfl⟩
theorem witness_row (os : Os) {H : Type} (enc : TypeId × Value → H) : (OpenSpec.ofChange Rows.fnDelegateKnownSpec).preRow enc Tryd.prog Tryd.f3 Rows.fnDelegateKnownRow.domain false Rows.fnDelegateKnownRow.laid ((World.laidAll Tryd.prog os Rows.fnDelegateKnownRow.laid).forCall (fun _ _ => 0) ⟨#[], #[.slice none 0 0, .slice none 0 0], []⟩).memory #[.slice none 0 0, .slice none 0 0] := by
  obtain ⟨places, hx⟩ := reads os enc
  exact OpenSpec.preRow_of_cond 8 hx (by kernel_rfl) (fun k hk => by cases hk) (by kernel_rfl) (laid_met os _)
set_option maxRecDepth 100000 in
theorem lifted (os : Os) (started : os.Started) (H : Type) (enc : TypeId × Value → H) (F : Stop.Interp) :
    ReturnsInHanded {} Tryd.checked os 3 .any ((OpenSpec.ofChange Rows.fnDelegateKnownSpec).preRow enc Tryd.prog Tryd.f3 Rows.fnDelegateKnownRow.domain false Rows.fnDelegateKnownRow.laid) (((OpenSpec.ofChange Rows.fnDelegateKnownSpec).at F).post enc Tryd.prog Tryd.f3 false true false false) := by
  refine returnsInHanded_of_row (C := Tryd.checked) (s := (OpenSpec.ofChange Rows.fnDelegateKnownSpec)) own started (by kernel_rfl) Tryd.func3
    (witness_row_atRef (enc := enc) (C := Tryd.checked) false (World.laidAll Tryd.prog os Rows.fnDelegateKnownRow.laid) #[.slice none 0 0, .slice none 0 0] (World.laidAll_os _ _ _) (by kernel_rfl) (by kernel_rfl) (by kernel_rfl) (witness_row os enc)) ?_
  intro W base args ds gs before hval0 hW _ _ hsz0 hL _ _
  have hVok : Go.Proofs.YtmldahejeobohaaDoorFmt.VarsOK W := Go.Proofs.YtmldahejeobohaaDoorFmt.varsOK hL (by rfl) (by simp [Rows.fnDelegateKnownRow]) trivial trivial
  have hsz : (DataW.weightsEach Tryd.prog (Tryd.f3.params.toList ++ Rows.fnDelegateKnownSpec.plain.varTypes Tryd.prog) (ds ++ gs)).all (· ≤ reachBytes) = true := hsz0
  have hval : ∀ (j : Nat) t v, Tryd.f3.params[j]? = some t → args[j]? = some v → Value.okWide Tryd.prog W .any base t v := hval0
  have hW' := hW
  obtain ⟨p, q, hA0, hV, rfl, hfz, hnd⟩ := hW
  have hA : DataW.TrodAll enc Tryd.prog W 0 (fun _ => true) true Tryd.f3.params.toList args.toList ds p := hA0
  rw [Tryd.params3] at hA hval hsz
  obtain ⟨v0, vs0, d0, ds0, p0, q0, hargs, rfl, rfl, h0, r0⟩ := trodAll_cons hA
  obtain ⟨v1, vs1, d1, ds1, p1, q1, rfl, rfl, rfl, h1, r1⟩ := trodAll_cons r0
  obtain ⟨rfl, rfl, rfl⟩ := trodAll_nil r1
  obtain rfl : args = #[v0, v1] := by cases args; simp_all
  obtain ⟨rfl, rfl⟩ := trodVars_none hV
  have k0 := h0
  have lt0 : ∀ x ∈ p0, x.block < W.heap.size := by obtain ⟨m, hm⟩ := k0; exact DataW.trod_lt m _ _ _ hm
  obtain ⟨a0, len0, cap0, rfl⟩ := okWide_slice Tryd.underlying22 (hval 0 22 v0 rfl rfl)
  obtain ⟨l0, cap0', hr0, hc0, wf0⟩ : ∃ (xs : List (S29)) (c : Nat), Kd.C k29 W a0 xs.length xs ∧ xs.length ≤ c ∧ (xs.length ≤ 9223372036854775807 ∧ ∀ x ∈ xs, wf_S29 x) ∧ len0 = xs.length ∧ cap0 = c := by
    obtain ⟨fuel, hf⟩ := h0
    obtain ⟨xs, ⟨A_, c_, hcs, hl, hC⟩, hwf⟩ := (show Opens enc Tryd.prog W 0 (fun _ => true) true (Kd.slice 29 k29) 22 (fun xs => xs.length ≤ 9223372036854775807 ∧ ∀ x ∈ xs, wf_S29 x) from (fun (base : Nat) (spare : Nat → Bool) (held : Bool) => (opens_slice Tryd.underlying22 (by kernel_rfl) (opens_S29 enc W base spare held))) 0 (fun _ => true) true) fuel _ _ hf
    simp only [Value.cells, List.cons.injEq, and_true] at hcs
    injection hcs with e1 e2 e3
    subst e1; subst e2; subst e3
    exact ⟨xs, _, hC, hl, hwf, rfl, rfl⟩
  obtain ⟨wf0, rfl, rfl⟩ := wf0
  have k1 := h1
  have lt1 : ∀ x ∈ p1, x.block < W.heap.size := by obtain ⟨m, hm⟩ := k1; exact DataW.trod_lt m _ _ _ hm
  obtain ⟨a1, len1, cap1, rfl⟩ := okWide_slice Tryd.underlying23 (hval 1 23 v1 rfl rfl)
  obtain ⟨l1, cap1', hr1, hc1, wf1⟩ : ∃ (xs : List (S27)) (c : Nat), Kd.C k27 W a1 xs.length xs ∧ xs.length ≤ c ∧ (xs.length ≤ 9223372036854775807 ∧ ∀ x ∈ xs, wf_S27 x) ∧ len1 = xs.length ∧ cap1 = c := by
    obtain ⟨fuel, hf⟩ := h1
    obtain ⟨xs, ⟨A_, c_, hcs, hl, hC⟩, hwf⟩ := (show Opens enc Tryd.prog W 0 (fun _ => true) true (Kd.slice 27 k27) 23 (fun xs => xs.length ≤ 9223372036854775807 ∧ ∀ x ∈ xs, wf_S27 x) from (fun (base : Nat) (spare : Nat → Bool) (held : Bool) => (opens_slice Tryd.underlying23 (by kernel_rfl) (opens_S27 enc W base spare held))) 0 (fun _ => true) true) fuel _ _ hf
    simp only [Value.cells, List.cons.injEq, and_true] at hcs
    injection hcs with e1 e2 e3
    subst e1; subst e2; subst e3
    exact ⟨xs, _, hC, hl, hwf, rfl, rfl⟩
  obtain ⟨wf1, rfl, rfl⟩ := wf1
  clear hA0 hval0 hsz0 hsz
  have hP := Pure.FnDelegateKnown l0 l1 wf0 wf1
  refine (laws_FnDelegateKnown.calls a0 cap0 l0 a1 cap1 l1 true W hr0 hc0 hr1 hc1 hVok hP).mono fun e W' ⟨he, bel⟩ => ?_
  subst he
  exact ⟨_, rfl, _, _, _, [], _, [], hW', trodAll_mk1 (shut_bool Tryd.underlying4 _), (trodAll_cons_mk (Below.trod laidOut (by kernel_rfl) (of_decide_eq_true (by kernel_rfl)) k0 bel lt0) (trodAll_cons_mk (Below.trod laidOut (by kernel_rfl) (of_decide_eq_true (by kernel_rfl)) k1 bel lt1) trodAll_mk0)), rfl, bel.frame _, fun h => by cases h⟩
theorem said : Rows.FnDelegateKnownSaid :=
  OpenClaim.holds_of_cond 3 Tryd.f3 rfl rfl rfl rfl rfl rfl rfl ⟨rfl, rfl, rfl, rfl, rfl⟩ rfl rfl rfl rfl rfl (by kernel_rfl) Tryd.func3 (by kernel_rfl)
    (of_decide_eq_true (by kernel_rfl)) (by unfold Func.isWrapper; first | (rw [if_pos (by decide +kernel)]; kernel_rfl) | (rw [if_neg (by decide +kernel)]; exact ⟨rfl, rfl⟩))
    (fun os started H enc _ F => by rw [OpenClaim.pre_eq_preRow]; exact lifted os started H enc F)
theorem plain (f : FuncId) (fn : Func) (hf : Tryd.pinned.checked.prog.funcNamed "pub-rubrication/laws.FnDelegateKnown" = some f) (hfn : Tryd.pinned.checked.prog.funcs[f]? = some fn) :
    false = Tryd.pinned.checked.prog.looks [] ∧ ∀ (j : Nat) t, fn.params[j]? = some t → Tryd.pinned.checked.prog.wantsStandIn t = false := by
  obtain rfl : f = 3 := Option.some.inj ((show Tryd.prog.funcNamed "pub-rubrication/laws.FnDelegateKnown" = some 3 by kernel_rfl).symm.trans hf) |>.symm
  obtain rfl : fn = Tryd.f3 := (Option.some.inj (Tryd.func3.symm.trans hfn)).symm
  refine ⟨by kernel_rfl, fun j t ht => ?_⟩
  have hall : (Tryd.f3.params.toList.all fun t => !Tryd.prog.wantsStandIn t) = true := by kernel_rfl
  have h1 := List.all_eq_true.1 hall t (Array.mem_toList_iff.2 (Array.mem_of_getElem? ht))
  exact (Bool.not_eq_true' _).mp h1
theorem card : Rows.FnDelegateKnownCardSaid :=
  Claim7.holds_tied_plain_at .later [] _ _ _ _ said (fun _ h => by cases h) (by kernel_rfl) (fun _ h => by cases h) fnDelegateKnown_row_tie rfl ⟨rfl, rfl⟩ (by kernel_rfl) rfl plain (by kernel_rfl)
#print axioms card
end Go.Proofs.YtmldahejeobohaaDoor.fnDelegateKnown
namespace Go.Proofs.YtmldahejeobohaaDoor
/-- The card, under a short name, for the claim. -/
theorem fnDelegateKnown_holds : Rows.FnDelegateKnownCardSaid := fnDelegateKnown.card
end Go.Proofs.YtmldahejeobohaaDoor
