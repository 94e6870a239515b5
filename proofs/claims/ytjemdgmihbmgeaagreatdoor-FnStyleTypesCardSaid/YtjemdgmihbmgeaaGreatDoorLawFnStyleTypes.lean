/- The law pub-rubrication/laws.FnStyleTypes of the given program: the types of a style are those of its lines, each once, and a style is dark just if its background is set, of a brightness below a half (at most 30 lines of at most 100 bytes).
   No conditions: every input that can be read as data. -/
import Derived.Test.YtjemdgmihbmgeaaGreatDoorRows
import Derived.Test.YtjemdgmihbmgeaaGreatDoorTx2
import Derived.Test.YtjemdgmihbmgeaaGreatDoorPureFnStyleTypes
import Derived.Test.YtjemdgmihbmgeaaGreatDoorOpen
import Derived.WalkKit
import Derived.ProofKit
import Derived.OpenShut
import Derived.ShutString
import Derived.ChangeOld
import Derived.Below
import Derived.SizedLaws
import Derived.Test.YtjemdgmihbmgeaaGreatDoorCards
import Derived.Test.YtjemdgmihbmgeaaGreatDoorTie
import Derived.Test.YtjemdgmihbmgeaaGreatDoorLaid
import Derived.Deep.DeepHandedRow
import Derived.Deep.DeepWitnessRowRef
import Derived.Lay
namespace Go.Proofs.YtjemdgmihbmgeaaGreatDoor.fnStyleTypes
open Go.ChangeShapes Go.WideShapes Go.ChangeAt Go.RowKit Go.Proofs.YtjemdgmihbmgeaaGreatDoorOpen Go.Proofs.YtjemdgmihbmgeaaGreatDoorW.PrintWords Go.Proofs.YtjemdgmihbmgeaaGreatDoor.T
open Go.ChangeMaps (open_string shut_string)
set_option linter.unusedVariables false
theorem own : ownKnob Tryz.prog.godebug = none := by kernel_rfl
theorem laidOut : laidOutB Tryz.prog = true := by kernel_rfl
theorem opens_S54 {H : Type} (enc : TypeId × Value → H) (W : World) (base : Nat) (spare : Nat → Bool) (held : Bool) : Opens enc Tryz.prog W base spare held k54 54 wf_S54 :=
  opens_iso (fun x : S54 => (x.f0, x.f1)) (fun a => ⟨a.1, a.2⟩) (fun _ => rfl) (opens_struct Tryz.underlying54 (by kernel_rfl) (fields_cons rfl (by kernel_rfl) (opens_int Tryz.underlying3) (fields_one rfl (by kernel_rfl) (opens_string Tryz.underlying9))))
set_option maxRecDepth 100000 in
theorem laid_met (os : Os) (args : Array Value) : laidMet Tryz.prog Rows.fnStyleTypesRow.laid ((World.laidAll Tryz.prog os Rows.fnStyleTypesRow.laid).forCall (fun _ _ => 0) ⟨#[], args, []⟩).memory :=
  laidMet_laidAll args (by kernel_rfl) (by kernel_rfl)
set_option maxRecDepth 100000 in
theorem reads (os : Os) {H : Type} (enc : TypeId × Value → H) : ∃ places, DataW.whole enc Tryz.prog ((World.laidAll Tryz.prog os Rows.fnStyleTypesRow.laid).forCall (fun _ _ => 0) ⟨#[], #[.slice none 0 0], []⟩).memory Tryz.f5.params.toList Rows.fnStyleTypesSpec.vars false (#[.slice none 0 0] : Array Value).toList 8 = some ([.nil], [], places) :=
  ⟨[], by kernel_rfl⟩
theorem witness_row (os : Os) {H : Type} (enc : TypeId × Value → H) : (OpenSpec.ofChange Rows.fnStyleTypesSpec).preRow enc Tryz.prog Tryz.f5 Rows.fnStyleTypesRow.domain false Rows.fnStyleTypesRow.laid ((World.laidAll Tryz.prog os Rows.fnStyleTypesRow.laid).forCall (fun _ _ => 0) ⟨#[], #[.slice none 0 0], []⟩).memory #[.slice none 0 0] := by
  obtain ⟨places, hx⟩ := reads os enc
  exact OpenSpec.preRow_of_cond 8 hx (by kernel_rfl) (fun k hk => by cases hk) (by kernel_rfl) (laid_met os _)
set_option maxRecDepth 100000 in
theorem lifted (os : Os) (started : os.Started) (H : Type) (enc : TypeId × Value → H) (F : Stop.Interp) :
    ReturnsInHanded {} Tryz.checked os 5 .any ((OpenSpec.ofChange Rows.fnStyleTypesSpec).preRow enc Tryz.prog Tryz.f5 Rows.fnStyleTypesRow.domain false Rows.fnStyleTypesRow.laid) (((OpenSpec.ofChange Rows.fnStyleTypesSpec).at F).post enc Tryz.prog Tryz.f5 false true false false) := by
  refine returnsInHanded_of_row (C := Tryz.checked) (s := (OpenSpec.ofChange Rows.fnStyleTypesSpec)) own started (by kernel_rfl) Tryz.func5
    (witness_row_atRef (enc := enc) (C := Tryz.checked) false (World.laidAll Tryz.prog os Rows.fnStyleTypesRow.laid) #[.slice none 0 0] (World.laidAll_os _ _ _) (by kernel_rfl) (by kernel_rfl) (by kernel_rfl) (witness_row os enc)) ?_
  intro W base args ds gs before hval0 hW _ _ hsz0 hL _ _
  have hVok : Go.Proofs.YtjemdgmihbmgeaaGreatDoorFmt.VarsOK W := Go.Proofs.YtjemdgmihbmgeaaGreatDoorFmt.varsOK hL (by rfl) (by simp [Rows.fnStyleTypesRow]) (by simp [Rows.fnStyleTypesRow]) (by simp [Rows.fnStyleTypesRow]) (by simp [Rows.fnStyleTypesRow]) (by simp [Rows.fnStyleTypesRow]) (by simp [Rows.fnStyleTypesRow]) (by simp [Rows.fnStyleTypesRow])
  have hsz : (DataW.weightsEach Tryz.prog (Tryz.f5.params.toList ++ Rows.fnStyleTypesSpec.plain.varTypes Tryz.prog) (ds ++ gs)).all (· ≤ reachBytes) = true := hsz0
  have hval : ∀ (j : Nat) t v, Tryz.f5.params[j]? = some t → args[j]? = some v → Value.okWide Tryz.prog W .any base t v := hval0
  have hW' := hW
  obtain ⟨p, q, hA0, hV, rfl, hfz, hnd⟩ := hW
  have hA : DataW.TrodAll enc Tryz.prog W 0 (fun _ => true) true Tryz.f5.params.toList args.toList ds p := hA0
  rw [Tryz.params5] at hA hval hsz
  obtain ⟨v0, vs0, d0, ds0, p0, q0, hargs, rfl, rfl, h0, r0⟩ := trodAll_cons hA
  obtain ⟨rfl, rfl, rfl⟩ := trodAll_nil r0
  obtain rfl : args = #[v0] := by cases args; simp_all
  obtain ⟨rfl, rfl⟩ := trodVars_none hV
  have k0 := h0
  have lt0 : ∀ x ∈ p0, x.block < W.heap.size := by obtain ⟨m, hm⟩ := k0; exact DataW.trod_lt m _ _ _ hm
  obtain ⟨a0, len0, cap0, rfl⟩ := okWide_slice Tryz.underlying22 (hval 0 22 v0 rfl rfl)
  obtain ⟨l0, cap0', hr0, hc0, wf0⟩ : ∃ (xs : List (S54)) (c : Nat), Kd.C k54 W a0 xs.length xs ∧ xs.length ≤ c ∧ (xs.length ≤ 9223372036854775807 ∧ ∀ x ∈ xs, wf_S54 x) ∧ len0 = xs.length ∧ cap0 = c := by
    obtain ⟨fuel, hf⟩ := h0
    obtain ⟨xs, ⟨A_, c_, hcs, hl, hC⟩, hwf⟩ := (show Opens enc Tryz.prog W 0 (fun _ => true) true (Kd.slice 54 k54) 22 (fun xs => xs.length ≤ 9223372036854775807 ∧ ∀ x ∈ xs, wf_S54 x) from (fun (base : Nat) (spare : Nat → Bool) (held : Bool) => (opens_slice Tryz.underlying22 (by kernel_rfl) (opens_S54 enc W base spare held))) 0 (fun _ => true) true) fuel _ _ hf
    simp only [Value.cells, List.cons.injEq, and_true] at hcs
    injection hcs with e1 e2 e3
    subst e1; subst e2; subst e3
    exact ⟨xs, _, hC, hl, hwf, rfl, rfl⟩
  obtain ⟨wf0, rfl, rfl⟩ := wf0
  clear hA0 hval0 hsz0 hsz
  have hP := Pure.FnStyleTypes l0 wf0
  obtain ⟨k, hP⟩ := hP
  refine (laws_FnStyleTypes.calls k a0 cap0 l0 true ⟨rfl⟩ W hr0 hc0 hVok hP).mono fun e W' ⟨he, bel⟩ => ?_
  subst he
  exact ⟨_, rfl, _, _, _, [], _, [], hW', trodAll_mk1 (shut_bool Tryz.underlying4 _), (trodAll_cons_mk (Below.trod laidOut (by kernel_rfl) (of_decide_eq_true (by kernel_rfl)) k0 bel lt0) trodAll_mk0), rfl, bel.frame _, fun h => by cases h⟩
theorem said : Rows.FnStyleTypesSaid :=
  OpenClaim.holds_of_cond 5 Tryz.f5 rfl rfl rfl rfl rfl rfl rfl ⟨rfl, rfl, rfl, rfl, rfl⟩ rfl rfl rfl rfl rfl (by kernel_rfl) Tryz.func5 (by kernel_rfl)
    (of_decide_eq_true (by kernel_rfl)) (by unfold Func.isWrapper; first | (rw [if_pos (by decide +kernel)]; kernel_rfl) | (rw [if_neg (by decide +kernel)]; exact ⟨rfl, rfl⟩))
    (fun os started H enc _ F => by rw [OpenClaim.pre_eq_preRow]; exact lifted os started H enc F)
theorem plain (f : FuncId) (fn : Func) (hf : Tryz.pinned.checked.prog.funcNamed "pub-rubrication/laws.FnStyleTypes" = some f) (hfn : Tryz.pinned.checked.prog.funcs[f]? = some fn) :
    true = Tryz.pinned.checked.prog.looks [] ∧ ∀ (j : Nat) t, fn.params[j]? = some t → Tryz.pinned.checked.prog.wantsStandIn t = false := by
  obtain rfl : f = 5 := Option.some.inj ((show Tryz.prog.funcNamed "pub-rubrication/laws.FnStyleTypes" = some 5 by kernel_rfl).symm.trans hf) |>.symm
  obtain rfl : fn = Tryz.f5 := (Option.some.inj (Tryz.func5.symm.trans hfn)).symm
  refine ⟨by kernel_rfl, fun j t ht => ?_⟩
  have hall : (Tryz.f5.params.toList.all fun t => !Tryz.prog.wantsStandIn t) = true := by kernel_rfl
  have h1 := List.all_eq_true.1 hall t (Array.mem_toList_iff.2 (Array.mem_of_getElem? ht))
  exact (Bool.not_eq_true' _).mp h1
theorem card : Rows.FnStyleTypesCardSaid :=
  Claim7.holds_tied_plain_at .later [] _ _ _ _ said (fun _ h => by cases h) (by kernel_rfl) (fun _ h => by cases h) fnStyleTypes_row_tie rfl ⟨rfl, rfl⟩ (by kernel_rfl) rfl plain (by kernel_rfl)
#print axioms card
end Go.Proofs.YtjemdgmihbmgeaaGreatDoor.fnStyleTypes
namespace Go.Proofs.YtjemdgmihbmgeaaGreatDoor
/-- The card, under a short name, for the claim. -/
theorem fnStyleTypes_holds : Rows.FnStyleTypesCardSaid := fnStyleTypes.card
end Go.Proofs.YtjemdgmihbmgeaaGreatDoor
