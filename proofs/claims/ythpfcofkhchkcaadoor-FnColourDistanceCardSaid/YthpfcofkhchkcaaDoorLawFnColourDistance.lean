/- The law pub-rubrication/laws.FnColourDistance of the given program: two colours are as far from each other as the sum of their parts' squares, weighed by the red ones' mean, says; alike both ways, and a colour is 0 from itself.
   No conditions: every input that can be read as data. -/
import Derived.Test.YthpfcofkhchkcaaDoorRows
import Derived.Test.YthpfcofkhchkcaaDoorFx1
import Derived.Test.YthpfcofkhchkcaaDoorPureFnColourDistance
import Derived.Test.YthpfcofkhchkcaaDoorOpen
import Derived.WalkKit
import Derived.ProofKit
import Derived.OpenShut
import Derived.ShutString
import Derived.ChangeOld
import Derived.Below
import Derived.SizedLaws
import Derived.Test.YthpfcofkhchkcaaDoorCards
import Derived.Test.YthpfcofkhchkcaaDoorTie
import Derived.Test.YthpfcofkhchkcaaDoorLaid
import Derived.Deep.DeepHandedRow
import Derived.Deep.DeepWitnessRowRef
import Derived.Lay
namespace Go.Proofs.YthpfcofkhchkcaaDoor.fnColourDistance
open Go.ChangeShapes Go.WideShapes Go.ChangeAt Go.RowKit Go.Proofs.YthpfcofkhchkcaaDoorOpen Go.Proofs.YthpfcofkhchkcaaDoorW.PrintWords Go.Proofs.YthpfcofkhchkcaaDoor.F
open Go.ChangeMaps (open_string shut_string)
set_option linter.unusedVariables false
theorem own : ownKnob Tryd.prog.godebug = none := by kernel_rfl
theorem laidOut : laidOutB Tryd.prog = true := by kernel_rfl
set_option maxRecDepth 100000 in
theorem laid_met (os : Os) (args : Array Value) : laidMet Tryd.prog Rows.fnColourDistanceRow.laid ((World.laidAll Tryd.prog os Rows.fnColourDistanceRow.laid).forCall (fun _ _ => 0) ⟨#[], args, []⟩).memory :=
  laidMet_laidAll args (by kernel_rfl) (by kernel_rfl)
set_option maxRecDepth 100000 in
theorem reads (os : Os) {H : Type} (enc : TypeId × Value → H) : ∃ places, DataW.whole enc Tryd.prog ((World.laidAll Tryd.prog os Rows.fnColourDistanceRow.laid).forCall (fun _ _ => 0) ⟨#[], #[.int .i32 0, .int .i32 0], []⟩).memory Tryd.f12.params.toList Rows.fnColourDistanceSpec.vars false (#[.int .i32 0, .int .i32 0] : Array Value).toList 8 = some ([.lit (.int .i32 0), .lit (.int .i32 0)], [], places) :=
  ⟨[], by kernel_rfl⟩
theorem witness_row (os : Os) {H : Type} (enc : TypeId × Value → H) : (OpenSpec.ofChange Rows.fnColourDistanceSpec).preRow enc Tryd.prog Tryd.f12 Rows.fnColourDistanceRow.domain false Rows.fnColourDistanceRow.laid ((World.laidAll Tryd.prog os Rows.fnColourDistanceRow.laid).forCall (fun _ _ => 0) ⟨#[], #[.int .i32 0, .int .i32 0], []⟩).memory #[.int .i32 0, .int .i32 0] := by
  obtain ⟨places, hx⟩ := reads os enc
  exact OpenSpec.preRow_of_cond 8 hx (by kernel_rfl) (fun k hk => by cases hk) (by kernel_rfl) (laid_met os _)
set_option maxRecDepth 100000 in
theorem lifted (os : Os) (started : os.Started) (H : Type) (enc : TypeId × Value → H) (F : Stop.Interp) :
    ReturnsInHanded {} Tryd.checked os 12 .any ((OpenSpec.ofChange Rows.fnColourDistanceSpec).preRow enc Tryd.prog Tryd.f12 Rows.fnColourDistanceRow.domain false Rows.fnColourDistanceRow.laid) (((OpenSpec.ofChange Rows.fnColourDistanceSpec).at F).post enc Tryd.prog Tryd.f12 false true false false) := by
  refine returnsInHanded_of_row (C := Tryd.checked) (s := (OpenSpec.ofChange Rows.fnColourDistanceSpec)) own started (by kernel_rfl) Tryd.func12
    (witness_row_atRef (enc := enc) (C := Tryd.checked) false (World.laidAll Tryd.prog os Rows.fnColourDistanceRow.laid) #[.int .i32 0, .int .i32 0] (World.laidAll_os _ _ _) (by kernel_rfl) (by kernel_rfl) (by kernel_rfl) (witness_row os enc)) ?_
  intro W base args ds gs before hval0 hW _ _ hsz0 hL _ _
  have hVok : Go.Proofs.YthpfcofkhchkcaaDoorFmt.VarsOK W := Go.Proofs.YthpfcofkhchkcaaDoorFmt.varsOK hL (by rfl) (by simp [Rows.fnColourDistanceRow]) (by simp [Rows.fnColourDistanceRow]) (by simp [Rows.fnColourDistanceRow])
  have hsz : (DataW.weightsEach Tryd.prog (Tryd.f12.params.toList ++ Rows.fnColourDistanceSpec.plain.varTypes Tryd.prog) (ds ++ gs)).all (· ≤ reachBytes) = true := hsz0
  have hval : ∀ (j : Nat) t v, Tryd.f12.params[j]? = some t → args[j]? = some v → Value.okWide Tryd.prog W .any base t v := hval0
  have hW' := hW
  obtain ⟨p, q, hA0, hV, rfl, hfz, hnd⟩ := hW
  have hA : DataW.TrodAll enc Tryd.prog W 0 (fun _ => true) true Tryd.f12.params.toList args.toList ds p := hA0
  rw [Tryd.params12] at hA hval hsz
  obtain ⟨v0, vs0, d0, ds0, p0, q0, hargs, rfl, rfl, h0, r0⟩ := trodAll_cons hA
  obtain ⟨v1, vs1, d1, ds1, p1, q1, rfl, rfl, rfl, h1, r1⟩ := trodAll_cons r0
  obtain ⟨rfl, rfl, rfl⟩ := trodAll_nil r1
  obtain rfl : args = #[v0, v1] := by cases args; simp_all
  obtain ⟨rfl, rfl⟩ := trodVars_none hV
  obtain ⟨a0, rfl, rfl, rfl, w0⟩ := open_int Tryd.underlying21 (hval 0 21 v0 rfl rfl) h0
  obtain ⟨a1, rfl, rfl, rfl, w1⟩ := open_int Tryd.underlying21 (hval 1 21 v1 rfl rfl) h1
  clear hA0 hval0 hsz0 hsz
  have hP := Pure.FnColourDistance a0 a1 w0 w1
  refine (laws_FnColourDistance.calls a0 a1 true W hVok hP).mono fun e W' ⟨he, bel⟩ => ?_
  subst he
  exact ⟨_, rfl, _, _, _, [], _, [], hW', trodAll_mk1 (shut_bool Tryd.underlying4 _), (trodAll_cons_mk (shut_int Tryd.underlying21 w0) (trodAll_cons_mk (shut_int Tryd.underlying21 w1) trodAll_mk0)), rfl, bel.frame _, fun h => by cases h⟩
theorem said : Rows.FnColourDistanceSaid :=
  OpenClaim.holds_of_cond 12 Tryd.f12 rfl rfl rfl rfl rfl rfl rfl ⟨rfl, rfl, rfl, rfl, rfl⟩ rfl rfl rfl rfl rfl (by kernel_rfl) Tryd.func12 (by kernel_rfl)
    (of_decide_eq_true (by kernel_rfl)) (by unfold Func.isWrapper; first | (rw [if_pos (by decide +kernel)]; kernel_rfl) | (rw [if_neg (by decide +kernel)]; exact ⟨rfl, rfl⟩))
    (fun os started H enc _ F => by rw [OpenClaim.pre_eq_preRow]; exact lifted os started H enc F)
theorem plain (f : FuncId) (fn : Func) (hf : Tryd.pinned.checked.prog.funcNamed "pub-rubrication/laws.FnColourDistance" = some f) (hfn : Tryd.pinned.checked.prog.funcs[f]? = some fn) :
    true = Tryd.pinned.checked.prog.looks [] ∧ ∀ (j : Nat) t, fn.params[j]? = some t → Tryd.pinned.checked.prog.wantsStandIn t = false := by
  obtain rfl : f = 12 := Option.some.inj ((show Tryd.prog.funcNamed "pub-rubrication/laws.FnColourDistance" = some 12 by kernel_rfl).symm.trans hf) |>.symm
  obtain rfl : fn = Tryd.f12 := (Option.some.inj (Tryd.func12.symm.trans hfn)).symm
  refine ⟨by kernel_rfl, fun j t ht => ?_⟩
  have hall : (Tryd.f12.params.toList.all fun t => !Tryd.prog.wantsStandIn t) = true := by kernel_rfl
  have h1 := List.all_eq_true.1 hall t (Array.mem_toList_iff.2 (Array.mem_of_getElem? ht))
  exact (Bool.not_eq_true' _).mp h1
theorem card : Rows.FnColourDistanceCardSaid :=
  Claim7.holds_tied_plain_at .later [] _ _ _ _ said (fun _ h => by cases h) (by kernel_rfl) (fun _ h => by cases h) fnColourDistance_row_tie rfl ⟨rfl, rfl⟩ (by kernel_rfl) rfl plain (by kernel_rfl)
#print axioms card
end Go.Proofs.YthpfcofkhchkcaaDoor.fnColourDistance
namespace Go.Proofs.YthpfcofkhchkcaaDoor
/-- The card, under a short name, for the claim. -/
theorem fnColourDistance_holds : Rows.FnColourDistanceCardSaid := fnColourDistance.card
end Go.Proofs.YthpfcofkhchkcaaDoor
