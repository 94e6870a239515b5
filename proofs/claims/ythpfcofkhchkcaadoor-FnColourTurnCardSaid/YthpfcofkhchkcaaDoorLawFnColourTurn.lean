/- The law pub-rubrication/laws.FnColourTurn of the given program: a colour of a brightness below a half is brightened by a factor, another one darkened by it (factors from -1 to 1).
   No conditions: every input that can be read as data. -/
import Derived.Test.YthpfcofkhchkcaaDoorRows
import Derived.Test.YthpfcofkhchkcaaDoorDx1
import Derived.Test.YthpfcofkhchkcaaDoorPureFnColourTurn
import Derived.Test.YthpfcofkhchkcaaDoorOpen
import Derived.WalkKit
import Derived.ProofKit
import Derived.OpenShut
import Derived.ShutString
import Derived.ChangeOld
import Derived.Below
import Derived.SizedLaws
import Derived.Test.YthpfcofkhchkcaaDoorCards
import Derived.Test.YthpfcofkhchkcaaDoorTie
import Derived.Test.YthpfcofkhchkcaaDoorLaid
import Derived.Deep.DeepHandedRow
import Derived.Deep.DeepWitnessRowRef
import Derived.Lay
namespace Go.Proofs.YthpfcofkhchkcaaDoor.fnColourTurn
open Go.ChangeShapes Go.WideShapes Go.ChangeAt Go.RowKit Go.Proofs.YthpfcofkhchkcaaDoorOpen Go.Proofs.YthpfcofkhchkcaaDoorW.PrintWords Go.Proofs.YthpfcofkhchkcaaDoor.D
open Go.ChangeMaps (open_string shut_string)
set_option linter.unusedVariables false
theorem own : ownKnob Tryd.prog.godebug = none := by kernel_rfl
theorem laidOut : laidOutB Tryd.prog = true := by kernel_rfl
set_option maxRecDepth 100000 in
theorem laid_met (os : Os) (args : Array Value) : laidMet Tryd.prog Rows.fnColourTurnRow.laid ((World.laidAll Tryd.prog os Rows.fnColourTurnRow.laid).forCall (fun _ _ => 0) ⟨#[], args, []⟩).memory :=
  laidMet_laidAll args (by kernel_rfl) (by kernel_rfl)
set_option maxRecDepth 100000 in
theorem reads (os : Os) {H : Type} (enc : TypeId × Value → H) : ∃ places, DataW.whole enc Tryd.prog ((World.laidAll Tryd.prog os Rows.fnColourTurnRow.laid).forCall (fun _ _ => 0) ⟨#[], #[.int .i32 0, .int .u64 0], []⟩).memory Tryd.f11.params.toList Rows.fnColourTurnSpec.vars false (#[.int .i32 0, .int .u64 0] : Array Value).toList 8 = some ([.lit (.int .i32 0), .lit (.int .u64 0)], [], places) :=
  ⟨[], by kernel_rfl⟩
theorem witness_row (os : Os) {H : Type} (enc : TypeId × Value → H) : (OpenSpec.ofChange Rows.fnColourTurnSpec).preRow enc Tryd.prog Tryd.f11 Rows.fnColourTurnRow.domain false Rows.fnColourTurnRow.laid ((World.laidAll Tryd.prog os Rows.fnColourTurnRow.laid).forCall (fun _ _ => 0) ⟨#[], #[.int .i32 0, .int .u64 0], []⟩).memory #[.int .i32 0, .int .u64 0] := by
  obtain ⟨places, hx⟩ := reads os enc
  exact OpenSpec.preRow_of_cond 8 hx (by kernel_rfl) (fun k hk => by cases hk) (by kernel_rfl) (laid_met os _)
set_option maxRecDepth 100000 in
theorem lifted (os : Os) (started : os.Started) (H : Type) (enc : TypeId × Value → H) (F : Stop.Interp) :
    ReturnsInHanded {} Tryd.checked os 11 .any ((OpenSpec.ofChange Rows.fnColourTurnSpec).preRow enc Tryd.prog Tryd.f11 Rows.fnColourTurnRow.domain false Rows.fnColourTurnRow.laid) (((OpenSpec.ofChange Rows.fnColourTurnSpec).at F).post enc Tryd.prog Tryd.f11 false true false false) := by
  refine returnsInHanded_of_row (C := Tryd.checked) (s := (OpenSpec.ofChange Rows.fnColourTurnSpec)) own started (by kernel_rfl) Tryd.func11
    (witness_row_atRef (enc := enc) (C := Tryd.checked) false (World.laidAll Tryd.prog os Rows.fnColourTurnRow.laid) #[.int .i32 0, .int .u64 0] (World.laidAll_os _ _ _) (by kernel_rfl) (by kernel_rfl) (by kernel_rfl) (witness_row os enc)) ?_
  intro W base args ds gs before hval0 hW _ _ hsz0 hL _ _
  have hVok : Go.Proofs.YthpfcofkhchkcaaDoorFmt.VarsOK W := Go.Proofs.YthpfcofkhchkcaaDoorFmt.varsOK hL (by rfl) (by simp [Rows.fnColourTurnRow]) (by simp [Rows.fnColourTurnRow]) (by simp [Rows.fnColourTurnRow])
  have hsz : (DataW.weightsEach Tryd.prog (Tryd.f11.params.toList ++ Rows.fnColourTurnSpec.plain.varTypes Tryd.prog) (ds ++ gs)).all (· ≤ reachBytes) = true := hsz0
  have hval : ∀ (j : Nat) t v, Tryd.f11.params[j]? = some t → args[j]? = some v → Value.okWide Tryd.prog W .any base t v := hval0
  have hW' := hW
  obtain ⟨p, q, hA0, hV, rfl, hfz, hnd⟩ := hW
  have hA : DataW.TrodAll enc Tryd.prog W 0 (fun _ => true) true Tryd.f11.params.toList args.toList ds p := hA0
  rw [Tryd.params11] at hA hval hsz
  obtain ⟨v0, vs0, d0, ds0, p0, q0, hargs, rfl, rfl, h0, r0⟩ := trodAll_cons hA
  obtain ⟨v1, vs1, d1, ds1, p1, q1, rfl, rfl, rfl, h1, r1⟩ := trodAll_cons r0
  obtain ⟨rfl, rfl, rfl⟩ := trodAll_nil r1
  obtain rfl : args = #[v0, v1] := by cases args; simp_all
  obtain ⟨rfl, rfl⟩ := trodVars_none hV
  obtain ⟨a0, rfl, rfl, rfl, w0⟩ := open_int Tryd.underlying21 (hval 0 21 v0 rfl rfl) h0
  obtain ⟨a1, rfl, rfl, rfl, w1⟩ := open_int Tryd.underlying39 (hval 1 39 v1 rfl rfl) h1
  clear hA0 hval0 hsz0 hsz
  have hP := Pure.FnColourTurn a0 a1 w0 w1
  refine (laws_FnColourTurn.calls a0 a1 true W hVok hP).mono fun e W' ⟨he, bel⟩ => ?_
  subst he
  exact ⟨_, rfl, _, _, _, [], _, [], hW', trodAll_mk1 (shut_bool Tryd.underlying4 _), (trodAll_cons_mk (shut_int Tryd.underlying21 w0) (trodAll_cons_mk (shut_int Tryd.underlying39 w1) trodAll_mk0)), rfl, bel.frame _, fun h => by cases h⟩
theorem said : Rows.FnColourTurnSaid :=
  OpenClaim.holds_of_cond 11 Tryd.f11 rfl rfl rfl rfl rfl rfl rfl ⟨rfl, rfl, rfl, rfl, rfl⟩ rfl rfl rfl rfl rfl (by kernel_rfl) Tryd.func11 (by kernel_rfl)
    (of_decide_eq_true (by kernel_rfl)) (by unfold Func.isWrapper; first | (rw [if_pos (by decide +kernel)]; kernel_rfl) | (rw [if_neg (by decide +kernel)]; exact ⟨rfl, rfl⟩))
    (fun os started H enc _ F => by rw [OpenClaim.pre_eq_preRow]; exact lifted os started H enc F)
theorem plain (f : FuncId) (fn : Func) (hf : Tryd.pinned.checked.prog.funcNamed "pub-rubrication/laws.FnColourTurn" = some f) (hfn : Tryd.pinned.checked.prog.funcs[f]? = some fn) :
    true = Tryd.pinned.checked.prog.looks [] ∧ ∀ (j : Nat) t, fn.params[j]? = some t → Tryd.pinned.checked.prog.wantsStandIn t = false := by
  obtain rfl : f = 11 := Option.some.inj ((show Tryd.prog.funcNamed "pub-rubrication/laws.FnColourTurn" = some 11 by kernel_rfl).symm.trans hf) |>.symm
  obtain rfl : fn = Tryd.f11 := (Option.some.inj (Tryd.func11.symm.trans hfn)).symm
  refine ⟨by kernel_rfl, fun j t ht => ?_⟩
  have hall : (Tryd.f11.params.toList.all fun t => !Tryd.prog.wantsStandIn t) = true := by kernel_rfl
  have h1 := List.all_eq_true.1 hall t (Array.mem_toList_iff.2 (Array.mem_of_getElem? ht))
  exact (Bool.not_eq_true' _).mp h1
theorem card : Rows.FnColourTurnCardSaid :=
  Claim7.holds_tied_plain_at .later [] _ _ _ _ said (fun _ h => by cases h) (by kernel_rfl) (fun _ h => by cases h) fnColourTurn_row_tie rfl ⟨rfl, rfl⟩ (by kernel_rfl) rfl plain (by kernel_rfl)
#print axioms card
end Go.Proofs.YthpfcofkhchkcaaDoor.fnColourTurn
namespace Go.Proofs.YthpfcofkhchkcaaDoor
/-- The card, under a short name, for the claim. -/
theorem fnColourTurn_holds : Rows.FnColourTurnCardSaid := fnColourTurn.card
end Go.Proofs.YthpfcofkhchkcaaDoor
