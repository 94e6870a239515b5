/- The law pub-rubrication/laws.FnColourShort of the given program: three digits stand for six, each twice, in letters of any case.
   No conditions: every input that can be read as data. -/
import Derived.Test.YthpfcofkhchkcaaDoorRows
import Derived.Test.YthpfcofkhchkcaaDoorMx3
import Derived.Test.YthpfcofkhchkcaaDoorPureFnColourShort
import Derived.Test.YthpfcofkhchkcaaDoorOpen
import Derived.WalkKit
import Derived.ProofKit
import Derived.OpenShut
import Derived.ShutString
import Derived.ChangeOld
import Derived.Below
import Derived.SizedLaws
import Derived.Test.YthpfcofkhchkcaaDoorCards
import Derived.Test.YthpfcofkhchkcaaDoorTie
import Derived.Test.YthpfcofkhchkcaaDoorLaid
import Derived.Deep.DeepHandedRow
import Derived.Deep.DeepWitnessRowRef
import Derived.Lay
namespace Go.Proofs.YthpfcofkhchkcaaDoor.fnColourShort
open Go.ChangeShapes Go.WideShapes Go.ChangeAt Go.RowKit Go.Proofs.YthpfcofkhchkcaaDoorOpen Go.Proofs.YthpfcofkhchkcaaDoorW.PrintWords Go.Proofs.YthpfcofkhchkcaaDoor.M
open Go.ChangeMaps (open_string shut_string)
set_option linter.unusedVariables false
theorem own : ownKnob Tryd.prog.godebug = none := by kernel_rfl
theorem laidOut : laidOutB Tryd.prog = true := by kernel_rfl
set_option maxRecDepth 100000 in
theorem laid_met (os : Os) (args : Array Value) : laidMet Tryd.prog Rows.fnColourShortRow.laid ((World.laidAll Tryd.prog os Rows.fnColourShortRow.laid).forCall (fun _ _ => 0) ⟨#[], args, []⟩).memory :=
  laidMet_laidAll args (by kernel_rfl) (by kernel_rfl)
set_option maxRecDepth 100000 in
theorem reads (os : Os) {H : Type} (enc : TypeId × Value → H) : ∃ places, DataW.whole enc Tryd.prog ((World.laidAll Tryd.prog os Rows.fnColourShortRow.laid).forCall (fun _ _ => 0) ⟨#[], #[.int .u8 0, .int .u8 0, .int .u8 0, .bool false], []⟩).memory Tryd.f6.params.toList Rows.fnColourShortSpec.vars false (#[.int .u8 0, .int .u8 0, .int .u8 0, .bool false] : Array Value).toList 8 = some ([.lit (.int .u8 0), .lit (.int .u8 0), .lit (.int .u8 0), .lit (.bool false)], [], places) :=
  ⟨[], by kernel_rfl⟩
theorem witness_row (os : Os) {H : Type} (enc : TypeId × Value → H) : (OpenSpec.ofChange Rows.fnColourShortSpec).preRow enc Tryd.prog Tryd.f6 Rows.fnColourShortRow.domain false Rows.fnColourShortRow.laid ((World.laidAll Tryd.prog os Rows.fnColourShortRow.laid).forCall (fun _ _ => 0) ⟨#[], #[.int .u8 0, .int .u8 0, .int .u8 0, .bool false], []⟩).memory #[.int .u8 0, .int .u8 0, .int .u8 0, .bool false] := by
  obtain ⟨places, hx⟩ := reads os enc
  exact OpenSpec.preRow_of_cond 8 hx (by kernel_rfl) (fun k hk => by cases hk) (by kernel_rfl) (laid_met os _)
set_option maxRecDepth 100000 in
theorem lifted (os : Os) (started : os.Started) (H : Type) (enc : TypeId × Value → H) (F : Stop.Interp) :
    ReturnsInHanded {} Tryd.checked os 6 .any ((OpenSpec.ofChange Rows.fnColourShortSpec).preRow enc Tryd.prog Tryd.f6 Rows.fnColourShortRow.domain false Rows.fnColourShortRow.laid) (((OpenSpec.ofChange Rows.fnColourShortSpec).at F).post enc Tryd.prog Tryd.f6 false true false false) := by
  refine returnsInHanded_of_row (C := Tryd.checked) (s := (OpenSpec.ofChange Rows.fnColourShortSpec)) own started (by kernel_rfl) Tryd.func6
    (witness_row_atRef (enc := enc) (C := Tryd.checked) false (World.laidAll Tryd.prog os Rows.fnColourShortRow.laid) #[.int .u8 0, .int .u8 0, .int .u8 0, .bool false] (World.laidAll_os _ _ _) (by kernel_rfl) (by kernel_rfl) (by kernel_rfl) (witness_row os enc)) ?_
  intro W base args ds gs before hval0 hW _ _ hsz0 hL _ _
  have hVok : Go.Proofs.YthpfcofkhchkcaaDoorFmt.VarsOK W := Go.Proofs.YthpfcofkhchkcaaDoorFmt.varsOK hL (by rfl) (by simp [Rows.fnColourShortRow]) (by simp [Rows.fnColourShortRow]) (by simp [Rows.fnColourShortRow])
  have hsz : (DataW.weightsEach Tryd.prog (Tryd.f6.params.toList ++ Rows.fnColourShortSpec.plain.varTypes Tryd.prog) (ds ++ gs)).all (· ≤ reachBytes) = true := hsz0
  have hval : ∀ (j : Nat) t v, Tryd.f6.params[j]? = some t → args[j]? = some v → Value.okWide Tryd.prog W .any base t v := hval0
  have hW' := hW
  obtain ⟨p, q, hA0, hV, rfl, hfz, hnd⟩ := hW
  have hA : DataW.TrodAll enc Tryd.prog W 0 (fun _ => true) true Tryd.f6.params.toList args.toList ds p := hA0
  rw [Tryd.params6] at hA hval hsz
  obtain ⟨v0, vs0, d0, ds0, p0, q0, hargs, rfl, rfl, h0, r0⟩ := trodAll_cons hA
  obtain ⟨v1, vs1, d1, ds1, p1, q1, rfl, rfl, rfl, h1, r1⟩ := trodAll_cons r0
  obtain ⟨v2, vs2, d2, ds2, p2, q2, rfl, rfl, rfl, h2, r2⟩ := trodAll_cons r1
  obtain ⟨v3, vs3, d3, ds3, p3, q3, rfl, rfl, rfl, h3, r3⟩ := trodAll_cons r2
  obtain ⟨rfl, rfl, rfl⟩ := trodAll_nil r3
  obtain rfl : args = #[v0, v1, v2, v3] := by cases args; simp_all
  obtain ⟨rfl, rfl⟩ := trodVars_none hV
  obtain ⟨a0, rfl, rfl, rfl, w0⟩ := open_int Tryd.underlying5 (hval 0 5 v0 rfl rfl) h0
  obtain ⟨a1, rfl, rfl, rfl, w1⟩ := open_int Tryd.underlying5 (hval 1 5 v1 rfl rfl) h1
  obtain ⟨a2, rfl, rfl, rfl, w2⟩ := open_int Tryd.underlying5 (hval 2 5 v2 rfl rfl) h2
  obtain ⟨a3, rfl, rfl, rfl⟩ := open_bool Tryd.underlying4 (hval 3 4 v3 rfl rfl) h3
  clear hA0 hval0 hsz0 hsz
  have hP := Pure.FnColourShort a0 a1 a2 a3 w0 w1 w2
  refine (laws_FnColourShort.calls a0 a1 a2 a3 true W hVok hP).mono fun e W' ⟨he, bel⟩ => ?_
  subst he
  exact ⟨_, rfl, _, _, _, [], _, [], hW', trodAll_mk1 (shut_bool Tryd.underlying4 _), (trodAll_cons_mk (shut_int Tryd.underlying5 w0) (trodAll_cons_mk (shut_int Tryd.underlying5 w1) (trodAll_cons_mk (shut_int Tryd.underlying5 w2) (trodAll_cons_mk (shut_bool Tryd.underlying4 _) trodAll_mk0)))), rfl, bel.frame _, fun h => by cases h⟩
theorem said : Rows.FnColourShortSaid :=
  OpenClaim.holds_of_cond 6 Tryd.f6 rfl rfl rfl rfl rfl rfl rfl ⟨rfl, rfl, rfl, rfl, rfl⟩ rfl rfl rfl rfl rfl (by kernel_rfl) Tryd.func6 (by kernel_rfl)
    (of_decide_eq_true (by kernel_rfl)) (by unfold Func.isWrapper; first | (rw [if_pos (by decide +kernel)]; kernel_rfl) | (rw [if_neg (by decide +kernel)]; exact ⟨rfl, rfl⟩))
    (fun os started H enc _ F => by rw [OpenClaim.pre_eq_preRow]; exact lifted os started H enc F)
theorem plain (f : FuncId) (fn : Func) (hf : Tryd.pinned.checked.prog.funcNamed "pub-rubrication/laws.FnColourShort" = some f) (hfn : Tryd.pinned.checked.prog.funcs[f]? = some fn) :
    true = Tryd.pinned.checked.prog.looks [] ∧ ∀ (j : Nat) t, fn.params[j]? = some t → Tryd.pinned.checked.prog.wantsStandIn t = false := by
  obtain rfl : f = 6 := Option.some.inj ((show Tryd.prog.funcNamed "pub-rubrication/laws.FnColourShort" = some 6 by kernel_rfl).symm.trans hf) |>.symm
  obtain rfl : fn = Tryd.f6 := (Option.some.inj (Tryd.func6.symm.trans hfn)).symm
  refine ⟨by kernel_rfl, fun j t ht => ?_⟩
  have hall : (Tryd.f6.params.toList.all fun t => !Tryd.prog.wantsStandIn t) = true := by kernel_rfl
  have h1 := List.all_eq_true.1 hall t (Array.mem_toList_iff.2 (Array.mem_of_getElem? ht))
  exact (Bool.not_eq_true' _).mp h1
theorem card : Rows.FnColourShortCardSaid :=
  Claim7.holds_tied_plain_at .later [] _ _ _ _ said (fun _ h => by cases h) (by kernel_rfl) (fun _ h => by cases h) fnColourShort_row_tie rfl ⟨rfl, rfl⟩ (by kernel_rfl) rfl plain (by kernel_rfl)
#print axioms card
end Go.Proofs.YthpfcofkhchkcaaDoor.fnColourShort
namespace Go.Proofs.YthpfcofkhchkcaaDoor
/-- The card, under a short name, for the claim. -/
theorem fnColourShort_holds : Rows.FnColourShortCardSaid := fnColourShort.card
end Go.Proofs.YthpfcofkhchkcaaDoor
