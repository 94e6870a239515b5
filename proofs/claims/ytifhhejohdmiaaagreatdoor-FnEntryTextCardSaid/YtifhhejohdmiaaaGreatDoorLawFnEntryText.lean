/- The law pub-rubrication/laws.FnEntryText of the given program: an entry's text has its words in the order bold, italic, underline, noinherit, colour, background, border (colours of three parts, or none).
   No conditions: every input that can be read as data. -/
import Derived.Test.YtifhhejohdmiaaaGreatDoorRows
import Derived.Test.YtifhhejohdmiaaaGreatDoorXx3
import Derived.Test.YtifhhejohdmiaaaGreatDoorPureFnEntryText
import Derived.Test.YtifhhejohdmiaaaGreatDoorOpen
import Derived.WalkKit
import Derived.ProofKit
import Derived.OpenShut
import Derived.ShutString
import Derived.ChangeOld
import Derived.Below
import Derived.SizedLaws
import Derived.Test.YtifhhejohdmiaaaGreatDoorCards
import Derived.Test.YtifhhejohdmiaaaGreatDoorTie
import Derived.Test.YtifhhejohdmiaaaGreatDoorLaid
import Derived.Deep.DeepHandedRow
import Derived.Deep.DeepWitnessRowRef
import Derived.Lay
namespace Go.Proofs.YtifhhejohdmiaaaGreatDoor.fnEntryText
open Go.ChangeShapes Go.WideShapes Go.ChangeAt Go.RowKit Go.Proofs.YtifhhejohdmiaaaGreatDoorOpen Go.Proofs.YtifhhejohdmiaaaGreatDoorW.PrintWords Go.Proofs.YtifhhejohdmiaaaGreatDoor.X
open Go.ChangeMaps (open_string shut_string)
set_option linter.unusedVariables false
theorem own : ownKnob Tryz.prog.godebug = none := by kernel_rfl
theorem laidOut : laidOutB Tryz.prog = true := by kernel_rfl
theorem opens_S23 {H : Type} (enc : TypeId × Value → H) (W : World) (base : Nat) (spare : Nat → Bool) (held : Bool) : Opens enc Tryz.prog W base spare held k23 23 wf_S23 :=
  opens_iso (fun x : S23 => (x.f0, x.f1, x.f2, x.f3, x.f4, x.f5, x.f6)) (fun a => ⟨a.1, a.2.1, a.2.2.1, a.2.2.2.1, a.2.2.2.2.1, a.2.2.2.2.2.1, a.2.2.2.2.2.2⟩) (fun _ => rfl) (opens_struct Tryz.underlying23 (by kernel_rfl) (fields_cons rfl (by kernel_rfl) (opens_int Tryz.underlying21) (fields_cons rfl (by kernel_rfl) (opens_int Tryz.underlying21) (fields_cons rfl (by kernel_rfl) (opens_int Tryz.underlying21) (fields_cons rfl (by kernel_rfl) (opens_int Tryz.underlying5) (fields_cons rfl (by kernel_rfl) (opens_int Tryz.underlying5) (fields_cons rfl (by kernel_rfl) (opens_int Tryz.underlying5) (fields_one rfl (by kernel_rfl) (opens_bool Tryz.underlying4)))))))))
set_option maxRecDepth 100000 in
theorem laid_met (os : Os) (args : Array Value) : laidMet Tryz.prog Rows.fnEntryTextRow.laid ((World.laidAll Tryz.prog os Rows.fnEntryTextRow.laid).forCall (fun _ _ => 0) ⟨#[], args, []⟩).memory :=
  laidMet_laidAll args (by kernel_rfl) (by kernel_rfl)
set_option maxRecDepth 100000 in
theorem reads (os : Os) {H : Type} (enc : TypeId × Value → H) : ∃ places, DataW.whole enc Tryz.prog ((World.laidAll Tryz.prog os Rows.fnEntryTextRow.laid).forCall (fun _ _ => 0) ⟨#[], #[.agg #[.int .i32 0, .int .i32 0, .int .i32 0, .int .u8 0, .int .u8 0, .int .u8 0, .bool false]], []⟩).memory Tryz.f3.params.toList Rows.fnEntryTextSpec.vars false (#[.agg #[.int .i32 0, .int .i32 0, .int .i32 0, .int .u8 0, .int .u8 0, .int .u8 0, .bool false]] : Array Value).toList 8 = some ([.agg [.lit (.int .i32 0), .lit (.int .i32 0), .lit (.int .i32 0), .lit (.int .u8 0), .lit (.int .u8 0), .lit (.int .u8 0), .lit (.bool false)]], [], places) :=
  ⟨[], by kernel_rfl⟩
theorem witness_row (os : Os) {H : Type} (enc : TypeId × Value → H) : (OpenSpec.ofChange Rows.fnEntryTextSpec).preRow enc Tryz.prog Tryz.f3 Rows.fnEntryTextRow.domain false Rows.fnEntryTextRow.laid ((World.laidAll Tryz.prog os Rows.fnEntryTextRow.laid).forCall (fun _ _ => 0) ⟨#[], #[.agg #[.int .i32 0, .int .i32 0, .int .i32 0, .int .u8 0, .int .u8 0, .int .u8 0, .bool false]], []⟩).memory #[.agg #[.int .i32 0, .int .i32 0, .int .i32 0, .int .u8 0, .int .u8 0, .int .u8 0, .bool false]] := by
  obtain ⟨places, hx⟩ := reads os enc
  exact OpenSpec.preRow_of_cond 8 hx (by kernel_rfl) (fun k hk => by cases hk) (by kernel_rfl) (laid_met os _)
set_option maxRecDepth 100000 in
theorem lifted (os : Os) (started : os.Started) (H : Type) (enc : TypeId × Value → H) (F : Stop.Interp) :
    ReturnsInHanded {} Tryz.checked os 3 .any ((OpenSpec.ofChange Rows.fnEntryTextSpec).preRow enc Tryz.prog Tryz.f3 Rows.fnEntryTextRow.domain false Rows.fnEntryTextRow.laid) (((OpenSpec.ofChange Rows.fnEntryTextSpec).at F).post enc Tryz.prog Tryz.f3 false true false false) := by
  refine returnsInHanded_of_row (C := Tryz.checked) (s := (OpenSpec.ofChange Rows.fnEntryTextSpec)) own started (by kernel_rfl) Tryz.func3
    (witness_row_atRef (enc := enc) (C := Tryz.checked) false (World.laidAll Tryz.prog os Rows.fnEntryTextRow.laid) #[.agg #[.int .i32 0, .int .i32 0, .int .i32 0, .int .u8 0, .int .u8 0, .int .u8 0, .bool false]] (World.laidAll_os _ _ _) (by kernel_rfl) (by kernel_rfl) (by kernel_rfl) (witness_row os enc)) ?_
  intro W base args ds gs before hval0 hW _ _ hsz0 hL _ _
  have hVok : Go.Proofs.YtifhhejohdmiaaaGreatDoorFmt.VarsOK W := Go.Proofs.YtifhhejohdmiaaaGreatDoorFmt.varsOK hL (by rfl) (by simp [Rows.fnEntryTextRow]) (by simp [Rows.fnEntryTextRow]) (by simp [Rows.fnEntryTextRow]) (by simp [Rows.fnEntryTextRow]) (by simp [Rows.fnEntryTextRow]) (by simp [Rows.fnEntryTextRow]) (by simp [Rows.fnEntryTextRow])
  have hsz : (DataW.weightsEach Tryz.prog (Tryz.f3.params.toList ++ Rows.fnEntryTextSpec.plain.varTypes Tryz.prog) (ds ++ gs)).all (· ≤ reachBytes) = true := hsz0
  have hval : ∀ (j : Nat) t v, Tryz.f3.params[j]? = some t → args[j]? = some v → Value.okWide Tryz.prog W .any base t v := hval0
  have hW' := hW
  obtain ⟨p, q, hA0, hV, rfl, hfz, hnd⟩ := hW
  have hA : DataW.TrodAll enc Tryz.prog W 0 (fun _ => true) true Tryz.f3.params.toList args.toList ds p := hA0
  rw [Tryz.params3] at hA hval hsz
  obtain ⟨v0, vs0, d0, ds0, p0, q0, hargs, rfl, rfl, h0, r0⟩ := trodAll_cons hA
  obtain ⟨rfl, rfl, rfl⟩ := trodAll_nil r0
  obtain rfl : args = #[v0] := by cases args; simp_all
  obtain ⟨rfl, rfl⟩ := trodVars_none hV
  have k0 := h0
  have lt0 : ∀ x ∈ p0, x.block < W.heap.size := by obtain ⟨m, hm⟩ := k0; exact DataW.trod_lt m _ _ _ hm
  obtain ⟨cs0, rfl, _⟩ := okWide_struct Tryz.underlying23 (hval 0 23 v0 rfl rfl)
  obtain ⟨x0, hx0, wf0⟩ : ∃ x : S23, cs0 = #[.int .i32 x.f0, .int .i32 x.f1, .int .i32 x.f2, .int .u8 x.f3, .int .u8 x.f4, .int .u8 x.f5, .bool x.f6] ∧ wf_S23 x := by
    obtain ⟨fuel, hf⟩ := h0
    obtain ⟨x, hK, hwf⟩ := opens_S23 enc W 0 (fun _ => true) true fuel _ _ hf
    have hcs := k23_open hK
    refine ⟨x, ?_, hwf⟩
    have : cs0.toList = _ := hcs
    exact Array.toList_inj.1 (this.trans rfl)
  subst hx0
  clear hA0 hval0 hsz0 hsz
  have hP := Pure.FnEntryText (x0.f0) (x0.f1) (x0.f2) (x0.f3) (x0.f4) (x0.f5) (x0.f6) wf0
  obtain ⟨k, hP⟩ := hP
  refine (laws_FnEntryText.calls k (x0.f0) (x0.f1) (x0.f2) (x0.f3) (x0.f4) (x0.f5) (x0.f6) true ⟨rfl⟩ W hVok hP).mono fun e W' ⟨he, bel⟩ => ?_
  subst he
  exact ⟨_, rfl, _, _, _, [], _, [], hW', trodAll_mk1 (shut_bool Tryz.underlying4 _), (trodAll_cons_mk (Below.trod laidOut (by kernel_rfl) (of_decide_eq_true (by kernel_rfl)) k0 bel lt0) trodAll_mk0), rfl, bel.frame _, fun h => by cases h⟩
theorem said : Rows.FnEntryTextSaid :=
  OpenClaim.holds_of_cond 3 Tryz.f3 rfl rfl rfl rfl rfl rfl rfl ⟨rfl, rfl, rfl, rfl, rfl⟩ rfl rfl rfl rfl rfl (by kernel_rfl) Tryz.func3 (by kernel_rfl)
    (of_decide_eq_true (by kernel_rfl)) (by unfold Func.isWrapper; first | (rw [if_pos (by decide +kernel)]; kernel_rfl) | (rw [if_neg (by decide +kernel)]; exact ⟨rfl, rfl⟩))
    (fun os started H enc _ F => by rw [OpenClaim.pre_eq_preRow]; exact lifted os started H enc F)
theorem plain (f : FuncId) (fn : Func) (hf : Tryz.pinned.checked.prog.funcNamed "pub-rubrication/laws.FnEntryText" = some f) (hfn : Tryz.pinned.checked.prog.funcs[f]? = some fn) :
    true = Tryz.pinned.checked.prog.looks [] ∧ ∀ (j : Nat) t, fn.params[j]? = some t → Tryz.pinned.checked.prog.wantsStandIn t = false := by
  obtain rfl : f = 3 := Option.some.inj ((show Tryz.prog.funcNamed "pub-rubrication/laws.FnEntryText" = some 3 by kernel_rfl).symm.trans hf) |>.symm
  obtain rfl : fn = Tryz.f3 := (Option.some.inj (Tryz.func3.symm.trans hfn)).symm
  refine ⟨by kernel_rfl, fun j t ht => ?_⟩
  have hall : (Tryz.f3.params.toList.all fun t => !Tryz.prog.wantsStandIn t) = true := by kernel_rfl
  have h1 := List.all_eq_true.1 hall t (Array.mem_toList_iff.2 (Array.mem_of_getElem? ht))
  exact (Bool.not_eq_true' _).mp h1
theorem card : Rows.FnEntryTextCardSaid :=
  Claim7.holds_tied_plain_at .later [] _ _ _ _ said (fun _ h => by cases h) (by kernel_rfl) (fun _ h => by cases h) fnEntryText_row_tie rfl ⟨rfl, rfl⟩ (by kernel_rfl) rfl plain (by kernel_rfl)
#print axioms card
end Go.Proofs.YtifhhejohdmiaaaGreatDoor.fnEntryText
namespace Go.Proofs.YtifhhejohdmiaaaGreatDoor
/-- The card, under a short name, for the claim. -/
theorem fnEntryText_holds : Rows.FnEntryTextCardSaid := fnEntryText.card
end Go.Proofs.YtifhhejohdmiaaaGreatDoor
