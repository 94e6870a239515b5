/- The law pub-rubrication/laws.FnRegMime of the given program: a lexer is found by a kind of text that it alone names (at most 20 lexers without files, whose names and aliases of small letters all differ, of one importance).
   No conditions: every input that can be read as data. -/
import Derived.Test.YtibjlefenodhaaaDoorRows
import Derived.Test.YtibjlefenodhaaaDoorLx1
import Derived.Test.YtibjlefenodhaaaDoorPureFnRegMime
import Derived.Test.YtibjlefenodhaaaDoorOpen
import Derived.WalkKit
import Derived.ProofKit
import Derived.OpenShut
import Derived.ShutString
import Derived.ChangeOld
import Derived.Below
import Derived.SizedLaws
import Derived.Test.YtibjlefenodhaaaDoorCards
import Derived.Test.YtibjlefenodhaaaDoorTie
import Derived.Test.YtibjlefenodhaaaDoorLaid
import Derived.Deep.DeepHandedRow
import Derived.Deep.DeepWitnessRowRef
import Derived.Lay
namespace Go.Proofs.YtibjlefenodhaaaDoor.fnRegMime
open Go.ChangeShapes Go.WideShapes Go.ChangeAt Go.RowKit Go.Proofs.YtibjlefenodhaaaDoorOpen Go.Proofs.YtibjlefenodhaaaDoorW.PrintWords Go.Proofs.YtibjlefenodhaaaDoor.L
open Go.ChangeMaps (open_string shut_string)
set_option linter.unusedVariables false
theorem own : ownKnob Tryd.prog.godebug = none := by kernel_rfl
theorem laidOut : laidOutB Tryd.prog = true := by kernel_rfl
theorem opens_S28 {H : Type} (enc : TypeId × Value → H) (W : World) (base : Nat) (spare : Nat → Bool) (held : Bool) : Opens enc Tryd.prog W base spare held k28 28 wf_S28 :=
  opens_iso (fun x : S28 => (x.f0, x.f1, x.f2, x.f3, x.f4, x.f5)) (fun a => ⟨a.1, a.2.1, a.2.2.1, a.2.2.2.1, a.2.2.2.2.1, a.2.2.2.2.2⟩) (fun _ => rfl) (opens_struct Tryd.underlying28 (by kernel_rfl) (fields_cons rfl (by kernel_rfl) (opens_string Tryd.underlying9) (fields_cons rfl (by kernel_rfl) (opens_slice Tryd.underlying25 (by kernel_rfl) (opens_string Tryd.underlying9)) (fields_cons rfl (by kernel_rfl) (opens_slice Tryd.underlying25 (by kernel_rfl) (opens_string Tryd.underlying9)) (fields_cons rfl (by kernel_rfl) (opens_slice Tryd.underlying25 (by kernel_rfl) (opens_string Tryd.underlying9)) (fields_cons rfl (by kernel_rfl) (opens_slice Tryd.underlying25 (by kernel_rfl) (opens_string Tryd.underlying9)) (fields_one rfl (by kernel_rfl) (opens_int Tryd.underlying26))))))))
set_option maxRecDepth 100000 in
theorem laid_met (os : Os) (args : Array Value) : laidMet Tryd.prog Rows.fnRegMimeRow.laid ((World.laidAll Tryd.prog os Rows.fnRegMimeRow.laid).forCall (fun _ _ => 0) ⟨#[], args, []⟩).memory :=
  laidMet_laidAll args (by kernel_rfl) (by kernel_rfl)
set_option maxRecDepth 100000 in
theorem reads (os : Os) {H : Type} (enc : TypeId × Value → H) : ∃ places, DataW.whole enc Tryd.prog ((World.laidAll Tryd.prog os Rows.fnRegMimeRow.laid).forCall (fun _ _ => 0) ⟨#[], #[.slice none 0 0, .int .u8 0], []⟩).memory Tryd.f5.params.toList Rows.fnRegMimeSpec.vars false (#[.slice none 0 0, .int .u8 0] : Array Value).toList 8 = some ([.nil, .lit (.int .u8 0)], [], places) :=
  ⟨[], by kernel_rfl⟩
theorem witness_row (os : Os) {H : Type} (enc : TypeId × Value → H) : (OpenSpec.ofChange Rows.fnRegMimeSpec).preRow enc Tryd.prog Tryd.f5 Rows.fnRegMimeRow.domain false Rows.fnRegMimeRow.laid ((World.laidAll Tryd.prog os Rows.fnRegMimeRow.laid).forCall (fun _ _ => 0) ⟨#[], #[.slice none 0 0, .int .u8 0], []⟩).memory #[.slice none 0 0, .int .u8 0] := by
  obtain ⟨places, hx⟩ := reads os enc
  exact OpenSpec.preRow_of_cond 8 hx (by kernel_rfl) (fun k hk => by cases hk) (by kernel_rfl) (laid_met os _)
set_option maxRecDepth 100000 in
theorem lifted (os : Os) (started : os.Started) (H : Type) (enc : TypeId × Value → H) (F : Stop.Interp) :
    ReturnsInHanded {} Tryd.checked os 5 .any ((OpenSpec.ofChange Rows.fnRegMimeSpec).preRow enc Tryd.prog Tryd.f5 Rows.fnRegMimeRow.domain false Rows.fnRegMimeRow.laid) (((OpenSpec.ofChange Rows.fnRegMimeSpec).at F).post enc Tryd.prog Tryd.f5 false true false false) := by
  refine returnsInHanded_of_row (C := Tryd.checked) (s := (OpenSpec.ofChange Rows.fnRegMimeSpec)) own started (by kernel_rfl) Tryd.func5
    (witness_row_atRef (enc := enc) (C := Tryd.checked) false (World.laidAll Tryd.prog os Rows.fnRegMimeRow.laid) #[.slice none 0 0, .int .u8 0] (World.laidAll_os _ _ _) (by kernel_rfl) (by kernel_rfl) (by kernel_rfl) (witness_row os enc)) ?_
  intro W base args ds gs before hval0 hW _ _ hsz0 hL _ _
  have hVok : Go.Proofs.YtibjlefenodhaaaDoorFmt.VarsOK W := Go.Proofs.YtibjlefenodhaaaDoorFmt.varsOK hL trivial trivial trivial trivial
  have hsz : (DataW.weightsEach Tryd.prog (Tryd.f5.params.toList ++ Rows.fnRegMimeSpec.plain.varTypes Tryd.prog) (ds ++ gs)).all (· ≤ reachBytes) = true := hsz0
  have hval : ∀ (j : Nat) t v, Tryd.f5.params[j]? = some t → args[j]? = some v → Value.okWide Tryd.prog W .any base t v := hval0
  have hW' := hW
  obtain ⟨p, q, hA0, hV, rfl, hfz, hnd⟩ := hW
  have hA : DataW.TrodAll enc Tryd.prog W 0 (fun _ => true) true Tryd.f5.params.toList args.toList ds p := hA0
  rw [Tryd.params5] at hA hval hsz
  obtain ⟨v0, vs0, d0, ds0, p0, q0, hargs, rfl, rfl, h0, r0⟩ := trodAll_cons hA
  obtain ⟨v1, vs1, d1, ds1, p1, q1, rfl, rfl, rfl, h1, r1⟩ := trodAll_cons r0
  obtain ⟨rfl, rfl, rfl⟩ := trodAll_nil r1
  obtain rfl : args = #[v0, v1] := by cases args; simp_all
  obtain ⟨rfl, rfl⟩ := trodVars_none hV
  have k0 := h0
  have lt0 : ∀ x ∈ p0, x.block < W.heap.size := by obtain ⟨m, hm⟩ := k0; exact DataW.trod_lt m _ _ _ hm
  obtain ⟨a0, len0, cap0, rfl⟩ := okWide_slice Tryd.underlying22 (hval 0 22 v0 rfl rfl)
  obtain ⟨l0, cap0', hr0, hc0, wf0⟩ : ∃ (xs : List (S28)) (c : Nat), Kd.C k28 W a0 xs.length xs ∧ xs.length ≤ c ∧ (xs.length ≤ 9223372036854775807 ∧ ∀ x ∈ xs, wf_S28 x) ∧ len0 = xs.length ∧ cap0 = c := by
    obtain ⟨fuel, hf⟩ := h0
    obtain ⟨xs, ⟨A_, c_, hcs, hl, hC⟩, hwf⟩ := (show Opens enc Tryd.prog W 0 (fun _ => true) true (Kd.slice 28 k28) 22 (fun xs => xs.length ≤ 9223372036854775807 ∧ ∀ x ∈ xs, wf_S28 x) from (fun (base : Nat) (spare : Nat → Bool) (held : Bool) => (opens_slice Tryd.underlying22 (by kernel_rfl) (opens_S28 enc W base spare held))) 0 (fun _ => true) true) fuel _ _ hf
    simp only [Value.cells, List.cons.injEq, and_true] at hcs
    injection hcs with e1 e2 e3
    subst e1; subst e2; subst e3
    exact ⟨xs, _, hC, hl, hwf, rfl, rfl⟩
  obtain ⟨wf0, rfl, rfl⟩ := wf0
  obtain ⟨a1, rfl, rfl, rfl, w1⟩ := open_int Tryd.underlying5 (hval 1 5 v1 rfl rfl) h1
  clear hA0 hval0 hsz0 hsz
  have hP := Pure.FnRegMime l0 a1 wf0 w1
  refine (laws_FnRegMime.calls a0 cap0 l0 a1 true W hr0 hc0 hVok hP).mono fun e W' ⟨he, bel⟩ => ?_
  subst he
  exact ⟨_, rfl, _, _, _, [], _, [], hW', trodAll_mk1 (shut_bool Tryd.underlying4 _), (trodAll_cons_mk (Below.trod laidOut (by kernel_rfl) (of_decide_eq_true (by kernel_rfl)) k0 bel lt0) (trodAll_cons_mk (shut_int Tryd.underlying5 w1) trodAll_mk0)), rfl, bel.frame _, fun h => by cases h⟩
theorem said : Rows.FnRegMimeSaid :=
  OpenClaim.holds_of_cond 5 Tryd.f5 rfl rfl rfl rfl rfl rfl rfl ⟨rfl, rfl, rfl, rfl, rfl⟩ rfl rfl rfl rfl rfl (by kernel_rfl) Tryd.func5 (by kernel_rfl)
    (of_decide_eq_true (by kernel_rfl)) (by unfold Func.isWrapper; first | (rw [if_pos (by decide +kernel)]; kernel_rfl) | (rw [if_neg (by decide +kernel)]; exact ⟨rfl, rfl⟩))
    (fun os started H enc _ F => by rw [OpenClaim.pre_eq_preRow]; exact lifted os started H enc F)
theorem plain (f : FuncId) (fn : Func) (hf : Tryd.pinned.checked.prog.funcNamed "pub-rubrication/laws.FnRegMime" = some f) (hfn : Tryd.pinned.checked.prog.funcs[f]? = some fn) :
    false = Tryd.pinned.checked.prog.looks [] ∧ ∀ (j : Nat) t, fn.params[j]? = some t → Tryd.pinned.checked.prog.wantsStandIn t = false := by
  obtain rfl : f = 5 := Option.some.inj ((show Tryd.prog.funcNamed "pub-rubrication/laws.FnRegMime" = some 5 by kernel_rfl).symm.trans hf) |>.symm
  obtain rfl : fn = Tryd.f5 := (Option.some.inj (Tryd.func5.symm.trans hfn)).symm
  refine ⟨by kernel_rfl, fun j t ht => ?_⟩
  have hall : (Tryd.f5.params.toList.all fun t => !Tryd.prog.wantsStandIn t) = true := by kernel_rfl
  have h1 := List.all_eq_true.1 hall t (Array.mem_toList_iff.2 (Array.mem_of_getElem? ht))
  exact (Bool.not_eq_true' _).mp h1
theorem card : Rows.FnRegMimeCardSaid :=
  Claim7.holds_tied_plain_at .later [] _ _ _ _ said (fun _ h => by cases h) (by kernel_rfl) (fun _ h => by cases h) fnRegMime_row_tie rfl ⟨rfl, rfl⟩ (by kernel_rfl) rfl plain (by kernel_rfl)
#print axioms card
end Go.Proofs.YtibjlefenodhaaaDoor.fnRegMime
namespace Go.Proofs.YtibjlefenodhaaaDoor
/-- The card, under a short name, for the claim. -/
theorem fnRegMime_holds : Rows.FnRegMimeCardSaid := fnRegMime.card
end Go.Proofs.YtibjlefenodhaaaDoor
