/- The law pub-rubrication/laws.FnStyleOwn of the given program: a line that does not inherit is all of its type's entry; one of a type that is asked for is ahead of all others (a usual entry; at most 30 lines of at most 100 bytes).
   No conditions: every input that can be read as data. -/
import Derived.Test.YtifhhejohdmiaaaDoorRows
import Derived.Test.YtifhhejohdmiaaaDoorGx5
import Derived.Test.YtifhhejohdmiaaaDoorPureFnStyleOwn
import Derived.Test.YtifhhejohdmiaaaDoorOpen
import Derived.WalkKit
import Derived.ProofKit
import Derived.OpenShut
import Derived.ShutString
import Derived.ChangeOld
import Derived.Below
import Derived.SizedLaws
import Derived.Test.YtifhhejohdmiaaaDoorCards
import Derived.Test.YtifhhejohdmiaaaDoorTie
import Derived.Test.YtifhhejohdmiaaaDoorLaid
import Derived.Deep.DeepHandedRow
import Derived.Deep.DeepWitnessRowRef
import Derived.Lay
namespace Go.Proofs.YtifhhejohdmiaaaDoor.fnStyleOwn
open Go.ChangeShapes Go.WideShapes Go.ChangeAt Go.RowKit Go.Proofs.YtifhhejohdmiaaaDoorOpen Go.Proofs.YtifhhejohdmiaaaDoorW.PrintWords Go.Proofs.YtifhhejohdmiaaaDoor.G
open Go.ChangeMaps (open_string shut_string)
set_option linter.unusedVariables false
theorem own : ownKnob Tryd.prog.godebug = none := by kernel_rfl
theorem laidOut : laidOutB Tryd.prog = true := by kernel_rfl
theorem opens_S49 {H : Type} (enc : TypeId × Value → H) (W : World) (base : Nat) (spare : Nat → Bool) (held : Bool) : Opens enc Tryd.prog W base spare held k49 49 wf_S49 :=
  opens_iso (fun x : S49 => (x.f0, x.f1)) (fun a => ⟨a.1, a.2⟩) (fun _ => rfl) (opens_struct Tryd.underlying49 (by kernel_rfl) (fields_cons rfl (by kernel_rfl) (opens_int Tryd.underlying3) (fields_one rfl (by kernel_rfl) (opens_string Tryd.underlying9))))
theorem opens_S23 {H : Type} (enc : TypeId × Value → H) (W : World) (base : Nat) (spare : Nat → Bool) (held : Bool) : Opens enc Tryd.prog W base spare held k23 23 wf_S23 :=
  opens_iso (fun x : S23 => (x.f0, x.f1, x.f2, x.f3, x.f4, x.f5, x.f6)) (fun a => ⟨a.1, a.2.1, a.2.2.1, a.2.2.2.1, a.2.2.2.2.1, a.2.2.2.2.2.1, a.2.2.2.2.2.2⟩) (fun _ => rfl) (opens_struct Tryd.underlying23 (by kernel_rfl) (fields_cons rfl (by kernel_rfl) (opens_int Tryd.underlying21) (fields_cons rfl (by kernel_rfl) (opens_int Tryd.underlying21) (fields_cons rfl (by kernel_rfl) (opens_int Tryd.underlying21) (fields_cons rfl (by kernel_rfl) (opens_int Tryd.underlying5) (fields_cons rfl (by kernel_rfl) (opens_int Tryd.underlying5) (fields_cons rfl (by kernel_rfl) (opens_int Tryd.underlying5) (fields_one rfl (by kernel_rfl) (opens_bool Tryd.underlying4)))))))))
set_option maxRecDepth 100000 in
theorem laid_met (os : Os) (args : Array Value) : laidMet Tryd.prog Rows.fnStyleOwnRow.laid ((World.laidAll Tryd.prog os Rows.fnStyleOwnRow.laid).forCall (fun _ _ => 0) ⟨#[], args, []⟩).memory :=
  laidMet_laidAll args (by kernel_rfl) (by kernel_rfl)
set_option maxRecDepth 100000 in
theorem reads (os : Os) {H : Type} (enc : TypeId × Value → H) : ∃ places, DataW.whole enc Tryd.prog ((World.laidAll Tryd.prog os Rows.fnStyleOwnRow.laid).forCall (fun _ _ => 0) ⟨#[], #[.slice none 0 0, .int .i64 0, .agg #[.int .i32 0, .int .i32 0, .int .i32 0, .int .u8 0, .int .u8 0, .int .u8 0, .bool false]], []⟩).memory Tryd.f11.params.toList Rows.fnStyleOwnSpec.vars false (#[.slice none 0 0, .int .i64 0, .agg #[.int .i32 0, .int .i32 0, .int .i32 0, .int .u8 0, .int .u8 0, .int .u8 0, .bool false]] : Array Value).toList 8 = some ([.nil, .lit (.int .i64 0), .agg [.lit (.int .i32 0), .lit (.int .i32 0), .lit (.int .i32 0), .lit (.int .u8 0), .lit (.int .u8 0), .lit (.int .u8 0), .lit (.bool false)]], [], places) :=
  ⟨[], by kernel_rfl⟩
theorem witness_row (os : Os) {H : Type} (enc : TypeId × Value → H) : (OpenSpec.ofChange Rows.fnStyleOwnSpec).preRow enc Tryd.prog Tryd.f11 Rows.fnStyleOwnRow.domain false Rows.fnStyleOwnRow.laid ((World.laidAll Tryd.prog os Rows.fnStyleOwnRow.laid).forCall (fun _ _ => 0) ⟨#[], #[.slice none 0 0, .int .i64 0, .agg #[.int .i32 0, .int .i32 0, .int .i32 0, .int .u8 0, .int .u8 0, .int .u8 0, .bool false]], []⟩).memory #[.slice none 0 0, .int .i64 0, .agg #[.int .i32 0, .int .i32 0, .int .i32 0, .int .u8 0, .int .u8 0, .int .u8 0, .bool false]] := by
  obtain ⟨places, hx⟩ := reads os enc
  exact OpenSpec.preRow_of_cond 8 hx (by kernel_rfl) (fun k hk => by cases hk) (by kernel_rfl) (laid_met os _)
set_option maxRecDepth 100000 in
theorem lifted (os : Os) (started : os.Started) (H : Type) (enc : TypeId × Value → H) (F : Stop.Interp) :
    ReturnsInHanded {} Tryd.checked os 11 .any ((OpenSpec.ofChange Rows.fnStyleOwnSpec).preRow enc Tryd.prog Tryd.f11 Rows.fnStyleOwnRow.domain false Rows.fnStyleOwnRow.laid) (((OpenSpec.ofChange Rows.fnStyleOwnSpec).at F).post enc Tryd.prog Tryd.f11 false true false false) := by
  refine returnsInHanded_of_row (C := Tryd.checked) (s := (OpenSpec.ofChange Rows.fnStyleOwnSpec)) own started (by kernel_rfl) Tryd.func11
    (witness_row_atRef (enc := enc) (C := Tryd.checked) false (World.laidAll Tryd.prog os Rows.fnStyleOwnRow.laid) #[.slice none 0 0, .int .i64 0, .agg #[.int .i32 0, .int .i32 0, .int .i32 0, .int .u8 0, .int .u8 0, .int .u8 0, .bool false]] (World.laidAll_os _ _ _) (by kernel_rfl) (by kernel_rfl) (by kernel_rfl) (witness_row os enc)) ?_
  intro W base args ds gs before hval0 hW _ _ hsz0 hL _ _
  have hVok : Go.Proofs.YtifhhejohdmiaaaDoorFmt.VarsOK W := Go.Proofs.YtifhhejohdmiaaaDoorFmt.varsOK hL (by rfl) (by simp [Rows.fnStyleOwnRow]) (by simp [Rows.fnStyleOwnRow]) (by simp [Rows.fnStyleOwnRow]) (by simp [Rows.fnStyleOwnRow]) (by simp [Rows.fnStyleOwnRow]) (by simp [Rows.fnStyleOwnRow]) (by simp [Rows.fnStyleOwnRow])
  have hsz : (DataW.weightsEach Tryd.prog (Tryd.f11.params.toList ++ Rows.fnStyleOwnSpec.plain.varTypes Tryd.prog) (ds ++ gs)).all (· ≤ reachBytes) = true := hsz0
  have hval : ∀ (j : Nat) t v, Tryd.f11.params[j]? = some t → args[j]? = some v → Value.okWide Tryd.prog W .any base t v := hval0
  have hW' := hW
  obtain ⟨p, q, hA0, hV, rfl, hfz, hnd⟩ := hW
  have hA : DataW.TrodAll enc Tryd.prog W 0 (fun _ => true) true Tryd.f11.params.toList args.toList ds p := hA0
  rw [Tryd.params11] at hA hval hsz
  obtain ⟨v0, vs0, d0, ds0, p0, q0, hargs, rfl, rfl, h0, r0⟩ := trodAll_cons hA
  obtain ⟨v1, vs1, d1, ds1, p1, q1, rfl, rfl, rfl, h1, r1⟩ := trodAll_cons r0
  obtain ⟨v2, vs2, d2, ds2, p2, q2, rfl, rfl, rfl, h2, r2⟩ := trodAll_cons r1
  obtain ⟨rfl, rfl, rfl⟩ := trodAll_nil r2
  obtain rfl : args = #[v0, v1, v2] := by cases args; simp_all
  obtain ⟨rfl, rfl⟩ := trodVars_none hV
  have k0 := h0
  have lt0 : ∀ x ∈ p0, x.block < W.heap.size := by obtain ⟨m, hm⟩ := k0; exact DataW.trod_lt m _ _ _ hm
  obtain ⟨a0, len0, cap0, rfl⟩ := okWide_slice Tryd.underlying44 (hval 0 44 v0 rfl rfl)
  obtain ⟨l0, cap0', hr0, hc0, wf0⟩ : ∃ (xs : List (S49)) (c : Nat), Kd.C k49 W a0 xs.length xs ∧ xs.length ≤ c ∧ (xs.length ≤ 9223372036854775807 ∧ ∀ x ∈ xs, wf_S49 x) ∧ len0 = xs.length ∧ cap0 = c := by
    obtain ⟨fuel, hf⟩ := h0
    obtain ⟨xs, ⟨A_, c_, hcs, hl, hC⟩, hwf⟩ := (show Opens enc Tryd.prog W 0 (fun _ => true) true (Kd.slice 49 k49) 44 (fun xs => xs.length ≤ 9223372036854775807 ∧ ∀ x ∈ xs, wf_S49 x) from (fun (base : Nat) (spare : Nat → Bool) (held : Bool) => (opens_slice Tryd.underlying44 (by kernel_rfl) (opens_S49 enc W base spare held))) 0 (fun _ => true) true) fuel _ _ hf
    simp only [Value.cells, List.cons.injEq, and_true] at hcs
    injection hcs with e1 e2 e3
    subst e1; subst e2; subst e3
    exact ⟨xs, _, hC, hl, hwf, rfl, rfl⟩
  obtain ⟨wf0, rfl, rfl⟩ := wf0
  obtain ⟨a1, rfl, rfl, rfl, w1⟩ := open_int Tryd.underlying3 (hval 1 3 v1 rfl rfl) h1
  have k2 := h2
  have lt2 : ∀ x ∈ p2, x.block < W.heap.size := by obtain ⟨m, hm⟩ := k2; exact DataW.trod_lt m _ _ _ hm
  obtain ⟨cs2, rfl, _⟩ := okWide_struct Tryd.underlying23 (hval 2 23 v2 rfl rfl)
  obtain ⟨x2, hx2, wf2⟩ : ∃ x : S23, cs2 = #[.int .i32 x.f0, .int .i32 x.f1, .int .i32 x.f2, .int .u8 x.f3, .int .u8 x.f4, .int .u8 x.f5, .bool x.f6] ∧ wf_S23 x := by
    obtain ⟨fuel, hf⟩ := h2
    obtain ⟨x, hK, hwf⟩ := opens_S23 enc W 0 (fun _ => true) true fuel _ _ hf
    have hcs := k23_open hK
    refine ⟨x, ?_, hwf⟩
    have : cs2.toList = _ := hcs
    exact Array.toList_inj.1 (this.trans rfl)
  subst hx2
  clear hA0 hval0 hsz0 hsz
  have hP := Pure.FnStyleOwn l0 a1 (x2.f0) (x2.f1) (x2.f2) (x2.f3) (x2.f4) (x2.f5) (x2.f6) wf0 w1 wf2
  obtain ⟨k, hP⟩ := hP
  refine (laws_FnStyleOwn.calls k a0 cap0 l0 a1 (x2.f0) (x2.f1) (x2.f2) (x2.f3) (x2.f4) (x2.f5) (x2.f6) true ⟨rfl⟩ W hr0 hc0 hVok hP).mono fun e W' ⟨he, bel⟩ => ?_
  subst he
  exact ⟨_, rfl, _, _, _, [], _, [], hW', trodAll_mk1 (shut_bool Tryd.underlying4 _), (trodAll_cons_mk (Below.trod laidOut (by kernel_rfl) (of_decide_eq_true (by kernel_rfl)) k0 bel lt0) (trodAll_cons_mk (shut_int Tryd.underlying3 w1) (trodAll_cons_mk (Below.trod laidOut (by kernel_rfl) (of_decide_eq_true (by kernel_rfl)) k2 bel lt2) trodAll_mk0))), rfl, bel.frame _, fun h => by cases h⟩
theorem said : Rows.FnStyleOwnSaid :=
  OpenClaim.holds_of_cond 11 Tryd.f11 rfl rfl rfl rfl rfl rfl rfl ⟨rfl, rfl, rfl, rfl, rfl⟩ rfl rfl rfl rfl rfl (by kernel_rfl) Tryd.func11 (by kernel_rfl)
    (of_decide_eq_true (by kernel_rfl)) (by unfold Func.isWrapper; first | (rw [if_pos (by decide +kernel)]; kernel_rfl) | (rw [if_neg (by decide +kernel)]; exact ⟨rfl, rfl⟩))
    (fun os started H enc _ F => by rw [OpenClaim.pre_eq_preRow]; exact lifted os started H enc F)
theorem plain (f : FuncId) (fn : Func) (hf : Tryd.pinned.checked.prog.funcNamed "pub-rubrication/laws.FnStyleOwn" = some f) (hfn : Tryd.pinned.checked.prog.funcs[f]? = some fn) :
    true = Tryd.pinned.checked.prog.looks [] ∧ ∀ (j : Nat) t, fn.params[j]? = some t → Tryd.pinned.checked.prog.wantsStandIn t = false := by
  obtain rfl : f = 11 := Option.some.inj ((show Tryd.prog.funcNamed "pub-rubrication/laws.FnStyleOwn" = some 11 by kernel_rfl).symm.trans hf) |>.symm
  obtain rfl : fn = Tryd.f11 := (Option.some.inj (Tryd.func11.symm.trans hfn)).symm
  refine ⟨by kernel_rfl, fun j t ht => ?_⟩
  have hall : (Tryd.f11.params.toList.all fun t => !Tryd.prog.wantsStandIn t) = true := by kernel_rfl
  have h1 := List.all_eq_true.1 hall t (Array.mem_toList_iff.2 (Array.mem_of_getElem? ht))
  exact (Bool.not_eq_true' _).mp h1
theorem card : Rows.FnStyleOwnCardSaid :=
  Claim7.holds_tied_plain_at .later [] _ _ _ _ said (fun _ h => by cases h) (by kernel_rfl) (fun _ h => by cases h) fnStyleOwn_row_tie rfl ⟨rfl, rfl⟩ (by kernel_rfl) rfl plain (by kernel_rfl)
#print axioms card
end Go.Proofs.YtifhhejohdmiaaaDoor.fnStyleOwn
namespace Go.Proofs.YtifhhejohdmiaaaDoor
/-- The card, under a short name, for the claim. -/
theorem fnStyleOwn_holds : Rows.FnStyleOwnCardSaid := fnStyleOwn.card
end Go.Proofs.YtifhhejohdmiaaaDoor
