/- The law pub-rubrication/laws.FnStringify of the given program: what is made of tokens is their texts one behind the other (at most 400 tokens of together 4,000 bytes, none the mark of the end).
   No conditions: every input that can be read as data. -/
import Derived.Test.YtmlebpbalhinnaaRows
import Derived.Test.YtmlebpbalhinnaaMx7
import Derived.Test.YtmlebpbalhinnaaPureFnStringify
import Derived.Test.YtmlebpbalhinnaaOpen
import Derived.WalkKit
import Derived.ProofKit
import Derived.OpenShut
import Derived.ShutString
import Derived.ChangeOld
import Derived.Below
import Derived.SizedLaws
namespace Go.Proofs.Ytmlebpbalhinnaa.fnStringify
open Go.ChangeShapes Go.WideShapes Go.ChangeAt Go.RowKit Go.Proofs.YtmlebpbalhinnaaOpen Go.Proofs.YtmlebpbalhinnaaW.PrintWords Go.Proofs.Ytmlebpbalhinnaa.M
open Go.ChangeMaps (open_string shut_string)
set_option linter.unusedVariables false
theorem own : ownKnob Try.prog.godebug = none := by kernel_rfl
theorem laidOut : laidOutB Try.prog = true := by kernel_rfl
theorem opens_S36 {H : Type} (enc : TypeId × Value → H) (W : World) (base : Nat) (spare : Nat → Bool) (held : Bool) : Opens enc Try.prog W base spare held k36 36 wf_S36 :=
  opens_iso (fun x : S36 => (x.f0, x.f1)) (fun a => ⟨a.1, a.2⟩) (fun _ => rfl) (opens_struct Try.underlying36 (by kernel_rfl) (fields_cons rfl (by kernel_rfl) (opens_int Try.underlying3) (fields_one rfl (by kernel_rfl) (opens_string Try.underlying9))))
set_option maxRecDepth 100000 in
theorem lifted (os : Os) (started : os.Started) (H : Type) (enc : TypeId × Value → H) :
    ReturnsInHanded {} Try.checked os 6 .any (Rows.fnStringifySpec.pre6 enc Try.prog Try.f6 Rows.fnStringifyRow.domain false) (Rows.fnStringifySpec.post enc Try.prog Try.f6 false true false false) := by
  refine returnsInHanded_of_change_sized (C := Try.checked) own started (by kernel_rfl) Try.func6
    (ChangeSpec.witness6 (enc := enc) (C := Try.checked) false ⟨#[], #[.slice none 0 0], []⟩ 8 (by kernel_rfl) (by kernel_rfl) (by kernel_rfl) (by kernel_rfl)) ?_
  intro W base args ds gs before hval0 hW hcnd hsz0 _
  have hsz : (DataW.weightsEach Try.prog (Try.f6.params.toList ++ Rows.fnStringifySpec.plain.varTypes Try.prog) (ds ++ gs)).all (· ≤ reachBytes) = true := hsz0
  have hval : ∀ (j : Nat) t v, Try.f6.params[j]? = some t → args[j]? = some v → Value.okWide Try.prog W .any base t v := hval0
  have hW' := hW
  obtain ⟨p, q, hA0, hV, rfl, hfz, hnd⟩ := hW
  have hA : DataW.TrodAll enc Try.prog W 0 (fun _ => true) true Try.f6.params.toList args.toList ds p := hA0
  rw [Try.params6] at hA hval hsz
  obtain ⟨v0, vs0, d0, ds0, p0, q0, hargs, rfl, rfl, h0, r0⟩ := trodAll_cons hA
  obtain ⟨rfl, rfl, rfl⟩ := trodAll_nil r0
  obtain rfl : args = #[v0] := by cases args; simp_all
  obtain ⟨rfl, rfl⟩ := trodVars_none hV
  have k0 := h0
  have lt0 : ∀ x ∈ p0, x.block < W.heap.size := by obtain ⟨m, hm⟩ := k0; exact DataW.trod_lt m _ _ _ hm
  obtain ⟨a0, len0, cap0, rfl⟩ := okWide_slice Try.underlying22 (hval 0 22 v0 rfl rfl)
  obtain ⟨l0, cap0', hr0, hc0, wf0⟩ : ∃ (xs : List (S36)) (c : Nat), Kd.C k36 W a0 xs.length xs ∧ xs.length ≤ c ∧ (xs.length ≤ 9223372036854775807 ∧ ∀ x ∈ xs, wf_S36 x) ∧ len0 = xs.length ∧ cap0 = c := by
    obtain ⟨fuel, hf⟩ := h0
    obtain ⟨xs, ⟨A_, c_, hcs, hl, hC⟩, hwf⟩ := (show Opens enc Try.prog W 0 (fun _ => true) true (Kd.slice 36 k36) 22 (fun xs => xs.length ≤ 9223372036854775807 ∧ ∀ x ∈ xs, wf_S36 x) from (fun base spare held => (opens_slice Try.underlying22 (by kernel_rfl) (opens_S36 enc W base spare held))) 0 (fun _ => true) true) fuel _ _ hf
    simp only [Value.cells, List.cons.injEq, and_true] at hcs
    injection hcs with e1 e2 e3
    subst e1; subst e2; subst e3
    exact ⟨xs, _, hC, hl, hwf, rfl, rfl⟩
  obtain ⟨wf0, rfl, rfl⟩ := wf0
  clear hA0 hval0 hsz0 hsz
  have hP := Pure.FnStringify l0 wf0
  obtain ⟨k, hP⟩ := hP
  refine (laws_FnStringify.calls k a0 cap0 l0 true W hr0 hc0 hP).mono fun e W' ⟨he, bel⟩ => ?_
  subst he
  exact ⟨_, rfl, _, _, _, [], _, [], hW', trodAll_mk1 (shut_bool Try.underlying4 _), (trodAll_cons_mk (Below.trod laidOut (by kernel_rfl) (of_decide_eq_true (by kernel_rfl)) k0 bel lt0) trodAll_mk0), rfl, bel.frame _, fun h => by cases h⟩
theorem over : Rows.fnStringifyRow.holds Try.pinned (OpenSpec.ofChange Rows.fnStringifySpec) :=
  OpenClaim.holds_of_wide 6 Try.f6 rfl rfl rfl rfl rfl rfl rfl ⟨rfl, rfl, rfl, rfl, rfl⟩ rfl rfl rfl rfl rfl (by kernel_rfl) Try.func6 (by kernel_rfl)
    (of_decide_eq_true (by kernel_rfl)) (by unfold Func.isWrapper; first | (rw [if_pos (by decide +kernel)]; kernel_rfl) | (rw [if_neg (by decide +kernel)]; exact ⟨rfl, rfl⟩))
    (fun os started H enc _ => lifted os started H enc)
theorem proved : Rows.FnStringifySaid := over
#print axioms proved
end Go.Proofs.Ytmlebpbalhinnaa.fnStringify
namespace Go.Proofs.Ytmlebpbalhinnaa
/-- The row, under a short name, for the claim. -/
theorem fnStringify_holds : Rows.FnStringifySaid := fnStringify.proved
end Go.Proofs.Ytmlebpbalhinnaa
