-- WRITTEN BY OUR myprint.py, a program of this session's over the kit's printer
import Derived.Test.YtibjlefenodhaaaDoorLx0
namespace Go.Proofs.YtibjlefenodhaaaDoor.L
open Go.RowKit Go.Proofs.YtibjlefenodhaaaDoorW.PrintWords Go.Proofs.YtibjlefenodhaaaDoorW.PrintLast Go.Proofs.YtibjlefenodhaaaDoorW.PrintMore
attribute [local go_sem] max2_int min2_int max_two min_two max_three min_three max_four min_four   -- for this text's walks alone
set_option linter.unusedVariables false
set_option linter.unusedSimpArgs false

/-! ### laws_FnRegMime: function 5 -/
def laws_FnRegMime.toM (x : S28) : Go.Proofs.YtibjlefenodhaaaDoor.M.S28 := ⟨x.f0, x.f1, x.f2, x.f3, x.f4, x.f5⟩
theorem laws_FnRegMime.infos {w : World} {A : Option Addr} {xs : List (S28)} (h : Kd.C k28 w A xs.length xs) : Kd.C Go.Proofs.YtibjlefenodhaaaDoor.M.k28 w A (xs.map laws_FnRegMime.toM).length (xs.map laws_FnRegMime.toM) := by
  rw [List.length_map]
  refine Go.Proofs.YtibjlefenodhaaaDoorReg.C_unmap ?_
  rw [List.map_map]
  exact Go.Proofs.YtibjlefenodhaaaDoorReg.C_map h
def laws_FnRegMime.f (l0 : List (S28)) (a1 : Int) : Option Bool := if (∀ x ∈ l0, x.f0.size ≤ 9223372036854775807 ∧ ∀ s ∈ x.f1, s.size ≤ 9223372036854775807) ∧ 0 ≤ a1 ∧ a1 ≤ 255 then some true else none
theorem laws_FnRegMime.calls (A0 : Option Addr) (c0 : Nat) (l0 : List (S28)) (a1 : Int) (r : Bool) (w : World) (hr0 : Kd.C k28 w A0 l0.length l0) (hc0 : l0.length ≤ c0) (hV : Go.Proofs.YtibjlefenodhaaaDoorFmt.VarsOK w) (h : laws_FnRegMime.f l0 a1 = some r) :
    Calls Tryd.prog 5 #[.slice A0 l0.length c0, .int .u8 a1] w fun e w' => e = .returned (.bool r) ∧ Below w.heap.size w w' := by
  unfold laws_FnRegMime.f at h
  split at h
  · rename_i h0
    obtain rfl := Option.some.inj h
    have hk := Go.Proofs.YtibjlefenodhaaaDoor.Pure.mime_law A0 c0 (l0.map laws_FnRegMime.toM) a1 w (laws_FnRegMime.infos hr0) (by rw [List.length_map]; exact hc0) hV (fun x hx => by
      obtain ⟨y, hy, rfl⟩ := List.mem_map.1 hx
      exact h0.1 y hy) h0.2
    rw [List.length_map] at hk
    exact hk
  · cases h

def wf_S28 (x : S28) : Prop := (x.f0.size ≤ maxLen) ∧ (x.f1.length ≤ 9223372036854775807 ∧ ∀ y ∈ x.f1, y.size ≤ maxLen) ∧ (x.f2.length ≤ 9223372036854775807 ∧ ∀ y ∈ x.f2, y.size ≤ maxLen) ∧ (x.f3.length ≤ 9223372036854775807 ∧ ∀ y ∈ x.f3, y.size ≤ maxLen) ∧ (x.f4.length ≤ 9223372036854775807 ∧ ∀ y ∈ x.f4, y.size ≤ maxLen) ∧ (IntKind.u64.min ≤ x.f5 ∧ x.f5 ≤ IntKind.u64.max)
def laws_FnRegMime.Pure : Prop := ∀ (l0 : List (S28)) (a1 : Int), (l0.length ≤ 9223372036854775807 ∧ ∀ x ∈ l0, wf_S28 x) → (Lit.int .u8 a1).wf = true → laws_FnRegMime.f l0 a1 = some true
end Go.Proofs.YtibjlefenodhaaaDoor.L
