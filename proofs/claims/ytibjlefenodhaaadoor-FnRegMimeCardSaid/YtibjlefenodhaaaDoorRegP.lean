/- The registry's calls by plain functions, which a print can name. -/
import Derived.Test.YtibjlefenodhaaaDoorRegW
set_option linter.unusedVariables false
set_option linter.unusedSimpArgs false
namespace Go.Proofs.YtibjlefenodhaaaDoorReg
open Go.RowKit Go.Proofs.YtibjlefenodhaaaDoorW.PrintWords Go.Proofs.YtibjlefenodhaaaDoor.T Go.Proofs.YtibjlefenodhaaaDoorFmt Go.Proofs.YtibjlefenodhaaaDoorMapI
theorem C_map {α β : Type} {d : Kd α} {f : β → α} {w : World} {A : Option Addr} {n : Nat} {xs : List β} (h : (Kd.iso d f).C w A n xs) : d.C w A n (xs.map f) := by
  obtain ⟨h1, h2, h3⟩ := h
  refine ⟨by rw [List.length_map]; exact h1, h2, fun hn => ?_⟩
  obtain ⟨ad, e, hc⟩ := h3 hn
  refine ⟨ad, e, fun j p hp => ?_⟩
  rw [List.getElem?_map] at hp
  obtain ⟨x, hx, rfl⟩ := Option.map_eq_some_iff.1 hp
  exact hc j x hx
theorem C_unmap {α β : Type} {d : Kd α} {f : β → α} {w : World} {A : Option Addr} {n : Nat} {xs : List β} (h : d.C w A n (xs.map f)) : (Kd.iso d f).C w A n xs := by
  obtain ⟨h1, h2, h3⟩ := h
  rw [List.length_map] at h1
  refine ⟨h1, h2, fun hn => ?_⟩
  obtain ⟨ad, e, hc⟩ := h3 hn
  exact ⟨ad, e, fun j p hp => hc j (f p) (by rw [List.getElem?_map, hp]; rfl)⟩
/-- The place of the lexer of a name. -/
def rgF (xs : List I) (s : ByteArray) : Option Int :=
  if regOK xs = true ∧ s.size ≤ 20 ∧ (s.data.toList.all fun b => decide (b.toNat < 128)) = true then Option.map (fun k : Nat => (k : Int)) (xs.findIdx? fun x => decide (lw s ∈ nms x)) else none
theorem rgF_calls (A : Option Addr) (c : Nat) (xs : List I) (s : ByteArray) (r : Int) (w : World) (hC : Kd.C k28 w A xs.length xs) (hc : xs.length ≤ c) (h : rgF xs s = some r) :
    Calls Tryd.prog 8 #[.slice A xs.length c, .string s] w fun e w' => e = .returned (.int .i64 r) ∧ Below w.heap.size w w' := by
  unfold rgF at h
  split at h
  · rename_i h0
    obtain ⟨k, hk, rfl⟩ := Option.map_eq_some_iff.1 h
    obtain ⟨h1, h2, _⟩ := List.findIdx?_eq_some_iff_getElem.1 hk
    exact regget_c A c xs s w hC hc h0.1 k h1 (of_decide_eq_true h2) h0.2.1 (fun b hb => of_decide_eq_true (List.all_eq_true.1 h0.2.2 b hb))
  · cases h
/-- The place of the one lexer of a kind of text. -/
def rmF (xs : List I) (s : ByteArray) : Option Int :=
  if regOK xs = true then (xs.findIdx? fun x => decide (s ∈ x.f4)).bind fun k => if ∀ i, i < xs.length → s ∈ (xs.getD i ⟨⟨#[]⟩, [], [], [], [], 0⟩).f4 → i = k then some (k : Int) else none else none
theorem rmF_calls (A : Option Addr) (c : Nat) (xs : List I) (s : ByteArray) (r : Int) (w : World) (hC : Kd.C k28 w A xs.length xs) (hc : xs.length ≤ c) (h : rmF xs s = some r) :
    Calls Tryd.prog 15 #[.slice A xs.length c, .string s] w fun e w' => e = .returned (.int .i64 r) ∧ Below w.heap.size w w' := by
  unfold rmF at h
  split at h
  · rename_i h0
    obtain ⟨k, hk, h⟩ := Option.bind_eq_some_iff.1 h
    obtain ⟨h1, h2, _⟩ := List.findIdx?_eq_some_iff_getElem.1 hk
    split at h
    · rename_i h3
      obtain rfl := Option.some.inj h
      exact regmime_c A c xs s w hC hc h0 k h1 (of_decide_eq_true h2) (fun i hi hm => h3 i hi (by rw [List.getD_eq_getElem?_getD, List.getElem?_eq_getElem hi]; exact hm))
    · cases h
  · cases h
def rnF (xs : List I) (al : Bool) : Option (List ByteArray) := if regOK xs = true then some (msB (nmL al xs)) else none
def raF (xs : List I) (sk : Bool) : Option (List ByteArray) := if regOK xs = true then some (msB (alL sk xs)) else none
theorem rnF_calls (A : Option Addr) (c : Nat) (xs : List I) (al : Bool) (r : List ByteArray) (w : World) (hC : Kd.C k28 w A xs.length xs) (hc : xs.length ≤ c) (h : rnF xs al = some r) :
    Calls Tryd.prog 13 #[.slice A xs.length c, .bool al] w fun e w' => ∃ v, e = .returned v ∧ Kd.string.R 9 w' w.heap.size (fun _ => True) v r ∧ Below w.heap.size w w' := by
  unfold rnF at h
  split at h
  · rename_i h0
    obtain rfl := Option.some.inj h
    exact regnames_c A c xs al w hC hc h0
  · cases h
theorem raF_calls (A : Option Addr) (c : Nat) (xs : List I) (sk : Bool) (r : List ByteArray) (w : World) (hC : Kd.C k28 w A xs.length xs) (hc : xs.length ≤ c) (h : raF xs sk = some r) :
    Calls Tryd.prog 14 #[.slice A xs.length c, .bool sk] w fun e w' => ∃ v, e = .returned v ∧ Kd.string.R 9 w' w.heap.size (fun _ => True) v r ∧ Below w.heap.size w w' := by
  unfold raF at h
  split at h
  · rename_i h0
    obtain rfl := Option.some.inj h
    exact regaliases_c A c xs sk w hC hc h0
  · cases h
/-- Whether infos are ones that can be told of. -/
def roF (xs : List I) : Option Bool := if xs.length ≤ 2147483647 ∧ ∀ x ∈ xs, x.f0.size ≤ 9223372036854775807 ∧ ∀ s ∈ x.f1, s.size ≤ 9223372036854775807 then some (regOK xs) else none
theorem roF_calls (A : Option Addr) (c : Nat) (xs : List I) (r : Bool) (w : World) (hC : Kd.C k28 w A xs.length xs) (hc : xs.length ≤ c) (h : roF xs = some r) :
    Calls Tryd.prog 7 #[.slice A xs.length c] w fun e w' => e = .returned (.bool r) ∧ Below w.heap.size w w' := by
  unfold roF at h
  split at h
  · rename_i h0
    obtain rfl := Option.some.inj h
    exact registered_c A c xs w hC hc h0.1 h0.2
  · cases h
def srF (xs : List ByteArray) : Option (List ByteArray) := if xs.length ≤ 1000000 then some (sortB xs) else none
theorem srF_calls (A : Option Addr) (c : Nat) (xs r : List ByteArray) (w : World) (hC : Kd.string.C w A xs.length xs) (hc : xs.length ≤ c) (h : srF xs = some r) :
    Calls Tryd.prog 12 #[.slice A xs.length c] w fun e w' => ∃ v, e = .returned v ∧ Kd.string.R 9 w' w.heap.size (fun _ => True) v r ∧ Below w.heap.size w w' := by
  unfold srF at h
  split at h
  · rename_i h0
    obtain rfl := Option.some.inj h
    exact sorted_c A c xs w hC hc h0
  · cases h
def tuF (s : ByteArray) (l : List Bool) : Option ByteArray := if letB s = true ∧ l.length ≤ 2147483647 then some (strOfNums (turnI s l (min s.size l.length))) else none
theorem tuF_calls (s : ByteArray) (A : Option Addr) (c : Nat) (l : List Bool) (r : ByteArray) (w : World) (hC : Kd.bool.C w A l.length l) (h : tuF s l = some r) :
    Calls Tryd.prog 9 #[.string s, .slice A l.length c] w fun e w' => e = .returned (.string r) ∧ Below w.heap.size w w' := by
  unfold tuF at h
  split at h
  · rename_i h0
    obtain rfl := Option.some.inj h
    exact turned_c s A c l w (letB_low h0.1).1 (letB_low h0.1).2 hC h0.2
  · cases h
end Go.Proofs.YtibjlefenodhaaaDoorReg
