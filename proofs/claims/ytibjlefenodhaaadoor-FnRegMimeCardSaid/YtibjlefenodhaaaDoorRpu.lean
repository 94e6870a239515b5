/- The registry's laws: what their pure statements share. -/
import Derived.Test.YtibjlefenodhaaaDoorMx1
import Derived.Test.YtibjlefenodhaaaDoorEvt
set_option linter.unusedVariables false
set_option linter.unusedSimpArgs false
namespace Go.Proofs.YtibjlefenodhaaaDoor.Pure
open Go.RowKit Go.Proofs.YtibjlefenodhaaaDoorEvt Go.Proofs.YtibjlefenodhaaaDoor.M Go.Proofs.YtibjlefenodhaaaDoorW.PrintWords
open Go.Proofs.YtibjlefenodhaaaDoorReg (regOK regOK_facts nms lw rgF rmF roF tuF FitI letB letB_low low_lw nms_one Low sj xj turnI)
abbrev Rx := Go.Proofs.YtibjlefenodhaaaDoorReg.I
abbrev tI : S28 → Rx := impl_RegGet.toI
theorem rdI (xs : List (S28)) (i : Nat) (h : i < xs.length) : rd_T28 xs (i : Int) = xs[i] := by
  simp [rd_T28, List.getD_eq_getElem?_getD, h]
theorem rdW (xs : List ByteArray) (i : Nat) (h : i < xs.length) : rdOf ByteArray.empty xs (i : Int) = xs[i] := by
  simp [rdOf, List.getD_eq_getElem?_getD, h]
theorem fits15_loop (L : List ByteArray) (hn : L.length ≤ 2147483647) : ∀ d i : Nat, L.length = i + d → ∃ b, Evt (fun k => laws_zzFits15.l0 k L (L.length : Int) (i : Int)) b := by
  intro d
  induction d with
  | zero =>
    intro i hi
    exact ⟨true, Evt.step (h := fun _ => some _) (fun k => by simp only [laws_zzFits15.l0]; rw [if_neg (by omega)]) (Evt.pure _)⟩
  | succ d ih =>
    intro i hi
    have hlt : i < L.length := by omega
    obtain ⟨b, hb⟩ := ih (i + 1) (by omega)
    by_cases h : ((L[i].size : Int) > 2147483647)
    · refine ⟨false, Evt.step (h := fun _ => some _) (fun k => ?_) (Evt.pure _)⟩
      simp only [laws_zzFits15.l0]
      rw [if_pos (by omega), if_pos (by omega), if_pos (by omega), rdW _ _ hlt, if_pos h]
    · refine ⟨b, Evt.step (fun k => ?_) hb⟩
      simp only [laws_zzFits15.l0]
      rw [if_pos (by omega), if_pos (by omega), if_pos (by omega), rdW _ _ hlt, if_neg h, wrap_nat (by omega)]
theorem fits15 (L : List ByteArray) : ∃ b, Evt (fun k => laws_zzFits15.f k L) b := by
  by_cases hn : (L.length : Int) > 2147483647
  · exact ⟨false, Evt.of (fun k => by unfold laws_zzFits15.f; rw [if_pos hn])⟩
  · obtain ⟨b, h1⟩ := fits15_loop L (by omega) L.length 0 (by omega)
    exact ⟨b, Evt.congr (fun k => by unfold laws_zzFits15.f; rw [if_neg hn]; rfl) h1⟩
theorem four {f1 f2 f3 f4 : Nat → Option Bool} {b1 b2 b3 b4 : Bool} (h1 : Evt f1 b1) (h2 : Evt f2 b2) (h3 : Evt f3 b3) (h4 : Evt f4 b4) :
    ∃ b, Evt (fun k => (f1 k).bind fun t => if t = true then (f2 k).bind fun t => if t = true then (f3 k).bind fun t => if t = true then (f4 k).bind fun t => if t = true then some true else some false else some false else some false else some false) b := by
  cases b1 with
  | false => exact ⟨false, Evt.bind h1 (Evt.neg (by simp) (Evt.pure _))⟩
  | true =>
    cases b2 with
    | false => exact ⟨false, Evt.bind h1 (Evt.pos rfl (Evt.bind h2 (Evt.neg (by simp) (Evt.pure _))))⟩
    | true =>
      cases b3 with
      | false => exact ⟨false, Evt.bind h1 (Evt.pos rfl (Evt.bind h2 (Evt.pos rfl (Evt.bind h3 (Evt.neg (by simp) (Evt.pure _))))))⟩
      | true =>
        cases b4 with
        | false => exact ⟨false, Evt.bind h1 (Evt.pos rfl (Evt.bind h2 (Evt.pos rfl (Evt.bind h3 (Evt.pos rfl (Evt.bind h4 (Evt.neg (by simp) (Evt.pure _))))))))⟩
        | true => exact ⟨true, Evt.bind h1 (Evt.pos rfl (Evt.bind h2 (Evt.pos rfl (Evt.bind h3 (Evt.pos rfl (Evt.bind h4 (Evt.pos rfl (Evt.pure _))))))))⟩
theorem fits19 (x : S28) : ∃ b, Evt (fun k => laws_zzFits19.f k x.f0 x.f1 x.f2 x.f3 x.f4 x.f5) b := by
  by_cases hn : (x.f0.size : Int) > 2147483647
  · exact ⟨false, Evt.of (fun k => by unfold laws_zzFits19.f; rw [if_pos hn])⟩
  · obtain ⟨b1, h1⟩ := fits15 x.f1
    obtain ⟨b2, h2⟩ := fits15 x.f2
    obtain ⟨b3, h3⟩ := fits15 x.f3
    obtain ⟨b4, h4⟩ := fits15 x.f4
    obtain ⟨b, hb⟩ := four h1 h2 h3 h4
    exact ⟨b, Evt.congr (fun k => by unfold laws_zzFits19.f; rw [if_neg hn]) hb⟩
theorem fits18_loop (L : List (S28)) (hn : L.length ≤ 2147483647) : ∀ d i : Nat, L.length = i + d → ∃ b, Evt (fun k => laws_zzFits18.l0 k L (L.length : Int) (i : Int)) b := by
  intro d
  induction d with
  | zero =>
    intro i hi
    exact ⟨true, Evt.step (h := fun _ => some _) (fun k => by simp only [laws_zzFits18.l0]; rw [if_neg (by omega)]) (Evt.pure _)⟩
  | succ d ih =>
    intro i hi
    have hlt : i < L.length := by omega
    obtain ⟨b1, h1⟩ := fits19 L[i]
    obtain ⟨b2, h2⟩ := ih (i + 1) (by omega)
    have hst : ∀ k, laws_zzFits18.l0 (k + 1) L (L.length : Int) (i : Int) = (laws_zzFits19.f k L[i].f0 L[i].f1 L[i].f2 L[i].f3 L[i].f4 L[i].f5).bind fun t => if t = true then laws_zzFits18.l0 k L (L.length : Int) ((i + 1 : Nat) : Int) else some false := fun k => by
      simp only [laws_zzFits18.l0]
      rw [if_pos (by omega), if_pos (by omega), if_pos (by omega), rdI _ _ hlt, wrap_nat (by omega)]
    cases b1 with
    | false => exact ⟨false, Evt.step hst (Evt.bind h1 (Evt.neg (by simp) (Evt.pure _)))⟩
    | true => exact ⟨b2, Evt.step hst (Evt.bind h1 (Evt.pos rfl h2))⟩
theorem fits18 (L : List (S28)) : ∃ b, Evt (fun k => laws_zzFits18.f k L) b ∧ (b = true → L.length ≤ 2147483647) := by
  by_cases hn : (L.length : Int) > 2147483647
  · exact ⟨false, Evt.of (fun k => by unfold laws_zzFits18.f; rw [if_pos hn]), fun h => by cases h⟩
  · obtain ⟨b, h1⟩ := fits18_loop L (by omega) L.length 0 (by omega)
    exact ⟨b, Evt.congr (fun k => by unfold laws_zzFits18.f; rw [if_neg hn]; rfl) h1, fun _ => by omega⟩
theorem found_f : laws_found.f = some true := by decide +kernel
theorem reg_f (L : List (S28)) (h1 : L.length ≤ 2147483647) (h2 : ∀ x ∈ L, x.f0.size ≤ 9223372036854775807 ∧ ∀ s ∈ x.f1, s.size ≤ 9223372036854775807) : laws_registered.f L = some (regOK (L.map tI)) := by
  unfold laws_registered.f roF
  rw [if_pos]
  refine ⟨by rw [List.length_map]; exact h1, fun x hx => ?_⟩
  obtain ⟨y, hy, rfl⟩ := List.mem_map.1 hx
  exact h2 y hy
theorem rgF_at {xs : List Rx} (hok : regOK xs = true) {s : ByteArray} {n : Nat} (hn : n < xs.length) (hs : lw s ∈ nms xs[n]) (h1 : s.size ≤ 20) (h2 : ∀ b ∈ s.data.toList, b.toNat < 128) : rgF xs s = some (n : Int) := by
  unfold rgF
  rw [if_pos ⟨hok, h1, List.all_eq_true.2 fun b hb => decide_eq_true (h2 b hb)⟩]
  have : (xs.findIdx? fun x => decide (lw s ∈ nms x)) = some n := by
    rw [List.findIdx?_eq_some_iff_getElem]
    refine ⟨hn, decide_eq_true hs, fun j hj => ?_⟩
    have hne : lw s ∉ nms xs[j] := fun h => by
      have := nms_one (regOK_facts hok).2.2 (by omega) hn h hs
      omega
    simpa using hne
  rw [this]; rfl
theorem low_b : ∀ k : Fin 26, Lib.lowerB (UInt8.ofNat (((97 + k.val : Nat) : Int) - 32).toNat) = UInt8.ofNat (97 + k.val) ∧ (UInt8.ofNat (((97 + k.val : Nat) : Int) - 32).toNat).toNat < 128 ∧ Lib.lowerB (UInt8.ofNat (97 + k.val)) = UInt8.ofNat (97 + k.val) ∧ (UInt8.ofNat (97 + k.val)).toNat < 128 := by decide
theorem turn_b {s : ByteArray} (h : Low s) {j : Nat} (hj : j < s.size) (l : List Bool) (k : Nat) : Lib.lowerB (UInt8.ofNat (xj s l k j).toNat) = s.data.toList.getD j 0 ∧ (UInt8.ofNat (xj s l k j).toNat).toNat < 128 := by
  have hlo := h.lo (s.data.toList.getD j 0) (by
    rw [List.getD_eq_getElem?_getD, List.getElem?_eq_getElem (by rw [Array.length_toList]; exact hj)]
    exact List.getElem_mem _)
  have hsj : sj s j = (s.data.toList.getD j 0).toNat := rfl
  generalize s.data.toList.getD j 0 = b at hlo hsj
  obtain ⟨q, hq, hq2⟩ : ∃ q : Nat, b.toNat = 97 + q ∧ q < 26 := ⟨b.toNat - 97, by omega, by omega⟩
  have hb : b = UInt8.ofNat (97 + q) := by
    apply UInt8.toNat_inj.1
    rw [hq, UInt8.toNat_ofNat_of_lt' (by show 97 + q < 256; omega)]
  have key := low_b ⟨q, hq2⟩
  unfold xj
  rw [hsj, hq]
  split
  · exact ⟨key.1.trans hb.symm, key.2.1⟩
  · rw [Int.toNat_natCast]
    exact ⟨key.2.2.1.trans hb.symm, key.2.2.2⟩
theorem turn_facts {s : ByteArray} (h : letB s = true) (l : List Bool) (k : Nat) : lw (strOfNums (turnI s l k)) = s ∧ (strOfNums (turnI s l k)).size ≤ 20 ∧ ∀ b ∈ (strOfNums (turnI s l k)).data.toList, b.toNat < 128 := by
  obtain ⟨hl, hz⟩ := letB_low h
  have hlen : (turnI s l k).length = s.size := by unfold turnI; simp
  refine ⟨?_, by rw [strOfNums_size, hlen]; exact hz, fun b hb => ?_⟩
  · apply dat_inj
    show (Lib.toLowerA (strOfNums (turnI s l k)).data.toList).toArray.toList = s.data.toList
    rw [strOfNums_data]
    unfold Lib.toLowerA turnI
    rw [List.map_map, List.map_map]
    apply List.ext_getElem
    · rw [List.length_map, List.length_range, Array.length_toList]; rfl
    · intro j h1 h2
      have hj : j < s.size := by rw [Array.length_toList] at h2; exact h2
      simp only [List.getElem_map, List.getElem_range, Function.comp]
      have := (turn_b hl hj l k).1
      rw [this, List.getD_eq_getElem?_getD, List.getElem?_eq_getElem h2]; rfl
  · rw [strOfNums_data] at hb
    obtain ⟨n, hn, rfl⟩ := List.mem_map.1 hb
    unfold turnI at hn
    obtain ⟨j, hj, rfl⟩ := List.mem_map.1 hn
    exact (turn_b hl (by simpa using hj) l k).2
end Go.Proofs.YtibjlefenodhaaaDoor.Pure
