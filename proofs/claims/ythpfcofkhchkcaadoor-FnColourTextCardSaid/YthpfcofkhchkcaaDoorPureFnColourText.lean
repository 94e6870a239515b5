import Derived.Test.YthpfcofkhchkcaaDoorColPure
set_option linter.unusedVariables false
namespace Go.Proofs.YthpfcofkhchkcaaDoor.Pure
open Go.RowKit Go.Proofs.YthpfcofkhchkcaaDoorW.PrintWords Go.Proofs.YthpfcofkhchkcaaDoor.M Go.Proofs.YthpfcofkhchkcaaDoorFmt Go.Proofs.YthpfcofkhchkcaaDoor.ColPure
theorem bt_hex : ∀ d : Nat, d < 16 → bt (⟨#[48, 49, 50, 51, 52, 53, 54, 55, 56, 57, 97, 98, 99, 100, 101, 102]⟩ : ByteArray) (d : Int) = ((hexD d).toNat : Int) := by decide +kernel
theorem str_step (k m i : Nat) (L : List Int) (hm : m < 16777216) (hi : i + 1 < L.length) (hi2 : i < 100) :
    spec_ColourString.l0 (k + 1) (m : Int) L ((i + 1 : Nat) : Int) = spec_ColourString.l0 k ((m / 16 : Nat) : Int) (L.set (i + 1) ((hexD (m % 16)).toNat : Int)) (i : Int) := by
  have e1 : Int.tmod (m : Int) 16 = ((m % 16 : Nat) : Int) := by rw [Int.tmod_eq_emod_of_nonneg (by omega)]; omega
  have e2 : wrap64 (Int.tdiv (m : Int) 16) = ((m / 16 : Nat) : Int) := by rw [Int.tdiv_eq_ediv_of_nonneg (by omega)]; unfold wrap64; omega
  have e3 : wrap64 (((i + 1 : Nat) : Int) - 1) = (i : Int) := by unfold wrap64; omega
  rw [spec_ColourString.l0, if_pos (by omega), e1, e2, e3, if_pos (by omega), if_pos (by omega), if_pos (by omega), if_pos (by omega), bt_hex _ (Nat.mod_lt _ (by decide))]
  rfl
theorem str_end (k m : Nat) (L : List Int) : spec_ColourString.l0 (k + 1) (m : Int) L ((0 : Nat) : Int) = some (strOfNums L, 1) := by
  rw [spec_ColourString.l0, if_neg (by omega)]
theorem str_f (n : Nat) (hn : n < 16777216) : spec_ColourString.f 7 ((n : Int) + 1) = some (⟨(35 :: digs 6 n).toArray⟩, 1) := by
  unfold spec_ColourString.f spec_plain.f
  rw [if_pos (by omega), Option.bind_some, if_pos (by simp; omega)]
  have e : wrap64 (wrap64 ((n : Int) + 1) - 1) = (n : Int) := by unfold wrap64; omega
  rw [e, show (6 : Int) = ((5 + 1 : Nat) : Int) from rfl]
  rw [str_step 6 n 5 _ hn (by decide) (by decide), show ((5 : Nat) : Int) = ((4 + 1 : Nat) : Int) from rfl, str_step 5 (n / 16) 4 _ (by omega) (by simp) (by decide), show ((4 : Nat) : Int) = ((3 + 1 : Nat) : Int) from rfl, str_step 4 (n / 16 / 16) 3 _ (by omega) (by simp) (by decide), show ((3 : Nat) : Int) = ((2 + 1 : Nat) : Int) from rfl, str_step 3 _ 2 _ (by omega) (by simp) (by decide), show ((2 : Nat) : Int) = ((1 + 1 : Nat) : Int) from rfl, str_step 2 _ 1 _ (by omega) (by simp) (by decide), show ((1 : Nat) : Int) = ((0 + 1 : Nat) : Int) from rfl, str_step 1 _ 0 _ (by omega) (by simp) (by decide), str_end 0]
  simp only [List.set_cons_succ, List.set_cons_zero, digs, List.nil_append, List.cons_append]
  exact congrArg some (congrArg (fun z => (z, (1 : Int))) (strOfNums_map [35, hexD (n / 16 / 16 / 16 / 16 / 16 % 16), hexD (n / 16 / 16 / 16 / 16 % 16), hexD (n / 16 / 16 / 16 % 16), hexD (n / 16 / 16 % 16), hexD (n / 16 % 16), hexD (n % 16)]))
theorem FnColourText : laws_FnColourText.Pure := by
  intro a0 w0
  refine ⟨7, ?_⟩
  unfold laws_FnColourText.f
  by_cases h : 1 ≤ a0 ∧ a0 ≤ 16777216
  · obtain ⟨n, rfl⟩ : ∃ n : Nat, a0 = (n : Int) + 1 := ⟨(a0 - 1).toNat, by omega⟩
    have hn : n < 16777216 := by omega
    rw [str_f n hn, Option.bind_some]
    simp only
    rw [if_neg (by decide), string_f n hn, Option.bind_some, if_pos rfl, coloured_f]
    rfl
  · have hp : spec_ColourString.f 7 a0 = some (⟨#[]⟩, 2) := by
      unfold spec_ColourString.f spec_plain.f
      by_cases h1 : a0 ≥ 1
      · rw [if_pos h1, Option.bind_some, if_neg (by simp; omega)]
      · rw [if_neg h1, Option.bind_some, if_neg (by decide)]
    rw [hp, Option.bind_some]
    exact if_pos rfl
end Go.Proofs.YthpfcofkhchkcaaDoor.Pure
