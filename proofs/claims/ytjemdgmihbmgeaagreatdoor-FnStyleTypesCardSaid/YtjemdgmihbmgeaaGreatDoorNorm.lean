/- chroma.normaliseColour by a walk. -/
import Derived.Test.YtjemdgmihbmgeaaGreatDoorAnsi
import Derived.Test.YtjemdgmihbmgeaaGreatDoorWLast
import Derived.Deep.RegionHeld3
import Derived.OrdersHeld
set_option linter.unusedVariables false
set_option linter.unusedSimpArgs false
namespace Go.Proofs.YtjemdgmihbmgeaaGreatDoorFmt
open Go.RowKit Go.Proofs.YtjemdgmihbmgeaaGreatDoorW.PrintWords Go.Proofs.YtjemdgmihbmgeaaGreatDoorW.PrintLast

/-- What normaliseColour makes of a text. -/
def norm (s : ByteArray) : ByteArray := match ml ansiL s with
  | some v => v
  | none => match s.data.toList with
    | [35, x, y, z] => ⟨#[x, x, y, y, z, z]⟩
    | 35 :: l => ⟨l.toArray⟩
    | _ => s
theorem len3 {l : List UInt8} (h : l.length = 3) : ∃ x y z, l = [x, y, z] := by
  match l, h with
  | [x, y, z], _ => exact ⟨x, y, z, rfl⟩
theorem norm35 {s : ByteArray} {l : List UInt8} (h : s.data.toList = 35 :: l) (hl : l.length ≠ 3) : (match s.data.toList with
      | [35, x, y, z] => (⟨#[x, x, y, y, z, z]⟩ : ByteArray)
      | 35 :: l => ⟨l.toArray⟩
      | _ => s) = ⟨l.toArray⟩ := by
  rw [h]
  match l, hl with
  | [], _ => rfl
  | [_], _ => rfl
  | [_, _], _ => rfl
  | [_, _, _], hl => exact absurd rfl hl
  | _ :: _ :: _ :: _ :: _, _ => rfl
theorem normNo {s : ByteArray} (h : Lib.hasPrefix s.data.toList [35] = false) : (match s.data.toList with
      | [35, x, y, z] => (⟨#[x, x, y, y, z, z]⟩ : ByteArray)
      | 35 :: l => ⟨l.toArray⟩
      | _ => s) = s := by
  split
  · rename_i heq; rw [heq] at h; simp [Lib.hasPrefix] at h
  · rename_i heq; rw [heq] at h; simp [Lib.hasPrefix] at h
  · rfl
set_option maxRecDepth 100000 in
set_option maxHeartbeats 4000000 in
theorem normalise (s : ByteArray) (hs : s.size ≤ 140737488351232) (w : World) : Calls Tryz.prog 123 #[.string s] w fun e w' => e = .returned (.string (norm s)) ∧ Below w.heap.size w w' := by
  go_enter Tryz.func123, Tryz.ntmps123
  go_upto_region 2 with (go_at_call 137; refine (ansi _).mono ?_; rintro e w1 ⟨b, rfl, hM, hB⟩; obtain ⟨v, hlook, hv⟩ := hM.look s (by show s.size ≤ 2 ^ 63 - 1; omega))
  have hpre : ∀ w, Calls Tryz.prog 95 #[.string s, .string ⟨#[35]⟩] w fun e w' => e = .returned (.bool (Lib.hasPrefix s.data.toList [35])) ∧ w' = w := fun w => Tryz.strings_HasPrefix s ⟨#[35]⟩ w
  have hM' := Aside0.mk hM
  have hB' := Aside0.mk hB
  clear hM hB
  have hn : norm s = match ml ansiL s with
    | some v => v
    | none => match s.data.toList with
      | [35, x, y, z] => ⟨#[x, x, y, y, z, z]⟩
      | 35 :: l => ⟨l.toArray⟩
      | _ => s := rfl
  cases hm : ml ansiL s with
  | some v' =>
    obtain rfl := hv v' hm
    have hb : (ml ansiL s).isSome = true := by rw [hm]; rfl
    rw [hm] at hn
    have hn' := Aside0.mk hn
    clear hn hlook hv
    go_wp2_with fail
    go_ret
    exact ⟨by rw [hn'.out]; rfl, hB'.out⟩
  | none =>
    have hb : (ml ansiL s).isSome = false := by rw [hm]; rfl
    rw [hm] at hn
    have hn' := Aside0.mk hn
    clear hn hlook hv
    by_cases hp : Lib.hasPrefix s.data.toList [35] = true
    · obtain ⟨l, hl⟩ : ∃ l, s.data.toList = 35 :: l := by
        cases hd : s.data.toList with
        | nil => rw [hd] at hp; cases hp
        | cons c l => rw [hd] at hp; refine ⟨l, ?_⟩; simp [Lib.hasPrefix] at hp; rw [hp]
      have hsz : s.size = l.length + 1 := by rw [← data_length, hl]; rfl
      have hl' := Aside0.mk hl
      clear hl
      have h1 : 1 ≤ s.size := by omega
      have hex : (s.extract 1 s.size).data.toList = l := by
        rw [ByteArray.data_extract, Array.toList_extract, hl'.out, hsz]; simp
      by_cases h3 : s.size = 4
      · go_wp2_with (go_at_call 95; refine (hpre _).mono ?_; rintro e w' ⟨rfl, rfl⟩)
        have hl3 : l.length = 3 := by omega
        refine start_ (n := 18) (S := fun w' => True) (ds := []) #[false, false, false, false, false, false, false, false, false, false, false, false, false, false, false, false, false, false] (by kernel_rfl) rfl rfl trivial (fun hHeld => ?_)
        refine pure_ (i := 0) (N := some 20) (v := ?_) (a' := ?_) #[true, false, false, false, false, false, false, false, false, false, false, false, false, false, false, false, false, false] rfl rfl (by kernel_rfl) (fun _ _ _ h => h) (Or.inl ⟨by rfl, ?_⟩) ?_ ?_
        rotate_left
        · intro w'
          go_simp
          with_reducible rfl
        rotate_left
        · simp only [Act.put, List.setIfInBounds_toArray, List.set_cons_zero, List.set_cons_succ, i64_w, i32_w]
          rfl
        refine pure_ (i := 1) (N := some 21) (v := ?_) (a' := ?_) #[true, true, false, false, false, false, false, false, false, false, false, false, false, false, false, false, false, false] rfl rfl (by kernel_rfl) (fun _ _ _ h => h) (Or.inl ⟨by rfl, ?_⟩) ?_ ?_
        rotate_left
        · intro w'
          go_simp
          with_reducible rfl
        rotate_left
        · simp only [Act.put, List.setIfInBounds_toArray, List.set_cons_zero, List.set_cons_succ, i64_w, i32_w]
          rfl
        refine pure_ (i := 2) (N := some 22) (v := ?_) (a' := ?_) #[true, true, true, false, false, false, false, false, false, false, false, false, false, false, false, false, false, false] rfl rfl (by kernel_rfl) (fun _ _ _ h => h) (Or.inl ⟨by rfl, ?_⟩) ?_ ?_
        rotate_left
        · intro w'
          go_simp
          with_reducible rfl
        rotate_left
        · simp only [Act.put, List.setIfInBounds_toArray, List.set_cons_zero, List.set_cons_succ, i64_w, i32_w]
          rfl
        refine pure_ (i := 3) (N := some 23) (v := ?_) (a' := ?_) #[true, true, true, true, false, false, false, false, false, false, false, false, false, false, false, false, false, false] rfl rfl (by kernel_rfl) (fun _ _ _ h => h) (Or.inl ⟨by rfl, ?_⟩) ?_ ?_
        rotate_left
        · intro w'
          go_simp
          with_reducible rfl
        rotate_left
        · simp only [Act.put, List.setIfInBounds_toArray, List.set_cons_zero, List.set_cons_succ, i64_w, i32_w]
          rfl
        refine pure_ (i := 4) (N := some 24) (v := ?_) (a' := ?_) #[true, true, true, true, true, false, false, false, false, false, false, false, false, false, false, false, false, false] rfl rfl (by kernel_rfl) (fun _ _ _ h => h) (Or.inl ⟨by rfl, ?_⟩) ?_ ?_
        rotate_left
        · intro w'
          go_simp
          with_reducible rfl
        rotate_left
        · simp only [Act.put, List.setIfInBounds_toArray, List.set_cons_zero, List.set_cons_succ, i64_w, i32_w]
          rfl
        refine pure_ (i := 5) (N := some 25) (v := ?_) (a' := ?_) #[true, true, true, true, true, true, false, false, false, false, false, false, false, false, false, false, false, false] rfl rfl (by kernel_rfl) (fun _ _ _ h => h) (Or.inl ⟨by rfl, ?_⟩) ?_ ?_
        rotate_left
        · intro w'
          go_simp
          with_reducible rfl
        rotate_left
        · simp only [Act.put, List.setIfInBounds_toArray, List.set_cons_zero, List.set_cons_succ, i64_w, i32_w]
          rfl
        refine pure_ (i := 6) (N := some 26) (v := ?_) (a' := ?_) #[true, true, true, true, true, true, true, false, false, false, false, false, false, false, false, false, false, false] rfl rfl (by kernel_rfl) (fun _ _ _ h => h) (Or.inl ⟨by rfl, ?_⟩) ?_ ?_
        rotate_left
        · intro w'
          go_simp
          with_reducible rfl
        rotate_left
        · simp only [Act.put, List.setIfInBounds_toArray, List.set_cons_zero, List.set_cons_succ, i64_w, i32_w]
          rfl
        refine pure_ (i := 7) (N := some 27) (v := ?_) (a' := ?_) #[true, true, true, true, true, true, true, true, false, false, false, false, false, false, false, false, false, false] rfl rfl (by kernel_rfl) (fun _ _ _ h => h) (Or.inl ⟨by rfl, ?_⟩) ?_ ?_
        rotate_left
        · intro w'
          go_simp
          with_reducible rfl
        rotate_left
        · simp only [Act.put, List.setIfInBounds_toArray, List.set_cons_zero, List.set_cons_succ, i64_w, i32_w]
          rfl
        refine pure_ (i := 8) (N := some 28) (v := ?_) (a' := ?_) #[true, true, true, true, true, true, true, true, true, false, false, false, false, false, false, false, false, false] rfl rfl (by kernel_rfl) (fun _ _ _ h => h) (Or.inl ⟨by rfl, ?_⟩) ?_ ?_
        rotate_left
        · intro w'
          go_simp
          with_reducible rfl
        rotate_left
        · simp only [Act.put, List.setIfInBounds_toArray, List.set_cons_zero, List.set_cons_succ, i64_w, i32_w]
          rfl
        refine pure_ (i := 9) (N := some 29) (v := ?_) (a' := ?_) #[true, true, true, true, true, true, true, true, true, true, false, false, false, false, false, false, false, false] rfl rfl (by kernel_rfl) (fun _ _ _ h => h) (Or.inl ⟨by rfl, ?_⟩) ?_ ?_
        rotate_left
        · intro w'
          go_simp
          with_reducible rfl
        rotate_left
        · simp only [Act.put, List.setIfInBounds_toArray, List.set_cons_zero, List.set_cons_succ, i64_w, i32_w]
          rfl
        refine pure_ (i := 10) (N := some 30) (v := ?_) (a' := ?_) #[true, true, true, true, true, true, true, true, true, true, true, false, false, false, false, false, false, false] rfl rfl (by kernel_rfl) (fun _ _ _ h => h) (Or.inl ⟨by rfl, ?_⟩) ?_ ?_
        rotate_left
        · intro w'
          go_simp
          with_reducible rfl
        rotate_left
        · simp only [Act.put, List.setIfInBounds_toArray, List.set_cons_zero, List.set_cons_succ, i64_w, i32_w]
          rfl
        refine pure_ (i := 11) (N := some 31) (v := ?_) (a' := ?_) #[true, true, true, true, true, true, true, true, true, true, true, true, false, false, false, false, false, false] rfl rfl (by kernel_rfl) (fun _ _ _ h => h) (Or.inl ⟨by rfl, ?_⟩) ?_ ?_
        rotate_left
        · intro w'
          go_simp
          with_reducible rfl
        rotate_left
        · simp only [Act.put, List.setIfInBounds_toArray, List.set_cons_zero, List.set_cons_succ, i64_w, i32_w]
          rfl
        refine pure_ (i := 12) (N := some 32) (v := ?_) (a' := ?_) #[true, true, true, true, true, true, true, true, true, true, true, true, true, false, false, false, false, false] rfl rfl (by kernel_rfl) (fun _ _ _ h => h) (Or.inl ⟨by rfl, ?_⟩) ?_ ?_
        rotate_left
        · intro w'
          go_simp
          with_reducible rfl
        rotate_left
        · simp only [Act.put, List.setIfInBounds_toArray, List.set_cons_zero, List.set_cons_succ, i64_w, i32_w]
          rfl
        refine pure_ (i := 13) (N := some 33) (v := ?_) (a' := ?_) #[true, true, true, true, true, true, true, true, true, true, true, true, true, true, false, false, false, false] rfl rfl (by kernel_rfl) (fun _ _ _ h => h) (Or.inl ⟨by rfl, ?_⟩) ?_ ?_
        rotate_left
        · intro w'
          go_simp
          with_reducible rfl
        rotate_left
        · simp only [Act.put, List.setIfInBounds_toArray, List.set_cons_zero, List.set_cons_succ, i64_w, i32_w]
          rfl
        refine pure_ (i := 14) (N := some 34) (v := ?_) (a' := ?_) #[true, true, true, true, true, true, true, true, true, true, true, true, true, true, true, false, false, false] rfl rfl (by kernel_rfl) (fun _ _ _ h => h) (Or.inl ⟨by rfl, ?_⟩) ?_ ?_
        rotate_left
        · intro w'
          go_simp
          with_reducible rfl
        rotate_left
        · simp only [Act.put, List.setIfInBounds_toArray, List.set_cons_zero, List.set_cons_succ, i64_w, i32_w]
          rfl
        refine pure_ (i := 15) (N := some 35) (v := ?_) (a' := ?_) #[true, true, true, true, true, true, true, true, true, true, true, true, true, true, true, true, false, false] rfl rfl (by kernel_rfl) (fun _ _ _ h => h) (Or.inl ⟨by rfl, ?_⟩) ?_ ?_
        rotate_left
        · intro w'
          go_simp
          with_reducible rfl
        rotate_left
        · simp only [Act.put, List.setIfInBounds_toArray, List.set_cons_zero, List.set_cons_succ, i64_w, i32_w]
          rfl
        refine pure_ (i := 16) (N := some 36) (v := ?_) (a' := ?_) #[true, true, true, true, true, true, true, true, true, true, true, true, true, true, true, true, true, false] rfl rfl (by kernel_rfl) (fun _ _ _ h => h) (Or.inl ⟨by rfl, ?_⟩) ?_ ?_
        rotate_left
        · intro w'
          go_simp
          with_reducible rfl
        rotate_left
        · simp only [Act.put, List.setIfInBounds_toArray, List.set_cons_zero, List.set_cons_succ, i64_w, i32_w]
          rfl
        refine pure_ (i := 17) (N := some 2) (v := ?_) (a' := ?_) #[true, true, true, true, true, true, true, true, true, true, true, true, true, true, true, true, true, true] rfl rfl (by kernel_rfl) (fun _ _ _ h => h) (Or.inl ⟨by rfl, ?_⟩) ?_ ?_
        rotate_left
        · intro w'
          go_simp
          with_reducible rfl
        rotate_left
        · simp only [Act.put, List.setIfInBounds_toArray, List.set_cons_zero, List.set_cons_succ, i64_w, i32_w]
          rfl
        refine done_ (by kernel_rfl) ?_
        go_wp2
        go_ret
        refine ⟨?_, below_drew1 hB'.out⟩
        obtain ⟨x, y, z, rfl⟩ := len3 hl3
        obtain rfl : s = ⟨#[35, x, y, z]⟩ := bytes_eq hl'.out
        rw [hn'.out]
        exact congrArg (fun u => Ending.returned (.string u)) (bytes_eq (by simp [ByteArray.data_append, ByteArray.data_extract]))
      · go_wp2_with (go_at_call 95; refine (hpre _).mono ?_; rintro e w' ⟨rfl, rfl⟩)
        go_ret
        refine ⟨?_, hB'.out⟩
        rw [hn'.out]
        dsimp only
        rw [norm35 hl'.out (by omega)]
        exact congrArg (fun u => Ending.returned (.string u)) (bytes_eq (by rw [← hsz, hex]))
    · have hp' : Lib.hasPrefix s.data.toList [35] = false := by simpa using hp
      go_wp2_with (go_at_call 95; refine (hpre _).mono ?_; rintro e w' ⟨rfl, rfl⟩)
      go_ret
      refine ⟨?_, hB'.out⟩
      rw [hn'.out]
      dsimp only
      rw [normNo hp']
      rfl
end Go.Proofs.YtjemdgmihbmgeaaGreatDoorFmt
