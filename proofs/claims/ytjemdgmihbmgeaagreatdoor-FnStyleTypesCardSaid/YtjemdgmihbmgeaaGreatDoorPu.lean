/- strconv.ParseUint at base 16 and 32 bits: what the call computes, by a walk of the library's text. -/
import Derived.Test.YtjemdgmihbmgeaaGreatDoorFmt
import Derived.Test.YtjemdgmihbmgeaaGreatDoorShelf
import Derived.Lib.ConvBytes
set_option linter.unusedVariables false
set_option linter.unusedSimpArgs false
namespace Go.Proofs.YtjemdgmihbmgeaaGreatDoorFmt
open Go.RowKit Go.Proofs.YtjemdgmihbmgeaaGreatDoorW.PrintWords

/-- A digit's value, or none. -/
def dig16 (c : Int) : Option Int :=
  if 48 ≤ c ∧ c ≤ 57 then some (c - 48)
  else if 97 ≤ bits .or .u8 c 32 ∧ bits .or .u8 c 32 ≤ 102 then some (bits .or .u8 c 32 - 87) else none
/-- What is read of the bytes from a number on, up to 32 bits; none where it is refused. -/
def pu16 : List Int → Int → Option Int
  | [], n => some n
  | c :: l, n => match dig16 c with
    | none => none
    | some d => if n * 16 + d ≤ 4294967295 then pu16 l (n * 16 + d) else none
def puS (s : ByteArray) : Option Int := if s.toList.isEmpty then none else pu16 (bytesOf s) 0
theorem lo_bounds : ∀ n : Nat, n < 256 → 0 ≤ bits .or .u8 (n : Int) 32 ∧ bits .or .u8 (n : Int) 32 < 256 := by decide +kernel
theorem pu16_bad {c : Int} {l : List Int} {m : Int} (h : dig16 c = none) : pu16 (c :: l) m = none := by simp only [pu16, h]
theorem pu16_great {c d : Int} {l : List Int} {m : Int} (h : dig16 c = some d) (hd : ¬ m * 16 + d ≤ 4294967295) : pu16 (c :: l) m = none := by simp only [pu16, h, if_neg hd]
theorem pu16_more {c d : Int} {l : List Int} {m : Int} (h : dig16 c = some d) (hd : m * 16 + d ≤ 4294967295) : pu16 (c :: l) m = pu16 l (m * 16 + d) := by simp only [pu16, h, if_pos hd]
theorem dig16_A {c : Int} (h : 48 ≤ c) (h' : c ≤ 57) : dig16 c = some (c - 48) := by unfold dig16; rw [if_pos ⟨h, h'⟩]
theorem dig16_L {c lo : Int} (hlo : lo = bits .or .u8 c 32) (hn : ¬ (48 ≤ c ∧ c ≤ 57)) (h : 97 ≤ lo) (h' : lo ≤ 102) : dig16 c = some (lo - 87) := by subst hlo; unfold dig16; rw [if_neg hn, if_pos ⟨h, h'⟩]
theorem dig16_N {c lo : Int} (hlo : lo = bits .or .u8 c 32) (hn : ¬ (48 ≤ c ∧ c ≤ 57)) (h : ¬ (97 ≤ lo ∧ lo ≤ 102)) : dig16 c = none := by subst hlo; unfold dig16; rw [if_neg hn, if_neg h]
set_option maxHeartbeats 4000000 in
set_option maxRecDepth 100000 in
theorem parseI16 (s : ByteArray) (hs : s.size ≤ 9223372036854775807) (w : World) :
    Calls Tryz.prog 138 #[.string s, .int .i64 16, .int .i64 32] w fun e w' =>
      (∃ m, e = .returned (.tuple #[.int .u64 m, .nilIface]) ∧ puS s = some m ∨ (e = .returned (.tuple #[.int .u64 m, .iface 244 (.int .i64 2)]) ∨ e = .returned (.tuple #[.int .u64 m, .iface 244 (.int .i64 1)])) ∧ puS s = none) ∧ Below w.heap.size w w' := by
  go_enter Tryz.func138, Tryz.ntmps138
  cases h0 : s.toList.isEmpty
  · have hpu : puS s = pu16 (bytesOf s) 0 := by unfold puS; rw [h0]; rfl
    have hcv : ∀ w, (convert 9 162 (.string s)).run Tryz.prog w = .ok (.slice (some ⟨w.heap.size, 0, none⟩) s.size (grownCap w s.size 0 5)) (Lib.bytesWorld w 5 s) := fun w => Lib.run_convert_string_bytes w _ _ _ s rfl rfl rfl
    have hpu' := Aside0.mk hpu
    clear hpu
    go_wp2_with fail
    go_loopw [12, 13, 101] (fun us n i wr => us = .bool false ∧ ∃ (m : Int) (k : Nat), n = .int .u64 m ∧ i = .int .i64 k ∧ 0 ≤ m ∧ m ≤ 4294967295 ∧ k ≤ s.size ∧ Aside0 (puS s = pu16 ((bytesOf s).drop k) m) ∧ Aside0 (ReadsInt wr .u8 (some ⟨w.heap.size, 0, none⟩) s.size (bytesOf s)) ∧ Aside0 (Below w.heap.size w wr)) (fun _ _ i _ => s.size - (intOf i).toNat)
    case atStart => exact ⟨rfl, 0, 0, rfl, rfl, by omega, by omega, by omega, ⟨hpu'.out⟩, ⟨bytes_reads w _ s hs⟩, ⟨bytes_below (Below.refl _ _) (Nat.le_refl _) _ s⟩⟩
    case round =>
      obtain ⟨rfl, m, k, rfl, rfl, hm0, hm, hk, HP, HR, HB⟩ := hrel
      by_cases hlt : k < s.size
      · obtain ⟨cn, hcn, hc, hcd⟩ : ∃ cn : Nat, cn < 256 ∧ wr.cell? ⟨w.heap.size, k, none⟩ = some (.int .u8 (cn : Int)) ∧ Aside0 ((bytesOf s).drop k = (cn : Int) :: (bytesOf s).drop (k + 1)) := by
          have hlen : k < (bytesOf s).length := by rw [bytesOf_length]; exact hlt
          have hlen' : k < s.data.toList.length := by rw [data_length]; exact hlt
          have he : (bytesOf s)[k] = ((s.data.toList[k]).toNat : Int) := by simp [bytesOf]
          obtain ⟨ad, had, hcell⟩ := HR.out.2.2 (by omega)
          obtain rfl := Option.some.inj had
          have h1 := hcell k hlt
          rw [add_plain, List.getD_eq_getElem?_getD, List.getElem?_eq_getElem hlen, Option.getD_some, he] at h1
          refine ⟨(s.data.toList[k]).toNat, UInt8.toNat_lt _, h1, ⟨?_⟩⟩
          rw [← he]; exact List.drop_eq_getElem_cons hlen
        obtain ⟨hlb0, hlb1⟩ := lo_bounds cn hcn
        obtain ⟨c, hcc⟩ : ∃ c : Int, c = (cn : Int) := ⟨_, rfl⟩
        have hc0 : 0 ≤ c := by omega
        have hc1 : c < 256 := by omega
        rw [← hcc] at hlb0 hlb1 hc
        have hcd' : Aside0 ((bytesOf s).drop k = c :: (bytesOf s).drop (k + 1)) := ⟨by rw [hcc]; exact hcd.out⟩
        clear hcd hcc hcn
        have hlt' : (k : Int) < s.size := by omega
        by_cases hA : 48 ≤ c ∧ c ≤ 57
        · obtain ⟨hA1, hA2⟩ := hA
          have hdg := Aside0.mk (dig16_A hA1 hA2)
          by_cases hB1 : m * 16 + (c - 48) ≤ 4294967295
          · go_wp2_with fail
            refine ⟨⟨rfl, m * 16 + (c - 48), k + 1, rfl, rfl, by omega, by omega, by omega, ⟨?_⟩, HR, HB⟩, ?_⟩
            · rw [HP.out, hcd'.out, pu16_more hdg.out hB1]
            · simp [intOf]; omega
          · go_wp2_with fail
            go_ret2
            exact ⟨⟨_, .inr ⟨.inr rfl, by rw [HP.out, hcd'.out, pu16_great hdg.out (by omega)]⟩⟩, HB.out⟩
        · have hA' := Aside0.mk hA
          obtain ⟨lo, hlo⟩ : ∃ lo, lo = bits .or .u8 c 32 := ⟨_, rfl⟩
          have hlo' := Aside0.mk hlo
          rw [← hlo] at hlb0 hlb1
          have hlow : ∀ w, Calls Tryz.prog 150 #[.int .u8 c] w fun e w' => e = .returned (.int .u8 lo) ∧ w' = w := by rw [hlo]; exact fun w => Tryz.internal_strconv_lower c w
          have h95 : c = 95 → lo = 127 := by intro h; rw [hlo, h]; decide +kernel
          clear hlo
          have hA3 : c < 48 ∨ 57 < c := by omega
          clear hA
          by_cases hL : 97 ≤ lo ∧ lo ≤ 102
          · obtain ⟨hL1, hL2⟩ := hL
            have hne : c ≠ 95 := by intro h; have := h95 h; omega
            have hdg := Aside0.mk (dig16_L hlo'.out hA'.out hL1 hL2)
            clear h95
            by_cases hB1 : m * 16 + (lo - 87) ≤ 4294967295
            · rcases hA3 with hA3 | hA3
              all_goals
                go_wp2_with (go_at_call 150; refine (hlow _).mono ?_; rintro e w' ⟨rfl, rfl⟩)
                refine ⟨⟨rfl, m * 16 + (lo - 87), k + 1, by congr 1; omega, rfl, by omega, by omega, by omega, ⟨?_⟩, HR, HB⟩, ?_⟩
                · rw [HP.out, hcd'.out, pu16_more hdg.out hB1]
                · simp [intOf]; omega
            · rcases hA3 with hA3 | hA3
              all_goals
                go_wp2_with (go_at_call 150; refine (hlow _).mono ?_; rintro e w' ⟨rfl, rfl⟩)
                go_ret2
                exact ⟨⟨_, .inr ⟨.inr rfl, by rw [HP.out, hcd'.out, pu16_great hdg.out (by omega)]⟩⟩, HB.out⟩
          · have hdg := Aside0.mk (dig16_N hlo'.out hA'.out hL)
            by_cases hc95 : c = 95
            · obtain rfl := h95 hc95
              subst hc95
              go_wp2_with (go_at_call 150; refine (hlow _).mono ?_; rintro e w' ⟨rfl, rfl⟩)
              go_ret2
              exact ⟨⟨_, .inr ⟨.inl rfl, by rw [HP.out, hcd'.out, pu16_bad hdg.out]⟩⟩, HB.out⟩
            · clear h95
              have hL3 : lo < 97 ∨ 102 < lo ∧ lo ≤ 122 ∨ 122 < lo := by omega
              clear hL
              rcases hA3 with hA3 | hA3 <;> rcases hL3 with hL3 | ⟨hL3, hL4⟩ | hL3
              all_goals
                go_wp2_with (go_at_call 150; refine (hlow _).mono ?_; rintro e w' ⟨rfl, rfl⟩)
                go_ret2
                exact ⟨⟨_, .inr ⟨.inl rfl, by rw [HP.out, hcd'.out, pu16_bad hdg.out]⟩⟩, HB.out⟩
      · go_wp2_with fail
        go_ret2
        exact ⟨⟨m, .inl ⟨rfl, by rw [HP.out, List.drop_eq_nil_of_le (by rw [bytesOf_length]; omega)]; rfl⟩⟩, HB.out⟩
  · have hpu : puS s = none := by unfold puS; rw [h0]; rfl
    go_wp2_with fail
    go_ret2
    exact ⟨⟨0, .inr ⟨.inl rfl, hpu⟩⟩, Below.refl _ _⟩
end Go.Proofs.YtjemdgmihbmgeaaGreatDoorFmt
