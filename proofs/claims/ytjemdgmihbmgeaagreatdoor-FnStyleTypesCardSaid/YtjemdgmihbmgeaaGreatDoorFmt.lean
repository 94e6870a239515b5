/- strconv.FormatInt at base 16: what the call computes, by a walk of the library's text. -/
import Derived.Test.YtjemdgmihbmgeaaGreatDoorProg
import Derived.WalkKit
import Derived.WalkLawsBesides
import Derived.WalkSpells
import Derived.RowKit3
import Derived.Outline
import Derived.Deep.DeepCutAuto
import Derived.Deep.CutBlock
import Derived.Below
import Derived.Laws.BytesArg
import Derived.Laws.Bits64
import Derived.Laws.Bits64b
import Derived.Test.YtjemdgmihbmgeaaGreatDoorWWords
import Derived.Shelf.Unicode.IsSpaceAny
import Derived.Shelf.Unicode.DecodeSlow
import Derived.Lib.FieldsLaws
set_option linter.unusedVariables false
set_option linter.unusedSimpArgs false
namespace Go.Proofs.YtjemdgmihbmgeaaGreatDoorFmt
open Go.RowKit Go.Proofs.YtjemdgmihbmgeaaGreatDoorW.PrintWords

/-- What the calls read of the package-level variables. -/
structure VarsOK (w : World) : Prop where
  tz : w.cell? ⟨9, 15, none⟩ = some (.int .u8 4)
  syn : ∃ te pe, w.cell? ⟨6, 0, none⟩ = some (.iface te pe)
  ran : ∃ te pe, w.cell? ⟨7, 0, none⟩ = some (.iface te pe)
  asp : ∀ c : Nat, c < 256 → w.cell? ⟨0, c, none⟩ = some (.int .u8 (if Lib.isSp (UInt8.ofNat c) then 1 else 0))
  u8 : Lib.Utf8Tabs 2 3 w
  ws : Lib.WhiteTab 1 w

def hexD (n : Nat) : UInt8 := if n < 10 then UInt8.ofNat (48 + n) else UInt8.ofNat (87 + n)
def hexL (u : Nat) : List UInt8 := if h : u < 16 then [hexD u] else hexL (u / 16) ++ [hexD (u % 16)]
termination_by u
decreasing_by omega

theorem tz16 (w : World) (h : w.cell? ⟨9, 15, none⟩ = some (.int .u8 4)) :
    Calls Tryz.prog 159 #[.int .u64 16] w fun e w' => e = .returned (.int .i64 4) ∧ w = w' := by
  have hx : (IntKind.u64.wrap (bits BinOp.and IntKind.u64 16 (IntKind.u64.wrap (-16)) * 285870213051353865) / 288230376151711744).toNat = 15 := by decide +kernel
  rw [← hx] at h
  clear hx
  go_enter Tryz.func159, Tryz.ntmps159
  go_wp2
  go_ret
  exact ⟨rfl, rfl⟩
theorem isPow16 (w : World) : Calls Tryz.prog 158 #[.int .i64 16] w fun e w' => e = .returned (.bool true) ∧ w = w' := by
  go_enter Tryz.func158, Tryz.ntmps158
  go_wp2
  go_ret
  exact ⟨rfl, rfl⟩
theorem digits_at (k : Nat) (hk : k < 16) : ∀ h : k < (⟨#[48, 49, 50, 51, 52, 53, 54, 55, 56, 57, 97, 98, 99, 100, 101, 102, 103, 104, 105, 106, 107, 108, 109, 110, 111, 112, 113, 114, 115, 116, 117, 118, 119, 120, 121, 122]⟩ : ByteArray).size, (⟨#[48, 49, 50, 51, 52, 53, 54, 55, 56, 57, 97, 98, 99, 100, 101, 102, 103, 104, 105, 106, 107, 108, 109, 110, 111, 112, 113, 114, 115, 116, 117, 118, 119, 120, 121, 122]⟩ : ByteArray)[k]'h = hexD k := by
  intro h
  have : k = 0 ∨ k = 1 ∨ k = 2 ∨ k = 3 ∨ k = 4 ∨ k = 5 ∨ k = 6 ∨ k = 7 ∨ k = 8 ∨ k = 9 ∨ k = 10 ∨ k = 11 ∨ k = 12 ∨ k = 13 ∨ k = 14 ∨ k = 15 := by omega
  rcases this with rfl | rfl | rfl | rfl | rfl | rfl | rfl | rfl | rfl | rfl | rfl | rfl | rfl | rfl | rfl | rfl <;> rfl
theorem and15 (v : Nat) (hv : v < 18446744073709551616) : bits BinOp.and IntKind.u64 (v : Int) 15 = ((v % 16 : Nat) : Int) := by
  have := bits_and_u64_nat v 15 hv (by decide)
  rw [show ((15 : Nat) : Int) = 15 from rfl] at this
  rw [this]
  congr 1
  exact Nat.and_two_pow_sub_one_eq_mod v 4
theorem hexL_big {v : Nat} (h : 16 ≤ v) : hexL v = hexL (v / 16) ++ [hexD (v % 16)] := by
  rw [hexL]; rw [dif_neg (by omega)]
theorem hexL_small {v : Nat} (h : v < 16) : hexL v = [hexD v] := by
  rw [hexL]; rw [dif_pos h]
theorem hexL_pos (u : Nat) : 1 ≤ (hexL u).length := by
  rw [hexL]; split <;> simp
theorem strOfNums_map (l : List UInt8) : strOfNums (l.map fun b => (b.toNat : Int)) = ⟨l.toArray⟩ := by
  simp only [strOfNums, List.map_map]
  congr 2
  conv => rhs; rw [← List.map_id l]
  apply List.map_congr_left
  intro b _
  simp
theorem drop_set (Cs : Array Value) (n : Nat) (x : Value) (hn : n < Cs.size) : (Cs.setIfInBounds n x).toList.drop n = x :: Cs.toList.drop (n + 1) := by
  rw [Array.toList_setIfInBounds, List.drop_set]
  rw [if_neg (by omega), Nat.sub_self, List.drop_eq_getElem_cons (by simpa using hn), List.set_cons_zero]
theorem len_bound {L : Nat} {v u0 : Nat} (hu : u0 < 18446744073709551616) (hv : 1 ≤ v) (h : v * 16 ^ L ≤ u0) : L < 16 := by
  rcases Nat.lt_or_ge L 16 with h1 | h1
  · exact h1
  · exfalso
    have h2 : 16 ^ 16 ≤ 16 ^ L := Nat.pow_le_pow_right (by omega) h1
    have h3 : 16 ^ L ≤ v * 16 ^ L := Nat.le_mul_of_pos_left _ hv
    have h4 : (16 : Nat) ^ 16 = 18446744073709551616 := by decide
    omega
set_option maxHeartbeats 4000000 in
set_option maxRecDepth 100000 in
theorem formatBits16 (u0 : Nat) (hu : u0 < 18446744073709551616) (w : World) (h : w.cell? ⟨9, 15, none⟩ = some (.int .u8 4)) :
    Calls Tryz.prog 145 #[.slice none 0 0, .int .u64 u0, .int .i64 16, .bool false, .bool false] w
      fun e w' => e = .returned (.tuple #[.slice none 0 0, .string ⟨(hexL u0).toArray⟩]) ∧ Below w.heap.size w w' := by
  go_enter Tryz.func145, Tryz.ntmps145
  go_wp2_with (first | (go_at_call 158; refine (isPow16 _).mono ?_; rintro e w' ⟨rfl, rfl⟩) | (go_at_call 159; refine (tz16 _ (pw_cell_below (by repeat (first | exact Below.refl _ _ | apply below_alloc | apply pw_below_drewN)) h)).mono ?_; rintro e w' ⟨rfl, rfl⟩))
  go_loopw [1, 13] (fun u i wr => ∃ (v n : Nat) (Cs : Array Value) (L : List UInt8), u = .int .u64 v ∧ i = .int .i64 n ∧ v < 18446744073709551616 ∧ n ≤ 65 ∧ Aside0 (1 ≤ v ∨ L = []) ∧ Aside0 (n + L.length = 65) ∧ Aside0 (Cs.size = 65) ∧ Aside0 (Cs.toList.drop n = L.map (fun b => .int .u8 (b.toNat : Int))) ∧ Aside0 (hexL u0 = hexL v ++ L) ∧ Aside0 (v * 16 ^ L.length ≤ u0) ∧ Aside0 (wr.heap[w.heap.size]? = some (.cells Cs 251 (0, 0))) ∧ Aside0 (Below w.heap.size w wr)) (fun u _ _ => (intOf u).toNat)
  case atStart =>
    refine ⟨u0, 65, _, [], rfl, rfl, hu, by omega, ⟨.inr rfl⟩, ⟨rfl⟩, ⟨?_⟩, ⟨?_⟩, ⟨by simp⟩, ⟨by simp⟩, ⟨by simpa using heap_alloc_new w _⟩, ⟨below_alloc (Below.refl _ _) _⟩⟩
    · rfl
    · rfl
  case round =>
    obtain ⟨v, n, Cs, L, rfl, rfl, hv, hn, H1, HN, HC, HD, HE, HM, HB, HW⟩ := hrel
    have hx := and15 v hv
    have hL2 : L.length < 16 := by
      rcases H1.out with h1 | h1
      · exact len_bound hu h1 HM.out
      · rw [h1]; decide
    have hn1 : (1 : Int) ≤ (n : Int) := by have := HN.out; omega
    have hn2 : (n : Int) - 1 < 65 := by omega
    obtain ⟨cv, hc⟩ : ∃ cv, wr.cell? ⟨w.heap.size, n - 1, none⟩ = some cv := ⟨Cs[n - 1]'(by have := HC.out; omega), by rw [blk_cell HB.out]; exact Array.getElem?_eq_getElem _⟩
    have hf : wr.frozen? ⟨w.heap.size, n - 1, none⟩ = false := blk_frozen HB.out _
    have hm0 : (0 : Int) ≤ ((v % 16 : Nat) : Int) := by omega
    have hm1 : ((v % 16 : Nat) : Int) < 36 := by omega
    by_cases hge : 16 ≤ v
    · go_wp2_with fail
      refine ⟨⟨v / 16, n - 1, Cs.setIfInBounds (n - 1) (.int .u8 ((hexD (v % 16)).toNat : Int)), hexD (v % 16) :: L, ?_, ?_, by omega, by omega, ⟨.inl (by omega)⟩, ⟨?_⟩, ⟨?_⟩, ⟨?_⟩, ⟨?_⟩, ⟨?_⟩, ⟨?_⟩, ⟨?_⟩⟩, ?_⟩
      · rfl
      · congr 1; omega
      · have := HN.out; simp only [List.length_cons]; omega
      · rw [Array.size_setIfInBounds]; exact HC.out
      · rw [drop_set _ _ _ (by have := HC.out; omega), show n - 1 + 1 = n by omega, HD.out]; rfl
      · rw [HE.out, hexL_big hge]; simp
      · rw [List.length_cons, Nat.pow_succ]
        have h1 : v / 16 * (16 ^ L.length * 16) = (v / 16 * 16) * 16 ^ L.length := by rw [Nat.mul_comm (16 ^ L.length) 16, ← Nat.mul_assoc]
        rw [h1]
        exact Nat.le_trans (Nat.mul_le_mul_right _ (Nat.div_mul_le_self v 16)) HM.out
      · rw [digits_at _ (by omega)]
        exact blk_set HB.out _ _
      · exact below_set HW.out (Nat.le_refl _)
      · simp [intOf]; omega
    · have hv2 : (v : Int) < 36 := by omega
      have hv3 : decide ((16 : Int) ≤ (v : Int)) = false := decide_eq_false (by omega)
      go_upto_if 94 with (fail)
      go_cut [10, 13] (fun d i wc => d = .slice none 0 0 ∧ ∃ (n : Nat) (Cs : Array Value), i = .int .i64 n ∧ Aside0 (n + (hexL u0).length = 65) ∧ Aside0 (Cs.size = 65) ∧ Aside0 (Cs.toList.drop n = (hexL u0).map (fun b => .int .u8 (b.toNat : Int))) ∧ Aside0 (wc.heap[w.heap.size]? = some (.cells Cs 251 (0, 0))) ∧ Aside0 (Below w.heap.size w wc))
      case first =>
        go_wp2_with fail
        go_meet
        refine ⟨rfl, n - 1, Cs.setIfInBounds (n - 1) (.int .u8 ((hexD v).toNat : Int)), ?_, ⟨?_⟩, ⟨?_⟩, ⟨?_⟩, ⟨?_⟩, ⟨?_⟩⟩
        · congr 1; omega
        · have := HN.out; rw [HE.out, hexL_small (by omega)]; simp only [List.length_append, List.length_cons, List.length_nil]; omega
        · rw [Array.size_setIfInBounds]; exact HC.out
        · rw [drop_set _ _ _ (by have := HC.out; omega), show n - 1 + 1 = n by omega, HD.out, HE.out, hexL_small (by omega)]; rfl
        · rw [digits_at _ (by omega)]
          exact blk_set HB.out _ _
        · exact below_set HW.out (Nat.le_refl _)
      case rest =>
        obtain ⟨rfl, n', Cs', rfl, HN', HC', HD', HB', HW'⟩ := hcut
        have hpos := hexL_pos u0
        have hn' : n' ≤ 64 := by have := HN'.out; omega
        have hlen : (hexL u0).length = 65 - n' := by have := HN'.out; omega
        have hs : (Instr.sliceAt 251 (.pointer (some ⟨w.heap.size, 0, none⟩)) (some (.int .i64 (n' : Int))) none none).run Tryz.prog wc = .ok (.slice (some ⟨w.heap.size, n', none⟩) (65 - n') (65 - n')) wc := by
          rw [run_sliceAt_array_l (P := Tryz.prog) wc 251 ⟨w.heap.size, 0, none⟩ rfl .i64 n' (by omega) (by show (n':Int) ≤ 65; omega)]
          have h1 : (sizeOf (Tryz.prog.elem 251)).run Tryz.prog wc = .ok 1 wc := rfl
          rw [h1]
          have h2 : Tryz.prog.arrayLen 251 = 65 := rfl
          show Result.ok (slicedAt _ _ _ _ _) _ = _
          rw [slicedAt, h2, if_neg (by omega)]
          simp [Addr.add]
          exact fun h => h.symm
        have hcell : ∀ i, i < 65 - n' → wc.cell? ⟨w.heap.size, n' + i, none⟩ = some (.int .u8 (((hexL u0).map fun b => (b.toNat : Int)).getD i 0)) := by
          intro i hi
          rw [blk_cell HB'.out]
          have h1 : Cs'[n' + i]? = (Cs'.toList.drop n')[i]? := by simp
          rw [h1, HD'.out]
          rw [List.getElem?_map, List.getD_eq_getElem?_getD, List.getElem?_map, List.getElem?_eq_getElem (by omega)]
          rfl
        have hcv := run_convert_bytes_arg (P := Tryz.prog) (w := wc) 162 5 rfl rfl w.heap.size n' (65 - n') (65 - n') ((hexL u0).map fun b => (b.toNat : Int)) (by simp [hlen]) hcell 9 rfl
        rw [strOfNums_map] at hcv
        go_wp2_with fail
        go_ret2
        exact ⟨rfl, HW'.out⟩
theorem VarsOK.below {w w' : World} (h : VarsOK w) (hb : Below w.heap.size w w') : VarsOK w' := by
  obtain ⟨h1, ⟨te, pe, h2⟩, ⟨te', pe', h3⟩, h4, h5, h6⟩ := h
  exact ⟨pw_cell_below hb h1, ⟨te, pe, pw_cell_below hb h2⟩, ⟨te', pe', pw_cell_below hb h3⟩, fun c hc => pw_cell_below hb (h4 c hc), Utf8Tabs_below h5 hb, WhiteTab_below h6 hb⟩
set_option maxHeartbeats 4000000 in
theorem formatIntI16 (a : Int) (h0 : 0 ≤ a) (h1 : a < 9223372036854775808) (w : World) (hV : VarsOK w) :
    Calls Tryz.prog 132 #[.int .i64 a, .int .i64 16] w
      fun e w' => e = .returned (.string ⟨(hexL a.toNat).toArray⟩) ∧ Below w.heap.size w w' := by
  obtain ⟨n, rfl⟩ := Int.eq_ofNat_of_zero_le h0
  have hf := formatBits16 n (by omega) w hV.tz
  go_enter Tryz.func132, Tryz.ntmps132
  have hd : decide ((n : Int) < 0) = false := decide_eq_false (by omega)
  go_wp2_with (go_at_call 145; (try rw [hd]); refine hf.mono ?_; rintro e w' ⟨rfl, hb⟩)
  go_ret
  exact ⟨rfl, hb⟩
set_option maxHeartbeats 4000000 in
theorem formatInt16 (a : Int) (h0 : 0 ≤ a) (h1 : a < 9223372036854775808) (w : World) (hV : VarsOK w) :
    Calls Tryz.prog 115 #[.int .i64 a, .int .i64 16] w
      fun e w' => e = .returned (.string ⟨(hexL a.toNat).toArray⟩) ∧ Below w.heap.size w w' := by
  have hf := formatIntI16 a h0 h1 w hV
  go_enter Tryz.func115, Tryz.ntmps115
  go_wp2_with (go_at_call 132; refine hf.mono ?_; rintro e w' ⟨rfl, hb⟩)
  go_ret
  exact ⟨rfl, hb⟩
def padL (k : Nat) (l : List UInt8) : List UInt8 := List.replicate (k - l.length) 48 ++ l
def hex6 (a : Int) : ByteArray := if a < 0 then ⟨(45 :: padL 5 (hexL (-a).toNat)).toArray⟩ else ⟨(padL 6 (hexL a.toNat)).toArray⟩
theorem hexL_len (u : Nat) (h : u < 18446744073709551616) : (hexL u).length ≤ 16 := by
  have key : ∀ k u, u < 16 ^ (k + 1) → (hexL u).length ≤ k + 1 := by
    intro k
    induction k with
    | zero => intro u h; rw [hexL_small (by omega)]; simp
    | succ k ih =>
      intro u h
      rcases Nat.lt_or_ge u 16 with h1 | h1
      · rw [hexL_small h1]; simp
      · rw [hexL_big h1]
        have := ih (u / 16) (by rw [Nat.pow_succ] at h; omega)
        simp; omega
  exact key 15 u (by have h4 : (16 : Nat) ^ (15 + 1) = 18446744073709551616 := by decide
                     omega)
theorem bytes_eq {a b : ByteArray} (h : a.data.toList = b.data.toList) : a = b := by
  cases a; cases b; simp only at h; congr 1; exact Array.toList_inj.1 h
theorem padL_step {k : Nat} {l : List UInt8} (h : l.length < k) : padL k (48 :: l) = padL k l := by
  unfold padL
  rw [List.length_cons, show k - l.length = (k - (l.length + 1)) + 1 by omega, List.replicate_succ']
  simp
theorem padL_done {k : Nat} {l : List UInt8} (h : k ≤ l.length) : padL k l = l := by
  unfold padL
  rw [Nat.sub_eq_zero_of_le h]; simp
set_option maxHeartbeats 4000000 in
theorem zzHex6 (a : Int) (h0 : -9223372036854775808 < a) (h1 : a < 9223372036854775808) (w : World) (hV : VarsOK w) :
    Calls Tryz.prog 87 #[.int .i64 a] w
      fun e w' => e = .returned (.string (hex6 a)) ∧ Below w.heap.size w w' := by
  go_enter Tryz.func87, Tryz.ntmps87
  by_cases hn : a < 0
  · have hf := formatInt16 (-a) (by omega) (by omega) w hV
    go_wp2_with (go_at_call 115; refine hf.mono ?_; rintro e w' ⟨rfl, hb⟩)
    go_loopw [3] (fun s wr => ∃ (L : List UInt8), s = .string ⟨L.toArray⟩ ∧ Aside0 (padL 5 L = padL 5 (hexL (-a).toNat)) ∧ L.length ≤ 20 ∧ Aside0 (Below w.heap.size w wr)) (fun s _ => 5 - (match s with | .string b => b.size | _ => 0))
    case atStart => exact ⟨_, rfl, ⟨rfl⟩, by have := hexL_len (-a).toNat (by omega); omega, ⟨hb⟩⟩
    case round =>
      obtain ⟨L, rfl, hP, hL, hB⟩ := hrel
      have hsz : (⟨L.toArray⟩ : ByteArray).size = L.length := rfl
      have hcat : (⟨#[48]⟩ : ByteArray) ++ ⟨L.toArray⟩ = ⟨(48 :: L).toArray⟩ := bytes_eq (by simp)
      by_cases hl : L.length < 5
      · have hl' : (L.length : Int) < 5 := by omega
        go_wp2_with fail
        refine ⟨⟨48 :: L, rfl, ⟨(padL_step hl).trans hP.out⟩, by simp; omega, hB⟩, ?_⟩
        show 5 - (⟨(48 :: L).toArray⟩ : ByteArray).size < 5 - (⟨L.toArray⟩ : ByteArray).size
        have hsz2 : (⟨(48 :: L).toArray⟩ : ByteArray).size = L.length + 1 := rfl
        rw [hsz, hsz2]; omega
      · have hl' : ¬ (L.length : Int) < 5 := by omega
        go_wp2_with fail
        go_ret
        refine ⟨?_, hB.out⟩
        rw [hex6, if_pos hn, ← hP.out, padL_done (by omega)]
        exact congrArg (fun z => Ending.returned (.string z)) (bytes_eq (by simp))
  · have hf := formatInt16 a (by omega) (by omega) w hV
    go_wp2_with (go_at_call 115; refine hf.mono ?_; rintro e w' ⟨rfl, hb⟩)
    go_loopw [4] (fun s wr => ∃ (L : List UInt8), s = .string ⟨L.toArray⟩ ∧ Aside0 (padL 6 L = padL 6 (hexL a.toNat)) ∧ L.length ≤ 20 ∧ Aside0 (Below w.heap.size w wr)) (fun s _ => 6 - (match s with | .string b => b.size | _ => 0))
    case atStart => exact ⟨_, rfl, ⟨rfl⟩, by have := hexL_len a.toNat (by omega); omega, ⟨hb⟩⟩
    case round =>
      obtain ⟨L, rfl, hP, hL, hB⟩ := hrel
      have hsz : (⟨L.toArray⟩ : ByteArray).size = L.length := rfl
      have hcat : (⟨#[48]⟩ : ByteArray) ++ ⟨L.toArray⟩ = ⟨(48 :: L).toArray⟩ := bytes_eq (by simp)
      by_cases hl : L.length < 6
      · have hl' : (L.length : Int) < 6 := by omega
        go_wp2_with fail
        refine ⟨⟨48 :: L, rfl, ⟨(padL_step hl).trans hP.out⟩, by simp; omega, hB⟩, ?_⟩
        show 6 - (⟨(48 :: L).toArray⟩ : ByteArray).size < 6 - (⟨L.toArray⟩ : ByteArray).size
        have hsz2 : (⟨(48 :: L).toArray⟩ : ByteArray).size = L.length + 1 := rfl
        rw [hsz, hsz2]; omega
      · have hl' : ¬ (L.length : Int) < 6 := by omega
        go_wp2_with fail
        go_ret
        refine ⟨?_, hB.out⟩
        rw [hex6, if_neg (by omega), ← hP.out, padL_done (by omega)]
        rfl
end Go.Proofs.YtjemdgmihbmgeaaGreatDoorFmt
