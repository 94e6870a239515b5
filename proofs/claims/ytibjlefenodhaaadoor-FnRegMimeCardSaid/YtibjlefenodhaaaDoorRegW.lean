/- laws.turned, walked at texts of small letters. -/
import Derived.Test.YtibjlefenodhaaaDoorRegK
import Derived.Lib.ConvBytes
set_option linter.unusedVariables false
set_option linter.unusedSimpArgs false
namespace Go.Proofs.YtibjlefenodhaaaDoorReg
open Go.RowKit Go.Proofs.YtibjlefenodhaaaDoorW.PrintWords Go.Proofs.YtibjlefenodhaaaDoorW.PrintLast Go.Proofs.YtibjlefenodhaaaDoorW.PrintMore Go.Proofs.YtibjlefenodhaaaDoor.T Go.Proofs.YtibjlefenodhaaaDoorFmt Go.Proofs.YtibjlefenodhaaaDoorMapI
attribute [local go_sem] max2_int min2_int max_two min_two
/-- Byte j, and what it is turned to. -/
def sj (s : ByteArray) (j : Nat) : Nat := (s.data.toList.getD j 0).toNat
def xj (s : ByteArray) (l : List Bool) (k j : Nat) : Int := if j < k ∧ l.getD j false = true then (sj s j : Int) - 32 else (sj s j : Int)
def turnI (s : ByteArray) (l : List Bool) (k : Nat) : List Int := (List.range s.size).map fun j => xj s l k j
theorem or_c (n : Nat) (h : 97 ≤ n) (h2 : n ≤ 122) : bits .or .u8 (n : Int) 32 = (n : Int) := by
  obtain ⟨k, rfl⟩ : ∃ k, n = 97 + k := ⟨n - 97, by omega⟩
  have key : ∀ k : Fin 26, bits .or .u8 ((97 + k.val : Nat) : Int) 32 = ((97 + k.val : Nat) : Int) := by decide
  exact key ⟨k, by omega⟩
theorem xor_c (n : Nat) (h : 97 ≤ n) (h2 : n ≤ 122) : bits .xor .u8 (n : Int) 32 = (n : Int) - 32 := by
  obtain ⟨k, rfl⟩ : ∃ k, n = 97 + k := ⟨n - 97, by omega⟩
  have key : ∀ k : Fin 26, bits .xor .u8 ((97 + k.val : Nat) : Int) 32 = ((97 + k.val : Nat) : Int) - 32 := by decide
  exact key ⟨k, by omega⟩
structure TuAt (s : ByteArray) (l : List Bool) (k g : Nat) (w wr : World) : Prop where
  h : ∃ cs lo hi, wr.heap[g]? = some (.cells cs 5 (lo, hi)) ∧ s.size ≤ lo ∧ ∀ j, j < s.size → cs[j]? = some (.int .u8 (xj s l k j))
  b : Below w.heap.size w wr
theorem cellF {w : World} {g lo hi : Nat} {t : TypeId} {cs : Array Value} (h : w.heap[g]? = some (.cells cs t (lo, hi))) (j : Nat) : w.cell? ⟨g, j, none⟩ = cs[j]? := cell_of_row w g j cs t (lo, hi) h
theorem frozenF {w : World} {g lo hi : Nat} {t : TypeId} {cs : Array Value} (h : w.heap[g]? = some (.cells cs t (lo, hi))) {j : Nat} (hj : j < lo) : w.frozen? ⟨g, j, none⟩ = false := by
  simp only [World.frozen?, h]
  simp; omega
theorem putF {w : World} {g lo hi : Nat} {t : TypeId} {cs : Array Value} (h : w.heap[g]? = some (.cells cs t (lo, hi))) (j : Nat) (v : Value) : (w.setCell ⟨g, j, none⟩ v).heap[g]? = some (.cells (cs.setIfInBounds j v) t (lo, hi)) := by
  unfold World.setCell
  simp [Array.getElem?_modify, h]
theorem xj_succ (s : ByteArray) (l : List Bool) (k j : Nat) (h : j ≠ k ∨ l.getD k false = false) : xj s l (k + 1) j = xj s l k j := by
  unfold xj
  by_cases h1 : j < k
  · have h2 : j < k + 1 := by omega
    simp only [h1, h2, true_and]
  · have e : ¬ (j < k ∧ l.getD j false = true) := fun h => h1 h.1
    have e2 : ¬ (j < k + 1 ∧ l.getD j false = true) := fun h3 => by
      rcases h with h | h
      · omega
      · have : j = k := by omega
        rw [this, h] at h3
        exact absurd h3.2 (by decide)
    rw [if_neg e, if_neg e2]
theorem blk_ltF {w : World} {g : Nat} {o : Obj} (h : w.heap[g]? = some o) : g < w.heap.size := (Array.getElem?_eq_some_iff.1 h).1
theorem TuAt.same {s : ByteArray} {l : List Bool} {k g : Nat} {w wr : World} (h : TuAt s l k g w wr) (hb : l.getD k false = false) : TuAt s l (k + 1) g w wr := by
  obtain ⟨cs, lo, hi, h1, h2, h3⟩ := h.h
  exact ⟨⟨cs, lo, hi, h1, h2, fun j hj => by rw [xj_succ s l k j (.inr hb)]; exact h3 j hj⟩, h.b⟩
theorem TuAt.put {s : ByteArray} {l : List Bool} {k g : Nat} {w wr : World} (h : TuAt s l k g w wr) (hk : k < s.size) (hg : w.heap.size ≤ g) (hb : l.getD k false = true) : TuAt s l (k + 1) g w (wr.setCell ⟨g, k, none⟩ (.int .u8 ((sj s k : Int) - 32))) := by
  obtain ⟨cs, lo, hi, h1, h2, h3⟩ := h.h
  refine ⟨⟨_, lo, hi, putF h1 k _, h2, fun j hj => ?_⟩, h.b.setCell (p := ⟨g, k, none⟩) hg _⟩
  by_cases e : j = k
  · subst e
    have hlt : j < cs.size := (Array.getElem?_eq_some_iff.1 (h3 j hj)).1
    rw [Array.getElem?_setIfInBounds, if_pos rfl, if_pos hlt]
    unfold xj
    rw [if_pos ⟨by omega, hb⟩]
  · rw [Array.getElem?_setIfInBounds, if_neg (fun h => e h.symm), xj_succ s l k j (.inl e)]
    exact h3 j hj
theorem TuAt.row {s : ByteArray} {l : List Bool} {k g : Nat} {w wr : World} (h : TuAt s l k g w wr) (hz : s.size ≤ 20) : (Kd.int .u8).C wr (some ⟨g, 0, none⟩) s.size (turnI s l k) := by
  obtain ⟨cs, lo, hi, h1, h2, h3⟩ := h.h
  have hlen : (turnI s l k).length = s.size := by unfold turnI; simp
  refine ⟨hlen, by omega, fun _ => ⟨_, rfl, fun j p hj => ⟨[.int .u8 p], rfl, rfl, fun i u hu => ?_⟩⟩⟩
  have hjn : j < s.size := by have := (List.getElem?_eq_some_iff.1 hj).1; omega
  have hi0 : i = 0 := by
    have := (List.getElem?_eq_some_iff.1 hu).1
    simp at this
    exact this
  subst hi0
  have hu' : u = .int .u8 p := by simpa using hu.symm
  rw [hu', addr_at, cellF h1]
  show cs[0 + (j * 1 + 0)]? = _
  rw [show 0 + (j * 1 + 0) = j by omega, h3 j hjn]
  unfold turnI at hj
  rw [List.getElem?_map, List.getElem?_range hjn] at hj
  simp at hj
  rw [hj]
theorem bw_below (w : World) (e : TypeId) (s : ByteArray) : Below w.heap.size w (Go.Lib.bytesWorld w e s) :=
  ⟨rfl, rfl, rfl, by rw [Go.Lib.bytesWorld_size]; omega, fun k hk => Go.Lib.bytesWorld_at_old w e s k hk⟩
set_option maxRecDepth 100000 in
set_option maxHeartbeats 8000000 in
theorem turned_c (s : ByteArray) (A : Option Addr) (c : Nat) (l : List Bool) (w : World) (hs : Low s) (hz : s.size ≤ 20) (hC : Kd.bool.C w A l.length l) (hl : l.length ≤ 2147483647) :
    Calls Tryd.prog 9 #[.string s, .slice A l.length c] w fun e w' => e = .returned (.string (strOfNums (turnI s l (min s.size l.length)))) ∧ Below w.heap.size w w' := by
  have hcv := Go.Lib.run_convert_string_bytes (P := Tryd.prog) w 9 48 5 s Tryd.underlying9 Tryd.underlying48 Tryd.underlying5
  have HC := Aside0.mk hC
  have T0 : Aside0 (TuAt s l 0 w.heap.size w (Go.Lib.bytesWorld w 5 s)) := ⟨⟨⟨_, _, _, Go.Lib.bytesWorld_at_new w _ s, by simp [Go.Lib.bytesCells], fun j hj => by
      have := Go.Lib.bytesWorld_cell w 5 s j hj
      rw [cellF (Go.Lib.bytesWorld_at_new w _ s)] at this
      rw [this]
      simp [xj, sj]⟩, bw_below w _ s⟩⟩
  obtain ⟨W, hW⟩ : ∃ W, W = Go.Lib.bytesWorld w 5 s := ⟨_, rfl⟩
  rw [← hW] at hcv T0
  clear hW
  obtain ⟨cp, hcp⟩ : ∃ cp, cp = grownCap w s.size 0 5 := ⟨_, rfl⟩
  rw [← hcp] at hcv
  clear hcp hC
  obtain ⟨g, hg⟩ : ∃ g, g = w.heap.size := ⟨_, rfl⟩
  rw [← hg] at hcv T0
  have HG := Aside0.mk hg
  have HS : Aside0 (∀ k, k < s.size → 97 ≤ sj s k ∧ sj s k ≤ 122) := ⟨fun k hk => by
    unfold sj
    rw [List.getD_eq_getElem?_getD, List.getElem?_eq_getElem (by rw [Array.length_toList]; exact hk)]
    exact hs.lo _ (List.getElem_mem _)⟩
  clear hg hs
  have HLz := Aside0.mk (And.intro hz hl)
  rcases Nat.lt_or_ge l.length s.size with hml | hml
  · have hml2 : (l.length : Int) < (s.size : Int) := by omega
    have HM : Aside0 (min s.size l.length = l.length) := ⟨by omega⟩
    go_enter Tryd.func9, Tryd.ntmps9
    go_wp2
    clear hcv
    go_loopg [15] (l.length + 1) (fun kq v15 wr => ∃ k : Nat, v15 = .int .i64 (k : Int) ∧ Aside0 (k ≤ l.length ∧ l.length - k < kq) ∧ Aside0 (TuAt s l k g w wr))
    case atStart => exact ⟨0, rfl, ⟨by omega, by omega⟩, T0⟩
    case round =>
      obtain ⟨k, rfl, HK, HT⟩ := hrel
      cases gk with
      | zero => have := HK.out; omega
      | succ k1 =>
        have hk20 : k ≤ 20 := by have := HK.out; have := HLz.out; omega
        by_cases hlt : k < l.length
        · have hks : k < s.size := by omega
          have hkl : k < l.length := by omega
          have d1 : decide ((k : Int) < (l.length : Int)) = true := decide_eq_true (by omega)
          have d2 : decide (k < l.length) = true := decide_eq_true hlt
          have hk0 : (0 : Int) ≤ (k : Int) := by omega
          have hki : (k : Int) < (s.size : Int) := by omega
          have hkj : (k : Int) < (l.length : Int) := by omega
          obtain ⟨ad, e, hb0⟩ := Kd.at_bool (Kd.C_below HC.out HT.out.b) (k : Int) hk0 hkj
          cases e
          rw [Int.toNat_natCast] at hb0
          have hbl := World.block_lt_of_cell? wr _ hb0
          have hrd : rdOf false l (k : Int) = l.getD k false := by simp [rdOf]
          rw [hrd] at hb0
          obtain ⟨cs, lo, hi, h1, h2, h3⟩ := HT.out.h
          have c0 : wr.cell? ⟨g, k, none⟩ = some (.int .u8 (sj s k : Int)) := by
            rw [cellF h1, h3 k hks]
            unfold xj
            rw [if_neg (fun h => by omega)]
          have f0 : wr.frozen? ⟨g, k, none⟩ = false := frozenF h1 (by omega)
          have lg := blk_ltF h1
          have hor := or_c (sj s k) (HS.out k hks).1 (HS.out k hks).2
          have hxor := xor_c (sj s k) (HS.out k hks).1 (HS.out k hks).2
          have b1 : decide ((97 : Int) ≤ (sj s k : Int)) = true := decide_eq_true (by have := (HS.out k hks).1; omega)
          have b2 : decide (97 ≤ sj s k) = true := decide_eq_true (HS.out k hks).1
          have b3 : decide ((sj s k : Int) ≤ 122) = true := decide_eq_true (by have := (HS.out k hks).2; omega)
          have b4 : decide (sj s k ≤ 122) = true := decide_eq_true (HS.out k hks).2
          have HP : Aside0 (l.getD k false = true → TuAt s l (k + 1) g w (wr.setCell ⟨g, k, none⟩ (.int .u8 ((sj s k : Int) - 32)))) := ⟨fun hb => HT.out.put hks (by have := HG.out; omega) hb⟩
          have HQ : Aside0 (l.getD k false = false → TuAt s l (k + 1) g w wr) := ⟨fun hb => HT.out.same hb⟩
          clear h1 h2 h3 hlt hrd
          cases hlb : l.getD k false
          · have HF := Aside0.mk (HQ.out hlb)
            rw [hlb] at hb0
            clear hlb hks hkl
            go_wp2
            go_roundg k1
            case measure => omega
            case rel => exact ⟨k + 1, by first | rfl | (rw [Int.natCast_add]; rfl), ⟨by have := of_decide_eq_true d2; omega, by have := HK.out; have := of_decide_eq_true d2; omega⟩, HF⟩
          · have HF := Aside0.mk (HP.out hlb)
            rw [hlb] at hb0
            generalize sj s k = n at *
            clear hlb hks hkl
            go_wp2
            go_roundg k1
            case measure => omega
            case rel => exact ⟨k + 1, by first | rfl | (rw [Int.natCast_add]; rfl), ⟨by have := of_decide_eq_true d2; omega, by have := HK.out; have := of_decide_eq_true d2; omega⟩, HF⟩
        · have d1 : decide ((k : Int) < (l.length : Int)) = false := decide_eq_false (by omega)
          have d2 : decide (k < l.length) = false := decide_eq_false hlt
          have HKe : Aside0 (k = l.length) := ⟨by have := HK.out; omega⟩
          have hcs := Kd.C_string (P := Tryd.prog) (c := cp) Tryd.underlying48 Tryd.underlying5 Tryd.underlying9 (HT.out.row HLz.out.1)
          clear hlt
          go_wp2
          go_ret
          exact ⟨by rw [HM.out, ← HKe.out]; rfl, HT.out.b⟩
  · have hml2 : ¬ (l.length : Int) < (s.size : Int) := by omega
    have hml3 : ¬ l.length < s.size := by omega
    have HM : Aside0 (min s.size l.length = s.size) := ⟨by omega⟩
    go_enter Tryd.func9, Tryd.ntmps9
    go_wp2
    clear hcv
    go_loopg [15] (s.size + 1) (fun kq v15 wr => ∃ k : Nat, v15 = .int .i64 (k : Int) ∧ Aside0 (k ≤ s.size ∧ s.size - k < kq) ∧ Aside0 (TuAt s l k g w wr))
    case atStart => exact ⟨0, rfl, ⟨by omega, by omega⟩, T0⟩
    case round =>
      obtain ⟨k, rfl, HK, HT⟩ := hrel
      cases gk with
      | zero => have := HK.out; omega
      | succ k1 =>
        have hk20 : k ≤ 20 := by have := HK.out; have := HLz.out; omega
        by_cases hlt : k < s.size
        · have hks : k < s.size := by omega
          have hkl : k < l.length := by omega
          have d1 : decide ((k : Int) < (s.size : Int)) = true := decide_eq_true (by omega)
          have d2 : decide (k < s.size) = true := decide_eq_true hlt
          have hk0 : (0 : Int) ≤ (k : Int) := by omega
          have hki : (k : Int) < (s.size : Int) := by omega
          have hkj : (k : Int) < (l.length : Int) := by omega
          obtain ⟨ad, e, hb0⟩ := Kd.at_bool (Kd.C_below HC.out HT.out.b) (k : Int) hk0 hkj
          cases e
          rw [Int.toNat_natCast] at hb0
          have hbl := World.block_lt_of_cell? wr _ hb0
          have hrd : rdOf false l (k : Int) = l.getD k false := by simp [rdOf]
          rw [hrd] at hb0
          obtain ⟨cs, lo, hi, h1, h2, h3⟩ := HT.out.h
          have c0 : wr.cell? ⟨g, k, none⟩ = some (.int .u8 (sj s k : Int)) := by
            rw [cellF h1, h3 k hks]
            unfold xj
            rw [if_neg (fun h => by omega)]
          have f0 : wr.frozen? ⟨g, k, none⟩ = false := frozenF h1 (by omega)
          have lg := blk_ltF h1
          have hor := or_c (sj s k) (HS.out k hks).1 (HS.out k hks).2
          have hxor := xor_c (sj s k) (HS.out k hks).1 (HS.out k hks).2
          have b1 : decide ((97 : Int) ≤ (sj s k : Int)) = true := decide_eq_true (by have := (HS.out k hks).1; omega)
          have b2 : decide (97 ≤ sj s k) = true := decide_eq_true (HS.out k hks).1
          have b3 : decide ((sj s k : Int) ≤ 122) = true := decide_eq_true (by have := (HS.out k hks).2; omega)
          have b4 : decide (sj s k ≤ 122) = true := decide_eq_true (HS.out k hks).2
          have HP : Aside0 (l.getD k false = true → TuAt s l (k + 1) g w (wr.setCell ⟨g, k, none⟩ (.int .u8 ((sj s k : Int) - 32)))) := ⟨fun hb => HT.out.put hks (by have := HG.out; omega) hb⟩
          have HQ : Aside0 (l.getD k false = false → TuAt s l (k + 1) g w wr) := ⟨fun hb => HT.out.same hb⟩
          clear h1 h2 h3 hlt hrd
          cases hlb : l.getD k false
          · have HF := Aside0.mk (HQ.out hlb)
            rw [hlb] at hb0
            clear hlb hks hkl
            go_wp2
            go_roundg k1
            case measure => omega
            case rel => exact ⟨k + 1, by first | rfl | (rw [Int.natCast_add]; rfl), ⟨by have := of_decide_eq_true d2; omega, by have := HK.out; have := of_decide_eq_true d2; omega⟩, HF⟩
          · have HF := Aside0.mk (HP.out hlb)
            rw [hlb] at hb0
            generalize sj s k = n at *
            clear hlb hks hkl
            go_wp2
            go_roundg k1
            case measure => omega
            case rel => exact ⟨k + 1, by first | rfl | (rw [Int.natCast_add]; rfl), ⟨by have := of_decide_eq_true d2; omega, by have := HK.out; have := of_decide_eq_true d2; omega⟩, HF⟩
        · have d1 : decide ((k : Int) < (s.size : Int)) = false := decide_eq_false (by omega)
          have d2 : decide (k < s.size) = false := decide_eq_false hlt
          have HKe : Aside0 (k = s.size) := ⟨by have := HK.out; omega⟩
          have hcs := Kd.C_string (P := Tryd.prog) (c := cp) Tryd.underlying48 Tryd.underlying5 Tryd.underlying9 (HT.out.row HLz.out.1)
          clear hlt
          go_wp2
          go_ret
          exact ⟨by rw [HM.out, ← HKe.out]; rfl, HT.out.b⟩
end Go.Proofs.YtibjlefenodhaaaDoorReg
