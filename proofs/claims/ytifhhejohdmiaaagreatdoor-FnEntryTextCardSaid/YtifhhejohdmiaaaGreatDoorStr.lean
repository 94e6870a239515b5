/- The reference's text of an entry: what the calls compute. -/
import Derived.Test.YtifhhejohdmiaaaGreatDoorQx1
import Derived.Test.YtifhhejohdmiaaaGreatDoorTxt
import Derived.Laws.EntriesVeiled
set_option linter.unusedVariables false
set_option linter.unusedSimpArgs false
namespace Go.Proofs.YtifhhejohdmiaaaGreatDoorEnt
open Go.RowKit Go.Shelf Go.Proofs.YtifhhejohdmiaaaGreatDoorW.PrintWords Go.Proofs.YtifhhejohdmiaaaGreatDoorFmt Go.Proofs.YtifhhejohdmiaaaGreatDoorMapI Go.Proofs.YtifhhejohdmiaaaGreatDoorFlt Go.Proofs.YtifhhejohdmiaaaGreatDoor Go.Proofs.YtifhhejohdmiaaaGreatDoor.Q
/-! ### the text under way -/
def addS (out t : ByteArray) : ByteArray := if (!out.toList.isEmpty) = true then out ++ ⟨#[32]⟩ ++ t else out ++ t
theorem addS_size (out t : ByteArray) : (addS out t).size ≤ out.size + 1 + t.size := by
  unfold addS
  split
  · rw [ByteArray.size_append, ByteArray.size_append]; exact Nat.le_refl _
  · rw [ByteArray.size_append]; omega
def StrAt (W : World) (B : Nat) (s : ByteArray) : Prop := W.heap[B]? = some (.cells #[.string s] 9 (0, 0))
theorem grown_set (w : World) (p : Addr) (v : Value) : w.grownBy (w.setCell p v) (some p.block) :=
  ⟨rfl, rfl, rfl, by rw [World.size_setCell]; exact Nat.le_refl _, fun k _ hne => Below.heap_setCell w p v k (fun e => hne (by rw [e]))⟩
set_option maxHeartbeats 1000000 in
theorem add_c (B : Nat) (out t : ByteArray) (w : World) (h : StrAt w B out) (h1 : out.size ≤ 100000) (h2 : t.size ≤ 100000) :
    Calls Tryz.prog 32 #[.string t, .pointer (some ⟨B, 0, none⟩)] w fun x w' => x = .returned (.tuple #[]) ∧ StrAt w' B (addS out t) ∧ w.grownBy w' (some B) := by
  unfold StrAt at h ⊢
  have c0 : w.cell? ⟨B, 0, none⟩ = some (.string out) := (blk_cell h 0).trans rfl
  have f0 := blk_frozen h 0
  have H := Aside0.mk h
  have lb := blk_lt h
  have ha : addS out t = if (!out.toList.isEmpty) = true then out ++ ⟨#[32]⟩ ++ t else out ++ t := rfl
  have HA := Aside0.mk ha
  clear h ha
  cases he : (!out.toList.isEmpty) with
  | true =>
    have HE := Aside0.mk he
    go_enter Tryz.func32, Tryz.ntmps32
    go_wp2
    go_end0
    have e := HA.out
    rw [if_pos HE.out] at e
    refine ⟨rfl, ?_, ?_⟩
    · rw [e]
      exact blk_put (blk_put H.out 0 _ rfl) 0 _ rfl
    · exact (grown_set _ _ _).andThen (grown_set _ _ _) (fun k e => by injection e with e; right; rw [e])
  | false =>
    have HE := Aside0.mk he
    go_enter Tryz.func32, Tryz.ntmps32
    go_wp2
    go_end0
    have e := HA.out
    rw [if_neg (by rw [HE.out]; decide)] at e
    exact ⟨rfl, by rw [e]; exact blk_put H.out 0 _ rfl, grown_set _ _ _⟩
/-- Block F has the closure that adds to block B's text. -/
def FunAt (W : World) (F B : Nat) : Prop := W.heap[F]? = some (.cells #[.func (.func 32) #[] #[.pointer (some ⟨B, 0, none⟩)]] 67 (0, 0))
def triS (n : Int) (t out : ByteArray) : ByteArray := if n = 1 then addS out t else if n = 2 then addS out (⟨#[110, 111]⟩ ++ t) else out
theorem triS_size (n : Int) (t out : ByteArray) : (triS n t out).size ≤ out.size + 3 + t.size := by
  unfold triS
  split
  · have := addS_size out t; omega
  · split
    · have := addS_size out (⟨#[110, 111]⟩ ++ t)
      rw [ByteArray.size_append] at this
      have e : (⟨#[110, 111]⟩ : ByteArray).size = 2 := rfl
      omega
    · omega
set_option maxHeartbeats 1000000 in
theorem yes_c (F B : Nat) (n : Int) (out t : ByteArray) (w : World) (h : StrAt w B out) (hF : FunAt w F B) (h1 : out.size ≤ 10000) (h2 : t.size ≤ 10000) :
    Calls Tryz.prog 33 #[.int .u8 n, .string t, .pointer (some ⟨F, 0, none⟩)] w fun x w' => x = .returned (.tuple #[]) ∧ StrAt w' B (triS n t out) ∧ w.grownBy w' (some B) := by
  have hFB : F ≠ B := blk_ne hF h (by decide)
  have c0 : w.cell? ⟨F, 0, none⟩ = some (.func (.func 32) #[] #[.pointer (some ⟨B, 0, none⟩)]) := (blk_cell hF 0).trans rfl
  have k1 := Aside0.mk (add_c B out t w h (by omega) (by omega))
  have k2 := Aside0.mk (add_c B out (⟨#[110, 111]⟩ ++ t) w h (by omega) (by rw [ByteArray.size_append]; have e : (⟨#[110, 111]⟩ : ByteArray).size = 2 := rfl; omega))
  have ht : triS n t out = if n = 1 then addS out t else if n = 2 then addS out (⟨#[110, 111]⟩ ++ t) else out := rfl
  have HT := Aside0.mk ht
  have HS := Aside0.mk h
  clear h hF ht
  by_cases n1 : n = 1
  · have q1 : (n == 1) = true := beq_iff_eq.2 n1
    have q2 : (n == 2) = false := beq_eq_false_iff_ne.2 (by omega)
    have N1 := Aside0.mk n1
    clear n1
    go_enter Tryz.func33, Tryz.ntmps33
    go_wp2_with (go_at_call 32; refine k1.out.mono ?_; rintro e w1 ⟨rfl, hs1, hg1⟩)
    go_end0
    have e := HT.out
    rw [if_pos N1.out] at e
    exact ⟨rfl, by rw [e]; exact hs1, hg1⟩
  · by_cases n2 : n = 2
    · have q1 : (n == 1) = false := beq_eq_false_iff_ne.2 n1
      have q2 : (n == 2) = true := beq_iff_eq.2 n2
      have N1 := Aside0.mk n1
      have N2 := Aside0.mk n2
      clear n1 n2
      go_enter Tryz.func33, Tryz.ntmps33
      go_wp2_with (go_at_call 32; refine k2.out.mono ?_; rintro e w1 ⟨rfl, hs1, hg1⟩)
      go_end0
      have e := HT.out
      rw [if_neg N1.out, if_pos N2.out] at e
      exact ⟨rfl, by rw [e]; exact hs1, hg1⟩
    · have q1 : (n == 1) = false := beq_eq_false_iff_ne.2 n1
      have q2 : (n == 2) = false := beq_eq_false_iff_ne.2 n2
      have N1 := Aside0.mk n1
      have N2 := Aside0.mk n2
      clear n1 n2
      go_enter Tryz.func33, Tryz.ntmps33
      go_wp2
      go_end0
      have e := HT.out
      rw [if_neg N1.out, if_neg N2.out] at e
      exact ⟨rfl, by rw [e]; exact HS.out, grown_of_below (Below.refl _ _) _⟩
theorem bt_hex : ∀ d : Nat, d < 16 → bt (⟨#[48, 49, 50, 51, 52, 53, 54, 55, 56, 57, 97, 98, 99, 100, 101, 102]⟩ : ByteArray) (d : Int) = ((hexD d).toNat : Int) := by decide +kernel
theorem cs_step (k m i : Nat) (L : List Int) (hm : m < 16777216) (hi : i + 1 < L.length) (hi2 : i < 100) :
    spec_ColourString.l0 (k + 1) (m : Int) L ((i + 1 : Nat) : Int) = spec_ColourString.l0 k ((m / 16 : Nat) : Int) (L.set (i + 1) ((hexD (m % 16)).toNat : Int)) (i : Int) := by
  have e1 : Int.tmod (m : Int) 16 = ((m % 16 : Nat) : Int) := by rw [Int.tmod_eq_emod_of_nonneg (by omega)]; omega
  have e2 : wrap64 (Int.tdiv (m : Int) 16) = ((m / 16 : Nat) : Int) := by rw [Int.tdiv_eq_ediv_of_nonneg (by omega)]; unfold wrap64; omega
  have e3 : wrap64 (((i + 1 : Nat) : Int) - 1) = (i : Int) := by unfold wrap64; omega
  rw [spec_ColourString.l0, if_pos (by omega), e1, e2, e3, if_pos (by omega), if_pos (by omega), if_pos (by omega), if_pos (by omega), bt_hex _ (Nat.mod_lt _ (by decide))]
  rfl
theorem cs_end (k m : Nat) (L : List Int) : spec_ColourString.l0 (k + 1) (m : Int) L ((0 : Nat) : Int) = some (strOfNums L, 1) := by
  rw [spec_ColourString.l0, if_neg (by omega)]
theorem cs_f (n : Nat) (hn : n < 16777216) : spec_ColourString.f 7 ((n : Int) + 1) = some (⟨(35 :: digs 6 n).toArray⟩, 1) := by
  unfold spec_ColourString.f spec_plain.f
  rw [if_pos (by omega), Option.bind_some, if_pos (by simp; omega)]
  have e : wrap64 (wrap64 ((n : Int) + 1) - 1) = (n : Int) := by unfold wrap64; omega
  rw [e, show (6 : Int) = ((5 + 1 : Nat) : Int) from rfl]
  rw [cs_step 6 n 5 _ hn (by decide) (by decide), show ((5 : Nat) : Int) = ((4 + 1 : Nat) : Int) from rfl, cs_step 5 (n / 16) 4 _ (by omega) (by simp) (by decide), show ((4 : Nat) : Int) = ((3 + 1 : Nat) : Int) from rfl, cs_step 4 (n / 16 / 16) 3 _ (by omega) (by simp) (by decide), show ((3 : Nat) : Int) = ((2 + 1 : Nat) : Int) from rfl, cs_step 3 (n / 16 / 16 / 16) 2 _ (by omega) (by simp) (by decide), show ((2 : Nat) : Int) = ((1 + 1 : Nat) : Int) from rfl, cs_step 2 (n / 16 / 16 / 16 / 16) 1 _ (by omega) (by simp) (by decide), show ((1 : Nat) : Int) = ((0 + 1 : Nat) : Int) from rfl, cs_step 1 (n / 16 / 16 / 16 / 16 / 16) 0 _ (by omega) (by simp) (by decide), cs_end]
  simp only [List.set_cons_succ, List.set_cons_zero, digs, List.nil_append, List.cons_append]
  exact congrArg some (congrArg (fun z => (z, (1 : Int))) (strOfNums_map [35, hexD (n / 16 / 16 / 16 / 16 / 16 % 16), hexD (n / 16 / 16 / 16 / 16 % 16), hexD (n / 16 / 16 / 16 % 16), hexD (n / 16 / 16 % 16), hexD (n / 16 % 16), hexD (n % 16)]))
theorem cstr_c (c : Int) (h : 1 ≤ c ∧ c ≤ 16777216) (w : World) : Calls Tryz.prog 35 #[.int .i32 c] w fun e w' => e = .returned (.tuple #[.string ⟨(35 :: digs 6 (c - 1).toNat).toArray⟩, .int .i64 1]) ∧ Below w.heap.size w w' := by
  obtain ⟨n, rfl⟩ : ∃ n : Nat, c = (n : Int) + 1 := ⟨(c - 1).toNat, by omega⟩
  rw [show ((n : Int) + 1 - 1).toNat = n by omega]
  exact spec_ColourString.calls 7 _ _ _ w (cs_f n (by omega))
def colS (p : ByteArray) (c : Int) (out : ByteArray) : ByteArray := if c = 0 then out else addS out (p ++ ⟨(35 :: digs 6 (c - 1).toNat).toArray⟩)
theorem dig_size (c : Int) : (⟨(35 :: digs 6 (c - 1).toNat).toArray⟩ : ByteArray).size = 7 := by
  show (35 :: digs 6 (c - 1).toNat).length = 7
  rw [List.length_cons, digs_len]
theorem colS_size (p : ByteArray) (c : Int) (out : ByteArray) : (colS p c out).size ≤ out.size + 8 + p.size := by
  unfold colS
  split
  · omega
  · have := addS_size out (p ++ ⟨(35 :: digs 6 (c - 1).toNat).toArray⟩)
    rw [ByteArray.size_append, dig_size] at this
    omega
set_option maxHeartbeats 1000000 in
theorem colour_c (F B : Nat) (p : ByteArray) (c : Int) (hc : colR c) (out : ByteArray) (w : World) (h : StrAt w B out) (hF : FunAt w F B) (h1 : out.size ≤ 10000) (h2 : p.size ≤ 10000) :
    Calls Tryz.prog 34 #[.string p, .int .i32 c, .pointer (some ⟨F, 0, none⟩)] w fun x w' => x = .returned (.tuple #[]) ∧ StrAt w' B (colS p c out) ∧ w.grownBy w' (some B) := by
  have hFB : F ≠ B := blk_ne hF h (by decide)
  have lF := blk_lt hF
  have hz := dig_size c
  have ht : colS p c out = if c = 0 then out else addS out (p ++ ⟨(35 :: digs 6 (c - 1).toNat).toArray⟩) := rfl
  have HT := Aside0.mk ht
  by_cases n1 : c = 0
  · have q1 : (c != 0) = false := bne_eq_false_iff_eq.2 n1
    have HS := Aside0.mk h
    have N1 := Aside0.mk n1
    clear n1 h hF ht hz hc
    go_enter Tryz.func34, Tryz.ntmps34
    go_wp2
    go_end0
    have e := HT.out
    rw [if_pos N1.out] at e
    exact ⟨rfl, by rw [e]; exact HS.out, grown_of_below (Below.refl _ _) _⟩
  · have q1 : (c != 0) = true := bne_iff_ne.2 n1
    have N1 := Aside0.mk n1
    have hc' : 1 ≤ c ∧ c ≤ 16777216 := by rcases hc with h | h; exact absurd h n1; exact h
    have kc := Aside0.mk (cstr_c c hc')
    generalize (⟨(35 :: digs 6 (c - 1).toNat).toArray⟩ : ByteArray) = d at *
    have k1 : Aside0 (∀ W, StrAt W B out → Calls Tryz.prog 32 #[.string (p ++ d), .pointer (some ⟨B, 0, none⟩)] W fun x w' => x = .returned (.tuple #[]) ∧ StrAt w' B (addS out (p ++ d)) ∧ W.grownBy w' (some B)) := ⟨fun W hW => add_c B out (p ++ d) W hW (by omega) (by rw [ByteArray.size_append]; omega)⟩
    have HS := Aside0.mk h
    have HF := Aside0.mk hF
    have hzd : d.size ≤ 10 := by omega
    clear n1 h hF ht hz hc hc'
    go_enter Tryz.func34, Tryz.ntmps34
    go_wp2_with (first | (go_at_call 35; refine (kc.out _).mono ?_; rintro e w1 ⟨rfl, hb⟩; have HB := Aside0.mk hb; have c0 : w1.cell? ⟨F, 0, none⟩ = some (.func (.func 32) #[] #[.pointer (some ⟨B, 0, none⟩)]) := (blk_cell (blk_below HF.out hb) 0).trans rfl; clear hb) | (go_at_call 32; refine (k1.out _ (blk_below HS.out HB.out)).mono ?_; rintro e w2 ⟨rfl, hs1, hg1⟩))
    go_end0
    have e := HT.out
    rw [if_neg N1.out] at e
    exact ⟨rfl, by rw [e]; exact hs1, (grown_of_below HB.out _).andThen hg1 (fun k e => .inr e)⟩
/-! ### is it a usual entry? -/
def okc (c : Int) : Prop := c = 0 ∨ 1 ≤ c ∧ c ≤ 16777216
instance (c : Int) : Decidable (okc c) := inferInstanceAs (Decidable (_ ∨ _))
def usB (e : Ent) : Bool := decide (okc e.c ∧ okc e.b ∧ okc e.o ∧ e.bo ≤ 2 ∧ e.it ≤ 2 ∧ e.un ≤ 2)
theorem splain_c (c : Int) (r : Bool) (h : decide (1 ≤ c ∧ c ≤ 16777216) = r) (w : World) : Calls Tryz.prog 69 #[.int .i32 c] w fun e w' => e = .returned (.bool r) ∧ Below w.heap.size w w' := by
  refine (spec_plain.calls c r w ?_).mono fun e w' h => ⟨h.1, h.2.below⟩
  unfold spec_plain.f
  subst h
  by_cases h1 : c ≥ 1
  · rw [if_pos h1]
    congr 1
    exact decide_eq_decide.2 ⟨fun h => ⟨h1, h⟩, fun h => h.2⟩
  · rw [if_neg h1]
    congr 1
    exact (decide_eq_false (fun h => h1 h.1)).symm
set_option maxRecDepth 100000 in
set_option maxHeartbeats 4000000 in
theorem specUsual_c (e : Ent) (w : World) :
    Calls Tryz.prog 31 #[.agg #[.int .i32 e.c, .int .i32 e.b, .int .i32 e.o, .int .u8 e.bo, .int .u8 e.it, .int .u8 e.un, .bool e.ni]] w fun x w' => x = .returned (.bool (usB e)) ∧ Below w.heap.size w w' := by
  have hu := Tryz.underlying27
  have i0 : ∀ w, (Instr.index 123 (.agg #[.int .i32 e.c, .int .i32 e.b, .int .i32 e.o]) (.int .i64 0)).run Tryz.prog w = .ok (.int .i32 e.c) w := fun _ => rfl
  have i1 : ∀ w, (Instr.index 123 (.agg #[.int .i32 e.c, .int .i32 e.b, .int .i32 e.o]) (.int .i64 1)).run Tryz.prog w = .ok (.int .i32 e.b) w := fun _ => rfl
  have i2 : ∀ w, (Instr.index 123 (.agg #[.int .i32 e.c, .int .i32 e.b, .int .i32 e.o]) (.int .i64 2)).run Tryz.prog w = .ok (.int .i32 e.o) w := fun _ => rfl
  have HX0 := Aside0.mk (blk_new w (.cells #[.int .i32 e.c, .int .i32 e.b, .int .i32 e.o, .int .u8 e.bo, .int .u8 e.it, .int .u8 e.un, .bool e.ni] 27))
  have HB0 := Aside0.mk (below_alloc (Below.refl w.heap.size w) (.cells #[.int .i32 e.c, .int .i32 e.b, .int .i32 e.o, .int .u8 e.bo, .int .u8 e.it, .int .u8 e.un, .bool e.ni] 27))
  go_enter Tryz.func31, Tryz.ntmps31
  go_wp2
  go_loopw [12] (fun i wr => ∃ k : Int, (k = 0 ∨ k = 1 ∨ k = 2 ∨ k = 3) ∧ i = .int .i64 k ∧ Aside0 ((1 ≤ k → okc e.c) ∧ (2 ≤ k → okc e.b) ∧ (3 ≤ k → okc e.o)) ∧ Aside0 (wr.heap[w.heap.size]? = some (.cells #[.int .i32 e.c, .int .i32 e.b, .int .i32 e.o, .int .u8 e.bo, .int .u8 e.it, .int .u8 e.un, .bool e.ni] 27 (0, 0))) ∧ Aside0 (Below w.heap.size w wr)) (fun i _ => (3 - intOf i).toNat)
  case atStart => exact ⟨0, by omega, rfl, ⟨⟨fun h => absurd h (by omega), fun h => absurd h (by omega), fun h => absurd h (by omega)⟩⟩, HX0, HB0⟩
  case round =>
    obtain ⟨k, hk, rfl, HD, HX, HB⟩ := hrel
    clear HX0 HB0
    rcases hk with rfl | rfl | rfl | rfl
    · by_cases z : e.c = 0
      · have OK : Aside0 (okc e.c) := ⟨Or.inl z⟩
        have q1 : (e.c != 0) = false := bne_eq_false_iff_eq.2 z
        clear z
        go_wp2
        go_roundw
        case rel => exact ⟨1, by omega, rfl, ⟨⟨fun _ => OK.out, fun h => absurd h (by omega), fun h => absurd h (by omega)⟩⟩, ⟨HX.out⟩, ⟨HB.out⟩⟩
        case measure => simp [intOf]
      · have q1 : (e.c != 0) = true := bne_iff_ne.2 z
        by_cases pl : 1 ≤ e.c ∧ e.c ≤ 16777216
        · have OK : Aside0 (okc e.c) := ⟨Or.inr pl⟩
          have kp := Aside0.mk (splain_c e.c true (by simp [pl.1, pl.2]))
          clear z pl
          go_wp2_with (go_at_call 69; refine (kp.out _).mono ?_; rintro x1 w1 ⟨rfl, hb⟩; have HB1 := Aside0.mk hb; clear hb)
          go_roundw
          case rel => exact ⟨1, by omega, rfl, ⟨⟨fun _ => OK.out, fun h => absurd h (by omega), fun h => absurd h (by omega)⟩⟩, ⟨blk_below HX.out HB1.out⟩, ⟨below_step HB.out HB1.out⟩⟩
          case measure => simp [intOf]
        · have NO : Aside0 (usB e = false) := ⟨by unfold usB; exact decide_eq_false (fun h => by rcases h.1 with h | h; exact z h; exact pl h)⟩
          have kp := Aside0.mk (splain_c e.c false (by rw [decide_eq_false_iff_not]; exact pl))
          clear z pl
          go_wp2_with (go_at_call 69; refine (kp.out _).mono ?_; rintro x1 w1 ⟨rfl, hb⟩; have HB1 := Aside0.mk hb; clear hb)
          go_ret
          exact ⟨by rw [NO.out]; rfl, below_step HB.out HB1.out⟩
    · by_cases z : e.b = 0
      · have OK : Aside0 (okc e.b) := ⟨Or.inl z⟩
        have q1 : (e.b != 0) = false := bne_eq_false_iff_eq.2 z
        clear z
        go_wp2
        go_roundw
        case rel => exact ⟨2, by omega, rfl, ⟨⟨fun _ => HD.out.1 (by omega), fun _ => OK.out, fun h => absurd h (by omega)⟩⟩, ⟨HX.out⟩, ⟨HB.out⟩⟩
        case measure => simp [intOf]
      · have q1 : (e.b != 0) = true := bne_iff_ne.2 z
        by_cases pl : 1 ≤ e.b ∧ e.b ≤ 16777216
        · have OK : Aside0 (okc e.b) := ⟨Or.inr pl⟩
          have kp := Aside0.mk (splain_c e.b true (by simp [pl.1, pl.2]))
          clear z pl
          go_wp2_with (go_at_call 69; refine (kp.out _).mono ?_; rintro x1 w1 ⟨rfl, hb⟩; have HB1 := Aside0.mk hb; clear hb)
          go_roundw
          case rel => exact ⟨2, by omega, rfl, ⟨⟨fun _ => HD.out.1 (by omega), fun _ => OK.out, fun h => absurd h (by omega)⟩⟩, ⟨blk_below HX.out HB1.out⟩, ⟨below_step HB.out HB1.out⟩⟩
          case measure => simp [intOf]
        · have NO : Aside0 (usB e = false) := ⟨by unfold usB; exact decide_eq_false (fun h => by rcases h.2.1 with h | h; exact z h; exact pl h)⟩
          have kp := Aside0.mk (splain_c e.b false (by rw [decide_eq_false_iff_not]; exact pl))
          clear z pl
          go_wp2_with (go_at_call 69; refine (kp.out _).mono ?_; rintro x1 w1 ⟨rfl, hb⟩; have HB1 := Aside0.mk hb; clear hb)
          go_ret
          exact ⟨by rw [NO.out]; rfl, below_step HB.out HB1.out⟩
    · by_cases z : e.o = 0
      · have OK : Aside0 (okc e.o) := ⟨Or.inl z⟩
        have q1 : (e.o != 0) = false := bne_eq_false_iff_eq.2 z
        clear z
        go_wp2
        go_roundw
        case rel => exact ⟨3, by omega, rfl, ⟨⟨fun _ => HD.out.1 (by omega), fun _ => HD.out.2.1 (by omega), fun _ => OK.out⟩⟩, ⟨HX.out⟩, ⟨HB.out⟩⟩
        case measure => simp [intOf]
      · have q1 : (e.o != 0) = true := bne_iff_ne.2 z
        by_cases pl : 1 ≤ e.o ∧ e.o ≤ 16777216
        · have OK : Aside0 (okc e.o) := ⟨Or.inr pl⟩
          have kp := Aside0.mk (splain_c e.o true (by simp [pl.1, pl.2]))
          clear z pl
          go_wp2_with (go_at_call 69; refine (kp.out _).mono ?_; rintro x1 w1 ⟨rfl, hb⟩; have HB1 := Aside0.mk hb; clear hb)
          go_roundw
          case rel => exact ⟨3, by omega, rfl, ⟨⟨fun _ => HD.out.1 (by omega), fun _ => HD.out.2.1 (by omega), fun _ => OK.out⟩⟩, ⟨blk_below HX.out HB1.out⟩, ⟨below_step HB.out HB1.out⟩⟩
          case measure => simp [intOf]
        · have NO : Aside0 (usB e = false) := ⟨by unfold usB; exact decide_eq_false (fun h => by rcases h.2.2.1 with h | h; exact z h; exact pl h)⟩
          have kp := Aside0.mk (splain_c e.o false (by rw [decide_eq_false_iff_not]; exact pl))
          clear z pl
          go_wp2_with (go_at_call 69; refine (kp.out _).mono ?_; rintro x1 w1 ⟨rfl, hb⟩; have HB1 := Aside0.mk hb; clear hb)
          go_ret
          exact ⟨by rw [NO.out]; rfl, below_step HB.out HB1.out⟩
    · have hok : usB e = decide (e.bo ≤ 2 ∧ e.it ≤ 2 ∧ e.un ≤ 2) := by
        unfold usB
        exact decide_eq_decide.2 ⟨fun h => h.2.2.2, fun h => ⟨HD.out.1 (by omega), HD.out.2.1 (by omega), HD.out.2.2 (by omega), h⟩⟩
      have HK := Aside0.mk hok
      have f3 := (blk_cell HX.out 3).trans rfl
      have f4 := (blk_cell HX.out 4).trans rfl
      have f5 := (blk_cell HX.out 5).trans rfl
      clear hok
      by_cases t3 : e.bo ≤ 2
      · have T3 := Aside0.mk t3
        have q3 : decide (e.bo ≤ 2) = true := decide_eq_true t3
        by_cases t4 : e.it ≤ 2
        · have T4 := Aside0.mk t4
          have q4 : decide (e.it ≤ 2) = true := decide_eq_true t4
          clear t3 t4
          go_wp2
          go_ret
          refine ⟨?_, HB.out⟩
          rw [HK.out]
          exact congrArg (fun b => Ending.returned (.bool b)) (decide_eq_decide.2 ⟨fun h => ⟨T3.out, T4.out, h⟩, fun h => h.2.2⟩)
        · have q4 : decide (e.it ≤ 2) = false := decide_eq_false t4
          have T4 := Aside0.mk t4
          clear t3 t4
          go_wp2
          go_ret
          refine ⟨?_, HB.out⟩
          rw [HK.out, decide_eq_false (fun h => by have := T4.out; omega)]; rfl
      · have q3 : decide (e.bo ≤ 2) = false := decide_eq_false t3
        have T3 := Aside0.mk t3
        clear t3
        go_wp2
        go_ret
        refine ⟨?_, HB.out⟩
        rw [HK.out, decide_eq_false (fun h => by have := T3.out; omega)]; rfl
/-! ### the whole -/
structure StrI (X B F : Nat) (e : Ent) (w : World) (out : ByteArray) (W : World) : Prop where
  ent : W.heap[X]? = some (.cells (cells e) 27 (0, 0))
  str : StrAt W B out
  fn : FunAt W F B
  below : Below w.heap.size w W
  hB : w.heap.size ≤ B
theorem StrI.step {X B F : Nat} {e : Ent} {w W W' : World} {out out' : ByteArray} (h : StrI X B F e w out W) (hs : StrAt W' B out') (hg : W.grownBy W' (some B)) : StrI X B F e w out' W' := by
  refine ⟨blk_grown h.ent hg (fun k => ?_), hs, blk_grown h.fn hg (fun k => ?_), ?_, h.hB⟩
  · injection k with k; exact blk_ne h.ent h.str (by decide) k
  · injection k with k; exact blk_ne h.fn h.str (by decide) k
  · refine h.below.trans ⟨hg.os, hg.tape, hg.output, hg.size, fun i hi => hg.block i (Nat.lt_of_lt_of_le hi h.below.size) (fun k => ?_)⟩
    injection k with k
    have := h.hB
    omega
theorem StrI.rd {X B F : Nat} {e : Ent} {w W : World} {out : ByteArray} (h : StrI X B F e w out W) :
    W.cell? ⟨X, 0, none⟩ = some (.int .i32 e.c) ∧ W.cell? ⟨X, 1, none⟩ = some (.int .i32 e.b) ∧ W.cell? ⟨X, 2, none⟩ = some (.int .i32 e.o) ∧ W.cell? ⟨X, 3, none⟩ = some (.int .u8 e.bo) ∧ W.cell? ⟨X, 4, none⟩ = some (.int .u8 e.it) ∧ W.cell? ⟨X, 5, none⟩ = some (.int .u8 e.un) ∧ W.cell? ⟨X, 6, none⟩ = some (.bool e.ni) ∧
    W.cell? ⟨B, 0, none⟩ = some (.string out) ∧ W.cell? ⟨F, 0, none⟩ = some (.func (.func 32) #[] #[.pointer (some ⟨B, 0, none⟩)]) :=
  ⟨(blk_cell h.ent 0).trans rfl, (blk_cell h.ent 1).trans rfl, (blk_cell h.ent 2).trans rfl, (blk_cell h.ent 3).trans rfl, (blk_cell h.ent 4).trans rfl, (blk_cell h.ent 5).trans rfl, (blk_cell h.ent 6).trans rfl, (blk_cell h.str 0).trans rfl, (blk_cell h.fn 0).trans rfl⟩
def out1 (e : Ent) : ByteArray := triS e.bo ⟨#[98, 111, 108, 100]⟩ ⟨#[]⟩
def out2 (e : Ent) : ByteArray := triS e.it ⟨#[105, 116, 97, 108, 105, 99]⟩ (out1 e)
def out3 (e : Ent) : ByteArray := triS e.un ⟨#[117, 110, 100, 101, 114, 108, 105, 110, 101]⟩ (out2 e)
def out4 (e : Ent) : ByteArray := if e.ni = true then addS (out3 e) ⟨#[110, 111, 105, 110, 104, 101, 114, 105, 116]⟩ else out3 e
def out5 (e : Ent) : ByteArray := colS ⟨#[]⟩ e.c (out4 e)
def out6 (e : Ent) : ByteArray := colS ⟨#[98, 103, 58]⟩ e.b (out5 e)
def out7 (e : Ent) : ByteArray := colS ⟨#[98, 111, 114, 100, 101, 114, 58]⟩ e.o (out6 e)
theorem out_size (e : Ent) : (out1 e).size ≤ 7 ∧ (out2 e).size ≤ 16 ∧ (out3 e).size ≤ 28 ∧ (out4 e).size ≤ 38 ∧ (out5 e).size ≤ 46 ∧ (out6 e).size ≤ 57 ∧ (out7 e).size ≤ 72 := by
  have h1 := triS_size e.bo ⟨#[98, 111, 108, 100]⟩ ⟨#[]⟩
  have h2 := triS_size e.it ⟨#[105, 116, 97, 108, 105, 99]⟩ (out1 e)
  have h3 := triS_size e.un ⟨#[117, 110, 100, 101, 114, 108, 105, 110, 101]⟩ (out2 e)
  have h4 : (out4 e).size ≤ (out3 e).size + 10 := by
    unfold out4
    split
    · have := addS_size (out3 e) ⟨#[110, 111, 105, 110, 104, 101, 114, 105, 116]⟩
      have z : (⟨#[110, 111, 105, 110, 104, 101, 114, 105, 116]⟩ : ByteArray).size = 9 := rfl
      omega
    · omega
  have h5 := colS_size ⟨#[]⟩ e.c (out4 e)
  have h6 := colS_size ⟨#[98, 103, 58]⟩ e.b (out5 e)
  have h7 := colS_size ⟨#[98, 111, 114, 100, 101, 114, 58]⟩ e.o (out6 e)
  have z1 : (⟨#[]⟩ : ByteArray).size = 0 := rfl
  have z2 : (⟨#[98, 111, 108, 100]⟩ : ByteArray).size = 4 := rfl
  have z3 : (⟨#[105, 116, 97, 108, 105, 99]⟩ : ByteArray).size = 6 := rfl
  have z4 : (⟨#[117, 110, 100, 101, 114, 108, 105, 110, 101]⟩ : ByteArray).size = 9 := rfl
  have z5 : (⟨#[98, 103, 58]⟩ : ByteArray).size = 3 := rfl
  have z6 : (⟨#[98, 111, 114, 100, 101, 114, 58]⟩ : ByteArray).size = 7 := rfl
  rw [z1, z2] at h1
  rw [z3] at h2
  rw [z4] at h3
  rw [z1] at h5
  rw [z5] at h6
  rw [z6] at h7
  have a1 : (out1 e).size ≤ 7 := by unfold out1; omega
  have a2 : (out2 e).size ≤ 16 := by unfold out2; omega
  have a3 : (out3 e).size ≤ 28 := by unfold out3; omega
  have a5 : (out5 e).size ≤ 46 := by unfold out5; omega
  have a6 : (out6 e).size ≤ 57 := by unfold out6; omega
  have a7 : (out7 e).size ≤ 72 := by unfold out7; omega
  exact ⟨a1, a2, a3, by omega, a5, a6, a7⟩
set_option maxRecDepth 100000 in
set_option maxHeartbeats 4000000 in
theorem specStr_no (e : Ent) (hu : usB e = false) (w : World) :
    Calls Tryz.prog 10 #[.agg #[.int .i32 e.c, .int .i32 e.b, .int .i32 e.o, .int .u8 e.bo, .int .u8 e.it, .int .u8 e.un, .bool e.ni]] w fun x w' => x = .returned (.tuple #[.string ⟨#[]⟩, .int .i64 2]) ∧ Below w.heap.size w w' := by
  have kU := Aside0.mk (specUsual_c e)
  rw [hu] at kU
  have hT := Tryz.underlying27
  have HB0 := Aside0.mk (below_alloc (Below.refl w.heap.size w) (.cells #[.int .i32 e.c, .int .i32 e.b, .int .i32 e.o, .int .u8 e.bo, .int .u8 e.it, .int .u8 e.un, .bool e.ni] 27))
  clear hu
  go_enter Tryz.func10, Tryz.ntmps10
  go_wp2_with (go_at_call 31; refine (kU.out _).mono ?_; rintro x1 w1 ⟨rfl, hb⟩; have HB1 := Aside0.mk hb; clear hb)
  go_ret2
  exact ⟨rfl, below_step HB0.out HB1.out⟩
set_option maxRecDepth 100000 in
set_option maxHeartbeats 8000000 in
theorem specStr_yes (e : Ent) (hu : usB e = true) (w : World) :
    Calls Tryz.prog 10 #[.agg #[.int .i32 e.c, .int .i32 e.b, .int .i32 e.o, .int .u8 e.bo, .int .u8 e.it, .int .u8 e.un, .bool e.ni]] w fun x w' => x = .returned (.tuple #[.string (out7 e), .int .i64 1]) ∧ Below w.heap.size w w' := by
  have kU := Aside0.mk (specUsual_c e)
  rw [hu] at kU
  have hok : okc e.c ∧ okc e.b ∧ okc e.o ∧ e.bo ≤ 2 ∧ e.it ≤ 2 ∧ e.un ≤ 2 := of_decide_eq_true hu
  have HK := Aside0.mk hok
  have HZ := Aside0.mk (out_size e)
  have hT := Tryz.underlying27
  have hmf : ∀ (fn : Fn) (first cap : Array Value) (w : World), (Instr.makeFunc fn first cap).run Tryz.prog w = .ok (.func fn first cap) w := fun _ _ _ _ => rfl
  have HX0 := Aside0.mk (blk_new w (.cells #[.int .i32 e.c, .int .i32 e.b, .int .i32 e.o, .int .u8 e.bo, .int .u8 e.it, .int .u8 e.un, .bool e.ni] 27))
  have HB0 := Aside0.mk (below_alloc (Below.refl w.heap.size w) (.cells #[.int .i32 e.c, .int .i32 e.b, .int .i32 e.o, .int .u8 e.bo, .int .u8 e.it, .int .u8 e.un, .bool e.ni] 27))
  clear hu hok
  go_enter Tryz.func10, Tryz.ntmps10
  go_upto_region 6 with (go_at_call 31; refine (kU.out _).mono ?_; rintro x1 w1 ⟨rfl, hb⟩; have HB1 := Aside0.mk hb; clear hb)
  have hsk : ∃ W0, (w1.alloc (Obj.cells #[Value.string ⟨#[]⟩] 9)).alloc (Obj.cells #[Value.func (.func 32) #[] #[Value.pointer (some ⟨w1.heap.size, 0, none⟩)]] 67) = W0 ∧ StrI w.heap.size w1.heap.size (w1.heap.size + 1) e w ⟨#[]⟩ W0 := by
    have hb1 := below_step HB0.out HB1.out
    have hf := blk_new (w1.alloc (Obj.cells #[Value.string ⟨#[]⟩] 9)) (Obj.cells #[Value.func (.func 32) #[] #[Value.pointer (some ⟨w1.heap.size, 0, none⟩)]] 67)
    rw [World.size_alloc] at hf
    exact ⟨_, rfl, ⟨blk_alloc (blk_alloc (blk_below HX0.out HB1.out) _) _, blk_alloc (blk_new w1 _) _, hf, below_alloc (below_alloc hb1 _) _, hb1.size⟩⟩
  obtain ⟨W0, hW0, S0⟩ := hsk
  rw [hW0]
  clear hW0
  obtain ⟨d0, d1, d2, d3, d4, d5, d6, d7, d8⟩ := S0.rd
  generalize w1.heap.size = B at *
  go_upto_region 7 with (go_at_call 33; refine (yes_c (B + 1) B e.bo ⟨#[]⟩ ⟨#[98, 111, 108, 100]⟩ _ S0.str S0.fn (by decide) (by decide)).mono ?_; rintro y1 v1 ⟨rfl, hs1, hg1⟩; have S1 := S0.step hs1 hg1; obtain ⟨d0, d1, d2, d3, d4, d5, d6, d7, d8⟩ := S1.rd; clear hs1 hg1)
  go_upto_region 8 with (go_at_call 33; refine (yes_c (B + 1) B e.it (out1 e) ⟨#[105, 116, 97, 108, 105, 99]⟩ _ S1.str S1.fn (Nat.le_trans HZ.out.1 (by decide)) (by decide)).mono ?_; rintro y2 v2 ⟨rfl, hs2, hg2⟩; have S2 := S1.step hs2 hg2; obtain ⟨d0, d1, d2, d3, d4, d5, d6, d7, d8⟩ := S2.rd; clear hs2 hg2)
  go_upto_region 9 with (go_at_call 33; refine (yes_c (B + 1) B e.un (out2 e) ⟨#[117, 110, 100, 101, 114, 108, 105, 110, 101]⟩ _ S2.str S2.fn (Nat.le_trans HZ.out.2.1 (by decide)) (by decide)).mono ?_; rintro y3 v3 ⟨rfl, hs3, hg3⟩; have S3 := S2.step hs3 hg3; obtain ⟨d0, d1, d2, d3, d4, d5, d6, d7, d8⟩ := S3.rd; clear hs3 hg3)
  cases hn : e.ni with
  | true =>
    have e4 : out4 e = addS (out3 e) ⟨#[110, 111, 105, 110, 104, 101, 114, 105, 116]⟩ := by unfold out4; rw [if_pos hn]
    have E4 := Aside0.mk e4
    rw [hn] at d6
    have HN := Aside0.mk hn
    clear e4 hn
    go_upto_region 12 with (go_at_call 32; refine (add_c B (out3 e) ⟨#[110, 111, 105, 110, 104, 101, 114, 105, 116]⟩ _ S3.str (Nat.le_trans HZ.out.2.2.1 (by decide)) (by decide)).mono ?_; rintro y4 v4 ⟨rfl, hs4, hg4⟩; rw [← E4.out] at hs4; have S4 := S3.step hs4 hg4; obtain ⟨d0, d1, d2, d3, d4, d5, d6, d7, d8⟩ := S4.rd; clear hs4 hg4)
    go_upto_region 13 with (go_at_call 34; refine (colour_c (B + 1) B ⟨#[]⟩ e.c HK.out.1 (out4 e) _ S4.str S4.fn (Nat.le_trans HZ.out.2.2.2.1 (by decide)) (by decide)).mono ?_; rintro y5 v5 ⟨rfl, hs5, hg5⟩; have S5 := S4.step hs5 hg5; obtain ⟨d0, d1, d2, d3, d4, d5, d6, d7, d8⟩ := S5.rd; clear hs5 hg5)
    go_upto_region 14 with (go_at_call 34; refine (colour_c (B + 1) B ⟨#[98, 103, 58]⟩ e.b HK.out.2.1 (out5 e) _ S5.str S5.fn (Nat.le_trans HZ.out.2.2.2.2.1 (by decide)) (by decide)).mono ?_; rintro y6 v6 ⟨rfl, hs6, hg6⟩; have S6 := S5.step hs6 hg6; obtain ⟨d0, d1, d2, d3, d4, d5, d6, d7, d8⟩ := S6.rd; clear hs6 hg6)
    go_upto_region 15 with (go_at_call 34; refine (colour_c (B + 1) B ⟨#[98, 111, 114, 100, 101, 114, 58]⟩ e.o HK.out.2.2.1 (out6 e) _ S6.str S6.fn (Nat.le_trans HZ.out.2.2.2.2.2.1 (by decide)) (by decide)).mono ?_; rintro y7 v7 ⟨rfl, hs7, hg7⟩; have S7 := S6.step hs7 hg7; obtain ⟨d0, d1, d2, d3, d4, d5, d6, d7, d8⟩ := S7.rd; clear hs7 hg7)
    have d9 : _ = some (Value.string (out7 e)) := d7
    clear d7
    go_wp2
    go_ret2
    exact ⟨rfl, S7.below⟩
  | false =>
    have e4 : out4 e = out3 e := by unfold out4; rw [if_neg (by rw [hn]; decide)]
    have S4 : StrI w.heap.size B (B + 1) e w (out4 e) v3 := by rw [e4]; exact S3
    rw [hn] at d6
    have HN := Aside0.mk hn
    clear e4 hn
    go_upto_region 12 with fail
    go_upto_region 13 with (go_at_call 34; refine (colour_c (B + 1) B ⟨#[]⟩ e.c HK.out.1 (out4 e) _ S4.str S4.fn (Nat.le_trans HZ.out.2.2.2.1 (by decide)) (by decide)).mono ?_; rintro y5 v5 ⟨rfl, hs5, hg5⟩; have S5 := S4.step hs5 hg5; obtain ⟨d0, d1, d2, d3, d4, d5, d6, d7, d8⟩ := S5.rd; clear hs5 hg5)
    go_upto_region 14 with (go_at_call 34; refine (colour_c (B + 1) B ⟨#[98, 103, 58]⟩ e.b HK.out.2.1 (out5 e) _ S5.str S5.fn (Nat.le_trans HZ.out.2.2.2.2.1 (by decide)) (by decide)).mono ?_; rintro y6 v6 ⟨rfl, hs6, hg6⟩; have S6 := S5.step hs6 hg6; obtain ⟨d0, d1, d2, d3, d4, d5, d6, d7, d8⟩ := S6.rd; clear hs6 hg6)
    go_upto_region 15 with (go_at_call 34; refine (colour_c (B + 1) B ⟨#[98, 111, 114, 100, 101, 114, 58]⟩ e.o HK.out.2.2.1 (out6 e) _ S6.str S6.fn (Nat.le_trans HZ.out.2.2.2.2.2.1 (by decide)) (by decide)).mono ?_; rintro y7 v7 ⟨rfl, hs7, hg7⟩; have S7 := S6.step hs7 hg7; obtain ⟨d0, d1, d2, d3, d4, d5, d6, d7, d8⟩ := S7.rd; clear hs7 hg7)
    have d9 : _ = some (Value.string (out7 e)) := d7
    clear d7
    go_wp2
    go_ret2
    exact ⟨rfl, S7.below⟩
/-! ### the text is the words, joined -/
def J (ws : List (List UInt8)) : ByteArray := ⟨(Lib.join ws [32]).toArray⟩
theorem mk_app (a b : List UInt8) : (⟨a.toArray⟩ : ByteArray) ++ ⟨b.toArray⟩ = ⟨(a ++ b).toArray⟩ := by
  apply ByteArray.ext
  rw [ByteArray.data_append]
  simp
theorem add_J (ws : List (List UInt8)) (u : List UInt8) (hw : ∀ v ∈ ws, v ≠ []) : addS (J ws) ⟨u.toArray⟩ = J (ws ++ [u]) := by
  cases ws with
  | nil =>
    unfold addS J
    rw [if_neg (by decide +kernel), Lib.join_nil, mk_app, List.nil_append, List.nil_append, Lib.join_one]
  | cons x r =>
    have hx := hw x List.mem_cons_self
    have hne : (!(J (x :: r)).toList.isEmpty) = true := by
      obtain ⟨c, v, rfl⟩ := List.exists_cons_of_ne_nil hx
      have : (J ((c :: v) :: r)).toList = c :: (v ++ Lib.joinTail [32] r) := by
        unfold J
        rw [Lib.join_cons, Lib.toList_data]
        rfl
      rw [this]
      rfl
    unfold addS
    rw [if_pos hne]
    unfold J
    rw [mk_app _ [32], mk_app, List.cons_append, Lib.join_cons, Lib.join_cons]
    congr 2
    simp [Lib.joinTail]
theorem tri_J (ws : List (List UInt8)) (w : List UInt8) (n : Int) (hn : triR n) (hw : ∀ v ∈ ws, v ≠ []) : triS n ⟨w.toArray⟩ (J ws) = J (ws ++ triW n w) := by
  unfold triS triW
  rcases hn with rfl | rfl | rfl
  · rw [if_neg (by decide), if_neg (by decide), if_pos rfl, List.append_nil]
  · rw [if_pos rfl, if_neg (by decide), if_pos rfl, add_J ws w hw]
  · rw [if_neg (by decide), if_pos rfl, if_neg (by decide), if_neg (by decide), mk_app [110, 111] w, add_J ws _ hw]
    rfl
theorem col_J (ws : List (List UInt8)) (p : List UInt8) (c : Int) (hw : ∀ v ∈ ws, v ≠ []) : colS ⟨p.toArray⟩ c (J ws) = J (ws ++ colW p c) := by
  unfold colS colW
  by_cases h : c = 0
  · rw [if_pos h, if_pos h, List.append_nil]
  · rw [if_neg h, if_neg h, mk_app, add_J ws _ hw]
theorem ni_J (ws : List (List UInt8)) (b : Bool) (hw : ∀ v ∈ ws, v ≠ []) : (if b = true then addS (J ws) ⟨#[110, 111, 105, 110, 104, 101, 114, 105, 116]⟩ else J ws) = J (ws ++ niW b) := by
  cases b with
  | false => rw [if_neg (by decide)]; simp [niW]
  | true => rw [if_pos rfl, add_J ws [110, 111, 105, 110, 104, 101, 114, 105, 116] hw]; rfl
theorem out7_eq (e : Ent) (h : triR e.bo ∧ triR e.it ∧ triR e.un) : out7 e = entT e := by
  have hw : ∀ v ∈ wds e, v ≠ [] := fun v hv => (wds_ok e v hv).1
  have hm : wds e = ((((((triW e.bo [98, 111, 108, 100] ++ triW e.it [105, 116, 97, 108, 105, 99]) ++ triW e.un [117, 110, 100, 101, 114, 108, 105, 110, 101]) ++ niW e.ni) ++ colW [] e.c) ++ colW [98, 103, 58] e.b) ++ colW [98, 111, 114, 100, 101, 114, 58] e.o) := by
    unfold wds
    simp only [List.append_assoc]
  rw [hm] at hw
  have w6 := fun v hv => hw v (List.mem_append_left _ hv)
  have w5 := fun v hv => w6 v (List.mem_append_left _ hv)
  have w4 := fun v hv => w5 v (List.mem_append_left _ hv)
  have w3 := fun v hv => w4 v (List.mem_append_left _ hv)
  have w2 := fun v hv => w3 v (List.mem_append_left _ hv)
  have w1 := fun v hv => w2 v (List.mem_append_left _ hv)
  have h1 : out1 e = J (triW e.bo [98, 111, 108, 100]) := (tri_J [] [98, 111, 108, 100] e.bo h.1 (fun v hv => by cases hv)).trans (by rw [List.nil_append])
  have h2 : out2 e = _ := (congrArg (triS e.it ⟨#[105, 116, 97, 108, 105, 99]⟩) h1).trans (tri_J _ [105, 116, 97, 108, 105, 99] e.it h.2.1 w1)
  have h3 : out3 e = _ := (congrArg (triS e.un ⟨#[117, 110, 100, 101, 114, 108, 105, 110, 101]⟩) h2).trans (tri_J _ [117, 110, 100, 101, 114, 108, 105, 110, 101] e.un h.2.2 w2)
  have h4 : out4 e = _ := (congrArg (fun o => if e.ni = true then addS o ⟨#[110, 111, 105, 110, 104, 101, 114, 105, 116]⟩ else o) h3).trans (ni_J _ e.ni w3)
  have h5 : out5 e = _ := (congrArg (colS ⟨#[]⟩ e.c) h4).trans (col_J _ [] e.c w4)
  have h6 : out6 e = _ := (congrArg (colS ⟨#[98, 103, 58]⟩ e.b) h5).trans (col_J _ [98, 103, 58] e.b w5)
  have h7 : out7 e = _ := (congrArg (colS ⟨#[98, 111, 114, 100, 101, 114, 58]⟩ e.o) h6).trans (col_J _ [98, 111, 114, 100, 101, 114, 58] e.o w6)
  rw [h7, ← hm]
  rfl
theorem usB_tri (e : Ent) (h : usB e = true) (h0 : 0 ≤ e.bo ∧ 0 ≤ e.it ∧ 0 ≤ e.un) : triR e.bo ∧ triR e.it ∧ triR e.un := by
  obtain ⟨_, _, _, h4, h5, h6⟩ := of_decide_eq_true h
  unfold triR
  omega
--HERE
end Go.Proofs.YtifhhejohdmiaaaGreatDoorEnt
